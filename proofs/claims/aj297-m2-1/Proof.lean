import JvmDerived
import JvmDerived.Pilot.@@N@@Statement
import JvmDerived.Pilot.@@N@@Code
set_option linter.unusedVariables false
set_option linter.unusedSimpArgs false
namespace Jvm.RoadKit
open Sem ClassFile Op Lib Jvm.Stand Jvm.Free Jvm.LawKit
section New
variable {p : Program} {l : Launch} {e : Env} {R : Room} {s : State} {m : MethodId} {args : Array Value} {below : List Frame} {meth : Method} {c : Code} {T : State} {locs : List Loc} {cells slots : Nat}
theorem retI (X : Stand p l e R s m args below meth c T locs cells slots) (hx : p.tables.exec = Jvm.exec) {pc : Nat} {Ls : Array Slot} {z : Int32} {rest : List Value} (hret : meth.sig.returnType = some .int) (hd : decode c.code pc = .ok (.ireturn, 1)) {fs : List Frame}
    (hl : ∀ (f : JFrame) (acts : List Action), f.method = m → f.locked = none → f.entered = [] → (doReturn e (T.setTop f) acts (some (.int z))).1 = T.setFrames fs) : Steps p.tables e below (T.setTop (mkF m pc Ls (.int z :: rest))) (T.setFrames fs) := by
  have hm' : T.vm.method? m = some meth := X.method'
  have hn : narrow .int (.int z) = .int z := rfl
  show Steps p.tables e below (T.setTop { method := m, pc := pc, locals := Ls, stack := _ :: rest, locked := none }) _
  jvm_step X.here [X.here.top, hx, hd, hm', hret, hn]
  first | (intro acts; rw [hl _ acts rfl rfl rfl]) | rw [hl _ _ rfl rfl rfl]
  exact Steps.refl _
end New
/-- the run from A ends as P says -/
def own_Dn (p : Program) (e : Env) (below : List Frame) (P : Outcome → State → Prop) (A : State) : Prop := ∃ U o, Steps p.tables e below A U ∧ U.status = .running ∧ Ended U below o ∧ P o U
theorem own_in {p : Program} {e : Env} {below : List Frame} {P : Outcome → State → Prop} {A : State} (h : own_Dn p e below P A) : ∃ U o, Steps p.tables e below A U ∧ U.status = .running ∧ Ended U below o ∧ P o U := h
/-- one step (or many) from A to B -/
theorem own_of {p : Program} {e : Env} {below : List Frame} {P : Outcome → State → Prop} {A : State} (B : State) (st : ∀ t, Steps p.tables e below B t → Steps p.tables e below A t) (h : own_Dn p e below P B) : own_Dn p e below P A := by
  obtain ⟨U, o, h1, r⟩ := h
  exact ⟨U, o, st U h1, r⟩
theorem own_tr {p : Program} {e : Env} {below : List Frame} {P : Outcome → State → Prop} {A : State} (B : State) (st : Steps p.tables e below A B) (h : own_Dn p e below P B) : own_Dn p e below P A := by
  obtain ⟨U, o, h1, r⟩ := h
  exact ⟨U, o, st.trans h1, r⟩
end Jvm.RoadKit
namespace Jvm.Pilot.@@N@@
open Jvm Jvm.ClassFile Sem Op Lib Jvm.Free Jvm.Stand Jvm.LawKit Jvm.RoadKit Bundle Jvm.Pilot.@@N@@.Jvm.D
/-- the array at a: n places of the kind ty, place j holds the int f j -/
def own_Ar (Z : State) (h : Heap) (a : Addr) (ty : FieldType) (n : Nat) (f : Nat → Int32) : Prop := ∃ c : Cell, Arr Z h a c ty ∧ c.slots.size = n ∧ ∀ j, j < n → c.slots[j]? = some (Value.int (f j))
section Own
variable {Z : State} {h h' : Heap} {a b : Addr} {ty : FieldType} {n sl : Nat} {f : Nat → Int32}
theorem own_Ar.lt (F : own_Ar Z h a ty n f) : a < h.size := by obtain ⟨c, A, -⟩ := F; exact A.lt
theorem own_Ar.ext (F : own_Ar Z h a ty n f) (E : Ext h h') : own_Ar Z h' a ty n f := by obtain ⟨c, A, r⟩ := F; exact ⟨c, A.ext E, r⟩
theorem own_Ar.other {v : Value} (F : own_Ar Z h b ty n f) (W : Wr h h' a sl v) (q : b ≠ a) : own_Ar Z h' b ty n f := by obtain ⟨c, A, r⟩ := F; exact ⟨c, A.other W q, r⟩
theorem own_Ar.keep {ws : List Addr} (F : own_Ar Z h a ty n f) (K : Keep h h' ws) (q : a ∉ ws) : own_Ar Z h' a ty n f := by obtain ⟨c, A, r⟩ := F; exact ⟨c, ⟨K.2.1 a c A.1 q, A.2⟩, r⟩
theorem own_Ar.congr {g : Nat → Int32} (F : own_Ar Z h a ty n f) (q : ∀ j, j < n → f j = g j) : own_Ar Z h a ty n g := by
  obtain ⟨c, A, S, H⟩ := F
  exact ⟨c, A, S, fun j hj => by rw [H j hj, q j hj]⟩
theorem own_Ar.same {x : Int32} (F : own_Ar Z h a ty n f) (W : Wr h h' a sl (.int x)) (hi : sl < n) : own_Ar Z h' a ty n (fun j => if j = sl then x else f j) := by
  obtain ⟨c, A, S, H⟩ := F
  refine ⟨_, A.same W, by rw [sz_set]; exact S, fun j hj => ?_⟩
  by_cases q : j = sl
  · subst q
    simp [Cell.setSlot, S, hj]
  · simp only [Cell.setSlot, if_neg q]
    rw [Array.getElem?_setIfInBounds_ne (Ne.symm q)]
    exact H j hj
theorem own_Ar.new {k : ClassId} {z : Int32} (A : Arr Z h a (newA k ty z) ty) (hd : defaultValue ty = .int 0) (hn : z.toNatClampNeg = n) : own_Ar Z h a ty n (fun _ => 0) := by
  refine ⟨_, A, by rw [sz_new]; exact hn, fun j hj => ?_⟩
  simp [newA, hn, hj, hd]
variable {p : Program} {l : Launch} {e : Env} {R : Room} {s : State} {m : MethodId} {args : Array Value} {below : List Frame} {meth : Method} {c : Code} {T : State} {locs : List Loc} {cells slots : Nat}
theorem own_inb {c : Cell} {j : Int32} (S : c.slots.size = n) (hj : ¬ j < 0 ∧ j.toNatClampNeg < n) : ¬ (j < 0 ∨ c.slots.size ≤ j.toNatClampNeg) := by
  rw [S]; rintro (q | q)
  · exact hj.1 q
  · omega
theorem own_iald (X : Stand p l e R s m args below meth c T locs cells slots) (hx : p.tables.exec = Jvm.exec) (hZ : Z.Warmed39 s.vm) (eT : T.heap = h) (F : own_Ar Z h a .int n f) {j : Int32} (hj : ¬ j < 0 ∧ j.toNatClampNeg < n) {g : JFrame} (hg : g.method = m) {rest : List Value} (hs : g.stack = .int j :: .ref a :: rest) (hd : decode c.code g.pc = .ok (.iaload, 1)) (t : State)
    (k : Steps p.tables e below (T.setTop { g with pc := g.pc + 1, stack := .int (f j.toNatClampNeg) :: rest }) t) : Steps p.tables e below (T.setTop g) t := by
  obtain ⟨cl, A, S, H⟩ := F
  exact X.iaload hx (by rw [eT]; exact A.1) (State.isArrayOf_alike hZ.alike A.2.1) A.2.2 (own_inb S hj) (H _ hj.2) hg hs hd t k
theorem own_bald (X : Stand p l e R s m args below meth c T locs cells slots) (hx : p.tables.exec = Jvm.exec) (hZ : Z.Warmed39 s.vm) (eT : T.heap = h) (F : own_Ar Z h a .byte n f) {j : Int32} (hj : ¬ j < 0 ∧ j.toNatClampNeg < n) {g : JFrame} (hg : g.method = m) {rest : List Value} (hs : g.stack = .int j :: .ref a :: rest) (hd : decode c.code g.pc = .ok (.baload, 1)) (t : State)
    (k : Steps p.tables e below (T.setTop { g with pc := g.pc + 1, stack := .int (f j.toNatClampNeg) :: rest }) t) : Steps p.tables e below (T.setTop g) t := by
  obtain ⟨cl, A, S, H⟩ := F
  exact X.baloadBytes hx (by rw [eT]; exact A.1) (State.isArrayOf_alike hZ.alike A.2.1) A.2.2 (own_inb S hj) (H _ hj.2) hg hs hd t k
theorem own_ist (X : Stand p l e R s m args below meth c T locs cells slots) (hx : p.tables.exec = Jvm.exec) (hZ : Z.Warmed39 s.vm) (eT : T.heap = h) (F : own_Ar Z h a .int n f) {j x : Int32} (hj : ¬ j < 0 ∧ j.toNatClampNeg < n) {g : JFrame} (hg : g.method = m) {rest : List Value} (hs : g.stack = .int x :: .int j :: .ref a :: rest) (hd : decode c.code g.pc = .ok (.iastore, 1)) :
    ∃ T' h', Stand p l e R s m args below meth c T' (locs ++ [⟨a, j.toNatClampNeg⟩]) cells slots ∧ T'.heap = h' ∧ Wr h h' a j.toNatClampNeg (.int x) ∧ ∀ target, Steps p.tables e below (T'.setTop { g with pc := g.pc + 1, stack := rest }) target → Steps p.tables e below (T.setTop g) target := by
  obtain ⟨cl, A, S, H⟩ := F
  exact stI X hx hZ eT A (own_inb S hj) hg hs hd
theorem own_bst (X : Stand p l e R s m args below meth c T locs cells slots) (hx : p.tables.exec = Jvm.exec) (hZ : Z.Warmed39 s.vm) (eT : T.heap = h) (F : own_Ar Z h a .byte n f) {j x : Int32} (hj : ¬ j < 0 ∧ j.toNatClampNeg < n) {g : JFrame} (hg : g.method = m) {rest : List Value} (hs : g.stack = .int x :: .int j :: .ref a :: rest) (hd : decode c.code g.pc = .ok (.bastore, 1)) :
    ∃ T' h', Stand p l e R s m args below meth c T' (locs ++ [⟨a, j.toNatClampNeg⟩]) cells slots ∧ T'.heap = h' ∧ Wr h h' a j.toNatClampNeg (.int (nar .byte x)) ∧ ∀ target, Steps p.tables e below (T'.setTop { g with pc := g.pc + 1, stack := rest }) target → Steps p.tables e below (T.setTop g) target := by
  obtain ⟨cl, A, S, H⟩ := F
  exact stB X hx hZ eT A (own_inb S hj) hg hs hd
end Own
def own_PS (Z : State) (h : Heap) (a aL aR : Addr) (fl fp : Nat → Int32) (k : Nat) : Prop := Exa Z h a "com/example/vertexwise/vertexwise/engine/PartSet" ∧ Fld Z h a "com/example/vertexwise/vertexwise/engine/PartSet" "listed" "[I" (.ref aL) ∧ Fld Z h a "com/example/vertexwise/vertexwise/engine/PartSet" "parts" "[I" (.ref aR) ∧ Fld Z h a "com/example/vertexwise/vertexwise/engine/PartSet" "count" "I" (.int (Int32.ofNat k)) ∧ own_Ar Z h aL .int 4 fl ∧ own_Ar Z h aR .int 4 fp
def own_NE (n0 : Nat) (a aL aR : Addr) : Prop := n0 ≤ a ∧ n0 ≤ aL ∧ n0 ≤ aR ∧ a ≠ aL ∧ a ≠ aR ∧ aL ≠ aR
def own_ix (x : Int32) : Prop := ¬ x < 0 ∧ x.toNatClampNeg < 4
def own_inv (fl fp : Nat → Int32) (k : Nat) : Prop := (∀ j, j < 4 → fl j ≠ (0 : Int32) → ∃ t, t < k ∧ (fp t).toNatClampNeg = j) ∧ ∀ t, t < k → own_ix (fp t)
def own_af (fl : Nat → Int32) (i : Nat) (j : Nat) : Int32 := if fl i = (0 : Int32) then (if j = i then 1 else fl j) else fl j
def own_ap (fl : Nat → Int32) (i : Nat) (fp : Nat → Int32) (k : Nat) (x : Int32) (j : Nat) : Int32 := if fl i = (0 : Int32) then (if j = k then x else fp j) else fp j
def own_ak (fl : Nat → Int32) (i : Nat) (k : Nat) : Nat := if fl i = (0 : Int32) then k + 1 else k
def own_ct (fl : Nat → Int32) (i : Nat) : Int32 := if fl i = (0 : Int32) then 0 else 1
theorem own_m3 (x : Int32) : own_ix (x &&& (3 : Int32)) := by
  have h := c_mask x (3 : Int32) 2 (by decide) (by decide)
  refine ⟨?_, ?_⟩
  · rw [Int32.lt_iff_toInt_lt]
    show ¬ (x &&& (3 : Int32)).toInt < 0
    omega
  · show (x &&& (3 : Int32)).toInt.toNat < 4
    omega
theorem own_small : ∀ k : Fin 6, (Int32.ofNat k.val).toNatClampNeg = k.val ∧ ¬ Int32.ofNat k.val < 0 ∧ Int32.ofNat k.val + (1 : Int32) = Int32.ofNat (k.val + 1) := by decide +kernel
theorem own_tn {k : Nat} (h : k < 6) : (Int32.ofNat k).toNatClampNeg = k := (own_small ⟨k, h⟩).1
theorem own_nn {k : Nat} (h : k < 6) : ¬ Int32.ofNat k < 0 := (own_small ⟨k, h⟩).2.1
theorem own_up {k : Nat} (h : k < 6) : Int32.ofNat k + (1 : Int32) = Int32.ofNat (k + 1) := (own_small ⟨k, h⟩).2.2
theorem own_lt2 : ∀ i k : Fin 6, Int32.ofNat i.val < Int32.ofNat k.val ↔ i.val < k.val := by decide +kernel
theorem own_lt {i k : Nat} (h : i < 6) (h' : k < 6) : Int32.ofNat i < Int32.ofNat k ↔ i < k := own_lt2 ⟨i, h⟩ ⟨k, h'⟩
theorem own_at {k : Nat} (h : k < 4) : ¬ Int32.ofNat k < 0 ∧ (Int32.ofNat k).toNatClampNeg < 4 := ⟨own_nn (by omega), by rw [own_tn (by omega)]; exact h⟩
theorem own_inv0 : own_inv (fun _ => 0) (fun _ => 0) 0 := ⟨fun j hj q => absurd rfl q, fun t ht => absurd ht (Nat.not_lt_zero t)⟩
theorem own_inv_add {fl fp : Nat → Int32} {k : Nat} {x : Int32} (I : own_inv fl fp k) (hx : own_ix x) : own_inv (own_af fl x.toNatClampNeg) (own_ap fl x.toNatClampNeg fp k x) (own_ak fl x.toNatClampNeg k) := by
  by_cases h : fl x.toNatClampNeg = (0 : Int32)
  · refine ⟨fun j hj q => ?_, fun t ht => ?_⟩
    · simp only [own_af, own_ap, own_ak, if_pos h] at q ⊢
      by_cases e : j = x.toNatClampNeg
      · exact ⟨k, Nat.lt_succ_self k, by rw [if_pos rfl]; exact e.symm⟩
      · rw [if_neg e] at q
        obtain ⟨t, h1, h2⟩ := I.1 j hj q
        exact ⟨t, Nat.lt_succ_of_lt h1, by rw [if_neg (Nat.ne_of_lt h1)]; exact h2⟩
    · simp only [own_ap, own_ak, if_pos h] at ht ⊢
      by_cases e : t = k
      · rw [if_pos e]; exact hx
      · rw [if_neg e]; exact I.2 t (by omega)
  · refine ⟨fun j hj q => ?_, fun t ht => ?_⟩
    · simp only [own_af, own_ap, own_ak, if_neg h] at q ⊢
      exact I.1 j hj q
    · simp only [own_ap, own_ak, if_neg h] at ht ⊢
      exact I.2 t ht
theorem own_ak_le (fl : Nat → Int32) (i k : Nat) : own_ak fl i k ≤ k + 1 := by
  unfold own_ak
  split <;> omega
theorem d1_0 : decode prog_54_method_1_code 0 = .ok (.aload_n 0, 1) := by decide +kernel
theorem d1_1 : decode prog_54_method_1_code 1 = .ok (.invokespecial 1, 3) := by decide +kernel
theorem d1_4 : decode prog_54_method_1_code 4 = .ok (.aload_n 0, 1) := by decide +kernel
theorem d1_5 : decode prog_54_method_1_code 5 = .ok (.iload_n 1, 1) := by decide +kernel
theorem d1_6 : decode prog_54_method_1_code 6 = .ok (.newarray .int, 2) := by decide +kernel
theorem d1_8 : decode prog_54_method_1_code 8 = .ok (.putfield 7, 3) := by decide +kernel
theorem d1_11 : decode prog_54_method_1_code 11 = .ok (.aload_n 0, 1) := by decide +kernel
theorem d1_12 : decode prog_54_method_1_code 12 = .ok (.iload_n 1, 1) := by decide +kernel
theorem d1_13 : decode prog_54_method_1_code 13 = .ok (.newarray .int, 2) := by decide +kernel
theorem d1_15 : decode prog_54_method_1_code 15 = .ok (.putfield 13, 3) := by decide +kernel
theorem d1_18 : decode prog_54_method_1_code 18 = .ok (.return_, 1) := by decide +kernel
theorem pn_1 : plainName "com/example/vertexwise/vertexwise/engine/PartSet" = true := by first | (simp [plainName, overriddenIn]; done) | decide +kernel
theorem ef_rm1 (m : MethodId) (x0 : Addr) (x1 : Int32) : entryFrame m #[(.ref x0), (.int x1)] 2 = mkF m 0 #[.val (.ref x0), .val (.int x1)] [] := by first | (simp [entryFrame, mkF, argsToLocals, Value.category]; done) | rfl
def Q_rm1 (Z : State) (a1 : Addr) (p2 : Int32)  (h0 : Heap) (n0 : Nat) (v : Option Value) (h : Heap) (L : List Loc) : Prop := v = none ∧ Fr n0 L ∧ n0 ≤ h.size ∧ ∃ aL aR : Addr, own_NE n0 a1 aL aR ∧ own_PS Z h a1 aL aR (fun _ => 0) (fun _ => 0) 0
set_option maxRecDepth 65536 in
set_option maxHeartbeats 40000000 in
theorem rm1 (l : Launch) (Z : State) (a0 : Array Value) (hw : ∀ d ∈ tables_1, d.before a0 Z = true) (ws : List Jvm.Cond) (a1 : Addr) (p2 : Int32)  (h0 : Heap) (n0 : Nat) (Z0 : n0 ≤ h0.size) (E1 : Exa Z h0 a1 "com/example/vertexwise/vertexwise/engine/PartSet") (F1 : Fld Z h0 a1 "com/example/vertexwise/vertexwise/engine/PartSet" "listed" "[I" .null) (F2 : Fld Z h0 a1 "com/example/vertexwise/vertexwise/engine/PartSet" "parts" "[I" .null) (F3 : Fld Z h0 a1 "com/example/vertexwise/vertexwise/engine/PartSet" "count" "I" (.int (0 : Int32))) (g1 : n0 ≤ a1) (hp : p2 = (4 : Int32)) :
    MetFree l (⟨"com/example/vertexwise/vertexwise/engine/PartSet", "<init>", "(I)V"⟩ : MethodName) (head1 (Jvm.Cond.code (⟨"com/example/vertexwise/vertexwise/engine/PartSet", "<init>", "(I)V"⟩ : MethodName) prog_54_method_1_code 2 none :: ws) ({ frames := 1, cells := 2, slots := 8, locals := 12 } : Room)) (fun a U => a = #[(.ref a1), (.int p2)] ∧ Z.Warmed39 U.vm ∧ U.heap = h0) (fun _ _ _ _ _ => True) (fun _ U o U' => ∃ v L, o = .returned v ∧ Q_rm1 Z a1 p2  h0 n0 v U'.heap L ∧ FrameEnd U o U' L ({ frames := 1, cells := 2, slots := 8, locals := 12 } : Room).cells ({ frames := 1, cells := 2, slots := 8, locals := 12 } : Room).slots) := by
  refine MetFree.of_bodySF (plainFor_of_name pn_1) hisR ?_
  intro p e s m args below meth c s₁ Bd hml0 hP hK
  obtain ⟨rfl, hZ, hh⟩ := hP
  have hx := Bd.exec
  have hby := Bd.bytes
  have hml : c.maxLocals = 2 := hml0
  have hown : s.vm.findClass "com/example/vertexwise/vertexwise/engine/PartSet" = some m.cls := findClass_of_methodNamed Bd.named
  have hnm := (name_of_methodNamed Bd.named Bd.method).1
  have X0 : Stand p l e ({ frames := 1, cells := 2, slots := 8, locals := 12 } : Room) s m #[(.ref a1), (.int p2)] below meth c s₁ [] 0 0 := Stand.of_body Bd
  have e0 : s₁.heap = h0 := by rw [← hh, Bd.state]; rfl
  have N0 := Fr.nil n0
  refine own_in ?_
  refine own_of (s₁.setTop (mkF m 0 #[.val (.ref a1), .val (.int p2)] [])) (fun t k => castTop (ef_rm1 m a1 p2) k) ?_
  subst hp
  show own_Dn p e below _ (s₁.setTop (mkF m 0 #[.val (.ref a1), .val (.int (4 : Int32))] []))
  refine own_of (s₁.setTop (mkF m 1 #[.val (.ref a1), .val (.int (4 : Int32))] [(.ref a1)])) (fun t k => XS.aloadN X0.here hx rfl (hb hby d1_0) rfl rfl k) ?_
  obtain ⟨T1, X1, e1, st1⟩ := initO X0 hx hZ hown (hw _ (List.mem_of_getElem? (i := 6) rfl)) (hw _ (List.mem_of_getElem? (i := 7) rfl)) (hw _ (List.mem_of_getElem? (i := 8) rfl)) e0 (g := (mkF m 1 #[.val (.ref a1), .val (.int (4 : Int32))] [(.ref a1)])) rfl (by rw [hml]; rfl) rfl (hb hby d1_1) (by decide) (W := 0) (by show 2 * 0 + _ ≤ _; exact Nat.le_of_eq rfl) (by decide)
  refine own_of (T1.setTop (mkF m 4 #[.val (.ref a1), .val (.int (4 : Int32))] [])) (fun t q => st1 t q) ?_
  refine own_of (T1.setTop (mkF m 5 #[.val (.ref a1), .val (.int (4 : Int32))] [(.ref a1)])) (fun t k => XS.aloadN X1.here hx rfl (hb hby d1_4) rfl rfl k) ?_
  refine own_of (T1.setTop (mkF m 6 #[.val (.ref a1), .val (.int (4 : Int32))] [(.int (4 : Int32)), (.ref a1)])) (fun t k => XS.iloadN X1.here hx rfl (hb hby d1_5) rfl k) ?_
  obtain ⟨T2, h2, cA2, X2, e2, E2, A2, st2⟩ := newP X1 hx hZ (hw _ (List.mem_of_getElem? (i := 9) rfl)) e1 (g := (mkF m 6 #[.val (.ref a1), .val (.int (4 : Int32))] [(.int (4 : Int32)), (.ref a1)])) rfl (hb hby d1_6) rfl (by decide) (cap := 4) (by decide) (by decide) (by decide) (by decide)
  obtain ⟨a2, g2⟩ : ∃ z, z = h0.size := ⟨_, rfl⟩
  rw [← g2] at A2 st2
  have ne_a1_a2 : a1 ≠ a2 := by rw [g2]; exact Nat.ne_of_lt E1.lt
  have f2_0 := E1.ext E2
  have f2_1 := F1.ext E2
  have f2_2 := F2.ext E2
  have f2_3 := F3.ext E2
  have V2 : own_Ar Z h2 a2 .int 4 (fun _ => 0) := own_Ar.new A2 rfl (by decide)
  have ge_a2 : n0 ≤ a2 := Nat.le_trans Z0 (Nat.le_of_eq g2.symm)
  have Z2 : n0 ≤ h2.size := Nat.le_trans Z0 E2.1
  refine own_of (T2.setTop (mkF m 8 #[.val (.ref a1), .val (.int (4 : Int32))] [(.ref a2), (.ref a1)])) (fun t q => st2 t q) ?_
  obtain ⟨T3, h3, X3, e3, W3, st3⟩ := putF X2 hx hZ hown (host := "") (Or.inl (hw _ (List.mem_of_getElem? (i := 10) rfl))) Via.refl e2 f2_1 f2_0 (Or.inr ⟨(hw _ (List.mem_of_getElem? (i := 11) rfl)), rfl, hnm⟩) (hw _ (List.mem_of_getElem? (i := 1) rfl)) (ty := (.array .int)) (by decide) rfl rfl (g := (mkF m 8 #[.val (.ref a1), .val (.int (4 : Int32))] [(.ref a2), (.ref a1)])) rfl rfl (hb hby d1_8)
  have N3 := Fr.snoc X3 N0 g1
  have f3_0 := f2_0.wr W3
  have f3_1 := f2_1.same W3
  have f3_2 := f2_2.other W3 (Or.inr (slot_ne (Or.inr (hw _ (List.mem_of_getElem? (i := 13) rfl))) (Or.inr (hw _ (List.mem_of_getElem? (i := 11) rfl))) (by decide) (t := (.array .int)) (t' := (.array .int)) (by decide) (by decide)))
  have f3_3 := f2_3.other W3 (Or.inr (slot_ne (Or.inl (hw _ (List.mem_of_getElem? (i := 20) rfl))) (Or.inr (hw _ (List.mem_of_getElem? (i := 11) rfl))) (by decide) (t := .int) (t' := (.array .int)) (by decide) (by decide)))
  have f3_4 := V2.other W3 (Ne.symm ne_a1_a2)
  have Z3 : n0 ≤ h3.size := Nat.le_trans Z2 (Nat.le_of_eq W3.size.symm)
  refine own_of (T3.setTop (mkF m 11 #[.val (.ref a1), .val (.int (4 : Int32))] [])) (fun t q => st3 t q) ?_
  refine own_of (T3.setTop (mkF m 12 #[.val (.ref a1), .val (.int (4 : Int32))] [(.ref a1)])) (fun t k => XS.aloadN X3.here hx rfl (hb hby d1_11) rfl rfl k) ?_
  refine own_of (T3.setTop (mkF m 13 #[.val (.ref a1), .val (.int (4 : Int32))] [(.int (4 : Int32)), (.ref a1)])) (fun t k => XS.iloadN X3.here hx rfl (hb hby d1_12) rfl k) ?_
  obtain ⟨T4, h4, cA4, X4, e4, E4, A4, st4⟩ := newP X3 hx hZ (hw _ (List.mem_of_getElem? (i := 9) rfl)) e3 (g := (mkF m 13 #[.val (.ref a1), .val (.int (4 : Int32))] [(.int (4 : Int32)), (.ref a1)])) rfl (hb hby d1_13) rfl (by decide) (cap := 4) (by decide) (by decide) (by decide) (by decide)
  obtain ⟨a4, g4⟩ : ∃ z, z = h3.size := ⟨_, rfl⟩
  rw [← g4] at A4 st4
  have ne_a1_a4 : a1 ≠ a4 := by rw [g4]; exact Nat.ne_of_lt f3_0.lt
  have ne_a2_a4 : a2 ≠ a4 := by rw [g4]; exact Nat.ne_of_lt f3_4.lt
  have f4_0 := f3_0.ext E4
  have f4_1 := f3_1.ext E4
  have f4_2 := f3_2.ext E4
  have f4_3 := f3_3.ext E4
  have f4_4 := f3_4.ext E4
  have V4 : own_Ar Z h4 a4 .int 4 (fun _ => 0) := own_Ar.new A4 rfl (by decide)
  have ge_a4 : n0 ≤ a4 := Nat.le_trans Z3 (Nat.le_of_eq g4.symm)
  have Z4 : n0 ≤ h4.size := Nat.le_trans Z3 E4.1
  refine own_of (T4.setTop (mkF m 15 #[.val (.ref a1), .val (.int (4 : Int32))] [(.ref a4), (.ref a1)])) (fun t q => st4 t q) ?_
  obtain ⟨T5, h5, X5, e5, W5, st5⟩ := putF X4 hx hZ hown (host := "") (Or.inl (hw _ (List.mem_of_getElem? (i := 12) rfl))) Via.refl e4 f4_2 f4_0 (Or.inr ⟨(hw _ (List.mem_of_getElem? (i := 13) rfl)), rfl, hnm⟩) (hw _ (List.mem_of_getElem? (i := 1) rfl)) (ty := (.array .int)) (by decide) rfl rfl (g := (mkF m 15 #[.val (.ref a1), .val (.int (4 : Int32))] [(.ref a4), (.ref a1)])) rfl rfl (hb hby d1_15)
  have N5 := Fr.snoc X5 N3 g1
  have f5_0 := f4_0.wr W5
  have f5_1 := f4_1.other W5 (Or.inr (slot_ne (Or.inr (hw _ (List.mem_of_getElem? (i := 11) rfl))) (Or.inr (hw _ (List.mem_of_getElem? (i := 13) rfl))) (by decide) (t := (.array .int)) (t' := (.array .int)) (by decide) (by decide)))
  have f5_2 := f4_2.same W5
  have f5_3 := f4_3.other W5 (Or.inr (slot_ne (Or.inl (hw _ (List.mem_of_getElem? (i := 20) rfl))) (Or.inr (hw _ (List.mem_of_getElem? (i := 13) rfl))) (by decide) (t := .int) (t' := (.array .int)) (by decide) (by decide)))
  have f5_4 := f4_4.other W5 (Ne.symm ne_a1_a2)
  have f5_5 := V4.other W5 (Ne.symm ne_a1_a4)
  have Z5 : n0 ≤ h5.size := Nat.le_trans Z4 (Nat.le_of_eq W5.size.symm)
  refine own_of (T5.setTop (mkF m 18 #[.val (.ref a1), .val (.int (4 : Int32))] [])) (fun t q => st5 t q) ?_
  obtain ⟨fs, hr, hrun, hended, hW, hsame⟩ := X5.leave (v := none) (fun _ => rfl)
  refine ⟨_, _, X5.returnOut hx Bd.returns (hb hby d1_18) hr, hrun, hended, _, _, rfl, ?_, ⟨_, rfl⟩, hW, hsame.mono (by decide) (by decide)⟩
  show Q_rm1 Z a1 (4 : Int32)  h0 n0 _ T5.heap _
  rw [e5]
  exact ⟨rfl, N5, Z5, a2, a4, ⟨g1, ge_a2, ge_a4, ne_a1_a2, ne_a1_a4, ne_a2_a4⟩, f5_0, f5_1, f5_2, f5_3, f5_4, f5_5⟩
theorem d4_0 : decode prog_54_method_5_code 0 = .ok (.aload_n 0, 1) := by decide +kernel
theorem d4_1 : decode prog_54_method_5_code 1 = .ok (.getfield 22, 3) := by decide +kernel
theorem d4_4 : decode prog_54_method_5_code 4 = .ok (.ireturn, 1) := by decide +kernel
theorem pn_4 : plainName "com/example/vertexwise/vertexwise/engine/PartSet" = true := by first | (simp [plainName, overriddenIn]; done) | decide +kernel
theorem ef_rm4 (m : MethodId) (x0 : Addr) : entryFrame m #[(.ref x0)] 1 = mkF m 0 #[.val (.ref x0)] [] := by first | (simp [entryFrame, mkF, argsToLocals, Value.category]; done) | rfl
def Q_rm4 (Z : State) (a1 : Addr) (aL : Addr) (aR : Addr) (fl : Nat → Int32) (fp : Nat → Int32) (k : Nat) (h0 : Heap) (n0 : Nat) (v : Option Value) (h : Heap) (L : List Loc) : Prop := v = some (.int (Int32.ofNat k)) ∧ Fr n0 L ∧ h = h0
set_option maxRecDepth 65536 in
set_option maxHeartbeats 40000000 in
theorem rm4 (l : Launch) (Z : State) (a0 : Array Value) (hw : ∀ d ∈ tables_1, d.before a0 Z = true) (ws : List Jvm.Cond) (a1 : Addr) (aL : Addr) (aR : Addr) (fl : Nat → Int32) (fp : Nat → Int32) (k : Nat) (h0 : Heap) (n0 : Nat) (Z0 : n0 ≤ h0.size) (hps : own_PS Z h0 a1 aL aR fl fp k) (hne : own_NE n0 a1 aL aR) :
    MetFree l (⟨"com/example/vertexwise/vertexwise/engine/PartSet", "count", "()I"⟩ : MethodName) (head1 (Jvm.Cond.code (⟨"com/example/vertexwise/vertexwise/engine/PartSet", "count", "()I"⟩ : MethodName) prog_54_method_5_code 1 (some .int) :: ws) ({ frames := 0, cells := 0, slots := 0, locals := 0 } : Room)) (fun a U => a = #[(.ref a1)] ∧ Z.Warmed39 U.vm ∧ U.heap = h0) (fun _ _ _ _ _ => True) (fun _ U o U' => ∃ v L, o = .returned v ∧ Q_rm4 Z a1 aL aR fl fp k h0 n0 v U'.heap L ∧ FrameEnd U o U' L ({ frames := 0, cells := 0, slots := 0, locals := 0 } : Room).cells ({ frames := 0, cells := 0, slots := 0, locals := 0 } : Room).slots) := by
  refine MetFree.of_bodySF (plainFor_of_name pn_4) hisR ?_
  intro p e s m args below meth c s₁ Bd hml0 hP hK
  obtain ⟨rfl, hZ, hh⟩ := hP
  have hx := Bd.exec
  have hby := Bd.bytes
  have hml : c.maxLocals = 1 := hml0
  have hown : s.vm.findClass "com/example/vertexwise/vertexwise/engine/PartSet" = some m.cls := findClass_of_methodNamed Bd.named
  have hnm := (name_of_methodNamed Bd.named Bd.method).1
  have X0 : Stand p l e ({ frames := 0, cells := 0, slots := 0, locals := 0 } : Room) s m #[(.ref a1)] below meth c s₁ [] 0 0 := Stand.of_body Bd
  have e0 : s₁.heap = h0 := by rw [← hh, Bd.state]; rfl
  have N0 := Fr.nil n0
  refine own_in ?_
  refine own_of (s₁.setTop (mkF m 0 #[.val (.ref a1)] [])) (fun t k => castTop (ef_rm4 m a1) k) ?_
  obtain ⟨E1, F1, F2, F3, V1, V2⟩ := hps
  obtain ⟨g1, g2, g3, n1, n2, n3⟩ := hne
  refine own_of (s₁.setTop (mkF m 1 #[.val (.ref a1)] [(.ref a1)])) (fun t k => XS.aloadN X0.here hx rfl (hb hby d4_0) rfl rfl k) ?_
  obtain ⟨T6, X6, e6, st6⟩ := getF X0 hx hZ hown (host := "") (Or.inl (hw _ (List.mem_of_getElem? (i := 19) rfl))) Via.refl e0 F3 (g := (mkF m 1 #[.val (.ref a1)] [(.ref a1)])) rfl rfl (hb hby d4_1)
  refine own_of (T6.setTop (mkF m 4 #[.val (.ref a1)] [(.int (Int32.ofNat k))])) (fun t q => st6 t q) ?_
  obtain ⟨fs, hr, hrun, hended, hW, hsame⟩ := X6.leave (v := some (.int (Int32.ofNat k))) (fun h => by rw [Bd.returns] at h; cases h)
  refine ⟨_, _, retI X6 hx Bd.returns (hb hby d4_4) hr, hrun, hended, _, _, rfl, ?_, ⟨_, rfl⟩, hW, hsame.mono (by decide) (by decide)⟩
  show Q_rm4 Z a1 aL aR fl fp k h0 n0 _ T6.heap _
  rw [e6]
  exact ⟨rfl, N0, rfl⟩
theorem d5_0 : decode prog_54_method_7_code 0 = .ok (.aload_n 0, 1) := by decide +kernel
theorem d5_1 : decode prog_54_method_7_code 1 = .ok (.getfield 7, 3) := by decide +kernel
theorem d5_4 : decode prog_54_method_7_code 4 = .ok (.iload_n 1, 1) := by decide +kernel
theorem d5_5 : decode prog_54_method_7_code 5 = .ok (.iaload, 1) := by decide +kernel
theorem d5_6 : decode prog_54_method_7_code 6 = .ok (.ifCond .eq 7, 3) := by decide +kernel
theorem d5_9 : decode prog_54_method_7_code 9 = .ok (.iconst 1, 1) := by decide +kernel
theorem d5_10 : decode prog_54_method_7_code 10 = .ok (.goto 4, 3) := by decide +kernel
theorem d5_13 : decode prog_54_method_7_code 13 = .ok (.iconst 0, 1) := by decide +kernel
theorem d5_14 : decode prog_54_method_7_code 14 = .ok (.ireturn, 1) := by decide +kernel
theorem pn_5 : plainName "com/example/vertexwise/vertexwise/engine/PartSet" = true := by first | (simp [plainName, overriddenIn]; done) | decide +kernel
theorem ef_rm5 (m : MethodId) (x0 : Addr) (x1 : Int32) : entryFrame m #[(.ref x0), (.int x1)] 2 = mkF m 0 #[.val (.ref x0), .val (.int x1)] [] := by first | (simp [entryFrame, mkF, argsToLocals, Value.category]; done) | rfl
def Q_rm5 (Z : State) (a1 : Addr) (p2 : Int32) (aL : Addr) (aR : Addr) (fl : Nat → Int32) (fp : Nat → Int32) (k : Nat) (h0 : Heap) (n0 : Nat) (v : Option Value) (h : Heap) (L : List Loc) : Prop := v = some (.int (own_ct fl p2.toNatClampNeg)) ∧ Fr n0 L ∧ h = h0
set_option maxRecDepth 65536 in
set_option maxHeartbeats 40000000 in
theorem rm5 (l : Launch) (Z : State) (a0 : Array Value) (hw : ∀ d ∈ tables_1, d.before a0 Z = true) (ws : List Jvm.Cond) (a1 : Addr) (p2 : Int32) (aL : Addr) (aR : Addr) (fl : Nat → Int32) (fp : Nat → Int32) (k : Nat) (h0 : Heap) (n0 : Nat) (Z0 : n0 ≤ h0.size) (hps : own_PS Z h0 a1 aL aR fl fp k) (hne : own_NE n0 a1 aL aR) (hi : own_ix p2) :
    MetFree l (⟨"com/example/vertexwise/vertexwise/engine/PartSet", "contains", "(I)Z"⟩ : MethodName) (head1 (Jvm.Cond.code (⟨"com/example/vertexwise/vertexwise/engine/PartSet", "contains", "(I)Z"⟩ : MethodName) prog_54_method_7_code 2 (some .boolean) :: ws) ({ frames := 0, cells := 0, slots := 0, locals := 0 } : Room)) (fun a U => a = #[(.ref a1), (.int p2)] ∧ Z.Warmed39 U.vm ∧ U.heap = h0) (fun _ _ _ _ _ => True) (fun _ U o U' => ∃ v L, o = .returned v ∧ Q_rm5 Z a1 p2 aL aR fl fp k h0 n0 v U'.heap L ∧ FrameEnd U o U' L ({ frames := 0, cells := 0, slots := 0, locals := 0 } : Room).cells ({ frames := 0, cells := 0, slots := 0, locals := 0 } : Room).slots) := by
  refine MetFree.of_bodySF (plainFor_of_name pn_5) hisR ?_
  intro p e s m args below meth c s₁ Bd hml0 hP hK
  obtain ⟨rfl, hZ, hh⟩ := hP
  have hx := Bd.exec
  have hby := Bd.bytes
  have hml : c.maxLocals = 2 := hml0
  have hown : s.vm.findClass "com/example/vertexwise/vertexwise/engine/PartSet" = some m.cls := findClass_of_methodNamed Bd.named
  have hnm := (name_of_methodNamed Bd.named Bd.method).1
  have X0 : Stand p l e ({ frames := 0, cells := 0, slots := 0, locals := 0 } : Room) s m #[(.ref a1), (.int p2)] below meth c s₁ [] 0 0 := Stand.of_body Bd
  have e0 : s₁.heap = h0 := by rw [← hh, Bd.state]; rfl
  have N0 := Fr.nil n0
  refine own_in ?_
  refine own_of (s₁.setTop (mkF m 0 #[.val (.ref a1), .val (.int p2)] [])) (fun t k => castTop (ef_rm5 m a1 p2) k) ?_
  obtain ⟨E1, F1, F2, F3, V1, V2⟩ := hps
  obtain ⟨g1, g2, g3, n1, n2, n3⟩ := hne
  refine own_of (s₁.setTop (mkF m 1 #[.val (.ref a1), .val (.int p2)] [(.ref a1)])) (fun t k => XS.aloadN X0.here hx rfl (hb hby d5_0) rfl rfl k) ?_
  obtain ⟨T7, X7, e7, st7⟩ := getF X0 hx hZ hown (host := "") (Or.inl (hw _ (List.mem_of_getElem? (i := 10) rfl))) Via.refl e0 F1 (g := (mkF m 1 #[.val (.ref a1), .val (.int p2)] [(.ref a1)])) rfl rfl (hb hby d5_1)
  refine own_of (T7.setTop (mkF m 4 #[.val (.ref a1), .val (.int p2)] [(.ref aL)])) (fun t q => st7 t q) ?_
  refine own_of (T7.setTop (mkF m 5 #[.val (.ref a1), .val (.int p2)] [(.int p2), (.ref aL)])) (fun t k => XS.iloadN X7.here hx rfl (hb hby d5_4) rfl k) ?_
  refine own_of (T7.setTop (mkF m 6 #[.val (.ref a1), .val (.int p2)] [(.int (fl p2.toNatClampNeg))])) (fun t k => own_iald X7 hx hZ e7 V1 hi (g := (mkF m 5 #[.val (.ref a1), .val (.int p2)] [(.int p2), (.ref aL)])) rfl rfl (hb hby d5_5) t k) ?_
  by_cases hc8 : (fl p2.toNatClampNeg) = (0 : Int32)
  · refine own_of (T7.setTop (mkF m 13 #[.val (.ref a1), .val (.int p2)] [])) (fun t k => XS.ifYes X7.here hx rfl (pc0 := 6) (pc' := 13) rfl (hb hby d5_6) rfl ((if0 _ _).trans (teq hc8).1) (by decide) (by decide) k) ?_
    refine own_of (T7.setTop (mkF m 14 #[.val (.ref a1), .val (.int p2)] [(.int (0 : Int32))])) (fun t k => XS.iconst X7.here hx rfl (hb hby d5_13) k) ?_
    have hv : own_ct fl p2.toNatClampNeg = (0 : Int32) := by simp only [own_ct, hc8, if_true, if_false]
    obtain ⟨fs, hr, hrun, hended, hW, hsame⟩ := X7.leave (v := some (.int (0 : Int32))) (fun h => by rw [Bd.returns] at h; cases h)
    refine ⟨_, _, retN X7 hx (t := .boolean) Bd.returns (by simp) (hb hby d5_14) hr, hrun, hended, _, _, rfl, ?_, ⟨_, rfl⟩, hW, hsame.mono (by decide) (by decide)⟩
    show Q_rm5 Z a1 p2 aL aR fl fp k h0 n0 _ T7.heap _
    rw [e7]
    exact ⟨by rw [hv], N0, rfl⟩
  · refine own_of (T7.setTop (mkF m 9 #[.val (.ref a1), .val (.int p2)] [])) (fun t k => XS.ifNo X7.here hx rfl (hb hby d5_6) rfl ((if0 _ _).trans (feq hc8).1) k) ?_
    refine own_of (T7.setTop (mkF m 10 #[.val (.ref a1), .val (.int p2)] [(.int (1 : Int32))])) (fun t k => XS.iconst X7.here hx rfl (hb hby d5_9) k) ?_
    refine own_of (T7.setTop (mkF m 14 #[.val (.ref a1), .val (.int p2)] [(.int (1 : Int32))])) (fun t k => XS.goto X7.here hx rfl (pc0 := 10) (pc' := 14) rfl (hb hby d5_10) (by decide) (by decide) k) ?_
    have hv : own_ct fl p2.toNatClampNeg = (1 : Int32) := by simp only [own_ct, hc8, if_true, if_false]
    obtain ⟨fs, hr, hrun, hended, hW, hsame⟩ := X7.leave (v := some (.int (1 : Int32))) (fun h => by rw [Bd.returns] at h; cases h)
    refine ⟨_, _, retN X7 hx (t := .boolean) Bd.returns (by simp) (hb hby d5_14) hr, hrun, hended, _, _, rfl, ?_, ⟨_, rfl⟩, hW, hsame.mono (by decide) (by decide)⟩
    show Q_rm5 Z a1 p2 aL aR fl fp k h0 n0 _ T7.heap _
    rw [e7]
    exact ⟨by rw [hv], N0, rfl⟩
theorem d7_0 : decode prog_54_method_6_code 0 = .ok (.aload_n 0, 1) := by decide +kernel
theorem d7_1 : decode prog_54_method_6_code 1 = .ok (.getfield 13, 3) := by decide +kernel
theorem d7_4 : decode prog_54_method_6_code 4 = .ok (.iload_n 1, 1) := by decide +kernel
theorem d7_5 : decode prog_54_method_6_code 5 = .ok (.iaload, 1) := by decide +kernel
theorem d7_6 : decode prog_54_method_6_code 6 = .ok (.ireturn, 1) := by decide +kernel
theorem pn_7 : plainName "com/example/vertexwise/vertexwise/engine/PartSet" = true := by first | (simp [plainName, overriddenIn]; done) | decide +kernel
theorem ef_rm7 (m : MethodId) (x0 : Addr) (x1 : Int32) : entryFrame m #[(.ref x0), (.int x1)] 2 = mkF m 0 #[.val (.ref x0), .val (.int x1)] [] := by first | (simp [entryFrame, mkF, argsToLocals, Value.category]; done) | rfl
def Q_rm7 (Z : State) (a1 : Addr) (p2 : Int32) (aL : Addr) (aR : Addr) (fl : Nat → Int32) (fp : Nat → Int32) (k : Nat) (h0 : Heap) (n0 : Nat) (v : Option Value) (h : Heap) (L : List Loc) : Prop := v = some (.int (fp p2.toNatClampNeg)) ∧ Fr n0 L ∧ h = h0
set_option maxRecDepth 65536 in
set_option maxHeartbeats 40000000 in
theorem rm7 (l : Launch) (Z : State) (a0 : Array Value) (hw : ∀ d ∈ tables_1, d.before a0 Z = true) (ws : List Jvm.Cond) (a1 : Addr) (p2 : Int32) (aL : Addr) (aR : Addr) (fl : Nat → Int32) (fp : Nat → Int32) (k : Nat) (h0 : Heap) (n0 : Nat) (Z0 : n0 ≤ h0.size) (hps : own_PS Z h0 a1 aL aR fl fp k) (hne : own_NE n0 a1 aL aR) (hi : own_ix p2) :
    MetFree l (⟨"com/example/vertexwise/vertexwise/engine/PartSet", "part", "(I)I"⟩ : MethodName) (head1 (Jvm.Cond.code (⟨"com/example/vertexwise/vertexwise/engine/PartSet", "part", "(I)I"⟩ : MethodName) prog_54_method_6_code 2 (some .int) :: ws) ({ frames := 0, cells := 0, slots := 0, locals := 0 } : Room)) (fun a U => a = #[(.ref a1), (.int p2)] ∧ Z.Warmed39 U.vm ∧ U.heap = h0) (fun _ _ _ _ _ => True) (fun _ U o U' => ∃ v L, o = .returned v ∧ Q_rm7 Z a1 p2 aL aR fl fp k h0 n0 v U'.heap L ∧ FrameEnd U o U' L ({ frames := 0, cells := 0, slots := 0, locals := 0 } : Room).cells ({ frames := 0, cells := 0, slots := 0, locals := 0 } : Room).slots) := by
  refine MetFree.of_bodySF (plainFor_of_name pn_7) hisR ?_
  intro p e s m args below meth c s₁ Bd hml0 hP hK
  obtain ⟨rfl, hZ, hh⟩ := hP
  have hx := Bd.exec
  have hby := Bd.bytes
  have hml : c.maxLocals = 2 := hml0
  have hown : s.vm.findClass "com/example/vertexwise/vertexwise/engine/PartSet" = some m.cls := findClass_of_methodNamed Bd.named
  have hnm := (name_of_methodNamed Bd.named Bd.method).1
  have X0 : Stand p l e ({ frames := 0, cells := 0, slots := 0, locals := 0 } : Room) s m #[(.ref a1), (.int p2)] below meth c s₁ [] 0 0 := Stand.of_body Bd
  have e0 : s₁.heap = h0 := by rw [← hh, Bd.state]; rfl
  have N0 := Fr.nil n0
  refine own_in ?_
  refine own_of (s₁.setTop (mkF m 0 #[.val (.ref a1), .val (.int p2)] [])) (fun t k => castTop (ef_rm7 m a1 p2) k) ?_
  obtain ⟨E1, F1, F2, F3, V1, V2⟩ := hps
  obtain ⟨g1, g2, g3, n1, n2, n3⟩ := hne
  refine own_of (s₁.setTop (mkF m 1 #[.val (.ref a1), .val (.int p2)] [(.ref a1)])) (fun t k => XS.aloadN X0.here hx rfl (hb hby d7_0) rfl rfl k) ?_
  obtain ⟨T9, X9, e9, st9⟩ := getF X0 hx hZ hown (host := "") (Or.inl (hw _ (List.mem_of_getElem? (i := 12) rfl))) Via.refl e0 F2 (g := (mkF m 1 #[.val (.ref a1), .val (.int p2)] [(.ref a1)])) rfl rfl (hb hby d7_1)
  refine own_of (T9.setTop (mkF m 4 #[.val (.ref a1), .val (.int p2)] [(.ref aR)])) (fun t q => st9 t q) ?_
  refine own_of (T9.setTop (mkF m 5 #[.val (.ref a1), .val (.int p2)] [(.int p2), (.ref aR)])) (fun t k => XS.iloadN X9.here hx rfl (hb hby d7_4) rfl k) ?_
  refine own_of (T9.setTop (mkF m 6 #[.val (.ref a1), .val (.int p2)] [(.int (fp p2.toNatClampNeg))])) (fun t k => own_iald X9 hx hZ e9 V2 hi (g := (mkF m 5 #[.val (.ref a1), .val (.int p2)] [(.int p2), (.ref aR)])) rfl rfl (hb hby d7_5) t k) ?_
  obtain ⟨fs, hr, hrun, hended, hW, hsame⟩ := X9.leave (v := some (.int (fp p2.toNatClampNeg))) (fun h => by rw [Bd.returns] at h; cases h)
  refine ⟨_, _, retI X9 hx Bd.returns (hb hby d7_6) hr, hrun, hended, _, _, rfl, ?_, ⟨_, rfl⟩, hW, hsame.mono (by decide) (by decide)⟩
  show Q_rm7 Z a1 p2 aL aR fl fp k h0 n0 _ T9.heap _
  rw [e9]
  exact ⟨rfl, N0, rfl⟩
theorem d6_0 : decode prog_54_method_3_code 0 = .ok (.aload_n 0, 1) := by decide +kernel
theorem d6_1 : decode prog_54_method_3_code 1 = .ok (.getfield 7, 3) := by decide +kernel
theorem d6_4 : decode prog_54_method_3_code 4 = .ok (.iload_n 1, 1) := by decide +kernel
theorem d6_5 : decode prog_54_method_3_code 5 = .ok (.iaload, 1) := by decide +kernel
theorem d6_6 : decode prog_54_method_3_code 6 = .ok (.ifCond .ne 27, 3) := by decide +kernel
theorem d6_9 : decode prog_54_method_3_code 9 = .ok (.aload_n 0, 1) := by decide +kernel
theorem d6_10 : decode prog_54_method_3_code 10 = .ok (.getfield 7, 3) := by decide +kernel
theorem d6_13 : decode prog_54_method_3_code 13 = .ok (.iload_n 1, 1) := by decide +kernel
theorem d6_14 : decode prog_54_method_3_code 14 = .ok (.iconst 1, 1) := by decide +kernel
theorem d6_15 : decode prog_54_method_3_code 15 = .ok (.iastore, 1) := by decide +kernel
theorem d6_16 : decode prog_54_method_3_code 16 = .ok (.aload_n 0, 1) := by decide +kernel
theorem d6_17 : decode prog_54_method_3_code 17 = .ok (.getfield 13, 3) := by decide +kernel
theorem d6_20 : decode prog_54_method_3_code 20 = .ok (.aload_n 0, 1) := by decide +kernel
theorem d6_21 : decode prog_54_method_3_code 21 = .ok (.dup, 1) := by decide +kernel
theorem d6_22 : decode prog_54_method_3_code 22 = .ok (.getfield 22, 3) := by decide +kernel
theorem d6_25 : decode prog_54_method_3_code 25 = .ok (.dup_x1, 1) := by decide +kernel
theorem d6_26 : decode prog_54_method_3_code 26 = .ok (.iconst 1, 1) := by decide +kernel
theorem d6_27 : decode prog_54_method_3_code 27 = .ok (.iadd, 1) := by decide +kernel
theorem d6_28 : decode prog_54_method_3_code 28 = .ok (.putfield 22, 3) := by decide +kernel
theorem d6_31 : decode prog_54_method_3_code 31 = .ok (.iload_n 1, 1) := by decide +kernel
theorem d6_32 : decode prog_54_method_3_code 32 = .ok (.iastore, 1) := by decide +kernel
theorem d6_33 : decode prog_54_method_3_code 33 = .ok (.return_, 1) := by decide +kernel
theorem pn_6 : plainName "com/example/vertexwise/vertexwise/engine/PartSet" = true := by first | (simp [plainName, overriddenIn]; done) | decide +kernel
theorem ef_rm6 (m : MethodId) (x0 : Addr) (x1 : Int32) : entryFrame m #[(.ref x0), (.int x1)] 2 = mkF m 0 #[.val (.ref x0), .val (.int x1)] [] := by first | (simp [entryFrame, mkF, argsToLocals, Value.category]; done) | rfl
def Q_rm6 (Z : State) (a1 : Addr) (p2 : Int32) (aL : Addr) (aR : Addr) (fl : Nat → Int32) (fp : Nat → Int32) (k : Nat) (h0 : Heap) (n0 : Nat) (v : Option Value) (h : Heap) (L : List Loc) : Prop := v = none ∧ Fr n0 L ∧ n0 ≤ h.size ∧ own_PS Z h a1 aL aR (own_af fl p2.toNatClampNeg) (own_ap fl p2.toNatClampNeg fp k p2) (own_ak fl p2.toNatClampNeg k)
set_option maxRecDepth 65536 in
set_option maxHeartbeats 40000000 in
theorem rm6 (l : Launch) (Z : State) (a0 : Array Value) (hw : ∀ d ∈ tables_1, d.before a0 Z = true) (ws : List Jvm.Cond) (a1 : Addr) (p2 : Int32) (aL : Addr) (aR : Addr) (fl : Nat → Int32) (fp : Nat → Int32) (k : Nat) (h0 : Heap) (n0 : Nat) (Z0 : n0 ≤ h0.size) (hps : own_PS Z h0 a1 aL aR fl fp k) (hne : own_NE n0 a1 aL aR) (hi : own_ix p2) (hk : k < 4) :
    MetFree l (⟨"com/example/vertexwise/vertexwise/engine/PartSet", "add", "(I)V"⟩ : MethodName) (head1 (Jvm.Cond.code (⟨"com/example/vertexwise/vertexwise/engine/PartSet", "add", "(I)V"⟩ : MethodName) prog_54_method_3_code 2 none :: ws) ({ frames := 0, cells := 0, slots := 0, locals := 0 } : Room)) (fun a U => a = #[(.ref a1), (.int p2)] ∧ Z.Warmed39 U.vm ∧ U.heap = h0) (fun _ _ _ _ _ => True) (fun _ U o U' => ∃ v L, o = .returned v ∧ Q_rm6 Z a1 p2 aL aR fl fp k h0 n0 v U'.heap L ∧ FrameEnd U o U' L ({ frames := 0, cells := 0, slots := 0, locals := 0 } : Room).cells ({ frames := 0, cells := 0, slots := 0, locals := 0 } : Room).slots) := by
  refine MetFree.of_bodySF (plainFor_of_name pn_6) hisR ?_
  intro p e s m args below meth c s₁ Bd hml0 hP hK
  obtain ⟨rfl, hZ, hh⟩ := hP
  have hx := Bd.exec
  have hby := Bd.bytes
  have hml : c.maxLocals = 2 := hml0
  have hown : s.vm.findClass "com/example/vertexwise/vertexwise/engine/PartSet" = some m.cls := findClass_of_methodNamed Bd.named
  have hnm := (name_of_methodNamed Bd.named Bd.method).1
  have X0 : Stand p l e ({ frames := 0, cells := 0, slots := 0, locals := 0 } : Room) s m #[(.ref a1), (.int p2)] below meth c s₁ [] 0 0 := Stand.of_body Bd
  have e0 : s₁.heap = h0 := by rw [← hh, Bd.state]; rfl
  have N0 := Fr.nil n0
  refine own_in ?_
  refine own_of (s₁.setTop (mkF m 0 #[.val (.ref a1), .val (.int p2)] [])) (fun t k => castTop (ef_rm6 m a1 p2) k) ?_
  obtain ⟨E1, F1, F2, F3, V1, V2⟩ := hps
  obtain ⟨g1, g2, g3, n1, n2, n3⟩ := hne
  refine own_of (s₁.setTop (mkF m 1 #[.val (.ref a1), .val (.int p2)] [(.ref a1)])) (fun t k => XS.aloadN X0.here hx rfl (hb hby d6_0) rfl rfl k) ?_
  obtain ⟨T10, X10, e10, st10⟩ := getF X0 hx hZ hown (host := "") (Or.inl (hw _ (List.mem_of_getElem? (i := 10) rfl))) Via.refl e0 F1 (g := (mkF m 1 #[.val (.ref a1), .val (.int p2)] [(.ref a1)])) rfl rfl (hb hby d6_1)
  refine own_of (T10.setTop (mkF m 4 #[.val (.ref a1), .val (.int p2)] [(.ref aL)])) (fun t q => st10 t q) ?_
  refine own_of (T10.setTop (mkF m 5 #[.val (.ref a1), .val (.int p2)] [(.int p2), (.ref aL)])) (fun t k => XS.iloadN X10.here hx rfl (hb hby d6_4) rfl k) ?_
  refine own_of (T10.setTop (mkF m 6 #[.val (.ref a1), .val (.int p2)] [(.int (fl p2.toNatClampNeg))])) (fun t k => own_iald X10 hx hZ e10 V1 hi (g := (mkF m 5 #[.val (.ref a1), .val (.int p2)] [(.int p2), (.ref aL)])) rfl rfl (hb hby d6_5) t k) ?_
  by_cases hc11 : (fl p2.toNatClampNeg) = (0 : Int32)
  · refine own_of (T10.setTop (mkF m 9 #[.val (.ref a1), .val (.int p2)] [])) (fun t k => XS.ifNo X10.here hx rfl (hb hby d6_6) rfl ((if0 _ _).trans (teq hc11).2) k) ?_
    refine own_of (T10.setTop (mkF m 10 #[.val (.ref a1), .val (.int p2)] [(.ref a1)])) (fun t k => XS.aloadN X10.here hx rfl (hb hby d6_9) rfl rfl k) ?_
    obtain ⟨T12, X12, e12, st12⟩ := getF X10 hx hZ hown (host := "") (Or.inl (hw _ (List.mem_of_getElem? (i := 10) rfl))) Via.refl e10 F1 (g := (mkF m 10 #[.val (.ref a1), .val (.int p2)] [(.ref a1)])) rfl rfl (hb hby d6_10)
    refine own_of (T12.setTop (mkF m 13 #[.val (.ref a1), .val (.int p2)] [(.ref aL)])) (fun t q => st12 t q) ?_
    refine own_of (T12.setTop (mkF m 14 #[.val (.ref a1), .val (.int p2)] [(.int p2), (.ref aL)])) (fun t k => XS.iloadN X12.here hx rfl (hb hby d6_13) rfl k) ?_
    refine own_of (T12.setTop (mkF m 15 #[.val (.ref a1), .val (.int p2)] [(.int (1 : Int32)), (.int p2), (.ref aL)])) (fun t k => XS.iconst X12.here hx rfl (hb hby d6_14) k) ?_
    obtain ⟨T13, h13, X13, e13, W13, st13⟩ := own_ist X12 hx hZ e12 V1 (j := p2) hi (g := (mkF m 15 #[.val (.ref a1), .val (.int p2)] [(.int (1 : Int32)), (.int p2), (.ref aL)])) rfl rfl (hb hby d6_15)
    have N13 := Fr.snoc X13 N0 g2
    have f13_0 := E1.wr W13
    have f13_1 := F1.other W13 (Or.inl n1)
    have f13_2 := F2.other W13 (Or.inl n1)
    have f13_3 := F3.other W13 (Or.inl n1)
    have f13_4 := (V1.same W13 (hi).2).congr (g := (own_af fl p2.toNatClampNeg)) (fun j hj => by simp only [own_af, hc11, if_true])
    have f13_5 := V2.other W13 (Ne.symm n3)
    have Z13 : n0 ≤ h13.size := Nat.le_trans Z0 (Nat.le_of_eq W13.size.symm)
    refine own_of (T13.setTop (mkF m 16 #[.val (.ref a1), .val (.int p2)] [])) (fun t q => st13 t q) ?_
    refine own_of (T13.setTop (mkF m 17 #[.val (.ref a1), .val (.int p2)] [(.ref a1)])) (fun t k => XS.aloadN X13.here hx rfl (hb hby d6_16) rfl rfl k) ?_
    obtain ⟨T14, X14, e14, st14⟩ := getF X13 hx hZ hown (host := "") (Or.inl (hw _ (List.mem_of_getElem? (i := 12) rfl))) Via.refl e13 f13_2 (g := (mkF m 17 #[.val (.ref a1), .val (.int p2)] [(.ref a1)])) rfl rfl (hb hby d6_17)
    refine own_of (T14.setTop (mkF m 20 #[.val (.ref a1), .val (.int p2)] [(.ref aR)])) (fun t q => st14 t q) ?_
    refine own_of (T14.setTop (mkF m 21 #[.val (.ref a1), .val (.int p2)] [(.ref a1), (.ref aR)])) (fun t k => XS.aloadN X14.here hx rfl (hb hby d6_20) rfl rfl k) ?_
    refine own_of (T14.setTop (mkF m 22 #[.val (.ref a1), .val (.int p2)] [(.ref a1), (.ref a1), (.ref aR)])) (fun t k => XS.dup X14.here hx rfl (hb hby d6_21) rfl rfl k) ?_
    obtain ⟨T15, X15, e15, st15⟩ := getF X14 hx hZ hown (host := "") (Or.inl (hw _ (List.mem_of_getElem? (i := 19) rfl))) Via.refl e14 f13_3 (g := (mkF m 22 #[.val (.ref a1), .val (.int p2)] [(.ref a1), (.ref a1), (.ref aR)])) rfl rfl (hb hby d6_22)
    refine own_of (T15.setTop (mkF m 25 #[.val (.ref a1), .val (.int p2)] [(.int (Int32.ofNat k)), (.ref a1), (.ref aR)])) (fun t q => st15 t q) ?_
    refine own_of (T15.setTop (mkF m 26 #[.val (.ref a1), .val (.int p2)] [(.int (Int32.ofNat k)), (.ref a1), (.int (Int32.ofNat k)), (.ref aR)])) (fun t k => XS.dupX1 X15.here hx rfl (hb hby d6_25) rfl rfl rfl k) ?_
    refine own_of (T15.setTop (mkF m 27 #[.val (.ref a1), .val (.int p2)] [(.int (1 : Int32)), (.int (Int32.ofNat k)), (.ref a1), (.int (Int32.ofNat k)), (.ref aR)])) (fun t k => XS.iconst X15.here hx rfl (hb hby d6_26) k) ?_
    refine own_of (T15.setTop (mkF m 28 #[.val (.ref a1), .val (.int p2)] [(.int ((Int32.ofNat k) + (1 : Int32))), (.ref a1), (.int (Int32.ofNat k)), (.ref aR)])) (fun t k => XS.iadd X15.here hx rfl (hb hby d6_27) rfl k) ?_
    obtain ⟨T16, h16, X16, e16, W16, st16⟩ := putF X15 hx hZ hown (host := "") (Or.inl (hw _ (List.mem_of_getElem? (i := 19) rfl))) Via.refl e15 f13_3 f13_0 (Or.inl (hw _ (List.mem_of_getElem? (i := 20) rfl))) (hw _ (List.mem_of_getElem? (i := 1) rfl)) (ty := .int) (by decide) rfl rfl (g := (mkF m 28 #[.val (.ref a1), .val (.int p2)] [(.int ((Int32.ofNat k) + (1 : Int32))), (.ref a1), (.int (Int32.ofNat k)), (.ref aR)])) rfl rfl (hb hby d6_28)
    have N16 := Fr.snoc X16 N13 g1
    have f16_0 := f13_0.wr W16
    have f16_1 := f13_1.other W16 (Or.inr (slot_ne (Or.inr (hw _ (List.mem_of_getElem? (i := 11) rfl))) (Or.inl (hw _ (List.mem_of_getElem? (i := 20) rfl))) (by decide) (t := (.array .int)) (t' := .int) (by decide) (by decide)))
    have f16_2 := f13_2.other W16 (Or.inr (slot_ne (Or.inr (hw _ (List.mem_of_getElem? (i := 13) rfl))) (Or.inl (hw _ (List.mem_of_getElem? (i := 20) rfl))) (by decide) (t := (.array .int)) (t' := .int) (by decide) (by decide)))
    have f16_3 := f13_3.same W16
    have f16_4 := f13_4.other W16 (Ne.symm n1)
    have f16_5 := f13_5.other W16 (Ne.symm n2)
    have Z16 : n0 ≤ h16.size := Nat.le_trans Z13 (Nat.le_of_eq W16.size.symm)
    refine own_of (T16.setTop (mkF m 31 #[.val (.ref a1), .val (.int p2)] [(.int (Int32.ofNat k)), (.ref aR)])) (fun t q => st16 t q) ?_
    refine own_of (T16.setTop (mkF m 32 #[.val (.ref a1), .val (.int p2)] [(.int p2), (.int (Int32.ofNat k)), (.ref aR)])) (fun t k => XS.iloadN X16.here hx rfl (hb hby d6_31) rfl k) ?_
    obtain ⟨T17, h17, X17, e17, W17, st17⟩ := own_ist X16 hx hZ e16 f16_5 (j := (Int32.ofNat k)) (own_at hk) (g := (mkF m 32 #[.val (.ref a1), .val (.int p2)] [(.int p2), (.int (Int32.ofNat k)), (.ref aR)])) rfl rfl (hb hby d6_32)
    have N17 := Fr.snoc X17 N16 g3
    have f17_0 := f16_0.wr W17
    have f17_1 := f16_1.other W17 (Or.inl n2)
    have f17_2 := f16_2.other W17 (Or.inl n2)
    have f17_3 := f16_3.other W17 (Or.inl n2)
    have f17_4 := f16_4.other W17 n3
    have f17_5 := (f16_5.same W17 ((own_at hk)).2).congr (g := (own_ap fl p2.toNatClampNeg fp k p2)) (fun j hj => by rw [own_tn (show k < 6 by omega)]; simp only [own_ap, hc11, if_true])
    have Z17 : n0 ≤ h17.size := Nat.le_trans Z16 (Nat.le_of_eq W17.size.symm)
    refine own_of (T17.setTop (mkF m 33 #[.val (.ref a1), .val (.int p2)] [])) (fun t q => st17 t q) ?_
    have hak : Int32.ofNat (own_ak fl p2.toNatClampNeg k) = Int32.ofNat k + (1 : Int32) := by rw [own_up (show k < 6 by omega)]; simp only [own_ak, hc11, if_true]
    obtain ⟨fs, hr, hrun, hended, hW, hsame⟩ := X17.leave (v := none) (fun _ => rfl)
    refine ⟨_, _, X17.returnOut hx Bd.returns (hb hby d6_33) hr, hrun, hended, _, _, rfl, ?_, ⟨_, rfl⟩, hW, hsame.mono (by decide) (by decide)⟩
    show Q_rm6 Z a1 p2 aL aR fl fp k h0 n0 _ T17.heap _
    rw [e17]
    exact ⟨rfl, N17, Z17, ⟨f17_0, f17_1, f17_2, by rw [hak]; exact f17_3, f17_4, f17_5⟩⟩
  · refine own_of (T10.setTop (mkF m 33 #[.val (.ref a1), .val (.int p2)] [])) (fun t k => XS.ifYes X10.here hx rfl (pc0 := 6) (pc' := 33) rfl (hb hby d6_6) rfl ((if0 _ _).trans (feq hc11).2) (by decide) (by decide) k) ?_
    have hak : own_ak fl p2.toNatClampNeg k = k := by simp only [own_ak, hc11, if_false]
    obtain ⟨fs, hr, hrun, hended, hW, hsame⟩ := X10.leave (v := none) (fun _ => rfl)
    refine ⟨_, _, X10.returnOut hx Bd.returns (hb hby d6_33) hr, hrun, hended, _, _, rfl, ?_, ⟨_, rfl⟩, hW, hsame.mono (by decide) (by decide)⟩
    show Q_rm6 Z a1 p2 aL aR fl fp k h0 n0 _ T10.heap _
    rw [e10]
    exact ⟨rfl, N0, Z0, ⟨E1, F1, F2, by rw [hak]; exact F3, V1.congr fun j hj => by simp only [own_af, hc11, if_false], V2.congr fun j hj => by simp only [own_ap, hc11, if_false]⟩⟩
theorem d3_0 : decode prog_54_method_9_code 0 = .ok (.iconst 0, 1) := by decide +kernel
theorem d3_1 : decode prog_54_method_9_code 1 = .ok (.istore_n 1, 1) := by decide +kernel
theorem d3_2 : decode prog_54_method_9_code 2 = .ok (.iload_n 1, 1) := by decide +kernel
theorem d3_3 : decode prog_54_method_9_code 3 = .ok (.aload_n 0, 1) := by decide +kernel
theorem d3_4 : decode prog_54_method_9_code 4 = .ok (.getfield 22, 3) := by decide +kernel
theorem d3_7 : decode prog_54_method_9_code 7 = .ok (.if_icmp .ge 21, 3) := by decide +kernel
theorem d3_10 : decode prog_54_method_9_code 10 = .ok (.aload_n 0, 1) := by decide +kernel
theorem d3_11 : decode prog_54_method_9_code 11 = .ok (.getfield 7, 3) := by decide +kernel
theorem d3_14 : decode prog_54_method_9_code 14 = .ok (.aload_n 0, 1) := by decide +kernel
theorem d3_15 : decode prog_54_method_9_code 15 = .ok (.getfield 13, 3) := by decide +kernel
theorem d3_18 : decode prog_54_method_9_code 18 = .ok (.iload_n 1, 1) := by decide +kernel
theorem d3_19 : decode prog_54_method_9_code 19 = .ok (.iaload, 1) := by decide +kernel
theorem d3_20 : decode prog_54_method_9_code 20 = .ok (.iconst 0, 1) := by decide +kernel
theorem d3_21 : decode prog_54_method_9_code 21 = .ok (.iastore, 1) := by decide +kernel
theorem d3_22 : decode prog_54_method_9_code 22 = .ok (.iinc 1 1, 3) := by decide +kernel
theorem d3_25 : decode prog_54_method_9_code 25 = .ok (.goto (-23), 3) := by decide +kernel
theorem d3_28 : decode prog_54_method_9_code 28 = .ok (.aload_n 0, 1) := by decide +kernel
theorem d3_29 : decode prog_54_method_9_code 29 = .ok (.iconst 0, 1) := by decide +kernel
theorem d3_30 : decode prog_54_method_9_code 30 = .ok (.putfield 22, 3) := by decide +kernel
theorem d3_33 : decode prog_54_method_9_code 33 = .ok (.return_, 1) := by decide +kernel
theorem pn_3 : plainName "com/example/vertexwise/vertexwise/engine/PartSet" = true := by first | (simp [plainName, overriddenIn]; done) | decide +kernel
theorem ef_rm3 (m : MethodId) (x0 : Addr) : entryFrame m #[(.ref x0)] 2 = mkF m 0 #[.val (.ref x0), .unset] [] := by first | (simp [entryFrame, mkF, argsToLocals, Value.category]; done) | rfl
def Q_rm3 (Z : State) (a1 : Addr) (aL : Addr) (aR : Addr) (fl : Nat → Int32) (fp : Nat → Int32) (k : Nat) (h0 : Heap) (n0 : Nat) (v : Option Value) (h : Heap) (L : List Loc) : Prop := v = none ∧ Fr n0 L ∧ n0 ≤ h.size ∧ own_PS Z h a1 aL aR (fun _ => 0) fp 0
set_option maxRecDepth 65536 in
set_option maxHeartbeats 40000000 in
theorem rm3 (l : Launch) (Z : State) (a0 : Array Value) (hw : ∀ d ∈ tables_1, d.before a0 Z = true) (ws : List Jvm.Cond) (a1 : Addr) (aL : Addr) (aR : Addr) (fl : Nat → Int32) (fp : Nat → Int32) (k : Nat) (h0 : Heap) (n0 : Nat) (Z0 : n0 ≤ h0.size) (hps : own_PS Z h0 a1 aL aR fl fp k) (hne : own_NE n0 a1 aL aR) (hinv : own_inv fl fp k) (hk : k < 5) :
    MetFree l (⟨"com/example/vertexwise/vertexwise/engine/PartSet", "clear", "()V"⟩ : MethodName) (head1 (Jvm.Cond.code (⟨"com/example/vertexwise/vertexwise/engine/PartSet", "clear", "()V"⟩ : MethodName) prog_54_method_9_code 2 none :: ws) ({ frames := 0, cells := 0, slots := 0, locals := 0 } : Room)) (fun a U => a = #[(.ref a1)] ∧ Z.Warmed39 U.vm ∧ U.heap = h0) (fun _ _ _ _ _ => True) (fun _ U o U' => ∃ v L, o = .returned v ∧ Q_rm3 Z a1 aL aR fl fp k h0 n0 v U'.heap L ∧ FrameEnd U o U' L ({ frames := 0, cells := 0, slots := 0, locals := 0 } : Room).cells ({ frames := 0, cells := 0, slots := 0, locals := 0 } : Room).slots) := by
  refine MetFree.of_bodySF (plainFor_of_name pn_3) hisR ?_
  intro p e s m args below meth c s₁ Bd hml0 hP hK
  obtain ⟨rfl, hZ, hh⟩ := hP
  have hx := Bd.exec
  have hby := Bd.bytes
  have hml : c.maxLocals = 2 := hml0
  have hown : s.vm.findClass "com/example/vertexwise/vertexwise/engine/PartSet" = some m.cls := findClass_of_methodNamed Bd.named
  have hnm := (name_of_methodNamed Bd.named Bd.method).1
  have X0 : Stand p l e ({ frames := 0, cells := 0, slots := 0, locals := 0 } : Room) s m #[(.ref a1)] below meth c s₁ [] 0 0 := Stand.of_body Bd
  have e0 : s₁.heap = h0 := by rw [← hh, Bd.state]; rfl
  have N0 := Fr.nil n0
  refine own_in ?_
  refine own_of (s₁.setTop (mkF m 0 #[.val (.ref a1), .unset] [])) (fun t k => castTop (ef_rm3 m a1) k) ?_
  refine own_of (s₁.setTop (mkF m 1 #[.val (.ref a1), .unset] [(.int (0 : Int32))])) (fun t k => XS.iconst X0.here hx rfl (hb hby d3_0) k) ?_
  refine own_of (s₁.setTop (mkF m 2 #[.val (.ref a1), .val (.int (0 : Int32))] [])) (fun t k => XS.istoreN X0.here hx rfl (hb hby d3_1) rfl (l' := #[.val (.ref a1), .val (.int (0 : Int32))]) rfl k) ?_
  obtain ⟨g1, g2, g3, n1, n2, n3⟩ := hne
  have LOOP : ∀ (n i : Nat) (Tv : State) (hv : Heap) (lv : List Loc) (fv : Nat → Int32), i + n = k → (∀ j, j < 4 → fv j ≠ (0 : Int32) → ∃ t, i ≤ t ∧ t < k ∧ (fp t).toNatClampNeg = j) → Stand p l e ({ frames := 0, cells := 0, slots := 0, locals := 0 } : Room) s m #[(.ref a1)] below meth c Tv lv 0 0 → Tv.heap = hv → Fr n0 lv → n0 ≤ hv.size → own_PS Z hv a1 aL aR fv fp k → own_Dn p e below (fun o U' => ∃ v L, o = .returned v ∧ Q_rm3 Z a1 aL aR fl fp k h0 n0 v U'.heap L ∧ FrameEnd s o U' L ({ frames := 0, cells := 0, slots := 0, locals := 0 } : Room).cells ({ frames := 0, cells := 0, slots := 0, locals := 0 } : Room).slots) (Tv.setTop (mkF m 2 #[.val (.ref a1), .val (.int (Int32.ofNat i))] [])) := by
    intro n
    induction n with
    | zero =>
      intro i Tv hv lv fv hin hcov Xv eT Nv Zv hpv
      obtain ⟨E1v, F1v, F2v, F3v, V1v, V2v⟩ := hpv
      refine own_of (Tv.setTop (mkF m 3 #[.val (.ref a1), .val (.int (Int32.ofNat i))] [(.int (Int32.ofNat i))])) (fun t k => XS.iloadN Xv.here hx rfl (hb hby d3_2) rfl k) ?_
      refine own_of (Tv.setTop (mkF m 4 #[.val (.ref a1), .val (.int (Int32.ofNat i))] [(.ref a1), (.int (Int32.ofNat i))])) (fun t k => XS.aloadN Xv.here hx rfl (hb hby d3_3) rfl rfl k) ?_
      obtain ⟨T18, X18, e18, st18⟩ := getF Xv hx hZ hown (host := "") (Or.inl (hw _ (List.mem_of_getElem? (i := 19) rfl))) Via.refl eT F3v (g := (mkF m 4 #[.val (.ref a1), .val (.int (Int32.ofNat i))] [(.ref a1), (.int (Int32.ofNat i))])) rfl rfl (hb hby d3_4)
      refine own_of (T18.setTop (mkF m 7 #[.val (.ref a1), .val (.int (Int32.ofNat i))] [(.int (Int32.ofNat k)), (.int (Int32.ofNat i))])) (fun t q => st18 t q) ?_
      have hik : ¬ Int32.ofNat i < Int32.ofNat k := by rw [own_lt (by omega) (by omega)]; omega
      refine own_of (T18.setTop (mkF m 28 #[.val (.ref a1), .val (.int (Int32.ofNat i))] [])) (fun t k => XS.icmpYes X18.here hx rfl (pc0 := 7) (pc' := 28) rfl (hb hby d3_7) rfl (flt hik).2.1 (by decide) (by decide) k) ?_
      refine own_of (T18.setTop (mkF m 29 #[.val (.ref a1), .val (.int (Int32.ofNat i))] [(.ref a1)])) (fun t k => XS.aloadN X18.here hx rfl (hb hby d3_28) rfl rfl k) ?_
      refine own_of (T18.setTop (mkF m 30 #[.val (.ref a1), .val (.int (Int32.ofNat i))] [(.int (0 : Int32)), (.ref a1)])) (fun t k => XS.iconst X18.here hx rfl (hb hby d3_29) k) ?_
      obtain ⟨T19, h19, X19, e19, W19, st19⟩ := putF X18 hx hZ hown (host := "") (Or.inl (hw _ (List.mem_of_getElem? (i := 19) rfl))) Via.refl e18 F3v E1v (Or.inl (hw _ (List.mem_of_getElem? (i := 20) rfl))) (hw _ (List.mem_of_getElem? (i := 1) rfl)) (ty := .int) (by decide) rfl rfl (g := (mkF m 30 #[.val (.ref a1), .val (.int (Int32.ofNat i))] [(.int (0 : Int32)), (.ref a1)])) rfl rfl (hb hby d3_30)
      have N19 := Fr.snoc X19 Nv g1
      have f19_0 := E1v.wr W19
      have f19_1 := F1v.other W19 (Or.inr (slot_ne (Or.inr (hw _ (List.mem_of_getElem? (i := 11) rfl))) (Or.inl (hw _ (List.mem_of_getElem? (i := 20) rfl))) (by decide) (t := (.array .int)) (t' := .int) (by decide) (by decide)))
      have f19_2 := F2v.other W19 (Or.inr (slot_ne (Or.inr (hw _ (List.mem_of_getElem? (i := 13) rfl))) (Or.inl (hw _ (List.mem_of_getElem? (i := 20) rfl))) (by decide) (t := (.array .int)) (t' := .int) (by decide) (by decide)))
      have f19_3 := F3v.same W19
      have f19_4 := V1v.other W19 (Ne.symm n1)
      have f19_5 := V2v.other W19 (Ne.symm n2)
      have Z19 : n0 ≤ h19.size := Nat.le_trans Zv (Nat.le_of_eq W19.size.symm)
      refine own_of (T19.setTop (mkF m 33 #[.val (.ref a1), .val (.int (Int32.ofNat i))] [])) (fun t q => st19 t q) ?_
      have hz : ∀ j, j < 4 → fv j = (fun _ : Nat => (0 : Int32)) j := fun j hj => by
        by_cases q : fv j = (0 : Int32)
        · exact q
        · obtain ⟨t, h1, h2, -⟩ := hcov j hj q
          omega
      obtain ⟨fs, hr, hrun, hended, hW, hsame⟩ := X19.leave (v := none) (fun _ => rfl)
      refine ⟨_, _, X19.returnOut hx Bd.returns (hb hby d3_33) hr, hrun, hended, _, _, rfl, ?_, ⟨_, rfl⟩, hW, hsame.mono (by decide) (by decide)⟩
      show Q_rm3 Z a1 aL aR fl fp k h0 n0 _ T19.heap _
      rw [e19]
      exact ⟨rfl, N19, Z19, ⟨f19_0, f19_1, f19_2, f19_3, f19_4.congr hz, f19_5⟩⟩
    | succ n ih =>
      intro i Tv hv lv fv hin hcov Xv eT Nv Zv hpv
      obtain ⟨E1v, F1v, F2v, F3v, V1v, V2v⟩ := hpv
      refine own_of (Tv.setTop (mkF m 3 #[.val (.ref a1), .val (.int (Int32.ofNat i))] [(.int (Int32.ofNat i))])) (fun t k => XS.iloadN Xv.here hx rfl (hb hby d3_2) rfl k) ?_
      refine own_of (Tv.setTop (mkF m 4 #[.val (.ref a1), .val (.int (Int32.ofNat i))] [(.ref a1), (.int (Int32.ofNat i))])) (fun t k => XS.aloadN Xv.here hx rfl (hb hby d3_3) rfl rfl k) ?_
      obtain ⟨T20, X20, e20, st20⟩ := getF Xv hx hZ hown (host := "") (Or.inl (hw _ (List.mem_of_getElem? (i := 19) rfl))) Via.refl eT F3v (g := (mkF m 4 #[.val (.ref a1), .val (.int (Int32.ofNat i))] [(.ref a1), (.int (Int32.ofNat i))])) rfl rfl (hb hby d3_4)
      refine own_of (T20.setTop (mkF m 7 #[.val (.ref a1), .val (.int (Int32.ofNat i))] [(.int (Int32.ofNat k)), (.int (Int32.ofNat i))])) (fun t q => st20 t q) ?_
      have hik : Int32.ofNat i < Int32.ofNat k := (own_lt (by omega) (by omega)).mpr (by omega)
      refine own_of (T20.setTop (mkF m 10 #[.val (.ref a1), .val (.int (Int32.ofNat i))] [])) (fun t k => XS.icmpNo X20.here hx rfl (hb hby d3_7) rfl (tlt hik).2.1 k) ?_
      refine own_of (T20.setTop (mkF m 11 #[.val (.ref a1), .val (.int (Int32.ofNat i))] [(.ref a1)])) (fun t k => XS.aloadN X20.here hx rfl (hb hby d3_10) rfl rfl k) ?_
      obtain ⟨T21, X21, e21, st21⟩ := getF X20 hx hZ hown (host := "") (Or.inl (hw _ (List.mem_of_getElem? (i := 10) rfl))) Via.refl e20 F1v (g := (mkF m 11 #[.val (.ref a1), .val (.int (Int32.ofNat i))] [(.ref a1)])) rfl rfl (hb hby d3_11)
      refine own_of (T21.setTop (mkF m 14 #[.val (.ref a1), .val (.int (Int32.ofNat i))] [(.ref aL)])) (fun t q => st21 t q) ?_
      refine own_of (T21.setTop (mkF m 15 #[.val (.ref a1), .val (.int (Int32.ofNat i))] [(.ref a1), (.ref aL)])) (fun t k => XS.aloadN X21.here hx rfl (hb hby d3_14) rfl rfl k) ?_
      obtain ⟨T22, X22, e22, st22⟩ := getF X21 hx hZ hown (host := "") (Or.inl (hw _ (List.mem_of_getElem? (i := 12) rfl))) Via.refl e21 F2v (g := (mkF m 15 #[.val (.ref a1), .val (.int (Int32.ofNat i))] [(.ref a1), (.ref aL)])) rfl rfl (hb hby d3_15)
      refine own_of (T22.setTop (mkF m 18 #[.val (.ref a1), .val (.int (Int32.ofNat i))] [(.ref aR), (.ref aL)])) (fun t q => st22 t q) ?_
      refine own_of (T22.setTop (mkF m 19 #[.val (.ref a1), .val (.int (Int32.ofNat i))] [(.int (Int32.ofNat i)), (.ref aR), (.ref aL)])) (fun t k => XS.iloadN X22.here hx rfl (hb hby d3_18) rfl k) ?_
      refine own_of (T22.setTop (mkF m 20 #[.val (.ref a1), .val (.int (Int32.ofNat i))] [(.int (fp (Int32.ofNat i).toNatClampNeg)), (.ref aL)])) (fun t k => own_iald X22 hx hZ e22 V2v (own_at (show i < 4 by omega)) (g := (mkF m 19 #[.val (.ref a1), .val (.int (Int32.ofNat i))] [(.int (Int32.ofNat i)), (.ref aR), (.ref aL)])) rfl rfl (hb hby d3_19) t k) ?_
      rw [own_tn (show i < 6 by omega)]
      show own_Dn p e below _ (T22.setTop (mkF m 20 #[.val (.ref a1), .val (.int (Int32.ofNat i))] [(.int (fp i)), (.ref aL)]))
      refine own_of (T22.setTop (mkF m 21 #[.val (.ref a1), .val (.int (Int32.ofNat i))] [(.int (0 : Int32)), (.int (fp i)), (.ref aL)])) (fun t k => XS.iconst X22.here hx rfl (hb hby d3_20) k) ?_
      have hfi := hinv.2 i (by omega)
      obtain ⟨T23, h23, X23, e23, W23, st23⟩ := own_ist X22 hx hZ e22 V1v (j := (fp i)) hfi (g := (mkF m 21 #[.val (.ref a1), .val (.int (Int32.ofNat i))] [(.int (0 : Int32)), (.int (fp i)), (.ref aL)])) rfl rfl (hb hby d3_21)
      have N23 := Fr.snoc X23 Nv g2
      have f23_0 := E1v.wr W23
      have f23_1 := F1v.other W23 (Or.inl n1)
      have f23_2 := F2v.other W23 (Or.inl n1)
      have f23_3 := F3v.other W23 (Or.inl n1)
      have f23_4 := (V1v.same W23 (hfi).2).congr (g := (fun j => if j = (fp i).toNatClampNeg then (0 : Int32) else fv j)) (fun j hj => rfl)
      have f23_5 := V2v.other W23 (Ne.symm n3)
      have Z23 : n0 ≤ h23.size := Nat.le_trans Zv (Nat.le_of_eq W23.size.symm)
      refine own_of (T23.setTop (mkF m 22 #[.val (.ref a1), .val (.int (Int32.ofNat i))] [])) (fun t q => st23 t q) ?_
      refine own_of (T23.setTop (mkF m 25 #[.val (.ref a1), .val (.int ((Int32.ofNat i) + (1 : Int32)))] [])) (fun t k => XS.iinc X23.here hx rfl (hb hby d3_22) rfl (l' := #[.val (.ref a1), .val (.int ((Int32.ofNat i) + (1 : Int32)))]) rfl k) ?_
      rw [own_up (show i < 6 by omega)]
      show own_Dn p e below _ (T23.setTop (mkF m 25 #[.val (.ref a1), .val (.int (Int32.ofNat (i + 1)))] []))
      refine own_of (T23.setTop (mkF m 2 #[.val (.ref a1), .val (.int (Int32.ofNat (i + 1)))] [])) (fun t k => XS.goto X23.here hx rfl (pc0 := 25) (pc' := 2) rfl (hb hby d3_25) (by decide) (by decide) k) ?_
      refine ih (i + 1) _ _ _ _ (by omega) (fun j hj q => ?_) X23 e23 N23 Z23 ⟨f23_0, f23_1, f23_2, f23_3, f23_4, f23_5⟩
      by_cases ej : j = (fp i).toNatClampNeg
      · rw [if_pos ej] at q; exact absurd rfl q
      · rw [if_neg ej] at q
        obtain ⟨t, h1, h2, h3⟩ := hcov j hj q
        refine ⟨t, ?_, h2, h3⟩
        rcases Nat.eq_or_lt_of_le h1 with r | r
        · subst r; exact absurd h3.symm ej
        · exact r
  exact LOOP k 0 _ _ _ _ (Nat.zero_add k) (fun j hj q => by obtain ⟨t, h1, h2⟩ := hinv.1 j hj q; exact ⟨t, Nat.zero_le t, h1, h2⟩) X0 e0 N0 Z0 hps
theorem pn_0 : plainName "com/example/vertexwise/vertexwise/engine/PartSetClearPinLaw" = true := by first | (simp [plainName, overriddenIn]; done) | decide +kernel
theorem ef_rm0 (m : MethodId) (x0 : Int32) (x1 : Int32) (x2 : Int32) (x3 : Int32) (x4 : Int32) : entryFrame m #[(.int x0), (.int x1), (.int x2), (.int x3), (.int x4)] maxLocals = mkF m 0 #[.val (.int x0), .val (.int x1), .val (.int x2), .val (.int x3), .val (.int x4), .unset, .unset, .unset, .unset, .unset, .unset] [] := by first | (simp [entryFrame, mkF, argsToLocals, Value.category, maxLocals]; done) | rfl
def Q_rm0 (Z : State) (p1 : Int32) (p2 : Int32) (p3 : Int32) (p4 : Int32) (p5 : Int32)  (h0 : Heap) (n0 : Nat) (v : Option Value) (h : Heap) (L : List Loc) : Prop := v = some (.int 1) ∧ Fr n0 L
set_option maxRecDepth 65536 in
set_option maxHeartbeats 40000000 in
theorem rm0 (l : Launch) (Z : State) (a0 : Array Value) (hw : ∀ d ∈ tables_1, d.before a0 Z = true) (ws : List Jvm.Cond) (p1 : Int32) (p2 : Int32) (p3 : Int32) (p4 : Int32) (p5 : Int32)  (h0 : Heap) (n0 : Nat) (Z0 : n0 ≤ h0.size) :
    MetFree l x (head1 (Jvm.Cond.code x code maxLocals ret :: ws) room_1) (fun a U => a = #[(.int p1), (.int p2), (.int p3), (.int p4), (.int p5)] ∧ Z.Warmed39 U.vm ∧ U.heap = h0) (fun _ _ _ _ _ => True) (fun _ U o U' => ∃ v L, o = .returned v ∧ Q_rm0 Z p1 p2 p3 p4 p5  h0 n0 v U'.heap L ∧ FrameEnd U o U' L 16 128) := by
  refine MetFree.of_bodySF (plainFor_of_name pn_0) hisR ?_
  intro p e s m args below meth c s₁ Bd hml0 hP hK
  obtain ⟨rfl, hZ, hh⟩ := hP
  have hx := Bd.exec
  have hby := Bd.bytes
  have hml : c.maxLocals = 11 := hml0
  have hown : s.vm.findClass "com/example/vertexwise/vertexwise/engine/PartSetClearPinLaw" = some m.cls := findClass_of_methodNamed Bd.named
  have hnm := (name_of_methodNamed Bd.named Bd.method).1
  have X0 : Stand p l e room_1 s m #[(.int p1), (.int p2), (.int p3), (.int p4), (.int p5)] below meth c s₁ [] 0 0 := Stand.of_body Bd
  have e0 : s₁.heap = h0 := by rw [← hh, Bd.state]; rfl
  have N0 := Fr.nil n0
  refine own_in ?_
  refine own_of (s₁.setTop (mkF m 0 #[.val (.int p1), .val (.int p2), .val (.int p3), .val (.int p4), .val (.int p5), .unset, .unset, .unset, .unset, .unset, .unset] [])) (fun t k => castTop (ef_rm0 m p1 p2 p3 p4 p5) k) ?_
  refine own_of (s₁.setTop (mkF m 1 #[.val (.int p1), .val (.int p2), .val (.int p3), .val (.int p4), .val (.int p5), .unset, .unset, .unset, .unset, .unset, .unset] [(.int p1)])) (fun t k => XS.iloadN X0.here hx rfl (hb hby at_0) rfl k) ?_
  refine own_of (s₁.setTop (mkF m 2 #[.val (.int p1), .val (.int p2), .val (.int p3), .val (.int p4), .val (.int p5), .unset, .unset, .unset, .unset, .unset, .unset] [(.int (3 : Int32)), (.int p1)])) (fun t k => XS.iconst X0.here hx rfl (hb hby at_1) k) ?_
  refine own_of (s₁.setTop (mkF m 3 #[.val (.int p1), .val (.int p2), .val (.int p3), .val (.int p4), .val (.int p5), .unset, .unset, .unset, .unset, .unset, .unset] [(.int (p1 &&& (3 : Int32)))])) (fun t k => XS.iand X0.here hx rfl (hb hby at_2) rfl k) ?_
  refine own_of (s₁.setTop (mkF m 5 #[.val (.int p1), .val (.int p2), .val (.int p3), .val (.int p4), .val (.int p5), .val (.int (p1 &&& (3 : Int32))), .unset, .unset, .unset, .unset, .unset] [])) (fun t k => XS.istore X0.here hx rfl (hb hby at_3) rfl (l' := #[.val (.int p1), .val (.int p2), .val (.int p3), .val (.int p4), .val (.int p5), .val (.int (p1 &&& (3 : Int32))), .unset, .unset, .unset, .unset, .unset]) rfl k) ?_
  refine own_of (s₁.setTop (mkF m 6 #[.val (.int p1), .val (.int p2), .val (.int p3), .val (.int p4), .val (.int p5), .val (.int (p1 &&& (3 : Int32))), .unset, .unset, .unset, .unset, .unset] [(.int p2)])) (fun t k => XS.iloadN X0.here hx rfl (hb hby at_5) rfl k) ?_
  refine own_of (s₁.setTop (mkF m 7 #[.val (.int p1), .val (.int p2), .val (.int p3), .val (.int p4), .val (.int p5), .val (.int (p1 &&& (3 : Int32))), .unset, .unset, .unset, .unset, .unset] [(.int (3 : Int32)), (.int p2)])) (fun t k => XS.iconst X0.here hx rfl (hb hby at_6) k) ?_
  refine own_of (s₁.setTop (mkF m 8 #[.val (.int p1), .val (.int p2), .val (.int p3), .val (.int p4), .val (.int p5), .val (.int (p1 &&& (3 : Int32))), .unset, .unset, .unset, .unset, .unset] [(.int (p2 &&& (3 : Int32)))])) (fun t k => XS.iand X0.here hx rfl (hb hby at_7) rfl k) ?_
  refine own_of (s₁.setTop (mkF m 10 #[.val (.int p1), .val (.int p2), .val (.int p3), .val (.int p4), .val (.int p5), .val (.int (p1 &&& (3 : Int32))), .val (.int (p2 &&& (3 : Int32))), .unset, .unset, .unset, .unset] [])) (fun t k => XS.istore X0.here hx rfl (hb hby at_8) rfl (l' := #[.val (.int p1), .val (.int p2), .val (.int p3), .val (.int p4), .val (.int p5), .val (.int (p1 &&& (3 : Int32))), .val (.int (p2 &&& (3 : Int32))), .unset, .unset, .unset, .unset]) rfl k) ?_
  refine own_of (s₁.setTop (mkF m 11 #[.val (.int p1), .val (.int p2), .val (.int p3), .val (.int p4), .val (.int p5), .val (.int (p1 &&& (3 : Int32))), .val (.int (p2 &&& (3 : Int32))), .unset, .unset, .unset, .unset] [(.int p3)])) (fun t k => XS.iloadN X0.here hx rfl (hb hby at_10) rfl k) ?_
  refine own_of (s₁.setTop (mkF m 12 #[.val (.int p1), .val (.int p2), .val (.int p3), .val (.int p4), .val (.int p5), .val (.int (p1 &&& (3 : Int32))), .val (.int (p2 &&& (3 : Int32))), .unset, .unset, .unset, .unset] [(.int (3 : Int32)), (.int p3)])) (fun t k => XS.iconst X0.here hx rfl (hb hby at_11) k) ?_
  refine own_of (s₁.setTop (mkF m 13 #[.val (.int p1), .val (.int p2), .val (.int p3), .val (.int p4), .val (.int p5), .val (.int (p1 &&& (3 : Int32))), .val (.int (p2 &&& (3 : Int32))), .unset, .unset, .unset, .unset] [(.int (p3 &&& (3 : Int32)))])) (fun t k => XS.iand X0.here hx rfl (hb hby at_12) rfl k) ?_
  refine own_of (s₁.setTop (mkF m 15 #[.val (.int p1), .val (.int p2), .val (.int p3), .val (.int p4), .val (.int p5), .val (.int (p1 &&& (3 : Int32))), .val (.int (p2 &&& (3 : Int32))), .val (.int (p3 &&& (3 : Int32))), .unset, .unset, .unset] [])) (fun t k => XS.istore X0.here hx rfl (hb hby at_13) rfl (l' := #[.val (.int p1), .val (.int p2), .val (.int p3), .val (.int p4), .val (.int p5), .val (.int (p1 &&& (3 : Int32))), .val (.int (p2 &&& (3 : Int32))), .val (.int (p3 &&& (3 : Int32))), .unset, .unset, .unset]) rfl k) ?_
  refine own_of (s₁.setTop (mkF m 16 #[.val (.int p1), .val (.int p2), .val (.int p3), .val (.int p4), .val (.int p5), .val (.int (p1 &&& (3 : Int32))), .val (.int (p2 &&& (3 : Int32))), .val (.int (p3 &&& (3 : Int32))), .unset, .unset, .unset] [(.int p4)])) (fun t k => XS.iloadN X0.here hx rfl (hb hby at_15) rfl k) ?_
  refine own_of (s₁.setTop (mkF m 17 #[.val (.int p1), .val (.int p2), .val (.int p3), .val (.int p4), .val (.int p5), .val (.int (p1 &&& (3 : Int32))), .val (.int (p2 &&& (3 : Int32))), .val (.int (p3 &&& (3 : Int32))), .unset, .unset, .unset] [(.int (3 : Int32)), (.int p4)])) (fun t k => XS.iconst X0.here hx rfl (hb hby at_16) k) ?_
  refine own_of (s₁.setTop (mkF m 18 #[.val (.int p1), .val (.int p2), .val (.int p3), .val (.int p4), .val (.int p5), .val (.int (p1 &&& (3 : Int32))), .val (.int (p2 &&& (3 : Int32))), .val (.int (p3 &&& (3 : Int32))), .unset, .unset, .unset] [(.int (p4 &&& (3 : Int32)))])) (fun t k => XS.iand X0.here hx rfl (hb hby at_17) rfl k) ?_
  refine own_of (s₁.setTop (mkF m 20 #[.val (.int p1), .val (.int p2), .val (.int p3), .val (.int p4), .val (.int p5), .val (.int (p1 &&& (3 : Int32))), .val (.int (p2 &&& (3 : Int32))), .val (.int (p3 &&& (3 : Int32))), .val (.int (p4 &&& (3 : Int32))), .unset, .unset] [])) (fun t k => XS.istore X0.here hx rfl (hb hby at_18) rfl (l' := #[.val (.int p1), .val (.int p2), .val (.int p3), .val (.int p4), .val (.int p5), .val (.int (p1 &&& (3 : Int32))), .val (.int (p2 &&& (3 : Int32))), .val (.int (p3 &&& (3 : Int32))), .val (.int (p4 &&& (3 : Int32))), .unset, .unset]) rfl k) ?_
  have hpa := own_m3 p1
  generalize (p1 &&& (3 : Int32)) = pa at *
  have hpb := own_m3 p2
  generalize (p2 &&& (3 : Int32)) = pb at *
  have hpc := own_m3 p3
  generalize (p3 &&& (3 : Int32)) = pc at *
  have hpd := own_m3 p4
  generalize (p4 &&& (3 : Int32)) = pd at *
  show own_Dn p e below _ (s₁.setTop (mkF m 20 #[.val (.int p1), .val (.int p2), .val (.int p3), .val (.int p4), .val (.int p5), .val (.int pa), .val (.int pb), .val (.int pc), .val (.int pd), .unset, .unset] []))
  obtain ⟨T24, h24, X24, e24, E24, A24, D24, -, st24⟩ := newO X0 hx hZ hown (hw _ (List.mem_of_getElem? (i := 0) rfl)) (hw _ (List.mem_of_getElem? (i := 1) rfl)) (hw _ (List.mem_of_getElem? (i := 2) rfl)) e0 (g := (mkF m 20 #[.val (.int p1), .val (.int p2), .val (.int p3), .val (.int p4), .val (.int p5), .val (.int pa), .val (.int pb), .val (.int pc), .val (.int pd), .unset, .unset] [])) rfl (hb hby at_20) (by decide) (by decide)
  obtain ⟨a24, g24⟩ : ∃ z, z = h0.size := ⟨_, rfl⟩
  rw [← g24] at A24 D24 st24
  have fn24_0 : Fld Z h24 a24 "com/example/vertexwise/vertexwise/engine/PartSet" "listed" "[I" .null := D24 (Or.inr (hw _ (List.mem_of_getElem? (i := 11) rfl))) (ty := (.array .int)) (by decide)
  have fn24_1 : Fld Z h24 a24 "com/example/vertexwise/vertexwise/engine/PartSet" "parts" "[I" .null := D24 (Or.inr (hw _ (List.mem_of_getElem? (i := 13) rfl))) (ty := (.array .int)) (by decide)
  have fn24_2 : Fld Z h24 a24 "com/example/vertexwise/vertexwise/engine/PartSet" "count" "I" (.int (0 : Int32)) := D24 (Or.inl (hw _ (List.mem_of_getElem? (i := 20) rfl))) (ty := .int) (by decide)
  have ge_a24 : n0 ≤ a24 := Nat.le_trans Z0 (Nat.le_of_eq g24.symm)
  have Z24 : n0 ≤ h24.size := Nat.le_trans Z0 E24.1
  refine own_of (T24.setTop (mkF m 23 #[.val (.int p1), .val (.int p2), .val (.int p3), .val (.int p4), .val (.int p5), .val (.int pa), .val (.int pb), .val (.int pc), .val (.int pd), .unset, .unset] [(.ref a24)])) (fun t q => st24 t q) ?_
  refine own_of (T24.setTop (mkF m 24 #[.val (.int p1), .val (.int p2), .val (.int p3), .val (.int p4), .val (.int p5), .val (.int pa), .val (.int pb), .val (.int pc), .val (.int pd), .unset, .unset] [(.ref a24), (.ref a24)])) (fun t k => XS.dup X24.here hx rfl (hb hby at_23) rfl rfl k) ?_
  refine own_of (T24.setTop (mkF m 25 #[.val (.int p1), .val (.int p2), .val (.int p3), .val (.int p4), .val (.int p5), .val (.int pa), .val (.int pb), .val (.int pc), .val (.int pd), .unset, .unset] [(.int (4 : Int32)), (.ref a24), (.ref a24)])) (fun t k => XS.iconst X24.here hx rfl (hb hby at_24) k) ?_
  obtain ⟨_, _, ⟨T25, L25, k25, n25⟩, -, X25, ⟨Lc25, hQ25, l25, y25, z25⟩, st25⟩ := X24.specialBack hx (y := (⟨"com/example/vertexwise/vertexwise/engine/PartSet", "<init>", "(I)V"⟩ : MethodName)) rfl hown (mvT hZ (hw _ (List.mem_of_getElem? (i := 3) rfl))) (mvT hZ (hw _ (List.mem_of_getElem? (i := 4) rfl))) (mvT hZ (hw _ (List.mem_of_getElem? (i := 5) rfl))) (by decide) (backOf (W := 1) (rm1 l Z a0 hw [] a24 (4 : Int32) h24 n0 Z24 A24 fn24_0 fn24_1 fn24_2 ge_a24 rfl) hZ (hw _ (List.mem_of_getElem? (i := 5) rfl)) (hw _ (List.mem_of_getElem? (i := 2) rfl)) (by decide) (by decide)) (g := (mkF m 25 #[.val (.int p1), .val (.int p2), .val (.int p3), .val (.int p4), .val (.int p5), .val (.int pa), .val (.int pb), .val (.int pc), .val (.int pd), .unset, .unset] [(.int (4 : Int32)), (.ref a24), (.ref a24)])) rfl (by rw [hml]; rfl) (Steps.refl _) (a := a24) (argsL := [(.int (4 : Int32))]) (rest := [(.ref a24)]) (lenOf (by decide +kernel : parseMethodDescriptor "(I)V" = some ⟨[.int], none⟩) rfl) rfl (by show 2 * 0 + _ ≤ _; exact Nat.le_of_eq rfl) (hb hby at_25) (fun _ _ => ⟨rfl, e24, (by decide : 1 + 2 ≤ _), (by decide : 3 + 8 ≤ _)⟩)
  dsimp only [Pt.U, Pt.locs, Pt.cells, Pt.slots] at X25 l25 y25 z25 st25 hQ25
  subst l25 y25 z25
  obtain ⟨rfl, Nq25, Zq25, aL, aR, hne, hps⟩ := hQ25
  have N25 := Fr.app N0 Nq25
  refine own_tr (T25.setTop (mkF m 28 #[.val (.int p1), .val (.int p2), .val (.int p3), .val (.int p4), .val (.int p5), .val (.int pa), .val (.int pb), .val (.int pc), .val (.int pd), .unset, .unset] [(.ref a24)])) st25 ?_
  refine own_of (T25.setTop (mkF m 30 #[.val (.int p1), .val (.int p2), .val (.int p3), .val (.int p4), .val (.int p5), .val (.int pa), .val (.int pb), .val (.int pc), .val (.int pd), .val (.ref a24), .unset] [])) (fun t k => XS.astore X25.here hx rfl (hb hby at_28) rfl rfl (l' := #[.val (.int p1), .val (.int p2), .val (.int p3), .val (.int p4), .val (.int p5), .val (.int pa), .val (.int pb), .val (.int pc), .val (.int pd), .val (.ref a24), .unset]) rfl k) ?_
  have J72 : ∀ (Tv : State) (lv : List Loc) (fl fp : Nat → Int32) (k : Nat), k ≤ 3 → own_inv fl fp k → Stand p l e room_1 s m #[(.int p1), (.int p2), (.int p3), (.int p4), (.int p5)] below meth c Tv lv 3 11 → Fr n0 lv → n0 ≤ Tv.heap.size → own_PS Z Tv.heap a24 aL aR fl fp k → own_Dn p e below (fun o U' => ∃ v L, o = .returned v ∧ Q_rm0 Z p1 p2 p3 p4 p5  h0 n0 v U'.heap L ∧ FrameEnd s o U' L 16 128) (Tv.setTop (mkF m 72 #[.val (.int p1), .val (.int p2), .val (.int p3), .val (.int p4), .val (.int p5), .val (.int pa), .val (.int pb), .val (.int pc), .val (.int pd), .val (.ref a24), .unset] [])) := by
    intro Tv lv fl fp k hk hinv Xv Nv Zv hpv
    refine own_of (Tv.setTop (mkF m 74 #[.val (.int p1), .val (.int p2), .val (.int p3), .val (.int p4), .val (.int p5), .val (.int pa), .val (.int pb), .val (.int pc), .val (.int pd), .val (.ref a24), .unset] [(.ref a24)])) (fun t k => XS.aload Xv.here hx rfl (hb hby at_72) rfl rfl k) ?_
    obtain ⟨cq26, kq26, qa26, qb26, qc26⟩ := isOf hZ rfl hpv.1
    obtain ⟨_, _, ⟨T26, L26, k26, n26⟩, -, X26, ⟨Lc26, hQ26, l26, y26, z26⟩, st26⟩ := Xv.virtualBack hx (y := (⟨"com/example/vertexwise/vertexwise/engine/PartSet", "clear", "()V"⟩ : MethodName)) (z := (⟨"com/example/vertexwise/vertexwise/engine/PartSet", "clear", "()V"⟩ : MethodName)) hown (mvT hZ (hw _ (List.mem_of_getElem? (i := 14) rfl))) (mvT hZ (hw _ (List.mem_of_getElem? (i := 15) rfl))) (notFace_of_selects (args := #[]) (mvT hZ (hw _ (List.mem_of_getElem? (i := 17) rfl)))) (mvT hZ (hw _ (List.mem_of_getElem? (i := 17) rfl))) (mvT hZ (hw _ (List.mem_of_getElem? (i := 16) rfl))) (by decide) (backOf (W := 0) (rm3 l Z a0 hw [] a24  aL aR fl fp k Tv.heap n0 Zv hpv hne hinv (by omega)) hZ (hw _ (List.mem_of_getElem? (i := 18) rfl)) (hw _ (List.mem_of_getElem? (i := 2) rfl)) (by decide) (by decide)) qa26 qc26 (g := (mkF m 74 #[.val (.int p1), .val (.int p2), .val (.int p3), .val (.int p4), .val (.int p5), .val (.int pa), .val (.int pb), .val (.int pc), .val (.int pd), .val (.ref a24), .unset] [(.ref a24)])) rfl (by rw [hml]; rfl) (Steps.refl _) (argsL := []) (rest := []) (lenOf (by decide +kernel : parseMethodDescriptor "()V" = some ⟨[], none⟩) rfl) rfl (by show 2 * 0 + _ ≤ _; exact Nat.le_of_eq rfl) (hb hby at_74) (fun _ _ => ⟨rfl, rfl, (by decide : 3 + 0 ≤ _), (by decide : 11 + 0 ≤ _)⟩)
    dsimp only [Pt.U, Pt.locs, Pt.cells, Pt.slots] at X26 l26 y26 z26 st26 hQ26
    subst l26 y26 z26
    obtain ⟨rfl, Nq26, Zq26, hpc26⟩ := hQ26
    have N26 := Fr.app Nv Nq26
    refine own_tr (T26.setTop (mkF m 77 #[.val (.int p1), .val (.int p2), .val (.int p3), .val (.int p4), .val (.int p5), .val (.int pa), .val (.int pb), .val (.int pc), .val (.int pd), .val (.ref a24), .unset] [])) st26 ?_
    refine own_of (T26.setTop (mkF m 79 #[.val (.int p1), .val (.int p2), .val (.int p3), .val (.int p4), .val (.int p5), .val (.int pa), .val (.int pb), .val (.int pc), .val (.int pd), .val (.ref a24), .unset] [(.ref a24)])) (fun t k => XS.aload X26.here hx rfl (hb hby at_77) rfl rfl k) ?_
    obtain ⟨cq27, kq27, qa27, qb27, qc27⟩ := isOf hZ rfl hpc26.1
    obtain ⟨_, _, ⟨T27, L27, k27, n27⟩, -, X27, ⟨Lc27, hQ27, l27, y27, z27⟩, st27⟩ := X26.virtualBack hx (y := (⟨"com/example/vertexwise/vertexwise/engine/PartSet", "count", "()I"⟩ : MethodName)) (z := (⟨"com/example/vertexwise/vertexwise/engine/PartSet", "count", "()I"⟩ : MethodName)) hown (mvT hZ (hw _ (List.mem_of_getElem? (i := 21) rfl))) (mvT hZ (hw _ (List.mem_of_getElem? (i := 22) rfl))) (notFace_of_selects (args := #[]) (mvT hZ (hw _ (List.mem_of_getElem? (i := 24) rfl)))) (mvT hZ (hw _ (List.mem_of_getElem? (i := 24) rfl))) (mvT hZ (hw _ (List.mem_of_getElem? (i := 23) rfl))) (by decide) (backOf (W := 0) (rm4 l Z a0 hw [] a24  aL aR (fun _ => 0) fp 0 T26.heap n0 Zq26 hpc26 hne) hZ (hw _ (List.mem_of_getElem? (i := 25) rfl)) (hw _ (List.mem_of_getElem? (i := 2) rfl)) (by decide) (by decide)) qa27 qc27 (g := (mkF m 79 #[.val (.int p1), .val (.int p2), .val (.int p3), .val (.int p4), .val (.int p5), .val (.int pa), .val (.int pb), .val (.int pc), .val (.int pd), .val (.ref a24), .unset] [(.ref a24)])) rfl (by rw [hml]; rfl) (Steps.refl _) (argsL := []) (rest := []) (lenOf (by decide +kernel : parseMethodDescriptor "()I" = some ⟨[], some .int⟩) rfl) rfl (by show 2 * 0 + _ ≤ _; exact Nat.le_of_eq rfl) (hb hby at_79) (fun _ _ => ⟨rfl, rfl, (by decide : 3 + 0 ≤ _), (by decide : 11 + 0 ≤ _)⟩)
    dsimp only [Pt.U, Pt.locs, Pt.cells, Pt.slots] at X27 l27 y27 z27 st27 hQ27
    subst l27 y27 z27
    obtain ⟨rfl, Nq27, eh27⟩ := hQ27
    have N27 := Fr.app N26 Nq27
    refine own_tr (T27.setTop (mkF m 82 #[.val (.int p1), .val (.int p2), .val (.int p3), .val (.int p4), .val (.int p5), .val (.int pa), .val (.int pb), .val (.int pc), .val (.int pd), .val (.ref a24), .unset] [(.int (Int32.ofNat 0))])) st27 ?_
    refine own_of (T27.setTop (mkF m 85 #[.val (.int p1), .val (.int p2), .val (.int p3), .val (.int p4), .val (.int p5), .val (.int pa), .val (.int pb), .val (.int pc), .val (.int pd), .val (.ref a24), .unset] [])) (fun t k => XS.ifNo X27.here hx rfl (hb hby at_82) rfl ((if0 _ _).trans (teq (by decide : Int32.ofNat 0 = 0)).2) k) ?_
    refine own_of (T27.setTop (mkF m 87 #[.val (.int p1), .val (.int p2), .val (.int p3), .val (.int p4), .val (.int p5), .val (.int pa), .val (.int pb), .val (.int pc), .val (.int pd), .val (.ref a24), .unset] [(.ref a24)])) (fun t k => XS.aload X27.here hx rfl (hb hby at_85) rfl rfl k) ?_
    refine own_of (T27.setTop (mkF m 89 #[.val (.int p1), .val (.int p2), .val (.int p3), .val (.int p4), .val (.int p5), .val (.int pa), .val (.int pb), .val (.int pc), .val (.int pd), .val (.ref a24), .unset] [(.int pa), (.ref a24)])) (fun t k => XS.iload X27.here hx rfl (hb hby at_87) rfl k) ?_
    obtain ⟨cq28, kq28, qa28, qb28, qc28⟩ := isOf hZ eh27 hpc26.1
    obtain ⟨_, _, ⟨T28, L28, k28, n28⟩, -, X28, ⟨Lc28, hQ28, l28, y28, z28⟩, st28⟩ := X27.virtualBack hx (y := (⟨"com/example/vertexwise/vertexwise/engine/PartSet", "contains", "(I)Z"⟩ : MethodName)) (z := (⟨"com/example/vertexwise/vertexwise/engine/PartSet", "contains", "(I)Z"⟩ : MethodName)) hown (mvT hZ (hw _ (List.mem_of_getElem? (i := 26) rfl))) (mvT hZ (hw _ (List.mem_of_getElem? (i := 27) rfl))) (notFace_of_selects (args := #[]) (mvT hZ (hw _ (List.mem_of_getElem? (i := 29) rfl)))) (mvT hZ (hw _ (List.mem_of_getElem? (i := 29) rfl))) (mvT hZ (hw _ (List.mem_of_getElem? (i := 28) rfl))) (by decide) (backOf (W := 0) (rm5 l Z a0 hw [] a24 pa aL aR (fun _ => 0) fp 0 T26.heap n0 Zq26 hpc26 hne hpa) hZ (hw _ (List.mem_of_getElem? (i := 30) rfl)) (hw _ (List.mem_of_getElem? (i := 2) rfl)) (by decide) (by decide)) qa28 qc28 (g := (mkF m 89 #[.val (.int p1), .val (.int p2), .val (.int p3), .val (.int p4), .val (.int p5), .val (.int pa), .val (.int pb), .val (.int pc), .val (.int pd), .val (.ref a24), .unset] [(.int pa), (.ref a24)])) rfl (by rw [hml]; rfl) (Steps.refl _) (argsL := [(.int pa)]) (rest := []) (lenOf (by decide +kernel : parseMethodDescriptor "(I)Z" = some ⟨[.int], some .boolean⟩) rfl) rfl (by show 2 * 0 + _ ≤ _; exact Nat.le_of_eq rfl) (hb hby at_89) (fun _ _ => ⟨rfl, eh27, (by decide : 3 + 0 ≤ _), (by decide : 11 + 0 ≤ _)⟩)
    dsimp only [Pt.U, Pt.locs, Pt.cells, Pt.slots] at X28 l28 y28 z28 st28 hQ28
    subst l28 y28 z28
    obtain ⟨rfl, Nq28, eh28⟩ := hQ28
    have N28 := Fr.app N27 Nq28
    refine own_tr (T28.setTop (mkF m 92 #[.val (.int p1), .val (.int p2), .val (.int p3), .val (.int p4), .val (.int p5), .val (.int pa), .val (.int pb), .val (.int pc), .val (.int pd), .val (.ref a24), .unset] [(.int (own_ct (fun _ => 0) pa.toNatClampNeg))])) st28 ?_
    refine own_of (T28.setTop (mkF m 95 #[.val (.int p1), .val (.int p2), .val (.int p3), .val (.int p4), .val (.int p5), .val (.int pa), .val (.int pb), .val (.int pc), .val (.int pd), .val (.ref a24), .unset] [])) (fun t k => XS.ifNo X28.here hx rfl (hb hby at_92) rfl ((if0 _ _).trans (teq (if_pos rfl : own_ct (fun _ => 0) pa.toNatClampNeg = 0)).2) k) ?_
    refine own_of (T28.setTop (mkF m 97 #[.val (.int p1), .val (.int p2), .val (.int p3), .val (.int p4), .val (.int p5), .val (.int pa), .val (.int pb), .val (.int pc), .val (.int pd), .val (.ref a24), .unset] [(.ref a24)])) (fun t k => XS.aload X28.here hx rfl (hb hby at_95) rfl rfl k) ?_
    refine own_of (T28.setTop (mkF m 99 #[.val (.int p1), .val (.int p2), .val (.int p3), .val (.int p4), .val (.int p5), .val (.int pa), .val (.int pb), .val (.int pc), .val (.int pd), .val (.ref a24), .unset] [(.int pb), (.ref a24)])) (fun t k => XS.iload X28.here hx rfl (hb hby at_97) rfl k) ?_
    obtain ⟨cq29, kq29, qa29, qb29, qc29⟩ := isOf hZ eh28 hpc26.1
    obtain ⟨_, _, ⟨T29, L29, k29, n29⟩, -, X29, ⟨Lc29, hQ29, l29, y29, z29⟩, st29⟩ := X28.virtualBack hx (y := (⟨"com/example/vertexwise/vertexwise/engine/PartSet", "contains", "(I)Z"⟩ : MethodName)) (z := (⟨"com/example/vertexwise/vertexwise/engine/PartSet", "contains", "(I)Z"⟩ : MethodName)) hown (mvT hZ (hw _ (List.mem_of_getElem? (i := 26) rfl))) (mvT hZ (hw _ (List.mem_of_getElem? (i := 27) rfl))) (notFace_of_selects (args := #[]) (mvT hZ (hw _ (List.mem_of_getElem? (i := 29) rfl)))) (mvT hZ (hw _ (List.mem_of_getElem? (i := 29) rfl))) (mvT hZ (hw _ (List.mem_of_getElem? (i := 28) rfl))) (by decide) (backOf (W := 0) (rm5 l Z a0 hw [] a24 pb aL aR (fun _ => 0) fp 0 T26.heap n0 Zq26 hpc26 hne hpb) hZ (hw _ (List.mem_of_getElem? (i := 30) rfl)) (hw _ (List.mem_of_getElem? (i := 2) rfl)) (by decide) (by decide)) qa29 qc29 (g := (mkF m 99 #[.val (.int p1), .val (.int p2), .val (.int p3), .val (.int p4), .val (.int p5), .val (.int pa), .val (.int pb), .val (.int pc), .val (.int pd), .val (.ref a24), .unset] [(.int pb), (.ref a24)])) rfl (by rw [hml]; rfl) (Steps.refl _) (argsL := [(.int pb)]) (rest := []) (lenOf (by decide +kernel : parseMethodDescriptor "(I)Z" = some ⟨[.int], some .boolean⟩) rfl) rfl (by show 2 * 0 + _ ≤ _; exact Nat.le_of_eq rfl) (hb hby at_99) (fun _ _ => ⟨rfl, eh28, (by decide : 3 + 0 ≤ _), (by decide : 11 + 0 ≤ _)⟩)
    dsimp only [Pt.U, Pt.locs, Pt.cells, Pt.slots] at X29 l29 y29 z29 st29 hQ29
    subst l29 y29 z29
    obtain ⟨rfl, Nq29, eh29⟩ := hQ29
    have N29 := Fr.app N28 Nq29
    refine own_tr (T29.setTop (mkF m 102 #[.val (.int p1), .val (.int p2), .val (.int p3), .val (.int p4), .val (.int p5), .val (.int pa), .val (.int pb), .val (.int pc), .val (.int pd), .val (.ref a24), .unset] [(.int (own_ct (fun _ => 0) pb.toNatClampNeg))])) st29 ?_
    refine own_of (T29.setTop (mkF m 105 #[.val (.int p1), .val (.int p2), .val (.int p3), .val (.int p4), .val (.int p5), .val (.int pa), .val (.int pb), .val (.int pc), .val (.int pd), .val (.ref a24), .unset] [])) (fun t k => XS.ifNo X29.here hx rfl (hb hby at_102) rfl ((if0 _ _).trans (teq (if_pos rfl : own_ct (fun _ => 0) pb.toNatClampNeg = 0)).2) k) ?_
    refine own_of (T29.setTop (mkF m 107 #[.val (.int p1), .val (.int p2), .val (.int p3), .val (.int p4), .val (.int p5), .val (.int pa), .val (.int pb), .val (.int pc), .val (.int pd), .val (.ref a24), .unset] [(.ref a24)])) (fun t k => XS.aload X29.here hx rfl (hb hby at_105) rfl rfl k) ?_
    refine own_of (T29.setTop (mkF m 109 #[.val (.int p1), .val (.int p2), .val (.int p3), .val (.int p4), .val (.int p5), .val (.int pa), .val (.int pb), .val (.int pc), .val (.int pd), .val (.ref a24), .unset] [(.int pc), (.ref a24)])) (fun t k => XS.iload X29.here hx rfl (hb hby at_107) rfl k) ?_
    obtain ⟨cq30, kq30, qa30, qb30, qc30⟩ := isOf hZ eh29 hpc26.1
    obtain ⟨_, _, ⟨T30, L30, k30, n30⟩, -, X30, ⟨Lc30, hQ30, l30, y30, z30⟩, st30⟩ := X29.virtualBack hx (y := (⟨"com/example/vertexwise/vertexwise/engine/PartSet", "contains", "(I)Z"⟩ : MethodName)) (z := (⟨"com/example/vertexwise/vertexwise/engine/PartSet", "contains", "(I)Z"⟩ : MethodName)) hown (mvT hZ (hw _ (List.mem_of_getElem? (i := 26) rfl))) (mvT hZ (hw _ (List.mem_of_getElem? (i := 27) rfl))) (notFace_of_selects (args := #[]) (mvT hZ (hw _ (List.mem_of_getElem? (i := 29) rfl)))) (mvT hZ (hw _ (List.mem_of_getElem? (i := 29) rfl))) (mvT hZ (hw _ (List.mem_of_getElem? (i := 28) rfl))) (by decide) (backOf (W := 0) (rm5 l Z a0 hw [] a24 pc aL aR (fun _ => 0) fp 0 T26.heap n0 Zq26 hpc26 hne hpc) hZ (hw _ (List.mem_of_getElem? (i := 30) rfl)) (hw _ (List.mem_of_getElem? (i := 2) rfl)) (by decide) (by decide)) qa30 qc30 (g := (mkF m 109 #[.val (.int p1), .val (.int p2), .val (.int p3), .val (.int p4), .val (.int p5), .val (.int pa), .val (.int pb), .val (.int pc), .val (.int pd), .val (.ref a24), .unset] [(.int pc), (.ref a24)])) rfl (by rw [hml]; rfl) (Steps.refl _) (argsL := [(.int pc)]) (rest := []) (lenOf (by decide +kernel : parseMethodDescriptor "(I)Z" = some ⟨[.int], some .boolean⟩) rfl) rfl (by show 2 * 0 + _ ≤ _; exact Nat.le_of_eq rfl) (hb hby at_109) (fun _ _ => ⟨rfl, eh29, (by decide : 3 + 0 ≤ _), (by decide : 11 + 0 ≤ _)⟩)
    dsimp only [Pt.U, Pt.locs, Pt.cells, Pt.slots] at X30 l30 y30 z30 st30 hQ30
    subst l30 y30 z30
    obtain ⟨rfl, Nq30, eh30⟩ := hQ30
    have N30 := Fr.app N29 Nq30
    refine own_tr (T30.setTop (mkF m 112 #[.val (.int p1), .val (.int p2), .val (.int p3), .val (.int p4), .val (.int p5), .val (.int pa), .val (.int pb), .val (.int pc), .val (.int pd), .val (.ref a24), .unset] [(.int (own_ct (fun _ => 0) pc.toNatClampNeg))])) st30 ?_
    refine own_of (T30.setTop (mkF m 115 #[.val (.int p1), .val (.int p2), .val (.int p3), .val (.int p4), .val (.int p5), .val (.int pa), .val (.int pb), .val (.int pc), .val (.int pd), .val (.ref a24), .unset] [])) (fun t k => XS.ifNo X30.here hx rfl (hb hby at_112) rfl ((if0 _ _).trans (teq (if_pos rfl : own_ct (fun _ => 0) pc.toNatClampNeg = 0)).2) k) ?_
    refine own_of (T30.setTop (mkF m 116 #[.val (.int p1), .val (.int p2), .val (.int p3), .val (.int p4), .val (.int p5), .val (.int pa), .val (.int pb), .val (.int pc), .val (.int pd), .val (.ref a24), .unset] [(.int (1 : Int32))])) (fun t k => XS.iconst X30.here hx rfl (hb hby at_115) k) ?_
    refine own_of (T30.setTop (mkF m 120 #[.val (.int p1), .val (.int p2), .val (.int p3), .val (.int p4), .val (.int p5), .val (.int pa), .val (.int pb), .val (.int pc), .val (.int pd), .val (.ref a24), .unset] [(.int (1 : Int32))])) (fun t k => XS.goto X30.here hx rfl (pc0 := 116) (pc' := 120) rfl (hb hby at_116) (by decide) (by decide) k) ?_
    refine own_of (T30.setTop (mkF m 122 #[.val (.int p1), .val (.int p2), .val (.int p3), .val (.int p4), .val (.int p5), .val (.int pa), .val (.int pb), .val (.int pc), .val (.int pd), .val (.ref a24), .val (.int (1 : Int32))] [])) (fun t k => XS.istore X30.here hx rfl (hb hby at_120) rfl (l' := #[.val (.int p1), .val (.int p2), .val (.int p3), .val (.int p4), .val (.int p5), .val (.int pa), .val (.int pb), .val (.int pc), .val (.int pd), .val (.ref a24), .val (.int (1 : Int32))]) rfl k) ?_
    refine own_of (T30.setTop (mkF m 124 #[.val (.int p1), .val (.int p2), .val (.int p3), .val (.int p4), .val (.int p5), .val (.int pa), .val (.int pb), .val (.int pc), .val (.int pd), .val (.ref a24), .val (.int (1 : Int32))] [(.int (1 : Int32))])) (fun t k => XS.iload X30.here hx rfl (hb hby at_122) rfl k) ?_
    refine own_of (T30.setTop (mkF m 129 #[.val (.int p1), .val (.int p2), .val (.int p3), .val (.int p4), .val (.int p5), .val (.int pa), .val (.int pb), .val (.int pc), .val (.int pd), .val (.ref a24), .val (.int (1 : Int32))] [])) (fun t k => XS.ifYes X30.here hx rfl (pc0 := 124) (pc' := 129) rfl (hb hby at_124) rfl ((if0 _ _).trans (feq (by decide : ¬ (1 : Int32) = 0)).2) (by decide) (by decide) k) ?_
    refine own_of (T30.setTop (mkF m 131 #[.val (.int p1), .val (.int p2), .val (.int p3), .val (.int p4), .val (.int p5), .val (.int pa), .val (.int pb), .val (.int pc), .val (.int pd), .val (.ref a24), .val (.int (1 : Int32))] [(.ref a24)])) (fun t k => XS.aload X30.here hx rfl (hb hby at_129) rfl rfl k) ?_
    refine own_of (T30.setTop (mkF m 133 #[.val (.int p1), .val (.int p2), .val (.int p3), .val (.int p4), .val (.int p5), .val (.int pa), .val (.int pb), .val (.int pc), .val (.int pd), .val (.ref a24), .val (.int (1 : Int32))] [(.int pd), (.ref a24)])) (fun t k => XS.iload X30.here hx rfl (hb hby at_131) rfl k) ?_
    obtain ⟨cq31, kq31, qa31, qb31, qc31⟩ := isOf hZ eh30 hpc26.1
    obtain ⟨_, _, ⟨T31, L31, k31, n31⟩, -, X31, ⟨Lc31, hQ31, l31, y31, z31⟩, st31⟩ := X30.virtualBack hx (y := (⟨"com/example/vertexwise/vertexwise/engine/PartSet", "add", "(I)V"⟩ : MethodName)) (z := (⟨"com/example/vertexwise/vertexwise/engine/PartSet", "add", "(I)V"⟩ : MethodName)) hown (mvT hZ (hw _ (List.mem_of_getElem? (i := 31) rfl))) (mvT hZ (hw _ (List.mem_of_getElem? (i := 32) rfl))) (notFace_of_selects (args := #[]) (mvT hZ (hw _ (List.mem_of_getElem? (i := 34) rfl)))) (mvT hZ (hw _ (List.mem_of_getElem? (i := 34) rfl))) (mvT hZ (hw _ (List.mem_of_getElem? (i := 33) rfl))) (by decide) (backOf (W := 0) (rm6 l Z a0 hw [] a24 pd aL aR (fun _ => 0) fp 0 T26.heap n0 Zq26 hpc26 hne hpd (by decide)) hZ (hw _ (List.mem_of_getElem? (i := 35) rfl)) (hw _ (List.mem_of_getElem? (i := 2) rfl)) (by decide) (by decide)) qa31 qc31 (g := (mkF m 133 #[.val (.int p1), .val (.int p2), .val (.int p3), .val (.int p4), .val (.int p5), .val (.int pa), .val (.int pb), .val (.int pc), .val (.int pd), .val (.ref a24), .val (.int (1 : Int32))] [(.int pd), (.ref a24)])) rfl (by rw [hml]; rfl) (Steps.refl _) (argsL := [(.int pd)]) (rest := []) (lenOf (by decide +kernel : parseMethodDescriptor "(I)V" = some ⟨[.int], none⟩) rfl) rfl (by show 2 * 0 + _ ≤ _; exact Nat.le_of_eq rfl) (hb hby at_133) (fun _ _ => ⟨rfl, eh30, (by decide : 3 + 0 ≤ _), (by decide : 11 + 0 ≤ _)⟩)
    dsimp only [Pt.U, Pt.locs, Pt.cells, Pt.slots] at X31 l31 y31 z31 st31 hQ31
    subst l31 y31 z31
    obtain ⟨rfl, Nq31, Zq31, hpc31⟩ := hQ31
    have N31 := Fr.app N30 Nq31
    refine own_tr (T31.setTop (mkF m 136 #[.val (.int p1), .val (.int p2), .val (.int p3), .val (.int p4), .val (.int p5), .val (.int pa), .val (.int pb), .val (.int pc), .val (.int pd), .val (.ref a24), .val (.int (1 : Int32))] [])) st31 ?_
    refine own_of (T31.setTop (mkF m 138 #[.val (.int p1), .val (.int p2), .val (.int p3), .val (.int p4), .val (.int p5), .val (.int pa), .val (.int pb), .val (.int pc), .val (.int pd), .val (.ref a24), .val (.int (1 : Int32))] [(.ref a24)])) (fun t k => XS.aload X31.here hx rfl (hb hby at_136) rfl rfl k) ?_
    obtain ⟨cq32, kq32, qa32, qb32, qc32⟩ := isOf hZ rfl hpc31.1
    obtain ⟨_, _, ⟨T32, L32, k32, n32⟩, -, X32, ⟨Lc32, hQ32, l32, y32, z32⟩, st32⟩ := X31.virtualBack hx (y := (⟨"com/example/vertexwise/vertexwise/engine/PartSet", "count", "()I"⟩ : MethodName)) (z := (⟨"com/example/vertexwise/vertexwise/engine/PartSet", "count", "()I"⟩ : MethodName)) hown (mvT hZ (hw _ (List.mem_of_getElem? (i := 21) rfl))) (mvT hZ (hw _ (List.mem_of_getElem? (i := 22) rfl))) (notFace_of_selects (args := #[]) (mvT hZ (hw _ (List.mem_of_getElem? (i := 24) rfl)))) (mvT hZ (hw _ (List.mem_of_getElem? (i := 24) rfl))) (mvT hZ (hw _ (List.mem_of_getElem? (i := 23) rfl))) (by decide) (backOf (W := 0) (rm4 l Z a0 hw [] a24  aL aR (own_af (fun _ => 0) pd.toNatClampNeg) (own_ap (fun _ => 0) pd.toNatClampNeg fp 0 pd) (own_ak (fun _ => 0) pd.toNatClampNeg 0) T31.heap n0 Zq31 hpc31 hne) hZ (hw _ (List.mem_of_getElem? (i := 25) rfl)) (hw _ (List.mem_of_getElem? (i := 2) rfl)) (by decide) (by decide)) qa32 qc32 (g := (mkF m 138 #[.val (.int p1), .val (.int p2), .val (.int p3), .val (.int p4), .val (.int p5), .val (.int pa), .val (.int pb), .val (.int pc), .val (.int pd), .val (.ref a24), .val (.int (1 : Int32))] [(.ref a24)])) rfl (by rw [hml]; rfl) (Steps.refl _) (argsL := []) (rest := []) (lenOf (by decide +kernel : parseMethodDescriptor "()I" = some ⟨[], some .int⟩) rfl) rfl (by show 2 * 0 + _ ≤ _; exact Nat.le_of_eq rfl) (hb hby at_138) (fun _ _ => ⟨rfl, rfl, (by decide : 3 + 0 ≤ _), (by decide : 11 + 0 ≤ _)⟩)
    dsimp only [Pt.U, Pt.locs, Pt.cells, Pt.slots] at X32 l32 y32 z32 st32 hQ32
    subst l32 y32 z32
    obtain ⟨rfl, Nq32, eh32⟩ := hQ32
    have N32 := Fr.app N31 Nq32
    refine own_tr (T32.setTop (mkF m 141 #[.val (.int p1), .val (.int p2), .val (.int p3), .val (.int p4), .val (.int p5), .val (.int pa), .val (.int pb), .val (.int pc), .val (.int pd), .val (.ref a24), .val (.int (1 : Int32))] [(.int (Int32.ofNat (own_ak (fun _ => 0) pd.toNatClampNeg 0)))])) st32 ?_
    refine own_of (T32.setTop (mkF m 142 #[.val (.int p1), .val (.int p2), .val (.int p3), .val (.int p4), .val (.int p5), .val (.int pa), .val (.int pb), .val (.int pc), .val (.int pd), .val (.ref a24), .val (.int (1 : Int32))] [(.int (1 : Int32)), (.int (Int32.ofNat (own_ak (fun _ => 0) pd.toNatClampNeg 0)))])) (fun t k => XS.iconst X32.here hx rfl (hb hby at_141) k) ?_
    refine own_of (T32.setTop (mkF m 145 #[.val (.int p1), .val (.int p2), .val (.int p3), .val (.int p4), .val (.int p5), .val (.int pa), .val (.int pb), .val (.int pc), .val (.int pd), .val (.ref a24), .val (.int (1 : Int32))] [])) (fun t k => XS.icmpNo X32.here hx rfl (hb hby at_142) rfl (teq (by rw [own_ak, if_pos rfl]; rfl : Int32.ofNat (own_ak (fun _ => 0) pd.toNatClampNeg 0) = (1 : Int32))).2 k) ?_
    refine own_of (T32.setTop (mkF m 147 #[.val (.int p1), .val (.int p2), .val (.int p3), .val (.int p4), .val (.int p5), .val (.int pa), .val (.int pb), .val (.int pc), .val (.int pd), .val (.ref a24), .val (.int (1 : Int32))] [(.ref a24)])) (fun t k => XS.aload X32.here hx rfl (hb hby at_145) rfl rfl k) ?_
    refine own_of (T32.setTop (mkF m 148 #[.val (.int p1), .val (.int p2), .val (.int p3), .val (.int p4), .val (.int p5), .val (.int pa), .val (.int pb), .val (.int pc), .val (.int pd), .val (.ref a24), .val (.int (1 : Int32))] [(.int (0 : Int32)), (.ref a24)])) (fun t k => XS.iconst X32.here hx rfl (hb hby at_147) k) ?_
    obtain ⟨cq33, kq33, qa33, qb33, qc33⟩ := isOf hZ eh32 hpc31.1
    obtain ⟨_, _, ⟨T33, L33, k33, n33⟩, -, X33, ⟨Lc33, hQ33, l33, y33, z33⟩, st33⟩ := X32.virtualBack hx (y := (⟨"com/example/vertexwise/vertexwise/engine/PartSet", "part", "(I)I"⟩ : MethodName)) (z := (⟨"com/example/vertexwise/vertexwise/engine/PartSet", "part", "(I)I"⟩ : MethodName)) hown (mvT hZ (hw _ (List.mem_of_getElem? (i := 36) rfl))) (mvT hZ (hw _ (List.mem_of_getElem? (i := 37) rfl))) (notFace_of_selects (args := #[]) (mvT hZ (hw _ (List.mem_of_getElem? (i := 39) rfl)))) (mvT hZ (hw _ (List.mem_of_getElem? (i := 39) rfl))) (mvT hZ (hw _ (List.mem_of_getElem? (i := 38) rfl))) (by decide) (backOf (W := 0) (rm7 l Z a0 hw [] a24 (0 : Int32) aL aR (own_af (fun _ => 0) pd.toNatClampNeg) (own_ap (fun _ => 0) pd.toNatClampNeg fp 0 pd) (own_ak (fun _ => 0) pd.toNatClampNeg 0) T31.heap n0 Zq31 hpc31 hne ⟨by decide, by decide⟩) hZ (hw _ (List.mem_of_getElem? (i := 40) rfl)) (hw _ (List.mem_of_getElem? (i := 2) rfl)) (by decide) (by decide)) qa33 qc33 (g := (mkF m 148 #[.val (.int p1), .val (.int p2), .val (.int p3), .val (.int p4), .val (.int p5), .val (.int pa), .val (.int pb), .val (.int pc), .val (.int pd), .val (.ref a24), .val (.int (1 : Int32))] [(.int (0 : Int32)), (.ref a24)])) rfl (by rw [hml]; rfl) (Steps.refl _) (argsL := [(.int (0 : Int32))]) (rest := []) (lenOf (by decide +kernel : parseMethodDescriptor "(I)I" = some ⟨[.int], some .int⟩) rfl) rfl (by show 2 * 0 + _ ≤ _; exact Nat.le_of_eq rfl) (hb hby at_148) (fun _ _ => ⟨rfl, eh32, (by decide : 3 + 0 ≤ _), (by decide : 11 + 0 ≤ _)⟩)
    dsimp only [Pt.U, Pt.locs, Pt.cells, Pt.slots] at X33 l33 y33 z33 st33 hQ33
    subst l33 y33 z33
    obtain ⟨rfl, Nq33, eh33⟩ := hQ33
    have N33 := Fr.app N32 Nq33
    refine own_tr (T33.setTop (mkF m 151 #[.val (.int p1), .val (.int p2), .val (.int p3), .val (.int p4), .val (.int p5), .val (.int pa), .val (.int pb), .val (.int pc), .val (.int pd), .val (.ref a24), .val (.int (1 : Int32))] [(.int (own_ap (fun _ => 0) pd.toNatClampNeg fp 0 pd (0 : Int32).toNatClampNeg))])) st33 ?_
    refine own_of (T33.setTop (mkF m 153 #[.val (.int p1), .val (.int p2), .val (.int p3), .val (.int p4), .val (.int p5), .val (.int pa), .val (.int pb), .val (.int pc), .val (.int pd), .val (.ref a24), .val (.int (1 : Int32))] [(.int pd), (.int (own_ap (fun _ => 0) pd.toNatClampNeg fp 0 pd (0 : Int32).toNatClampNeg))])) (fun t k => XS.iload X33.here hx rfl (hb hby at_151) rfl k) ?_
    refine own_of (T33.setTop (mkF m 156 #[.val (.int p1), .val (.int p2), .val (.int p3), .val (.int p4), .val (.int p5), .val (.int pa), .val (.int pb), .val (.int pc), .val (.int pd), .val (.ref a24), .val (.int (1 : Int32))] [])) (fun t k => XS.icmpNo X33.here hx rfl (hb hby at_153) rfl (teq (by rw [own_ap, if_pos rfl]; exact if_pos rfl : (own_ap (fun _ => 0) pd.toNatClampNeg fp 0 pd (0 : Int32).toNatClampNeg) = pd)).2 k) ?_
    refine own_of (T33.setTop (mkF m 157 #[.val (.int p1), .val (.int p2), .val (.int p3), .val (.int p4), .val (.int p5), .val (.int pa), .val (.int pb), .val (.int pc), .val (.int pd), .val (.ref a24), .val (.int (1 : Int32))] [(.int (1 : Int32))])) (fun t k => XS.iconst X33.here hx rfl (hb hby at_156) k) ?_
    refine own_of (T33.setTop (mkF m 161 #[.val (.int p1), .val (.int p2), .val (.int p3), .val (.int p4), .val (.int p5), .val (.int pa), .val (.int pb), .val (.int pc), .val (.int pd), .val (.ref a24), .val (.int (1 : Int32))] [(.int (1 : Int32))])) (fun t k => XS.goto X33.here hx rfl (pc0 := 157) (pc' := 161) rfl (hb hby at_157) (by decide) (by decide) k) ?_
    obtain ⟨fs, hr, hrun, hended, hW, hsame⟩ := X33.leave (v := some (.int (1 : Int32))) (fun h => by rw [Bd.returns] at h; cases h)
    refine ⟨_, _, retN X33 hx (t := .boolean) Bd.returns (by simp) (hb hby at_161) hr, hrun, hended, _, _, rfl, ?_, ⟨_, rfl⟩, hW, hsame.mono (by decide) (by decide)⟩
    show Q_rm0 Z p1 p2 p3 p4 p5  h0 n0 _ T33.heap _
    rw [eh33]
    exact ⟨rfl, N33⟩
  have J58 : ∀ (Tv : State) (lv : List Loc) (fl fp : Nat → Int32) (k : Nat), k ≤ 2 → own_inv fl fp k → Stand p l e room_1 s m #[(.int p1), (.int p2), (.int p3), (.int p4), (.int p5)] below meth c Tv lv 3 11 → Fr n0 lv → n0 ≤ Tv.heap.size → own_PS Z Tv.heap a24 aL aR fl fp k → own_Dn p e below (fun o U' => ∃ v L, o = .returned v ∧ Q_rm0 Z p1 p2 p3 p4 p5  h0 n0 v U'.heap L ∧ FrameEnd s o U' L 16 128) (Tv.setTop (mkF m 58 #[.val (.int p1), .val (.int p2), .val (.int p3), .val (.int p4), .val (.int p5), .val (.int pa), .val (.int pb), .val (.int pc), .val (.int pd), .val (.ref a24), .unset] [])) := by
    intro Tv lv fl fp k hk hinv Xv Nv Zv hpv
    refine own_of (Tv.setTop (mkF m 60 #[.val (.int p1), .val (.int p2), .val (.int p3), .val (.int p4), .val (.int p5), .val (.int pa), .val (.int pb), .val (.int pc), .val (.int pd), .val (.ref a24), .unset] [(.int p5)])) (fun t k => XS.iload Xv.here hx rfl (hb hby at_58) rfl k) ?_
    refine own_of (Tv.setTop (mkF m 61 #[.val (.int p1), .val (.int p2), .val (.int p3), .val (.int p4), .val (.int p5), .val (.int pa), .val (.int pb), .val (.int pc), .val (.int pd), .val (.ref a24), .unset] [(.int (4 : Int32)), (.int p5)])) (fun t k => XS.iconst Xv.here hx rfl (hb hby at_60) k) ?_
    refine own_of (Tv.setTop (mkF m 62 #[.val (.int p1), .val (.int p2), .val (.int p3), .val (.int p4), .val (.int p5), .val (.int pa), .val (.int pb), .val (.int pc), .val (.int pd), .val (.ref a24), .unset] [(.int (p5 &&& (4 : Int32)))])) (fun t k => XS.iand Xv.here hx rfl (hb hby at_61) rfl k) ?_
    by_cases hc34 : (p5 &&& (4 : Int32)) = (0 : Int32)
    · refine own_of (Tv.setTop (mkF m 72 #[.val (.int p1), .val (.int p2), .val (.int p3), .val (.int p4), .val (.int p5), .val (.int pa), .val (.int pb), .val (.int pc), .val (.int pd), .val (.ref a24), .unset] [])) (fun t k => XS.ifYes Xv.here hx rfl (pc0 := 62) (pc' := 72) rfl (hb hby at_62) rfl ((if0 _ _).trans (teq hc34).1) (by decide) (by decide) k) ?_
      exact J72 _ _ _ _ _ (by omega) hinv Xv Nv Zv hpv
    · refine own_of (Tv.setTop (mkF m 65 #[.val (.int p1), .val (.int p2), .val (.int p3), .val (.int p4), .val (.int p5), .val (.int pa), .val (.int pb), .val (.int pc), .val (.int pd), .val (.ref a24), .unset] [])) (fun t k => XS.ifNo Xv.here hx rfl (hb hby at_62) rfl ((if0 _ _).trans (feq hc34).1) k) ?_
      refine own_of (Tv.setTop (mkF m 67 #[.val (.int p1), .val (.int p2), .val (.int p3), .val (.int p4), .val (.int p5), .val (.int pa), .val (.int pb), .val (.int pc), .val (.int pd), .val (.ref a24), .unset] [(.ref a24)])) (fun t k => XS.aload Xv.here hx rfl (hb hby at_65) rfl rfl k) ?_
      refine own_of (Tv.setTop (mkF m 69 #[.val (.int p1), .val (.int p2), .val (.int p3), .val (.int p4), .val (.int p5), .val (.int pa), .val (.int pb), .val (.int pc), .val (.int pd), .val (.ref a24), .unset] [(.int pc), (.ref a24)])) (fun t k => XS.iload Xv.here hx rfl (hb hby at_67) rfl k) ?_
      obtain ⟨cq35, kq35, qa35, qb35, qc35⟩ := isOf hZ rfl hpv.1
      obtain ⟨_, _, ⟨T35, L35, k35, n35⟩, -, X35, ⟨Lc35, hQ35, l35, y35, z35⟩, st35⟩ := Xv.virtualBack hx (y := (⟨"com/example/vertexwise/vertexwise/engine/PartSet", "add", "(I)V"⟩ : MethodName)) (z := (⟨"com/example/vertexwise/vertexwise/engine/PartSet", "add", "(I)V"⟩ : MethodName)) hown (mvT hZ (hw _ (List.mem_of_getElem? (i := 31) rfl))) (mvT hZ (hw _ (List.mem_of_getElem? (i := 32) rfl))) (notFace_of_selects (args := #[]) (mvT hZ (hw _ (List.mem_of_getElem? (i := 34) rfl)))) (mvT hZ (hw _ (List.mem_of_getElem? (i := 34) rfl))) (mvT hZ (hw _ (List.mem_of_getElem? (i := 33) rfl))) (by decide) (backOf (W := 0) (rm6 l Z a0 hw [] a24 pc aL aR fl fp k Tv.heap n0 Zv hpv hne hpc (by omega)) hZ (hw _ (List.mem_of_getElem? (i := 35) rfl)) (hw _ (List.mem_of_getElem? (i := 2) rfl)) (by decide) (by decide)) qa35 qc35 (g := (mkF m 69 #[.val (.int p1), .val (.int p2), .val (.int p3), .val (.int p4), .val (.int p5), .val (.int pa), .val (.int pb), .val (.int pc), .val (.int pd), .val (.ref a24), .unset] [(.int pc), (.ref a24)])) rfl (by rw [hml]; rfl) (Steps.refl _) (argsL := [(.int pc)]) (rest := []) (lenOf (by decide +kernel : parseMethodDescriptor "(I)V" = some ⟨[.int], none⟩) rfl) rfl (by show 2 * 0 + _ ≤ _; exact Nat.le_of_eq rfl) (hb hby at_69) (fun _ _ => ⟨rfl, rfl, (by decide : 3 + 0 ≤ _), (by decide : 11 + 0 ≤ _)⟩)
      dsimp only [Pt.U, Pt.locs, Pt.cells, Pt.slots] at X35 l35 y35 z35 st35 hQ35
      subst l35 y35 z35
      obtain ⟨rfl, Nq35, Zq35, hpc35⟩ := hQ35
      have N35 := Fr.app Nv Nq35
      refine own_tr (T35.setTop (mkF m 72 #[.val (.int p1), .val (.int p2), .val (.int p3), .val (.int p4), .val (.int p5), .val (.int pa), .val (.int pb), .val (.int pc), .val (.int pd), .val (.ref a24), .unset] [])) st35 ?_
      have hle := own_ak_le fl pc.toNatClampNeg k
      exact J72 _ _ _ _ _ (by omega) (own_inv_add hinv hpc) X35 N35 Zq35 hpc35
  have J44 : ∀ (Tv : State) (lv : List Loc) (fl fp : Nat → Int32) (k : Nat), k ≤ 1 → own_inv fl fp k → Stand p l e room_1 s m #[(.int p1), (.int p2), (.int p3), (.int p4), (.int p5)] below meth c Tv lv 3 11 → Fr n0 lv → n0 ≤ Tv.heap.size → own_PS Z Tv.heap a24 aL aR fl fp k → own_Dn p e below (fun o U' => ∃ v L, o = .returned v ∧ Q_rm0 Z p1 p2 p3 p4 p5  h0 n0 v U'.heap L ∧ FrameEnd s o U' L 16 128) (Tv.setTop (mkF m 44 #[.val (.int p1), .val (.int p2), .val (.int p3), .val (.int p4), .val (.int p5), .val (.int pa), .val (.int pb), .val (.int pc), .val (.int pd), .val (.ref a24), .unset] [])) := by
    intro Tv lv fl fp k hk hinv Xv Nv Zv hpv
    refine own_of (Tv.setTop (mkF m 46 #[.val (.int p1), .val (.int p2), .val (.int p3), .val (.int p4), .val (.int p5), .val (.int pa), .val (.int pb), .val (.int pc), .val (.int pd), .val (.ref a24), .unset] [(.int p5)])) (fun t k => XS.iload Xv.here hx rfl (hb hby at_44) rfl k) ?_
    refine own_of (Tv.setTop (mkF m 47 #[.val (.int p1), .val (.int p2), .val (.int p3), .val (.int p4), .val (.int p5), .val (.int pa), .val (.int pb), .val (.int pc), .val (.int pd), .val (.ref a24), .unset] [(.int (2 : Int32)), (.int p5)])) (fun t k => XS.iconst Xv.here hx rfl (hb hby at_46) k) ?_
    refine own_of (Tv.setTop (mkF m 48 #[.val (.int p1), .val (.int p2), .val (.int p3), .val (.int p4), .val (.int p5), .val (.int pa), .val (.int pb), .val (.int pc), .val (.int pd), .val (.ref a24), .unset] [(.int (p5 &&& (2 : Int32)))])) (fun t k => XS.iand Xv.here hx rfl (hb hby at_47) rfl k) ?_
    by_cases hc36 : (p5 &&& (2 : Int32)) = (0 : Int32)
    · refine own_of (Tv.setTop (mkF m 58 #[.val (.int p1), .val (.int p2), .val (.int p3), .val (.int p4), .val (.int p5), .val (.int pa), .val (.int pb), .val (.int pc), .val (.int pd), .val (.ref a24), .unset] [])) (fun t k => XS.ifYes Xv.here hx rfl (pc0 := 48) (pc' := 58) rfl (hb hby at_48) rfl ((if0 _ _).trans (teq hc36).1) (by decide) (by decide) k) ?_
      exact J58 _ _ _ _ _ (by omega) hinv Xv Nv Zv hpv
    · refine own_of (Tv.setTop (mkF m 51 #[.val (.int p1), .val (.int p2), .val (.int p3), .val (.int p4), .val (.int p5), .val (.int pa), .val (.int pb), .val (.int pc), .val (.int pd), .val (.ref a24), .unset] [])) (fun t k => XS.ifNo Xv.here hx rfl (hb hby at_48) rfl ((if0 _ _).trans (feq hc36).1) k) ?_
      refine own_of (Tv.setTop (mkF m 53 #[.val (.int p1), .val (.int p2), .val (.int p3), .val (.int p4), .val (.int p5), .val (.int pa), .val (.int pb), .val (.int pc), .val (.int pd), .val (.ref a24), .unset] [(.ref a24)])) (fun t k => XS.aload Xv.here hx rfl (hb hby at_51) rfl rfl k) ?_
      refine own_of (Tv.setTop (mkF m 55 #[.val (.int p1), .val (.int p2), .val (.int p3), .val (.int p4), .val (.int p5), .val (.int pa), .val (.int pb), .val (.int pc), .val (.int pd), .val (.ref a24), .unset] [(.int pb), (.ref a24)])) (fun t k => XS.iload Xv.here hx rfl (hb hby at_53) rfl k) ?_
      obtain ⟨cq37, kq37, qa37, qb37, qc37⟩ := isOf hZ rfl hpv.1
      obtain ⟨_, _, ⟨T37, L37, k37, n37⟩, -, X37, ⟨Lc37, hQ37, l37, y37, z37⟩, st37⟩ := Xv.virtualBack hx (y := (⟨"com/example/vertexwise/vertexwise/engine/PartSet", "add", "(I)V"⟩ : MethodName)) (z := (⟨"com/example/vertexwise/vertexwise/engine/PartSet", "add", "(I)V"⟩ : MethodName)) hown (mvT hZ (hw _ (List.mem_of_getElem? (i := 31) rfl))) (mvT hZ (hw _ (List.mem_of_getElem? (i := 32) rfl))) (notFace_of_selects (args := #[]) (mvT hZ (hw _ (List.mem_of_getElem? (i := 34) rfl)))) (mvT hZ (hw _ (List.mem_of_getElem? (i := 34) rfl))) (mvT hZ (hw _ (List.mem_of_getElem? (i := 33) rfl))) (by decide) (backOf (W := 0) (rm6 l Z a0 hw [] a24 pb aL aR fl fp k Tv.heap n0 Zv hpv hne hpb (by omega)) hZ (hw _ (List.mem_of_getElem? (i := 35) rfl)) (hw _ (List.mem_of_getElem? (i := 2) rfl)) (by decide) (by decide)) qa37 qc37 (g := (mkF m 55 #[.val (.int p1), .val (.int p2), .val (.int p3), .val (.int p4), .val (.int p5), .val (.int pa), .val (.int pb), .val (.int pc), .val (.int pd), .val (.ref a24), .unset] [(.int pb), (.ref a24)])) rfl (by rw [hml]; rfl) (Steps.refl _) (argsL := [(.int pb)]) (rest := []) (lenOf (by decide +kernel : parseMethodDescriptor "(I)V" = some ⟨[.int], none⟩) rfl) rfl (by show 2 * 0 + _ ≤ _; exact Nat.le_of_eq rfl) (hb hby at_55) (fun _ _ => ⟨rfl, rfl, (by decide : 3 + 0 ≤ _), (by decide : 11 + 0 ≤ _)⟩)
      dsimp only [Pt.U, Pt.locs, Pt.cells, Pt.slots] at X37 l37 y37 z37 st37 hQ37
      subst l37 y37 z37
      obtain ⟨rfl, Nq37, Zq37, hpc37⟩ := hQ37
      have N37 := Fr.app Nv Nq37
      refine own_tr (T37.setTop (mkF m 58 #[.val (.int p1), .val (.int p2), .val (.int p3), .val (.int p4), .val (.int p5), .val (.int pa), .val (.int pb), .val (.int pc), .val (.int pd), .val (.ref a24), .unset] [])) st37 ?_
      have hle := own_ak_le fl pb.toNatClampNeg k
      exact J58 _ _ _ _ _ (by omega) (own_inv_add hinv hpb) X37 N37 Zq37 hpc37
  have J30 : ∀ (Tv : State) (lv : List Loc) (fl fp : Nat → Int32) (k : Nat), k ≤ 0 → own_inv fl fp k → Stand p l e room_1 s m #[(.int p1), (.int p2), (.int p3), (.int p4), (.int p5)] below meth c Tv lv 3 11 → Fr n0 lv → n0 ≤ Tv.heap.size → own_PS Z Tv.heap a24 aL aR fl fp k → own_Dn p e below (fun o U' => ∃ v L, o = .returned v ∧ Q_rm0 Z p1 p2 p3 p4 p5  h0 n0 v U'.heap L ∧ FrameEnd s o U' L 16 128) (Tv.setTop (mkF m 30 #[.val (.int p1), .val (.int p2), .val (.int p3), .val (.int p4), .val (.int p5), .val (.int pa), .val (.int pb), .val (.int pc), .val (.int pd), .val (.ref a24), .unset] [])) := by
    intro Tv lv fl fp k hk hinv Xv Nv Zv hpv
    refine own_of (Tv.setTop (mkF m 32 #[.val (.int p1), .val (.int p2), .val (.int p3), .val (.int p4), .val (.int p5), .val (.int pa), .val (.int pb), .val (.int pc), .val (.int pd), .val (.ref a24), .unset] [(.int p5)])) (fun t k => XS.iload Xv.here hx rfl (hb hby at_30) rfl k) ?_
    refine own_of (Tv.setTop (mkF m 33 #[.val (.int p1), .val (.int p2), .val (.int p3), .val (.int p4), .val (.int p5), .val (.int pa), .val (.int pb), .val (.int pc), .val (.int pd), .val (.ref a24), .unset] [(.int (1 : Int32)), (.int p5)])) (fun t k => XS.iconst Xv.here hx rfl (hb hby at_32) k) ?_
    refine own_of (Tv.setTop (mkF m 34 #[.val (.int p1), .val (.int p2), .val (.int p3), .val (.int p4), .val (.int p5), .val (.int pa), .val (.int pb), .val (.int pc), .val (.int pd), .val (.ref a24), .unset] [(.int (p5 &&& (1 : Int32)))])) (fun t k => XS.iand Xv.here hx rfl (hb hby at_33) rfl k) ?_
    by_cases hc38 : (p5 &&& (1 : Int32)) = (0 : Int32)
    · refine own_of (Tv.setTop (mkF m 44 #[.val (.int p1), .val (.int p2), .val (.int p3), .val (.int p4), .val (.int p5), .val (.int pa), .val (.int pb), .val (.int pc), .val (.int pd), .val (.ref a24), .unset] [])) (fun t k => XS.ifYes Xv.here hx rfl (pc0 := 34) (pc' := 44) rfl (hb hby at_34) rfl ((if0 _ _).trans (teq hc38).1) (by decide) (by decide) k) ?_
      exact J44 _ _ _ _ _ (by omega) hinv Xv Nv Zv hpv
    · refine own_of (Tv.setTop (mkF m 37 #[.val (.int p1), .val (.int p2), .val (.int p3), .val (.int p4), .val (.int p5), .val (.int pa), .val (.int pb), .val (.int pc), .val (.int pd), .val (.ref a24), .unset] [])) (fun t k => XS.ifNo Xv.here hx rfl (hb hby at_34) rfl ((if0 _ _).trans (feq hc38).1) k) ?_
      refine own_of (Tv.setTop (mkF m 39 #[.val (.int p1), .val (.int p2), .val (.int p3), .val (.int p4), .val (.int p5), .val (.int pa), .val (.int pb), .val (.int pc), .val (.int pd), .val (.ref a24), .unset] [(.ref a24)])) (fun t k => XS.aload Xv.here hx rfl (hb hby at_37) rfl rfl k) ?_
      refine own_of (Tv.setTop (mkF m 41 #[.val (.int p1), .val (.int p2), .val (.int p3), .val (.int p4), .val (.int p5), .val (.int pa), .val (.int pb), .val (.int pc), .val (.int pd), .val (.ref a24), .unset] [(.int pa), (.ref a24)])) (fun t k => XS.iload Xv.here hx rfl (hb hby at_39) rfl k) ?_
      obtain ⟨cq39, kq39, qa39, qb39, qc39⟩ := isOf hZ rfl hpv.1
      obtain ⟨_, _, ⟨T39, L39, k39, n39⟩, -, X39, ⟨Lc39, hQ39, l39, y39, z39⟩, st39⟩ := Xv.virtualBack hx (y := (⟨"com/example/vertexwise/vertexwise/engine/PartSet", "add", "(I)V"⟩ : MethodName)) (z := (⟨"com/example/vertexwise/vertexwise/engine/PartSet", "add", "(I)V"⟩ : MethodName)) hown (mvT hZ (hw _ (List.mem_of_getElem? (i := 31) rfl))) (mvT hZ (hw _ (List.mem_of_getElem? (i := 32) rfl))) (notFace_of_selects (args := #[]) (mvT hZ (hw _ (List.mem_of_getElem? (i := 34) rfl)))) (mvT hZ (hw _ (List.mem_of_getElem? (i := 34) rfl))) (mvT hZ (hw _ (List.mem_of_getElem? (i := 33) rfl))) (by decide) (backOf (W := 0) (rm6 l Z a0 hw [] a24 pa aL aR fl fp k Tv.heap n0 Zv hpv hne hpa (by omega)) hZ (hw _ (List.mem_of_getElem? (i := 35) rfl)) (hw _ (List.mem_of_getElem? (i := 2) rfl)) (by decide) (by decide)) qa39 qc39 (g := (mkF m 41 #[.val (.int p1), .val (.int p2), .val (.int p3), .val (.int p4), .val (.int p5), .val (.int pa), .val (.int pb), .val (.int pc), .val (.int pd), .val (.ref a24), .unset] [(.int pa), (.ref a24)])) rfl (by rw [hml]; rfl) (Steps.refl _) (argsL := [(.int pa)]) (rest := []) (lenOf (by decide +kernel : parseMethodDescriptor "(I)V" = some ⟨[.int], none⟩) rfl) rfl (by show 2 * 0 + _ ≤ _; exact Nat.le_of_eq rfl) (hb hby at_41) (fun _ _ => ⟨rfl, rfl, (by decide : 3 + 0 ≤ _), (by decide : 11 + 0 ≤ _)⟩)
      dsimp only [Pt.U, Pt.locs, Pt.cells, Pt.slots] at X39 l39 y39 z39 st39 hQ39
      subst l39 y39 z39
      obtain ⟨rfl, Nq39, Zq39, hpc39⟩ := hQ39
      have N39 := Fr.app Nv Nq39
      refine own_tr (T39.setTop (mkF m 44 #[.val (.int p1), .val (.int p2), .val (.int p3), .val (.int p4), .val (.int p5), .val (.int pa), .val (.int pb), .val (.int pc), .val (.int pd), .val (.ref a24), .unset] [])) st39 ?_
      have hle := own_ak_le fl pa.toNatClampNeg k
      exact J44 _ _ _ _ _ (by omega) (own_inv_add hinv hpa) X39 N39 Zq39 hpc39
  exact J30 _ _ _ _ _ (Nat.le_refl 0) own_inv0 X25 N25 Zq25 hps
set_option maxRecDepth 65536 in
set_option maxHeartbeats 40000000 in
theorem comes_1 {Post : Tables → Env → Array Value → State → Outcome → State → Prop} (hpost : ∀ tb e args s v u, (limb_1_1.after args s (.returned v) u = true ∧ limb_1_2.after args s (.returned v) u = true ∧ True) → FrameEnd s (.returned v) u (Jvm.fieldLocs frame_1_writes args s ++ Jvm.arrayLocs frame_1_arrays args s ++ Jvm.staticLocs frame_1_statics s) 16 128 → Post tb e args s (.returned v) u) :
    ArmFor flags0 classFile x code maxLocals ret World_1 tables_1 room_1 Calls_1 rest_1 Pre_1 Post := by
  intro l hfl _ _ p e ha hc hk s m args below hf hA hF happ hP
  obtain ⟨hcalls, hrest, hpre⟩ := hP
  obtain ⟨-, -, -, hnamed, -, -, -, hat⟩ := (Spec.applies_iff hf).mp happ
  obtain ⟨hg, hn⟩ := and_e (Cond.before_iff.mp (show (Jvm.Cond.and given_1 narrow_1).before args s = true from hpre))
  obtain ⟨h1, g0⟩ := and_e hg
  obtain ⟨w0, w1, w2, w3, w4, rfl⟩ : ∃ w0 w1 w2 w3 w4 : Value, args = #[w0, w1, w2, w3, w4] := by
    have hs : args.size = 5 := by simpa [Cond.value, given_1] using h1
    obtain ⟨L⟩ := args
    match L, hs with
    | [w0, w1, w2, w3, w4], _ => exact ⟨w0, w1, w2, w3, w4, rfl⟩
  have hw := fun d (hd : d ∈ tables_1) => atoms_spec (ws := Jvm.Cond.code x code maxLocals ret :: tables_1) hat d (List.mem_cons_of_mem _ hd)
  obtain ⟨c0, g1⟩ := and_e g0
  obtain ⟨i0, e0⟩ := is_v c0
  obtain rfl : w0 = (.int i0) := Option.some.inj e0
  obtain ⟨c1, g2⟩ := and_e g1
  obtain ⟨i1, e1⟩ := is_v c1
  obtain rfl : w1 = (.int i1) := Option.some.inj e1
  obtain ⟨c2, g3⟩ := and_e g2
  obtain ⟨i2, e2⟩ := is_v c2
  obtain rfl : w2 = (.int i2) := Option.some.inj e2
  obtain ⟨c3, g4⟩ := and_e g3
  obtain ⟨i3, e3⟩ := is_v c3
  obtain rfl : w3 = (.int i3) := Option.some.inj e3
  obtain ⟨i4, e4⟩ := is_v g4
  obtain rfl : w4 = (.int i4) := Option.some.inj e4
  obtain ⟨n, o, h1, h2, h3, _, L, rfl, ⟨rfl, N⟩, hq⟩ := rm0 l s _ hw tables_1 i0 i1 i2 i3 i4 s.heap s.heap.size (Nat.le_refl _) p e ha hc hk s m _ below hf ((Spec.applies_iff_loose hf).mp happ).1 ⟨rfl, State.Warmed39.refl s, rfl⟩ trivial
  refine ⟨n, _, h1, h2, h3, hpost _ _ _ _ _ _ ⟨Cond.after_iff.mpr rfl, Cond.after_iff.mpr (eq_i res_at (Term.int_eval (1)) rfl), trivial⟩ ⟨hq.1, hq.2.1, (hq.2.2.sift fun y hy => Or.inr (N y hy)).mono (by decide) (by decide)⟩⟩
theorem main_1_1 : Claimed_1_1 := comes_1 fun _ _ _ _ _ _ h hF => ⟨h.1, hF⟩
theorem main_1_2 : Claimed_1_2 := comes_1 fun _ _ _ _ _ _ h hF => ⟨h.2.1, hF⟩
end Jvm.Pilot.@@N@@
namespace Jvm.Pilot.@@N@@
open Jvm Jvm.ClassFile Sem Op Lib Jvm.Free Jvm.Stand Jvm.Pilot.@@N@@.Jvm.D
/-! MADE BY PROGRAM (witnessworld.py) out of the Statement's table words and the real class files: 9 classes; the members and pool entries that the words name. The judged class is class 1, her method 1. -/
namespace start1
open Jvm.ClassFile
def u (s : String) : CpInfo := .utf8 (stringToUtf16 s)
/-- a pool by its gaps: so many unusable entries, then the entry; so many at the end -/
def gap : Nat → List CpInfo → List CpInfo
  | 0, r => r
  | n + 1, r => .unusable :: gap n r
def poolList (es : List (Nat × CpInfo)) (last : Nat) : List CpInfo := es.foldr (fun e r => gap e.1 (e.2 :: r)) (gap last [])
def pool (es : List (Nat × CpInfo)) (last : Nat) : Array CpInfo := ⟨poolList es last⟩
def fileOf (pool : Array CpInfo) (this : Nat) (attrs : Array Attribute := #[]) (ms : Array MethodInfo := #[]) (fl : Nat := 33) (sup : Nat := 0) (ifs : Array Nat := #[]) (fds : Array FieldInfo := #[]) : ClassFile where
  minorVersion := 0
  majorVersion := 65
  constantPool := pool
  accessFlags := fl
  thisClass := this
  superClass := sup
  interfaces := ifs
  fields := fds
  methods := ms
  attributes := attrs
def plain (name : String) (sup : Option ClassId) : Class where
  name := name
  kind := .ordinary
  loader := none
  accessFlags := 33
  super := sup
  interfaces := #[]
  cf := none
  fields := #[]
  methods := #[]
  instanceTypes := #[]
  staticTypes := #[]
  resolved := #[]
  callSites := []
  init := .initialized
  statics := none
  mirror := none

def pool0 : Array CpInfo := pool [(5, u "<init>"), (0, u "()V"), (1, .class_ 10), (1, u "java/lang/Object")] 113

def k0c0 : Code := { maxStack := 0, maxLocals := 1, code := object_method_1_code, exceptionTable := #[], attributes := #[] }
def k0m0 : Method := { name := "<init>", desc := "()V", sig := { parameters := [], returnType := none }, accessFlags := 1, code := some k0c0 }
/-- java/lang/Object -/
def k0 : Class := { plain "java/lang/Object" none with
  accessFlags := 33
  interfaces := #[]
  cf := some (fileOf pool0 8 #[] #[{ accessFlags := 1, nameIndex := 5, descriptorIndex := 6, attributes := #[] }] 33 0 #[] #[])
  fields := #[]
  methods := #[k0m0]
  instanceTypes := #[]
  staticTypes := #[]
  resolved := Array.replicate 124 none
  statics := none }

def pool1 : Array CpInfo := pool [(2, .class_ 4), (1, u "java/lang/Object"), (0, u "<init>"), (0, u "()V"), (0, .class_ 8), (0, u "com/example/vertexwise/vertexwise/engine/PartSet"), (0, .methodref 7 10), (0, .nameAndType 5 11), (0, u "(I)V"), (0, .methodref 7 13), (0, .nameAndType 14 11), (0, u "add"), (0, .methodref 7 16), (0, .nameAndType 17 6), (0, u "clear"), (0, .methodref 7 19), (0, .nameAndType 20 21), (0, u "count"), (0, u "()I"), (0, .methodref 7 23), (0, .nameAndType 24 25), (0, u "contains"), (0, u "(I)Z"), (0, .methodref 7 27), (0, .nameAndType 28 29), (0, u "part"), (0, u "(I)I"), (0, .class_ 31), (0, u "com/example/vertexwise/vertexwise/engine/PartSetClearPinLaw"), (2, u "law"), (0, u "(IIIII)Z")] 3

def k1m0 : Method := { name := "<init>", desc := "()V", sig := { parameters := [], returnType := none }, accessFlags := 1, code := none }
def k1c1 : Code := { maxStack := 3, maxLocals := 11, code := code, exceptionTable := #[], attributes := #[] }
def k1m1 : Method := { name := "law", desc := "(IIIII)Z", sig := { parameters := [.int, .int, .int, .int, .int], returnType := some .boolean }, accessFlags := 9, code := some k1c1 }
/-- com/example/vertexwise/vertexwise/engine/PartSetClearPinLaw -/
def k1 : Class := { plain "com/example/vertexwise/vertexwise/engine/PartSetClearPinLaw" (some 0) with
  accessFlags := 49
  interfaces := #[]
  cf := some (fileOf pool1 30 #[] #[{ accessFlags := 1, nameIndex := 5, descriptorIndex := 6, attributes := #[] }, { accessFlags := 9, nameIndex := 34, descriptorIndex := 35, attributes := #[] }] 49 2 #[] #[])
  fields := #[]
  methods := #[k1m0, k1m1]
  instanceTypes := #[]
  staticTypes := #[]
  resolved := Array.replicate 39 none
  statics := none }

def pool2 : Array CpInfo := pool [(1, .methodref 2 3), (0, .class_ 4), (0, .nameAndType 5 6), (0, u "java/lang/Object"), (0, u "<init>"), (0, u "()V"), (0, .fieldref 8 9), (0, .class_ 10), (0, .nameAndType 11 12), (0, u "com/example/vertexwise/vertexwise/engine/PartSet"), (0, u "listed"), (0, u "[I"), (0, .fieldref 8 14), (0, .nameAndType 15 12), (0, u "parts"), (2, u "(I)V"), (2, u "add"), (0, .fieldref 8 23), (0, .nameAndType 24 25), (0, u "count"), (0, u "I"), (2, u "LISTED"), (0, u "Ljava/lang/invoke/VarHandle;"), (8, u "COUNT"), (47, u "()I"), (0, u "part"), (0, u "(I)I"), (0, u "contains"), (0, u "(I)Z"), (0, u "clear")] 5

def k2c0 : Code := { maxStack := 2, maxLocals := 2, code := prog_54_method_1_code, exceptionTable := #[], attributes := #[] }
def k2m0 : Method := { name := "<init>", desc := "(I)V", sig := { parameters := [.int], returnType := none }, accessFlags := 0, code := some k2c0 }
def k2c1 : Code := { maxStack := 5, maxLocals := 2, code := prog_54_method_3_code, exceptionTable := #[], attributes := #[] }
def k2m1 : Method := { name := "add", desc := "(I)V", sig := { parameters := [.int], returnType := none }, accessFlags := 0, code := some k2c1 }
def k2c2 : Code := { maxStack := 1, maxLocals := 1, code := prog_54_method_5_code, exceptionTable := #[], attributes := #[] }
def k2m2 : Method := { name := "count", desc := "()I", sig := { parameters := [], returnType := some .int }, accessFlags := 0, code := some k2c2 }
def k2c3 : Code := { maxStack := 2, maxLocals := 2, code := prog_54_method_6_code, exceptionTable := #[], attributes := #[] }
def k2m3 : Method := { name := "part", desc := "(I)I", sig := { parameters := [.int], returnType := some .int }, accessFlags := 0, code := some k2c3 }
def k2c4 : Code := { maxStack := 2, maxLocals := 2, code := prog_54_method_7_code, exceptionTable := #[], attributes := #[] }
def k2m4 : Method := { name := "contains", desc := "(I)Z", sig := { parameters := [.int], returnType := some .boolean }, accessFlags := 0, code := some k2c4 }
def k2c5 : Code := { maxStack := 3, maxLocals := 2, code := prog_54_method_9_code, exceptionTable := #[], attributes := #[] }
def k2m5 : Method := { name := "clear", desc := "()V", sig := { parameters := [], returnType := none }, accessFlags := 0, code := some k2c5 }
/-- com/example/vertexwise/vertexwise/engine/PartSet -/
def k2 : Class := { plain "com/example/vertexwise/vertexwise/engine/PartSet" (some 0) with
  accessFlags := 48
  interfaces := #[]
  cf := some (fileOf pool2 8 #[] #[{ accessFlags := 0, nameIndex := 5, descriptorIndex := 18, attributes := #[] }, { accessFlags := 0, nameIndex := 21, descriptorIndex := 18, attributes := #[] }, { accessFlags := 0, nameIndex := 24, descriptorIndex := 86, attributes := #[] }, { accessFlags := 0, nameIndex := 87, descriptorIndex := 88, attributes := #[] }, { accessFlags := 0, nameIndex := 89, descriptorIndex := 90, attributes := #[] }, { accessFlags := 0, nameIndex := 91, descriptorIndex := 6, attributes := #[] }] 48 2 #[] #[{ accessFlags := 26, nameIndex := 28, descriptorIndex := 29, attributes := #[] }, { accessFlags := 26, nameIndex := 38, descriptorIndex := 29, attributes := #[] }, { accessFlags := 18, nameIndex := 11, descriptorIndex := 12, attributes := #[] }, { accessFlags := 18, nameIndex := 15, descriptorIndex := 12, attributes := #[] }, { accessFlags := 2, nameIndex := 24, descriptorIndex := 25, attributes := #[] }])
  fields := #[{ name := "LISTED", type := (.object "java/lang/invoke/VarHandle"), accessFlags := 26, slot := 0, constantValue := 0 }, { name := "COUNT", type := (.object "java/lang/invoke/VarHandle"), accessFlags := 26, slot := 1, constantValue := 0 }, { name := "listed", type := (.array .int), accessFlags := 18, slot := 0, constantValue := 0 }, { name := "parts", type := (.array .int), accessFlags := 18, slot := 1, constantValue := 0 }, { name := "count", type := .int, accessFlags := 2, slot := 2, constantValue := 0 }]
  methods := #[k2m0, k2m1, k2m2, k2m3, k2m4, k2m5]
  instanceTypes := #[(.array .int), (.array .int), .int]
  staticTypes := #[(.object "java/lang/invoke/VarHandle"), (.object "java/lang/invoke/VarHandle")]
  resolved := Array.replicate 97 none
  statics := none }

def pool3 : Array CpInfo := pool [(1, u "java/lang/Cloneable"), (0, .class_ 1), (0, u "java/lang/Object"), (0, .class_ 3)] 3

/-- java/lang/Cloneable -/
def k3 : Class := { plain "java/lang/Cloneable" (some 0) with
  accessFlags := 1537
  interfaces := #[]
  cf := some (fileOf pool3 2 #[] #[] 1537 4 #[] #[])
  fields := #[]
  methods := #[]
  instanceTypes := #[]
  staticTypes := #[]
  resolved := Array.replicate 8 none
  statics := none }

def pool4 : Array CpInfo := pool [(1, u "java/io/Serializable"), (0, .class_ 1), (0, u "java/lang/Object"), (0, .class_ 3)] 3

/-- java/io/Serializable -/
def k4 : Class := { plain "java/io/Serializable" (some 0) with
  accessFlags := 1537
  interfaces := #[]
  cf := some (fileOf pool4 2 #[] #[] 1537 4 #[] #[])
  fields := #[]
  methods := #[]
  instanceTypes := #[]
  staticTypes := #[]
  resolved := Array.replicate 8 none
  statics := none }

/-- the primitive byte -/
def k5 : Class := { plain "byte" none with kind := .primitive 'B', accessFlags := 0x411 }
/-- [B -/
def k6 : Class := { plain "[B" (some 0) with kind := .array 5 .byte, interfaces := #[3, 4], accessFlags := 1041 }

/-- the primitive int -/
def k7 : Class := { plain "int" none with kind := .primitive 'I', accessFlags := 0x411 }
/-- [I -/
def k8 : Class := { plain "[I" (some 0) with kind := .array 7 .int, interfaces := #[3, 4], accessFlags := 1041 }

def heap : Heap := #[]
def classes : Array Class := #[k0, k1, k2, k3, k4, k5, k6, k7, k8]
def interned : List (Array UInt16 × Addr) := []
def slotsUsed : Nat := 0
def theMethod : MethodId := ⟨1, 1⟩
def args0 : Array Value := #[.int 5, .int 7, .int 9, .int 4, .int 8]
def aboutOver (below : List Frame) : State where
  vm := { classes := classes, interned := interned.toArray }
  heap := heap
  slotsUsed := slotsUsed
  threads := #[{ frames := .invoking theMethod args0 :: below }]
def below0 : List Frame := [.native { method := ⟨0, 0⟩, args := #[] }]
def about1 : State := aboutOver below0
def p0 : Program := .bare "" "" ""
def e0 : Env := launch0.env 0 0 0
theorem w_frames : about1.frames = Frame.invoking theMethod args0 :: below0 := rfl
set_option maxRecDepth 65536 in
theorem w_args : argsFit about1.vm theMethod args0 = true := by decide +kernel
set_option maxRecDepth 65536 in
theorem w_heap : heapFits about1 = true := by decide +kernel
set_option maxRecDepth 65536 in
theorem w_runnable : about1.curStatus? = some .runnable := by decide +kernel
set_option maxRecDepth 65536 in
theorem w_alone : about1.alone = true := by decide +kernel
set_option maxRecDepth 65536 in
theorem w_named : about1.methodNamed? x = some theMethod := by decide +kernel
set_option maxRecDepth 65536 in
theorem w_hears : about1.hears theMethod below0 = true := by decide +kernel
set_option maxRecDepth 65536 in
theorem w_ripe : about1.ripe theMethod args0 below0 = true := by decide +kernel
theorem w_running : about1.status = .running := rfl
set_option maxRecDepth 65536 in
theorem w_room : about1.hasRoom e0.platform room_1 = true :=
  launch0.hasRoom_least _ room_1 (by decide +kernel) (by decide +kernel) (by decide +kernel) (by decide +kernel) (by decide +kernel) (by decide +kernel)
theorem allAtoms_all (ts : List Jvm.Cond) (a : Array Jvm.Value) (st : Jvm.State) : (allAtoms ts).before a st = ts.all (fun c => c.before a st) := by
  induction ts with
  | nil => rfl
  | cons c t ih =>
    show (Jvm.Cond.and c (allAtoms t)).before a st = _
    rw [Jvm.Cond.before_and, ih, List.all_cons]
def words1 : List Jvm.Cond := Jvm.Cond.code x code maxLocals ret :: tables_1
/-- a 'code' word, met by the world's own term for the bytes: nothing is compared byte by byte -/
theorem code_word {y : MethodName} {bytes : ByteArray} {mx : Nat} {rt : Option FieldType} {a : Array Value} {s : State} {m : MethodId} {meth : Method} {c : Code} (h1 : s.methodNamed? y = some m) (h2 : s.vm.method? m = some meth) (h3 : meth.code = some c) (h4 : c.code = bytes)
    (h5 : (c.maxLocals == mx && c.exceptionTable.isEmpty && decide (c.maxStack ≤ mostOperands) && decide (meth.sig.returnType = rt) && !meth.locks && decide (parseMethodDescriptor y.desc = some meth.sig)) = true) : (Jvm.Cond.code y bytes mx rt).before a s = true := by
  simp only [Bool.and_eq_true, beq_iff_eq, Bool.not_eq_true', decide_eq_true_eq] at h5
  obtain ⟨⟨⟨⟨⟨g1, g2⟩, g3⟩, g4⟩, g5⟩, g6⟩ := h5
  simp [Cond.before, Cond.holds, Cond.value, h1, h2, h3, h4, g1, g2, g3, g4, g5, g6]
def isCode : Jvm.Cond → Bool
  | .code _ _ _ _ => true
  | _ => false
theorem all_split {L : List Jvm.Cond} {P : Jvm.Cond → Bool} (h1 : L.all (fun c => isCode c || P c) = true) (h2 : ∀ c ∈ L.filter isCode, P c = true) : L.all P = true := by
  refine List.all_eq_true.mpr fun c hc => ?_
  have h := List.all_eq_true.mp h1 c hc
  rcases Bool.eq_false_or_eq_true (isCode c) with hi | hi
  · exact h2 c (List.mem_filter.mpr ⟨hc, hi⟩)
  · simpa [hi] using h
set_option maxRecDepth 65536 in
theorem w_c0 : (Jvm.Cond.code x code maxLocals ret).before args0 about1 = true := code_word (m := ⟨1, 1⟩) (meth := k1m1) (c := k1c1) (by decide +kernel) rfl rfl rfl (by decide +kernel)
set_option maxRecDepth 65536 in
theorem w_c1 : (Jvm.Cond.code ({ cls := "com/example/vertexwise/vertexwise/engine/PartSet", name := "<init>", desc := "(I)V" } : Jvm.MethodName) prog_54_method_1_code (2 : Nat) (Option.none : Option Jvm.ClassFile.FieldType)).before args0 about1 = true := code_word (m := ⟨2, 0⟩) (meth := k2m0) (c := k2c0) (by decide +kernel) rfl rfl rfl (by decide +kernel)
set_option maxRecDepth 65536 in
theorem w_c2 : (Jvm.Cond.code ({ cls := "java/lang/Object", name := "<init>", desc := "()V" } : Jvm.MethodName) object_method_1_code (1 : Nat) (Option.none : Option Jvm.ClassFile.FieldType)).before args0 about1 = true := code_word (m := ⟨0, 0⟩) (meth := k0m0) (c := k0c0) (by decide +kernel) rfl rfl rfl (by decide +kernel)
set_option maxRecDepth 65536 in
theorem w_c3 : (Jvm.Cond.code ({ cls := "com/example/vertexwise/vertexwise/engine/PartSet", name := "clear", desc := "()V" } : Jvm.MethodName) prog_54_method_9_code (2 : Nat) (Option.none : Option Jvm.ClassFile.FieldType)).before args0 about1 = true := code_word (m := ⟨2, 5⟩) (meth := k2m5) (c := k2c5) (by decide +kernel) rfl rfl rfl (by decide +kernel)
set_option maxRecDepth 65536 in
theorem w_c4 : (Jvm.Cond.code ({ cls := "com/example/vertexwise/vertexwise/engine/PartSet", name := "count", desc := "()I" } : Jvm.MethodName) prog_54_method_5_code (1 : Nat) (Option.some Jvm.ClassFile.FieldType.int)).before args0 about1 = true := code_word (m := ⟨2, 2⟩) (meth := k2m2) (c := k2c2) (by decide +kernel) rfl rfl rfl (by decide +kernel)
set_option maxRecDepth 65536 in
theorem w_c5 : (Jvm.Cond.code ({ cls := "com/example/vertexwise/vertexwise/engine/PartSet", name := "contains", desc := "(I)Z" } : Jvm.MethodName) prog_54_method_7_code (2 : Nat) (Option.some Jvm.ClassFile.FieldType.boolean)).before args0 about1 = true := code_word (m := ⟨2, 4⟩) (meth := k2m4) (c := k2c4) (by decide +kernel) rfl rfl rfl (by decide +kernel)
set_option maxRecDepth 65536 in
theorem w_c6 : (Jvm.Cond.code ({ cls := "com/example/vertexwise/vertexwise/engine/PartSet", name := "add", desc := "(I)V" } : Jvm.MethodName) prog_54_method_3_code (2 : Nat) (Option.none : Option Jvm.ClassFile.FieldType)).before args0 about1 = true := code_word (m := ⟨2, 1⟩) (meth := k2m1) (c := k2c1) (by decide +kernel) rfl rfl rfl (by decide +kernel)
set_option maxRecDepth 65536 in
theorem w_c7 : (Jvm.Cond.code ({ cls := "com/example/vertexwise/vertexwise/engine/PartSet", name := "part", desc := "(I)I" } : Jvm.MethodName) prog_54_method_6_code (2 : Nat) (Option.some Jvm.ClassFile.FieldType.int)).before args0 about1 = true := code_word (m := ⟨2, 3⟩) (meth := k2m3) (c := k2c3) (by decide +kernel) rfl rfl rfl (by decide +kernel)
def codes1 : List Jvm.Cond := [Jvm.Cond.code x code maxLocals ret, Jvm.Cond.code ({ cls := "com/example/vertexwise/vertexwise/engine/PartSet", name := "<init>", desc := "(I)V" } : Jvm.MethodName) prog_54_method_1_code (2 : Nat) (Option.none : Option Jvm.ClassFile.FieldType), Jvm.Cond.code ({ cls := "java/lang/Object", name := "<init>", desc := "()V" } : Jvm.MethodName) object_method_1_code (1 : Nat) (Option.none : Option Jvm.ClassFile.FieldType), Jvm.Cond.code ({ cls := "com/example/vertexwise/vertexwise/engine/PartSet", name := "clear", desc := "()V" } : Jvm.MethodName) prog_54_method_9_code (2 : Nat) (Option.none : Option Jvm.ClassFile.FieldType), Jvm.Cond.code ({ cls := "com/example/vertexwise/vertexwise/engine/PartSet", name := "count", desc := "()I" } : Jvm.MethodName) prog_54_method_5_code (1 : Nat) (Option.some Jvm.ClassFile.FieldType.int), Jvm.Cond.code ({ cls := "com/example/vertexwise/vertexwise/engine/PartSet", name := "contains", desc := "(I)Z" } : Jvm.MethodName) prog_54_method_7_code (2 : Nat) (Option.some Jvm.ClassFile.FieldType.boolean), Jvm.Cond.code ({ cls := "com/example/vertexwise/vertexwise/engine/PartSet", name := "add", desc := "(I)V" } : Jvm.MethodName) prog_54_method_3_code (2 : Nat) (Option.none : Option Jvm.ClassFile.FieldType), Jvm.Cond.code ({ cls := "com/example/vertexwise/vertexwise/engine/PartSet", name := "part", desc := "(I)I" } : Jvm.MethodName) prog_54_method_6_code (2 : Nat) (Option.some Jvm.ClassFile.FieldType.int)]
set_option maxRecDepth 65536 in
theorem codes_eq : words1.filter isCode = codes1 := rfl
theorem w_codes : ∀ c ∈ words1.filter isCode, c.before args0 about1 = true := by
  rw [codes_eq]
  intro c hc
  simp only [codes1, List.mem_cons, List.not_mem_nil, or_false] at hc
  rcases hc with rfl | rfl | rfl | rfl | rfl | rfl | rfl | rfl
  · exact w_c0
  · exact w_c1
  · exact w_c2
  · exact w_c3
  · exact w_c4
  · exact w_c5
  · exact w_c6
  · exact w_c7
set_option maxRecDepth 65536 in
theorem w_t1 : (words1.take 24).all (fun c => isCode c || c.before args0 about1) = true := by decide +kernel
set_option maxRecDepth 65536 in
theorem w_t2 : (words1.drop 24).all (fun c => isCode c || c.before args0 about1) = true := by decide +kernel
theorem w_tables : (allAtoms (Jvm.Cond.code x code maxLocals ret :: tables_1)).before args0 about1 = true := by
  rw [allAtoms_all]
  show words1.all (fun c => c.before args0 about1) = true
  refine all_split ?_ w_codes
  rw [← List.take_append_drop 24 words1, List.all_append, w_t1, w_t2]
  rfl
set_option maxRecDepth 65536 in
theorem w_case : (Jvm.Cond.and given_1 narrow_1).before args0 about1 = true := by decide +kernel
theorem w_applies : (headSpec (Jvm.Cond.code x code maxLocals ret :: tables_1) room_1).applies x e0.platform about1 = true :=
  (Spec.applies_iff w_frames).mpr ⟨w_running, w_runnable, w_alone, w_named, w_hears, w_ripe, w_room, w_tables⟩
theorem atStart : AtStart classFile x code maxLocals ret World_1 tables_1 room_1 Calls_1 rest_1 Pre_1 launch0 p0 e0 about1 theMethod args0 below0 :=
  ⟨lists_1, trivial, launch0.admits_env _ _ _, launch0.least_env, fairChoices_fair.cas, fairChoices_fair.clock, w_frames, w_args, w_heap, w_applies, trivial, trivial, w_case⟩
end start1
theorem witness_1 : WitnessClaimed_1 := ⟨start1.p0, start1.e0, start1.about1, start1.theMethod, start1.args0, start1.below0, start1.atStart⟩
end Jvm.Pilot.@@N@@
