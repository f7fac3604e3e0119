import JvmDerived
import JvmDerived.Pilot.@@N@@Statement
import JvmDerived.Pilot.@@N@@Code
set_option linter.unusedVariables false
set_option linter.unusedSimpArgs false
namespace Jvm.RoadKit
open Sem ClassFile Op Lib Jvm.Stand Jvm.Free Jvm.LawKit
section New
variable {p : Program} {l : Launch} {e : Env} {R : Room} {s : State} {m : MethodId} {args : Array Value} {below : List Frame} {meth : Method} {c : Code} {T : State} {locs : List Loc} {cells slots : Nat}
theorem retI (X : Stand p l e R s m args below meth c T locs cells slots) (hx : p.tables.exec = Jvm.exec) {pc : Nat} {Ls : Array Slot} {z : Int32} {rest : List Value} (hret : meth.sig.returnType = some .int) (hd : decode c.code pc = .ok (.ireturn, 1)) {fs : List Frame}
    (hl : ∀ (f : JFrame) (acts : List Action), f.method = m → f.locked = none → f.entered = [] → (doReturn e (T.setTop f) acts (some (.int z))).1 = T.setFrames fs) : Steps p.tables e below (T.setTop (mkF m pc Ls (.int z :: rest))) (T.setFrames fs) := by
  have hm' : T.vm.method? m = some meth := X.method'
  have hn : narrow .int (.int z) = .int z := rfl
  show Steps p.tables e below (T.setTop { method := m, pc := pc, locals := Ls, stack := _ :: rest, locked := none }) _
  jvm_step X.here [X.here.top, hx, hd, hm', hret, hn]
  first | (intro acts; rw [hl _ acts rfl rfl rfl]) | rw [hl _ _ rfl rfl rfl]
  exact Steps.refl _
end New
/-- the run from A ends as P says -/
def own_Dn (p : Program) (e : Env) (below : List Frame) (P : Outcome → State → Prop) (A : State) : Prop := ∃ U o, Steps p.tables e below A U ∧ U.status = .running ∧ Ended U below o ∧ P o U
theorem own_in {p : Program} {e : Env} {below : List Frame} {P : Outcome → State → Prop} {A : State} (h : own_Dn p e below P A) : ∃ U o, Steps p.tables e below A U ∧ U.status = .running ∧ Ended U below o ∧ P o U := h
/-- one step (or many) from A to B -/
theorem own_of {p : Program} {e : Env} {below : List Frame} {P : Outcome → State → Prop} {A : State} (B : State) (st : ∀ t, Steps p.tables e below B t → Steps p.tables e below A t) (h : own_Dn p e below P B) : own_Dn p e below P A := by
  obtain ⟨U, o, h1, r⟩ := h
  exact ⟨U, o, st U h1, r⟩
theorem own_tr {p : Program} {e : Env} {below : List Frame} {P : Outcome → State → Prop} {A : State} (B : State) (st : Steps p.tables e below A B) (h : own_Dn p e below P B) : own_Dn p e below P A := by
  obtain ⟨U, o, h1, r⟩ := h
  exact ⟨U, o, st.trans h1, r⟩
end Jvm.RoadKit
namespace Jvm.Pilot.@@N@@
open Jvm Jvm.ClassFile Sem Op Lib Jvm.Free Jvm.Stand Jvm.LawKit Jvm.RoadKit Bundle Jvm.Pilot.@@N@@.Jvm.D
/-- the array at a: n places of the kind ty, place j holds the int f j -/
def own_Ar (Z : State) (h : Heap) (a : Addr) (ty : FieldType) (n : Nat) (f : Nat → Int32) : Prop := ∃ c : Cell, Arr Z h a c ty ∧ c.slots.size = n ∧ ∀ j, j < n → c.slots[j]? = some (Value.int (f j))
section Own
variable {Z : State} {h h' : Heap} {a b : Addr} {ty : FieldType} {n sl : Nat} {f : Nat → Int32}
theorem own_Ar.lt (F : own_Ar Z h a ty n f) : a < h.size := by obtain ⟨c, A, -⟩ := F; exact A.lt
theorem own_Ar.ext (F : own_Ar Z h a ty n f) (E : Ext h h') : own_Ar Z h' a ty n f := by obtain ⟨c, A, r⟩ := F; exact ⟨c, A.ext E, r⟩
theorem own_Ar.other {v : Value} (F : own_Ar Z h b ty n f) (W : Wr h h' a sl v) (q : b ≠ a) : own_Ar Z h' b ty n f := by obtain ⟨c, A, r⟩ := F; exact ⟨c, A.other W q, r⟩
theorem own_Ar.keep {ws : List Addr} (F : own_Ar Z h a ty n f) (K : Keep h h' ws) (q : a ∉ ws) : own_Ar Z h' a ty n f := by obtain ⟨c, A, r⟩ := F; exact ⟨c, ⟨K.2.1 a c A.1 q, A.2⟩, r⟩
theorem own_Ar.congr {g : Nat → Int32} (F : own_Ar Z h a ty n f) (q : ∀ j, j < n → f j = g j) : own_Ar Z h a ty n g := by
  obtain ⟨c, A, S, H⟩ := F
  exact ⟨c, A, S, fun j hj => by rw [H j hj, q j hj]⟩
theorem own_Ar.same {x : Int32} (F : own_Ar Z h a ty n f) (W : Wr h h' a sl (.int x)) (hi : sl < n) : own_Ar Z h' a ty n (fun j => if j = sl then x else f j) := by
  obtain ⟨c, A, S, H⟩ := F
  refine ⟨_, A.same W, by rw [sz_set]; exact S, fun j hj => ?_⟩
  by_cases q : j = sl
  · subst q
    simp [Cell.setSlot, S, hj]
  · simp only [Cell.setSlot, if_neg q]
    rw [Array.getElem?_setIfInBounds_ne (Ne.symm q)]
    exact H j hj
theorem own_Ar.new {k : ClassId} {z : Int32} (A : Arr Z h a (newA k ty z) ty) (hd : defaultValue ty = .int 0) (hn : z.toNatClampNeg = n) : own_Ar Z h a ty n (fun _ => 0) := by
  refine ⟨_, A, by rw [sz_new]; exact hn, fun j hj => ?_⟩
  simp [newA, hn, hj, hd]
variable {p : Program} {l : Launch} {e : Env} {R : Room} {s : State} {m : MethodId} {args : Array Value} {below : List Frame} {meth : Method} {c : Code} {T : State} {locs : List Loc} {cells slots : Nat}
theorem own_inb {c : Cell} {j : Int32} (S : c.slots.size = n) (hj : ¬ j < 0 ∧ j.toNatClampNeg < n) : ¬ (j < 0 ∨ c.slots.size ≤ j.toNatClampNeg) := by
  rw [S]; rintro (q | q)
  · exact hj.1 q
  · omega
theorem own_iald (X : Stand p l e R s m args below meth c T locs cells slots) (hx : p.tables.exec = Jvm.exec) (hZ : Z.Warmed39 s.vm) (eT : T.heap = h) (F : own_Ar Z h a .int n f) {j : Int32} (hj : ¬ j < 0 ∧ j.toNatClampNeg < n) {g : JFrame} (hg : g.method = m) {rest : List Value} (hs : g.stack = .int j :: .ref a :: rest) (hd : decode c.code g.pc = .ok (.iaload, 1)) (t : State)
    (k : Steps p.tables e below (T.setTop { g with pc := g.pc + 1, stack := .int (f j.toNatClampNeg) :: rest }) t) : Steps p.tables e below (T.setTop g) t := by
  obtain ⟨cl, A, S, H⟩ := F
  exact X.iaload hx (by rw [eT]; exact A.1) (State.isArrayOf_alike hZ.alike A.2.1) A.2.2 (own_inb S hj) (H _ hj.2) hg hs hd t k
theorem own_bald (X : Stand p l e R s m args below meth c T locs cells slots) (hx : p.tables.exec = Jvm.exec) (hZ : Z.Warmed39 s.vm) (eT : T.heap = h) (F : own_Ar Z h a .byte n f) {j : Int32} (hj : ¬ j < 0 ∧ j.toNatClampNeg < n) {g : JFrame} (hg : g.method = m) {rest : List Value} (hs : g.stack = .int j :: .ref a :: rest) (hd : decode c.code g.pc = .ok (.baload, 1)) (t : State)
    (k : Steps p.tables e below (T.setTop { g with pc := g.pc + 1, stack := .int (f j.toNatClampNeg) :: rest }) t) : Steps p.tables e below (T.setTop g) t := by
  obtain ⟨cl, A, S, H⟩ := F
  exact X.baloadBytes hx (by rw [eT]; exact A.1) (State.isArrayOf_alike hZ.alike A.2.1) A.2.2 (own_inb S hj) (H _ hj.2) hg hs hd t k
theorem own_ist (X : Stand p l e R s m args below meth c T locs cells slots) (hx : p.tables.exec = Jvm.exec) (hZ : Z.Warmed39 s.vm) (eT : T.heap = h) (F : own_Ar Z h a .int n f) {j x : Int32} (hj : ¬ j < 0 ∧ j.toNatClampNeg < n) {g : JFrame} (hg : g.method = m) {rest : List Value} (hs : g.stack = .int x :: .int j :: .ref a :: rest) (hd : decode c.code g.pc = .ok (.iastore, 1)) :
    ∃ T' h', Stand p l e R s m args below meth c T' (locs ++ [⟨a, j.toNatClampNeg⟩]) cells slots ∧ T'.heap = h' ∧ Wr h h' a j.toNatClampNeg (.int x) ∧ ∀ target, Steps p.tables e below (T'.setTop { g with pc := g.pc + 1, stack := rest }) target → Steps p.tables e below (T.setTop g) target := by
  obtain ⟨cl, A, S, H⟩ := F
  exact stI X hx hZ eT A (own_inb S hj) hg hs hd
theorem own_bst (X : Stand p l e R s m args below meth c T locs cells slots) (hx : p.tables.exec = Jvm.exec) (hZ : Z.Warmed39 s.vm) (eT : T.heap = h) (F : own_Ar Z h a .byte n f) {j x : Int32} (hj : ¬ j < 0 ∧ j.toNatClampNeg < n) {g : JFrame} (hg : g.method = m) {rest : List Value} (hs : g.stack = .int x :: .int j :: .ref a :: rest) (hd : decode c.code g.pc = .ok (.bastore, 1)) :
    ∃ T' h', Stand p l e R s m args below meth c T' (locs ++ [⟨a, j.toNatClampNeg⟩]) cells slots ∧ T'.heap = h' ∧ Wr h h' a j.toNatClampNeg (.int (nar .byte x)) ∧ ∀ target, Steps p.tables e below (T'.setTop { g with pc := g.pc + 1, stack := rest }) target → Steps p.tables e below (T.setTop g) target := by
  obtain ⟨cl, A, S, H⟩ := F
  exact stB X hx hZ eT A (own_inb S hj) hg hs hd
end Own
def own_draw (x b : Int32) : Int32 := nar .byte (if (x &&& (256 : Int32)) = (0 : Int32) then x.toInt8.toInt32 else b.toInt8.toInt32)
def own_b4 (b0 b1 b2 b3 : Int32) (j : Nat) : Int32 := match j with | 0 => b0 | 1 => b1 | 2 => b2 | _ => b3
def own_hd (b0 b1 b2 : Int32) : Int32 := (((b0 &&& (255 : Int32)) <<< ((16 : Int32) &&& 31)) ||| ((b1 &&& (255 : Int32)) <<< ((8 : Int32) &&& 31))) ||| (b2 &&& (255 : Int32))
def own_bom (n b0 b1 b2 : Int32) : Int32 := if n < (3 : Int32) then 0 else if b0 = (-17 : Int32) then (if b1 = (-69 : Int32) then (if b2 = (-65 : Int32) then 3 else 0) else 0) else 0
def own_ex (n b0 b1 b2 : Int32) : Int32 := if n < (3 : Int32) then 0 else if own_hd b0 b1 b2 = (15711167 : Int32) then 3 else 0
def own_byte (b : Int32) : Prop := -128 ≤ b.toInt ∧ b.toInt < 128
theorem own_nar (x : Int32) : own_byte (nar .byte x) := by
  have h := c_i2b x
  exact ⟨h.2.1, h.2.2⟩
theorem own_hdE (b0 b1 b2 : Int32) (h0 : own_byte b0) (h1 : own_byte b1) (h2 : own_byte b2) : own_hd b0 b1 b2 = (15711167 : Int32) ↔ b0 = (-17 : Int32) ∧ b1 = (-69 : Int32) ∧ b2 = (-65 : Int32) := by
  obtain ⟨h0, h0'⟩ := h0
  obtain ⟨h1, h1'⟩ := h1
  obtain ⟨h2, h2'⟩ := h2
  have m0 := c_mask b0 (255 : Int32) 8 (by decide) (by decide)
  have m1 := c_mask b1 (255 : Int32) 8 (by decide) (by decide)
  have m2 := c_mask b2 (255 : Int32) 8 (by decide) (by decide)
  have s0 := c_ishl (b0 &&& (255 : Int32)) (16 : Int32) 16 (by decide)
  have s1 := c_ishl (b1 &&& (255 : Int32)) (8 : Int32) 8 (by decide)
  have r0 := rng32 ((b0 &&& (255 : Int32)) <<< ((16 : Int32) &&& 31))
  have r1 := rng32 ((b1 &&& (255 : Int32)) <<< ((8 : Int32) &&& 31))
  unfold own_hd
  simp only [← Int32.toInt_inj]
  generalize (b0 &&& (255 : Int32)) <<< ((16 : Int32) &&& 31) = x0 at *
  generalize (b1 &&& (255 : Int32)) <<< ((8 : Int32) &&& 31) = x1 at *
  generalize (b2 &&& (255 : Int32)) = x2 at *
  generalize (b0 &&& (255 : Int32)) = y0 at *
  generalize (b1 &&& (255 : Int32)) = y1 at *
  have o1 := c_or x0 x1 16 (by decide) 65536 (by decide) (by omega) (by omega) (by omega)
  have r2 := rng32 (x0 ||| x1)
  have o2 := c_or (x0 ||| x1) x2 8 (by decide) 256 (by decide) (by omega) (by omega) (by omega)
  have r3 := rng32 ((x0 ||| x1) ||| x2)
  have e1 : (15711167 : Int32).toInt = 15711167 := rfl
  have e2 : (-17 : Int32).toInt = -17 := rfl
  have e3 : (-69 : Int32).toInt = -69 := rfl
  have e4 : (-65 : Int32).toInt = -65 := rfl
  rw [e1, e2, e3, e4]
  constructor
  · intro q
    omega
  · rintro ⟨q0, q1, q2⟩
    omega
theorem own_law (n b0 b1 b2 : Int32) (h0 : own_byte b0) (h1 : own_byte b1) (h2 : own_byte b2) : own_bom n b0 b1 b2 = own_ex n b0 b1 b2 := by
  unfold own_bom own_ex
  have h := own_hdE b0 b1 b2 h0 h1 h2
  by_cases k : own_hd b0 b1 b2 = (15711167 : Int32)
  · obtain ⟨q0, q1, q2⟩ := h.mp k
    simp only [k, if_true]
    simp only [q0, q1, q2, if_true]
  · have hn : ¬ (b0 = (-17 : Int32) ∧ b1 = (-69 : Int32) ∧ b2 = (-65 : Int32)) := fun q => k (h.mpr q)
    simp only [k, if_false]
    by_cases q0 : b0 = (-17 : Int32) <;> by_cases q1 : b1 = (-69 : Int32) <;> by_cases q2 : b2 = (-65 : Int32) <;> simp only [q0, q1, q2, if_true, if_false]
    exact absurd ⟨q0, q1, q2⟩ hn
theorem own_in4 (j : Int32) (h : j = 0 ∨ j = 1 ∨ j = 2 ∨ j = 3) : ¬ j < 0 ∧ j.toNatClampNeg < 4 := by
  rcases h with rfl | rfl | rfl | rfl <;> decide
theorem d1_0 : decode method_2_code 0 = .ok (.iload_n 0, 1) := by decide +kernel
theorem d1_1 : decode method_2_code 1 = .ok (.sipush 256, 3) := by decide +kernel
theorem d1_4 : decode method_2_code 4 = .ok (.iand, 1) := by decide +kernel
theorem d1_5 : decode method_2_code 5 = .ok (.ifCond .eq 8, 3) := by decide +kernel
theorem d1_8 : decode method_2_code 8 = .ok (.iload_n 1, 1) := by decide +kernel
theorem d1_9 : decode method_2_code 9 = .ok (.i2b, 1) := by decide +kernel
theorem d1_10 : decode method_2_code 10 = .ok (.goto 5, 3) := by decide +kernel
theorem d1_13 : decode method_2_code 13 = .ok (.iload_n 0, 1) := by decide +kernel
theorem d1_14 : decode method_2_code 14 = .ok (.i2b, 1) := by decide +kernel
theorem d1_15 : decode method_2_code 15 = .ok (.ireturn, 1) := by decide +kernel
theorem pn_1 : plainName "mendloom/io/Utf8ByteOrderMarkPinLaw" = true := by first | (simp [plainName, overriddenIn]; done) | decide +kernel
theorem ef_rm1 (m : MethodId) (x0 : Int32) (x1 : Int32) : entryFrame m #[(.int x0), (.int x1)] 2 = mkF m 0 #[.val (.int x0), .val (.int x1)] [] := by first | (simp [entryFrame, mkF, argsToLocals, Value.category]; done) | rfl
def Q_rm1 (Z : State) (p1 : Int32) (p2 : Int32)  (h0 : Heap) (n0 : Nat) (v : Option Value) (h : Heap) (L : List Loc) : Prop := v = some (.int (own_draw p1 p2)) ∧ Fr n0 L ∧ h = h0
set_option maxRecDepth 65536 in
set_option maxHeartbeats 40000000 in
theorem rm1 (l : Launch) (Z : State) (a0 : Array Value) (hw : ∀ d ∈ tables_1, d.before a0 Z = true) (ws : List Jvm.Cond) (p1 : Int32) (p2 : Int32)  (h0 : Heap) (n0 : Nat) (Z0 : n0 ≤ h0.size) :
    MetFree l (⟨"mendloom/io/Utf8ByteOrderMarkPinLaw", "draw", "(II)B"⟩ : MethodName) (head1 (Jvm.Cond.code (⟨"mendloom/io/Utf8ByteOrderMarkPinLaw", "draw", "(II)B"⟩ : MethodName) method_2_code 2 (some .byte) :: ws) ({ frames := 0, cells := 0, slots := 0, locals := 0 } : Room)) (fun a U => a = #[(.int p1), (.int p2)] ∧ Z.Warmed39 U.vm ∧ U.heap = h0) (fun _ _ _ _ _ => True) (fun _ U o U' => ∃ v L, o = .returned v ∧ Q_rm1 Z p1 p2  h0 n0 v U'.heap L ∧ FrameEnd U o U' L ({ frames := 0, cells := 0, slots := 0, locals := 0 } : Room).cells ({ frames := 0, cells := 0, slots := 0, locals := 0 } : Room).slots) := by
  refine MetFree.of_bodySF (plainFor_of_name pn_1) hisR ?_
  intro p e s m args below meth c s₁ Bd hml0 hP hK
  obtain ⟨rfl, hZ, hh⟩ := hP
  have hx := Bd.exec
  have hby := Bd.bytes
  have hml : c.maxLocals = 2 := hml0
  have hown : s.vm.findClass "mendloom/io/Utf8ByteOrderMarkPinLaw" = some m.cls := findClass_of_methodNamed Bd.named
  have hnm := (name_of_methodNamed Bd.named Bd.method).1
  have X0 : Stand p l e ({ frames := 0, cells := 0, slots := 0, locals := 0 } : Room) s m #[(.int p1), (.int p2)] below meth c s₁ [] 0 0 := Stand.of_body Bd
  have e0 : s₁.heap = h0 := by rw [← hh, Bd.state]; rfl
  have N0 := Fr.nil n0
  refine own_in ?_
  refine own_of (s₁.setTop (mkF m 0 #[.val (.int p1), .val (.int p2)] [])) (fun t k => castTop (ef_rm1 m p1 p2) k) ?_
  refine own_of (s₁.setTop (mkF m 1 #[.val (.int p1), .val (.int p2)] [(.int p1)])) (fun t k => XS.iloadN X0.here hx rfl (hb hby d1_0) rfl k) ?_
  refine own_of (s₁.setTop (mkF m 4 #[.val (.int p1), .val (.int p2)] [(.int (256 : Int32)), (.int p1)])) (fun t k => XS.sipush X0.here hx rfl (hb hby d1_1) k) ?_
  refine own_of (s₁.setTop (mkF m 5 #[.val (.int p1), .val (.int p2)] [(.int (p1 &&& (256 : Int32)))])) (fun t k => XS.iand X0.here hx rfl (hb hby d1_4) rfl k) ?_
  by_cases hc1 : (p1 &&& (256 : Int32)) = (0 : Int32)
  · refine own_of (s₁.setTop (mkF m 13 #[.val (.int p1), .val (.int p2)] [])) (fun t k => XS.ifYes X0.here hx rfl (pc0 := 5) (pc' := 13) rfl (hb hby d1_5) rfl ((if0 _ _).trans (teq hc1).1) (by decide) (by decide) k) ?_
    refine own_of (s₁.setTop (mkF m 14 #[.val (.int p1), .val (.int p2)] [(.int p1)])) (fun t k => XS.iloadN X0.here hx rfl (hb hby d1_13) rfl k) ?_
    refine own_of (s₁.setTop (mkF m 15 #[.val (.int p1), .val (.int p2)] [(.int (p1.toInt8.toInt32))])) (fun t k => XS.i2b X0.here hx rfl (hb hby d1_14) rfl k) ?_
    have hv : own_draw p1 p2 = nar .byte (p1.toInt8.toInt32) := by simp only [own_draw, hc1, if_true, if_false]
    obtain ⟨fs, hr, hrun, hended, hW, hsame⟩ := X0.leave (v := some (.int (nar .byte (p1.toInt8.toInt32)))) (fun h => by rw [Bd.returns] at h; cases h)
    refine ⟨_, _, retN X0 hx (t := .byte) Bd.returns (by simp) (hb hby d1_15) hr, hrun, hended, _, _, rfl, ?_, ⟨_, rfl⟩, hW, hsame.mono (by decide) (by decide)⟩
    show Q_rm1 Z p1 p2  h0 n0 _ s₁.heap _
    rw [e0]
    exact ⟨by rw [hv], N0, rfl⟩
  · refine own_of (s₁.setTop (mkF m 8 #[.val (.int p1), .val (.int p2)] [])) (fun t k => XS.ifNo X0.here hx rfl (hb hby d1_5) rfl ((if0 _ _).trans (feq hc1).1) k) ?_
    refine own_of (s₁.setTop (mkF m 9 #[.val (.int p1), .val (.int p2)] [(.int p2)])) (fun t k => XS.iloadN X0.here hx rfl (hb hby d1_8) rfl k) ?_
    refine own_of (s₁.setTop (mkF m 10 #[.val (.int p1), .val (.int p2)] [(.int (p2.toInt8.toInt32))])) (fun t k => XS.i2b X0.here hx rfl (hb hby d1_9) rfl k) ?_
    refine own_of (s₁.setTop (mkF m 15 #[.val (.int p1), .val (.int p2)] [(.int (p2.toInt8.toInt32))])) (fun t k => XS.goto X0.here hx rfl (pc0 := 10) (pc' := 15) rfl (hb hby d1_10) (by decide) (by decide) k) ?_
    have hv : own_draw p1 p2 = nar .byte (p2.toInt8.toInt32) := by simp only [own_draw, hc1, if_true, if_false]
    obtain ⟨fs, hr, hrun, hended, hW, hsame⟩ := X0.leave (v := some (.int (nar .byte (p2.toInt8.toInt32)))) (fun h => by rw [Bd.returns] at h; cases h)
    refine ⟨_, _, retN X0 hx (t := .byte) Bd.returns (by simp) (hb hby d1_15) hr, hrun, hended, _, _, rfl, ?_, ⟨_, rfl⟩, hW, hsame.mono (by decide) (by decide)⟩
    show Q_rm1 Z p1 p2  h0 n0 _ s₁.heap _
    rw [e0]
    exact ⟨by rw [hv], N0, rfl⟩
theorem d2_0 : decode prog_17_method_2_code 0 = .ok (.iload_n 1, 1) := by decide +kernel
theorem d2_1 : decode prog_17_method_2_code 1 = .ok (.iconst 3, 1) := by decide +kernel
theorem d2_2 : decode prog_17_method_2_code 2 = .ok (.if_icmp .lt 31, 3) := by decide +kernel
theorem d2_5 : decode prog_17_method_2_code 5 = .ok (.aload_n 0, 1) := by decide +kernel
theorem d2_6 : decode prog_17_method_2_code 6 = .ok (.iconst 0, 1) := by decide +kernel
theorem d2_7 : decode prog_17_method_2_code 7 = .ok (.baload, 1) := by decide +kernel
theorem d2_8 : decode prog_17_method_2_code 8 = .ok (.bipush (-17), 2) := by decide +kernel
theorem d2_10 : decode prog_17_method_2_code 10 = .ok (.if_icmp .ne 23, 3) := by decide +kernel
theorem d2_13 : decode prog_17_method_2_code 13 = .ok (.aload_n 0, 1) := by decide +kernel
theorem d2_14 : decode prog_17_method_2_code 14 = .ok (.iconst 1, 1) := by decide +kernel
theorem d2_15 : decode prog_17_method_2_code 15 = .ok (.baload, 1) := by decide +kernel
theorem d2_16 : decode prog_17_method_2_code 16 = .ok (.bipush (-69), 2) := by decide +kernel
theorem d2_18 : decode prog_17_method_2_code 18 = .ok (.if_icmp .ne 15, 3) := by decide +kernel
theorem d2_21 : decode prog_17_method_2_code 21 = .ok (.aload_n 0, 1) := by decide +kernel
theorem d2_22 : decode prog_17_method_2_code 22 = .ok (.iconst 2, 1) := by decide +kernel
theorem d2_23 : decode prog_17_method_2_code 23 = .ok (.baload, 1) := by decide +kernel
theorem d2_24 : decode prog_17_method_2_code 24 = .ok (.bipush (-65), 2) := by decide +kernel
theorem d2_26 : decode prog_17_method_2_code 26 = .ok (.if_icmp .ne 7, 3) := by decide +kernel
theorem d2_29 : decode prog_17_method_2_code 29 = .ok (.iconst 3, 1) := by decide +kernel
theorem d2_30 : decode prog_17_method_2_code 30 = .ok (.goto 4, 3) := by decide +kernel
theorem d2_33 : decode prog_17_method_2_code 33 = .ok (.iconst 0, 1) := by decide +kernel
theorem d2_34 : decode prog_17_method_2_code 34 = .ok (.ireturn, 1) := by decide +kernel
theorem pn_2 : plainName "mendloom/io/Utf8" = true := by first | (simp [plainName, overriddenIn]; done) | decide +kernel
theorem ef_rm2 (m : MethodId) (x0 : Addr) (x1 : Int32) : entryFrame m #[(.ref x0), (.int x1)] 2 = mkF m 0 #[.val (.ref x0), .val (.int x1)] [] := by first | (simp [entryFrame, mkF, argsToLocals, Value.category]; done) | rfl
def Q_rm2 (Z : State) (a1 : Addr) (p2 : Int32) (f : Nat → Int32) (h0 : Heap) (n0 : Nat) (v : Option Value) (h : Heap) (L : List Loc) : Prop := v = some (.int (own_bom p2 (f 0) (f 1) (f 2))) ∧ Fr n0 L ∧ h = h0
set_option maxRecDepth 65536 in
set_option maxHeartbeats 40000000 in
theorem rm2 (l : Launch) (Z : State) (a0 : Array Value) (hw : ∀ d ∈ tables_1, d.before a0 Z = true) (ws : List Jvm.Cond) (a1 : Addr) (p2 : Int32) (f : Nat → Int32) (h0 : Heap) (n0 : Nat) (Z0 : n0 ≤ h0.size) (V1 : own_Ar Z h0 a1 .byte 4 f) :
    MetFree l (⟨"mendloom/io/Utf8", "byteOrderMark", "([BI)I"⟩ : MethodName) (head1 (Jvm.Cond.code (⟨"mendloom/io/Utf8", "byteOrderMark", "([BI)I"⟩ : MethodName) prog_17_method_2_code 2 (some .int) :: ws) ({ frames := 0, cells := 0, slots := 0, locals := 0 } : Room)) (fun a U => a = #[(.ref a1), (.int p2)] ∧ Z.Warmed39 U.vm ∧ U.heap = h0) (fun _ _ _ _ _ => True) (fun _ U o U' => ∃ v L, o = .returned v ∧ Q_rm2 Z a1 p2 f h0 n0 v U'.heap L ∧ FrameEnd U o U' L ({ frames := 0, cells := 0, slots := 0, locals := 0 } : Room).cells ({ frames := 0, cells := 0, slots := 0, locals := 0 } : Room).slots) := by
  refine MetFree.of_bodySF (plainFor_of_name pn_2) hisR ?_
  intro p e s m args below meth c s₁ Bd hml0 hP hK
  obtain ⟨rfl, hZ, hh⟩ := hP
  have hx := Bd.exec
  have hby := Bd.bytes
  have hml : c.maxLocals = 2 := hml0
  have hown : s.vm.findClass "mendloom/io/Utf8" = some m.cls := findClass_of_methodNamed Bd.named
  have hnm := (name_of_methodNamed Bd.named Bd.method).1
  have X0 : Stand p l e ({ frames := 0, cells := 0, slots := 0, locals := 0 } : Room) s m #[(.ref a1), (.int p2)] below meth c s₁ [] 0 0 := Stand.of_body Bd
  have e0 : s₁.heap = h0 := by rw [← hh, Bd.state]; rfl
  have N0 := Fr.nil n0
  refine own_in ?_
  refine own_of (s₁.setTop (mkF m 0 #[.val (.ref a1), .val (.int p2)] [])) (fun t k => castTop (ef_rm2 m a1 p2) k) ?_
  refine own_of (s₁.setTop (mkF m 1 #[.val (.ref a1), .val (.int p2)] [(.int p2)])) (fun t k => XS.iloadN X0.here hx rfl (hb hby d2_0) rfl k) ?_
  refine own_of (s₁.setTop (mkF m 2 #[.val (.ref a1), .val (.int p2)] [(.int (3 : Int32)), (.int p2)])) (fun t k => XS.iconst X0.here hx rfl (hb hby d2_1) k) ?_
  by_cases hc2 : p2 < (3 : Int32)
  · refine own_of (s₁.setTop (mkF m 33 #[.val (.ref a1), .val (.int p2)] [])) (fun t k => XS.icmpYes X0.here hx rfl (pc0 := 2) (pc' := 33) rfl (hb hby d2_2) rfl (tlt hc2).1 (by decide) (by decide) k) ?_
    refine own_of (s₁.setTop (mkF m 34 #[.val (.ref a1), .val (.int p2)] [(.int (0 : Int32))])) (fun t k => XS.iconst X0.here hx rfl (hb hby d2_33) k) ?_
    have hv : own_bom p2 (f 0) (f 1) (f 2) = (0 : Int32) := by simp only [own_bom, hc2, if_true, if_false]
    obtain ⟨fs, hr, hrun, hended, hW, hsame⟩ := X0.leave (v := some (.int (0 : Int32))) (fun h => by rw [Bd.returns] at h; cases h)
    refine ⟨_, _, retI X0 hx Bd.returns (hb hby d2_34) hr, hrun, hended, _, _, rfl, ?_, ⟨_, rfl⟩, hW, hsame.mono (by decide) (by decide)⟩
    show Q_rm2 Z a1 p2 f h0 n0 _ s₁.heap _
    rw [e0]
    exact ⟨by rw [hv], N0, rfl⟩
  · refine own_of (s₁.setTop (mkF m 5 #[.val (.ref a1), .val (.int p2)] [])) (fun t k => XS.icmpNo X0.here hx rfl (hb hby d2_2) rfl (flt hc2).1 k) ?_
    refine own_of (s₁.setTop (mkF m 6 #[.val (.ref a1), .val (.int p2)] [(.ref a1)])) (fun t k => XS.aloadN X0.here hx rfl (hb hby d2_5) rfl rfl k) ?_
    refine own_of (s₁.setTop (mkF m 7 #[.val (.ref a1), .val (.int p2)] [(.int (0 : Int32)), (.ref a1)])) (fun t k => XS.iconst X0.here hx rfl (hb hby d2_6) k) ?_
    refine own_of (s₁.setTop (mkF m 8 #[.val (.ref a1), .val (.int p2)] [(.int (f 0))])) (fun t k => own_bald X0 hx hZ e0 V1 (own_in4 _ (by decide)) (g := (mkF m 7 #[.val (.ref a1), .val (.int p2)] [(.int (0 : Int32)), (.ref a1)])) rfl rfl (hb hby d2_7) t k) ?_
    refine own_of (s₁.setTop (mkF m 10 #[.val (.ref a1), .val (.int p2)] [(.int (-17 : Int32)), (.int (f 0))])) (fun t k => XS.bipush X0.here hx rfl (hb hby d2_8) k) ?_
    by_cases hc3 : (f 0) = (-17 : Int32)
    · refine own_of (s₁.setTop (mkF m 13 #[.val (.ref a1), .val (.int p2)] [])) (fun t k => XS.icmpNo X0.here hx rfl (hb hby d2_10) rfl (teq hc3).2 k) ?_
      refine own_of (s₁.setTop (mkF m 14 #[.val (.ref a1), .val (.int p2)] [(.ref a1)])) (fun t k => XS.aloadN X0.here hx rfl (hb hby d2_13) rfl rfl k) ?_
      refine own_of (s₁.setTop (mkF m 15 #[.val (.ref a1), .val (.int p2)] [(.int (1 : Int32)), (.ref a1)])) (fun t k => XS.iconst X0.here hx rfl (hb hby d2_14) k) ?_
      refine own_of (s₁.setTop (mkF m 16 #[.val (.ref a1), .val (.int p2)] [(.int (f 1))])) (fun t k => own_bald X0 hx hZ e0 V1 (own_in4 _ (by decide)) (g := (mkF m 15 #[.val (.ref a1), .val (.int p2)] [(.int (1 : Int32)), (.ref a1)])) rfl rfl (hb hby d2_15) t k) ?_
      refine own_of (s₁.setTop (mkF m 18 #[.val (.ref a1), .val (.int p2)] [(.int (-69 : Int32)), (.int (f 1))])) (fun t k => XS.bipush X0.here hx rfl (hb hby d2_16) k) ?_
      by_cases hc4 : (f 1) = (-69 : Int32)
      · refine own_of (s₁.setTop (mkF m 21 #[.val (.ref a1), .val (.int p2)] [])) (fun t k => XS.icmpNo X0.here hx rfl (hb hby d2_18) rfl (teq hc4).2 k) ?_
        refine own_of (s₁.setTop (mkF m 22 #[.val (.ref a1), .val (.int p2)] [(.ref a1)])) (fun t k => XS.aloadN X0.here hx rfl (hb hby d2_21) rfl rfl k) ?_
        refine own_of (s₁.setTop (mkF m 23 #[.val (.ref a1), .val (.int p2)] [(.int (2 : Int32)), (.ref a1)])) (fun t k => XS.iconst X0.here hx rfl (hb hby d2_22) k) ?_
        refine own_of (s₁.setTop (mkF m 24 #[.val (.ref a1), .val (.int p2)] [(.int (f 2))])) (fun t k => own_bald X0 hx hZ e0 V1 (own_in4 _ (by decide)) (g := (mkF m 23 #[.val (.ref a1), .val (.int p2)] [(.int (2 : Int32)), (.ref a1)])) rfl rfl (hb hby d2_23) t k) ?_
        refine own_of (s₁.setTop (mkF m 26 #[.val (.ref a1), .val (.int p2)] [(.int (-65 : Int32)), (.int (f 2))])) (fun t k => XS.bipush X0.here hx rfl (hb hby d2_24) k) ?_
        by_cases hc5 : (f 2) = (-65 : Int32)
        · refine own_of (s₁.setTop (mkF m 29 #[.val (.ref a1), .val (.int p2)] [])) (fun t k => XS.icmpNo X0.here hx rfl (hb hby d2_26) rfl (teq hc5).2 k) ?_
          refine own_of (s₁.setTop (mkF m 30 #[.val (.ref a1), .val (.int p2)] [(.int (3 : Int32))])) (fun t k => XS.iconst X0.here hx rfl (hb hby d2_29) k) ?_
          refine own_of (s₁.setTop (mkF m 34 #[.val (.ref a1), .val (.int p2)] [(.int (3 : Int32))])) (fun t k => XS.goto X0.here hx rfl (pc0 := 30) (pc' := 34) rfl (hb hby d2_30) (by decide) (by decide) k) ?_
          have hv : own_bom p2 (f 0) (f 1) (f 2) = (3 : Int32) := by simp only [own_bom, hc2, hc3, hc4, hc5, if_true, if_false]
          obtain ⟨fs, hr, hrun, hended, hW, hsame⟩ := X0.leave (v := some (.int (3 : Int32))) (fun h => by rw [Bd.returns] at h; cases h)
          refine ⟨_, _, retI X0 hx Bd.returns (hb hby d2_34) hr, hrun, hended, _, _, rfl, ?_, ⟨_, rfl⟩, hW, hsame.mono (by decide) (by decide)⟩
          show Q_rm2 Z a1 p2 f h0 n0 _ s₁.heap _
          rw [e0]
          exact ⟨by rw [hv], N0, rfl⟩
        · refine own_of (s₁.setTop (mkF m 33 #[.val (.ref a1), .val (.int p2)] [])) (fun t k => XS.icmpYes X0.here hx rfl (pc0 := 26) (pc' := 33) rfl (hb hby d2_26) rfl (feq hc5).2 (by decide) (by decide) k) ?_
          refine own_of (s₁.setTop (mkF m 34 #[.val (.ref a1), .val (.int p2)] [(.int (0 : Int32))])) (fun t k => XS.iconst X0.here hx rfl (hb hby d2_33) k) ?_
          have hv : own_bom p2 (f 0) (f 1) (f 2) = (0 : Int32) := by simp only [own_bom, hc2, hc3, hc4, hc5, if_true, if_false]
          obtain ⟨fs, hr, hrun, hended, hW, hsame⟩ := X0.leave (v := some (.int (0 : Int32))) (fun h => by rw [Bd.returns] at h; cases h)
          refine ⟨_, _, retI X0 hx Bd.returns (hb hby d2_34) hr, hrun, hended, _, _, rfl, ?_, ⟨_, rfl⟩, hW, hsame.mono (by decide) (by decide)⟩
          show Q_rm2 Z a1 p2 f h0 n0 _ s₁.heap _
          rw [e0]
          exact ⟨by rw [hv], N0, rfl⟩
      · refine own_of (s₁.setTop (mkF m 33 #[.val (.ref a1), .val (.int p2)] [])) (fun t k => XS.icmpYes X0.here hx rfl (pc0 := 18) (pc' := 33) rfl (hb hby d2_18) rfl (feq hc4).2 (by decide) (by decide) k) ?_
        refine own_of (s₁.setTop (mkF m 34 #[.val (.ref a1), .val (.int p2)] [(.int (0 : Int32))])) (fun t k => XS.iconst X0.here hx rfl (hb hby d2_33) k) ?_
        have hv : own_bom p2 (f 0) (f 1) (f 2) = (0 : Int32) := by simp only [own_bom, hc2, hc3, hc4, if_true, if_false]
        obtain ⟨fs, hr, hrun, hended, hW, hsame⟩ := X0.leave (v := some (.int (0 : Int32))) (fun h => by rw [Bd.returns] at h; cases h)
        refine ⟨_, _, retI X0 hx Bd.returns (hb hby d2_34) hr, hrun, hended, _, _, rfl, ?_, ⟨_, rfl⟩, hW, hsame.mono (by decide) (by decide)⟩
        show Q_rm2 Z a1 p2 f h0 n0 _ s₁.heap _
        rw [e0]
        exact ⟨by rw [hv], N0, rfl⟩
    · refine own_of (s₁.setTop (mkF m 33 #[.val (.ref a1), .val (.int p2)] [])) (fun t k => XS.icmpYes X0.here hx rfl (pc0 := 10) (pc' := 33) rfl (hb hby d2_10) rfl (feq hc3).2 (by decide) (by decide) k) ?_
      refine own_of (s₁.setTop (mkF m 34 #[.val (.ref a1), .val (.int p2)] [(.int (0 : Int32))])) (fun t k => XS.iconst X0.here hx rfl (hb hby d2_33) k) ?_
      have hv : own_bom p2 (f 0) (f 1) (f 2) = (0 : Int32) := by simp only [own_bom, hc2, hc3, if_true, if_false]
      obtain ⟨fs, hr, hrun, hended, hW, hsame⟩ := X0.leave (v := some (.int (0 : Int32))) (fun h => by rw [Bd.returns] at h; cases h)
      refine ⟨_, _, retI X0 hx Bd.returns (hb hby d2_34) hr, hrun, hended, _, _, rfl, ?_, ⟨_, rfl⟩, hW, hsame.mono (by decide) (by decide)⟩
      show Q_rm2 Z a1 p2 f h0 n0 _ s₁.heap _
      rw [e0]
      exact ⟨by rw [hv], N0, rfl⟩
theorem pn_0 : plainName "mendloom/io/Utf8ByteOrderMarkPinLaw" = true := by first | (simp [plainName, overriddenIn]; done) | decide +kernel
theorem ef_rm0 (m : MethodId) (x0 : Int32) (x1 : Int32) (x2 : Int32) (x3 : Int32) (x4 : Int32) : entryFrame m #[(.int x0), (.int x1), (.int x2), (.int x3), (.int x4)] maxLocals = mkF m 0 #[.val (.int x0), .val (.int x1), .val (.int x2), .val (.int x3), .val (.int x4), .unset, .unset, .unset, .unset, .unset] [] := by first | (simp [entryFrame, mkF, argsToLocals, Value.category, maxLocals]; done) | rfl
def Q_rm0 (Z : State) (p1 : Int32) (p2 : Int32) (p3 : Int32) (p4 : Int32) (p5 : Int32)  (h0 : Heap) (n0 : Nat) (v : Option Value) (h : Heap) (L : List Loc) : Prop := v = some (.int 1) ∧ Fr n0 L
set_option maxRecDepth 65536 in
set_option maxHeartbeats 40000000 in
theorem rm0 (l : Launch) (Z : State) (a0 : Array Value) (hw : ∀ d ∈ tables_1, d.before a0 Z = true) (ws : List Jvm.Cond) (p1 : Int32) (p2 : Int32) (p3 : Int32) (p4 : Int32) (p5 : Int32)  (h0 : Heap) (n0 : Nat) (Z0 : n0 ≤ h0.size) :
    MetFree l x (head1 (Jvm.Cond.code x code maxLocals ret :: ws) room_1) (fun a U => a = #[(.int p1), (.int p2), (.int p3), (.int p4), (.int p5)] ∧ Z.Warmed39 U.vm ∧ U.heap = h0) (fun _ _ _ _ _ => True) (fun _ U o U' => ∃ v L, o = .returned v ∧ Q_rm0 Z p1 p2 p3 p4 p5  h0 n0 v U'.heap L ∧ FrameEnd U o U' L 16 128) := by
  refine MetFree.of_bodySF (plainFor_of_name pn_0) hisR ?_
  intro p e s m args below meth c s₁ Bd hml0 hP hK
  obtain ⟨rfl, hZ, hh⟩ := hP
  have hx := Bd.exec
  have hby := Bd.bytes
  have hml : c.maxLocals = 10 := hml0
  have hown : s.vm.findClass "mendloom/io/Utf8ByteOrderMarkPinLaw" = some m.cls := findClass_of_methodNamed Bd.named
  have hnm := (name_of_methodNamed Bd.named Bd.method).1
  have X0 : Stand p l e room_1 s m #[(.int p1), (.int p2), (.int p3), (.int p4), (.int p5)] below meth c s₁ [] 0 0 := Stand.of_body Bd
  have e0 : s₁.heap = h0 := by rw [← hh, Bd.state]; rfl
  have N0 := Fr.nil n0
  refine own_in ?_
  refine own_of (s₁.setTop (mkF m 0 #[.val (.int p1), .val (.int p2), .val (.int p3), .val (.int p4), .val (.int p5), .unset, .unset, .unset, .unset, .unset] [])) (fun t k => castTop (ef_rm0 m p1 p2 p3 p4 p5) k) ?_
  refine own_of (s₁.setTop (mkF m 1 #[.val (.int p1), .val (.int p2), .val (.int p3), .val (.int p4), .val (.int p5), .unset, .unset, .unset, .unset, .unset] [(.int p1)])) (fun t k => XS.iloadN X0.here hx rfl (hb hby at_0) rfl k) ?_
  refine own_of (s₁.setTop (mkF m 3 #[.val (.int p1), .val (.int p2), .val (.int p3), .val (.int p4), .val (.int p5), .unset, .unset, .unset, .unset, .unset] [(.int (2147483647 : Int32)), (.int p1)])) (fun t k => X0.ldcInt hx hown (mvT hZ (hw _ (List.mem_of_getElem? (i := 0) rfl))) (g := (mkF m 1 #[.val (.int p1), .val (.int p2), .val (.int p3), .val (.int p4), .val (.int p5), .unset, .unset, .unset, .unset, .unset] [(.int p1)])) rfl (hb hby at_1) t k) ?_
  refine own_of (s₁.setTop (mkF m 4 #[.val (.int p1), .val (.int p2), .val (.int p3), .val (.int p4), .val (.int p5), .unset, .unset, .unset, .unset, .unset] [(.int (p1 &&& (2147483647 : Int32)))])) (fun t k => XS.iand X0.here hx rfl (hb hby at_3) rfl k) ?_
  refine own_of (s₁.setTop (mkF m 5 #[.val (.int p1), .val (.int p2), .val (.int p3), .val (.int p4), .val (.int p5), .unset, .unset, .unset, .unset, .unset] [(.int (5 : Int32)), (.int (p1 &&& (2147483647 : Int32)))])) (fun t k => XS.iconst X0.here hx rfl (hb hby at_4) k) ?_
  refine own_of (s₁.setTop (mkF m 6 #[.val (.int p1), .val (.int p2), .val (.int p3), .val (.int p4), .val (.int p5), .unset, .unset, .unset, .unset, .unset] [(.int ((p1 &&& (2147483647 : Int32)) % (5 : Int32)))])) (fun t k => iremM X0 hx rfl (hb hby at_5) rfl (by decide) k) ?_
  generalize (p1 &&& (2147483647 : Int32)) % (5 : Int32) = n
  show own_Dn p e below _ (s₁.setTop (mkF m 6 #[.val (.int p1), .val (.int p2), .val (.int p3), .val (.int p4), .val (.int p5), .unset, .unset, .unset, .unset, .unset] [(.int n)]))
  refine own_of (s₁.setTop (mkF m 8 #[.val (.int p1), .val (.int p2), .val (.int p3), .val (.int p4), .val (.int p5), .val (.int n), .unset, .unset, .unset, .unset] [])) (fun t k => XS.istore X0.here hx rfl (hb hby at_6) rfl (l' := #[.val (.int p1), .val (.int p2), .val (.int p3), .val (.int p4), .val (.int p5), .val (.int n), .unset, .unset, .unset, .unset]) rfl k) ?_
  refine own_of (s₁.setTop (mkF m 9 #[.val (.int p1), .val (.int p2), .val (.int p3), .val (.int p4), .val (.int p5), .val (.int n), .unset, .unset, .unset, .unset] [(.int (4 : Int32))])) (fun t k => XS.iconst X0.here hx rfl (hb hby at_8) k) ?_
  obtain ⟨T6, h6, cA6, X6, e6, E6, A6, st6⟩ := newP X0 hx hZ (hw _ (List.mem_of_getElem? (i := 1) rfl)) e0 (g := (mkF m 9 #[.val (.int p1), .val (.int p2), .val (.int p3), .val (.int p4), .val (.int p5), .val (.int n), .unset, .unset, .unset, .unset] [(.int (4 : Int32))])) rfl (hb hby at_9) rfl (by decide) (cap := 4) (by decide) (by decide) (by decide) (by decide)
  obtain ⟨a6, g6⟩ : ∃ z, z = h0.size := ⟨_, rfl⟩
  rw [← g6] at A6 st6
  have V6 : own_Ar Z h6 a6 .byte 4 (fun _ => 0) := own_Ar.new A6 rfl (by decide)
  have ge_a6 : n0 ≤ a6 := Nat.le_trans Z0 (Nat.le_of_eq g6.symm)
  have Z6 : n0 ≤ h6.size := Nat.le_trans Z0 E6.1
  refine own_of (T6.setTop (mkF m 11 #[.val (.int p1), .val (.int p2), .val (.int p3), .val (.int p4), .val (.int p5), .val (.int n), .unset, .unset, .unset, .unset] [(.ref a6)])) (fun t q => st6 t q) ?_
  refine own_of (T6.setTop (mkF m 13 #[.val (.int p1), .val (.int p2), .val (.int p3), .val (.int p4), .val (.int p5), .val (.int n), .val (.ref a6), .unset, .unset, .unset] [])) (fun t k => XS.astore X6.here hx rfl (hb hby at_11) rfl rfl (l' := #[.val (.int p1), .val (.int p2), .val (.int p3), .val (.int p4), .val (.int p5), .val (.int n), .val (.ref a6), .unset, .unset, .unset]) rfl k) ?_
  refine own_of (T6.setTop (mkF m 15 #[.val (.int p1), .val (.int p2), .val (.int p3), .val (.int p4), .val (.int p5), .val (.int n), .val (.ref a6), .unset, .unset, .unset] [(.ref a6)])) (fun t k => XS.aload X6.here hx rfl (hb hby at_13) rfl rfl k) ?_
  refine own_of (T6.setTop (mkF m 16 #[.val (.int p1), .val (.int p2), .val (.int p3), .val (.int p4), .val (.int p5), .val (.int n), .val (.ref a6), .unset, .unset, .unset] [(.int (0 : Int32)), (.ref a6)])) (fun t k => XS.iconst X6.here hx rfl (hb hby at_15) k) ?_
  refine own_of (T6.setTop (mkF m 17 #[.val (.int p1), .val (.int p2), .val (.int p3), .val (.int p4), .val (.int p5), .val (.int n), .val (.ref a6), .unset, .unset, .unset] [(.int p2), (.int (0 : Int32)), (.ref a6)])) (fun t k => XS.iloadN X6.here hx rfl (hb hby at_16) rfl k) ?_
  refine own_of (T6.setTop (mkF m 20 #[.val (.int p1), .val (.int p2), .val (.int p3), .val (.int p4), .val (.int p5), .val (.int n), .val (.ref a6), .unset, .unset, .unset] [(.int (239 : Int32)), (.int p2), (.int (0 : Int32)), (.ref a6)])) (fun t k => XS.sipush X6.here hx rfl (hb hby at_17) k) ?_
  obtain ⟨_, _, ⟨T7, L7, k7, n7⟩, -, X7, ⟨Lc7, hQ7, l7, y7, z7⟩, st7⟩ := Jvm.LawKit.callS X6 hx (y := (⟨"mendloom/io/Utf8ByteOrderMarkPinLaw", "draw", "(II)B"⟩ : MethodName)) hown (mvT hZ (hw _ (List.mem_of_getElem? (i := 2) rfl))) (mvT hZ (hw _ (List.mem_of_getElem? (i := 3) rfl))) (mvT hZ (hw _ (List.mem_of_getElem? (i := 4) rfl))) (mvT hZ (hw _ (List.mem_of_getElem? (i := 5) rfl))) (by decide) (backOf (W := 2) (rm1 l Z a0 hw [] p2 (239 : Int32) h6 n0 Z6) hZ (hw _ (List.mem_of_getElem? (i := 5) rfl)) (hw _ (List.mem_of_getElem? (i := 4) rfl)) (by decide) (by decide)) (g := (mkF m 20 #[.val (.int p1), .val (.int p2), .val (.int p3), .val (.int p4), .val (.int p5), .val (.int n), .val (.ref a6), .unset, .unset, .unset] [(.int (239 : Int32)), (.int p2), (.int (0 : Int32)), (.ref a6)])) rfl (by rw [hml]; rfl) (argsL := [(.int p2), (.int (239 : Int32))]) (rest := [(.int (0 : Int32)), (.ref a6)]) (lenOf (by decide +kernel : parseMethodDescriptor "(II)B" = some ⟨[.int, .int], some .byte⟩) rfl) rfl (by show 2 * 0 + _ ≤ _; exact Nat.le_of_eq rfl) (hb hby at_20) (fun _ _ => ⟨rfl, e6, (by decide : 1 + 0 ≤ _), (by decide : 4 + 0 ≤ _)⟩)
  dsimp only [Pt.U, Pt.locs, Pt.cells, Pt.slots] at X7 l7 y7 z7 st7 hQ7
  subst l7 y7 z7
  obtain ⟨rfl, Nq7, eh7⟩ := hQ7
  have N7 := Fr.app N0 Nq7
  refine own_of (T7.setTop (mkF m 23 #[.val (.int p1), .val (.int p2), .val (.int p3), .val (.int p4), .val (.int p5), .val (.int n), .val (.ref a6), .unset, .unset, .unset] [(.int (own_draw p2 (239 : Int32))), (.int (0 : Int32)), (.ref a6)])) (fun t q => st7 t q) ?_
  have hr0 := own_nar (own_draw p2 (239 : Int32))
  obtain ⟨T8, h8, X8, e8, W8, st8⟩ := own_bst X7 hx hZ eh7 V6 (j := (0 : Int32)) (own_in4 _ (by decide)) (g := (mkF m 23 #[.val (.int p1), .val (.int p2), .val (.int p3), .val (.int p4), .val (.int p5), .val (.int n), .val (.ref a6), .unset, .unset, .unset] [(.int (own_draw p2 (239 : Int32))), (.int (0 : Int32)), (.ref a6)])) rfl rfl (hb hby at_23)
  have N8 := Fr.snoc X8 N7 ge_a6
  have f8_0 := (V6.same W8 ((own_in4 _ (by decide))).2).congr (g := (own_b4 (nar .byte (own_draw p2 (239 : Int32))) 0 0 0)) (by intro j hj; rcases j with _ | _ | _ | _ | j <;> first | rfl | omega)
  have Z8 : n0 ≤ h8.size := Nat.le_trans Z6 (Nat.le_of_eq W8.size.symm)
  refine own_of (T8.setTop (mkF m 24 #[.val (.int p1), .val (.int p2), .val (.int p3), .val (.int p4), .val (.int p5), .val (.int n), .val (.ref a6), .unset, .unset, .unset] [])) (fun t q => st8 t q) ?_
  generalize nar .byte (own_draw p2 (239 : Int32)) = b0 at *
  refine own_of (T8.setTop (mkF m 26 #[.val (.int p1), .val (.int p2), .val (.int p3), .val (.int p4), .val (.int p5), .val (.int n), .val (.ref a6), .unset, .unset, .unset] [(.ref a6)])) (fun t k => XS.aload X8.here hx rfl (hb hby at_24) rfl rfl k) ?_
  refine own_of (T8.setTop (mkF m 27 #[.val (.int p1), .val (.int p2), .val (.int p3), .val (.int p4), .val (.int p5), .val (.int n), .val (.ref a6), .unset, .unset, .unset] [(.int (1 : Int32)), (.ref a6)])) (fun t k => XS.iconst X8.here hx rfl (hb hby at_26) k) ?_
  refine own_of (T8.setTop (mkF m 28 #[.val (.int p1), .val (.int p2), .val (.int p3), .val (.int p4), .val (.int p5), .val (.int n), .val (.ref a6), .unset, .unset, .unset] [(.int p3), (.int (1 : Int32)), (.ref a6)])) (fun t k => XS.iloadN X8.here hx rfl (hb hby at_27) rfl k) ?_
  refine own_of (T8.setTop (mkF m 31 #[.val (.int p1), .val (.int p2), .val (.int p3), .val (.int p4), .val (.int p5), .val (.int n), .val (.ref a6), .unset, .unset, .unset] [(.int (187 : Int32)), (.int p3), (.int (1 : Int32)), (.ref a6)])) (fun t k => XS.sipush X8.here hx rfl (hb hby at_28) k) ?_
  obtain ⟨_, _, ⟨T9, L9, k9, n9⟩, -, X9, ⟨Lc9, hQ9, l9, y9, z9⟩, st9⟩ := Jvm.LawKit.callS X8 hx (y := (⟨"mendloom/io/Utf8ByteOrderMarkPinLaw", "draw", "(II)B"⟩ : MethodName)) hown (mvT hZ (hw _ (List.mem_of_getElem? (i := 2) rfl))) (mvT hZ (hw _ (List.mem_of_getElem? (i := 3) rfl))) (mvT hZ (hw _ (List.mem_of_getElem? (i := 4) rfl))) (mvT hZ (hw _ (List.mem_of_getElem? (i := 5) rfl))) (by decide) (backOf (W := 2) (rm1 l Z a0 hw [] p3 (187 : Int32) h8 n0 Z8) hZ (hw _ (List.mem_of_getElem? (i := 5) rfl)) (hw _ (List.mem_of_getElem? (i := 4) rfl)) (by decide) (by decide)) (g := (mkF m 31 #[.val (.int p1), .val (.int p2), .val (.int p3), .val (.int p4), .val (.int p5), .val (.int n), .val (.ref a6), .unset, .unset, .unset] [(.int (187 : Int32)), (.int p3), (.int (1 : Int32)), (.ref a6)])) rfl (by rw [hml]; rfl) (argsL := [(.int p3), (.int (187 : Int32))]) (rest := [(.int (1 : Int32)), (.ref a6)]) (lenOf (by decide +kernel : parseMethodDescriptor "(II)B" = some ⟨[.int, .int], some .byte⟩) rfl) rfl (by show 2 * 0 + _ ≤ _; exact Nat.le_of_eq rfl) (hb hby at_31) (fun _ _ => ⟨rfl, e8, (by decide : 1 + 0 ≤ _), (by decide : 4 + 0 ≤ _)⟩)
  dsimp only [Pt.U, Pt.locs, Pt.cells, Pt.slots] at X9 l9 y9 z9 st9 hQ9
  subst l9 y9 z9
  obtain ⟨rfl, Nq9, eh9⟩ := hQ9
  have N9 := Fr.app N8 Nq9
  refine own_of (T9.setTop (mkF m 34 #[.val (.int p1), .val (.int p2), .val (.int p3), .val (.int p4), .val (.int p5), .val (.int n), .val (.ref a6), .unset, .unset, .unset] [(.int (own_draw p3 (187 : Int32))), (.int (1 : Int32)), (.ref a6)])) (fun t q => st9 t q) ?_
  have hr1 := own_nar (own_draw p3 (187 : Int32))
  obtain ⟨T10, h10, X10, e10, W10, st10⟩ := own_bst X9 hx hZ eh9 f8_0 (j := (1 : Int32)) (own_in4 _ (by decide)) (g := (mkF m 34 #[.val (.int p1), .val (.int p2), .val (.int p3), .val (.int p4), .val (.int p5), .val (.int n), .val (.ref a6), .unset, .unset, .unset] [(.int (own_draw p3 (187 : Int32))), (.int (1 : Int32)), (.ref a6)])) rfl rfl (hb hby at_34)
  have N10 := Fr.snoc X10 N9 ge_a6
  have f10_0 := (f8_0.same W10 ((own_in4 _ (by decide))).2).congr (g := (own_b4 b0 (nar .byte (own_draw p3 (187 : Int32))) 0 0)) (by intro j hj; rcases j with _ | _ | _ | _ | j <;> first | rfl | omega)
  have Z10 : n0 ≤ h10.size := Nat.le_trans Z8 (Nat.le_of_eq W10.size.symm)
  refine own_of (T10.setTop (mkF m 35 #[.val (.int p1), .val (.int p2), .val (.int p3), .val (.int p4), .val (.int p5), .val (.int n), .val (.ref a6), .unset, .unset, .unset] [])) (fun t q => st10 t q) ?_
  generalize nar .byte (own_draw p3 (187 : Int32)) = b1 at *
  refine own_of (T10.setTop (mkF m 37 #[.val (.int p1), .val (.int p2), .val (.int p3), .val (.int p4), .val (.int p5), .val (.int n), .val (.ref a6), .unset, .unset, .unset] [(.ref a6)])) (fun t k => XS.aload X10.here hx rfl (hb hby at_35) rfl rfl k) ?_
  refine own_of (T10.setTop (mkF m 38 #[.val (.int p1), .val (.int p2), .val (.int p3), .val (.int p4), .val (.int p5), .val (.int n), .val (.ref a6), .unset, .unset, .unset] [(.int (2 : Int32)), (.ref a6)])) (fun t k => XS.iconst X10.here hx rfl (hb hby at_37) k) ?_
  refine own_of (T10.setTop (mkF m 39 #[.val (.int p1), .val (.int p2), .val (.int p3), .val (.int p4), .val (.int p5), .val (.int n), .val (.ref a6), .unset, .unset, .unset] [(.int p4), (.int (2 : Int32)), (.ref a6)])) (fun t k => XS.iloadN X10.here hx rfl (hb hby at_38) rfl k) ?_
  refine own_of (T10.setTop (mkF m 42 #[.val (.int p1), .val (.int p2), .val (.int p3), .val (.int p4), .val (.int p5), .val (.int n), .val (.ref a6), .unset, .unset, .unset] [(.int (191 : Int32)), (.int p4), (.int (2 : Int32)), (.ref a6)])) (fun t k => XS.sipush X10.here hx rfl (hb hby at_39) k) ?_
  obtain ⟨_, _, ⟨T11, L11, k11, n11⟩, -, X11, ⟨Lc11, hQ11, l11, y11, z11⟩, st11⟩ := Jvm.LawKit.callS X10 hx (y := (⟨"mendloom/io/Utf8ByteOrderMarkPinLaw", "draw", "(II)B"⟩ : MethodName)) hown (mvT hZ (hw _ (List.mem_of_getElem? (i := 2) rfl))) (mvT hZ (hw _ (List.mem_of_getElem? (i := 3) rfl))) (mvT hZ (hw _ (List.mem_of_getElem? (i := 4) rfl))) (mvT hZ (hw _ (List.mem_of_getElem? (i := 5) rfl))) (by decide) (backOf (W := 2) (rm1 l Z a0 hw [] p4 (191 : Int32) h10 n0 Z10) hZ (hw _ (List.mem_of_getElem? (i := 5) rfl)) (hw _ (List.mem_of_getElem? (i := 4) rfl)) (by decide) (by decide)) (g := (mkF m 42 #[.val (.int p1), .val (.int p2), .val (.int p3), .val (.int p4), .val (.int p5), .val (.int n), .val (.ref a6), .unset, .unset, .unset] [(.int (191 : Int32)), (.int p4), (.int (2 : Int32)), (.ref a6)])) rfl (by rw [hml]; rfl) (argsL := [(.int p4), (.int (191 : Int32))]) (rest := [(.int (2 : Int32)), (.ref a6)]) (lenOf (by decide +kernel : parseMethodDescriptor "(II)B" = some ⟨[.int, .int], some .byte⟩) rfl) rfl (by show 2 * 0 + _ ≤ _; exact Nat.le_of_eq rfl) (hb hby at_42) (fun _ _ => ⟨rfl, e10, (by decide : 1 + 0 ≤ _), (by decide : 4 + 0 ≤ _)⟩)
  dsimp only [Pt.U, Pt.locs, Pt.cells, Pt.slots] at X11 l11 y11 z11 st11 hQ11
  subst l11 y11 z11
  obtain ⟨rfl, Nq11, eh11⟩ := hQ11
  have N11 := Fr.app N10 Nq11
  refine own_of (T11.setTop (mkF m 45 #[.val (.int p1), .val (.int p2), .val (.int p3), .val (.int p4), .val (.int p5), .val (.int n), .val (.ref a6), .unset, .unset, .unset] [(.int (own_draw p4 (191 : Int32))), (.int (2 : Int32)), (.ref a6)])) (fun t q => st11 t q) ?_
  have hr2 := own_nar (own_draw p4 (191 : Int32))
  obtain ⟨T12, h12, X12, e12, W12, st12⟩ := own_bst X11 hx hZ eh11 f10_0 (j := (2 : Int32)) (own_in4 _ (by decide)) (g := (mkF m 45 #[.val (.int p1), .val (.int p2), .val (.int p3), .val (.int p4), .val (.int p5), .val (.int n), .val (.ref a6), .unset, .unset, .unset] [(.int (own_draw p4 (191 : Int32))), (.int (2 : Int32)), (.ref a6)])) rfl rfl (hb hby at_45)
  have N12 := Fr.snoc X12 N11 ge_a6
  have f12_0 := (f10_0.same W12 ((own_in4 _ (by decide))).2).congr (g := (own_b4 b0 b1 (nar .byte (own_draw p4 (191 : Int32))) 0)) (by intro j hj; rcases j with _ | _ | _ | _ | j <;> first | rfl | omega)
  have Z12 : n0 ≤ h12.size := Nat.le_trans Z10 (Nat.le_of_eq W12.size.symm)
  refine own_of (T12.setTop (mkF m 46 #[.val (.int p1), .val (.int p2), .val (.int p3), .val (.int p4), .val (.int p5), .val (.int n), .val (.ref a6), .unset, .unset, .unset] [])) (fun t q => st12 t q) ?_
  generalize nar .byte (own_draw p4 (191 : Int32)) = b2 at *
  refine own_of (T12.setTop (mkF m 48 #[.val (.int p1), .val (.int p2), .val (.int p3), .val (.int p4), .val (.int p5), .val (.int n), .val (.ref a6), .unset, .unset, .unset] [(.ref a6)])) (fun t k => XS.aload X12.here hx rfl (hb hby at_46) rfl rfl k) ?_
  refine own_of (T12.setTop (mkF m 49 #[.val (.int p1), .val (.int p2), .val (.int p3), .val (.int p4), .val (.int p5), .val (.int n), .val (.ref a6), .unset, .unset, .unset] [(.int (3 : Int32)), (.ref a6)])) (fun t k => XS.iconst X12.here hx rfl (hb hby at_48) k) ?_
  refine own_of (T12.setTop (mkF m 51 #[.val (.int p1), .val (.int p2), .val (.int p3), .val (.int p4), .val (.int p5), .val (.int n), .val (.ref a6), .unset, .unset, .unset] [(.int p5), (.int (3 : Int32)), (.ref a6)])) (fun t k => XS.iload X12.here hx rfl (hb hby at_49) rfl k) ?_
  refine own_of (T12.setTop (mkF m 52 #[.val (.int p1), .val (.int p2), .val (.int p3), .val (.int p4), .val (.int p5), .val (.int n), .val (.ref a6), .unset, .unset, .unset] [(.int (p5.toInt8.toInt32)), (.int (3 : Int32)), (.ref a6)])) (fun t k => XS.i2b X12.here hx rfl (hb hby at_51) rfl k) ?_
  obtain ⟨T13, h13, X13, e13, W13, st13⟩ := own_bst X12 hx hZ e12 f12_0 (j := (3 : Int32)) (own_in4 _ (by decide)) (g := (mkF m 52 #[.val (.int p1), .val (.int p2), .val (.int p3), .val (.int p4), .val (.int p5), .val (.int n), .val (.ref a6), .unset, .unset, .unset] [(.int (p5.toInt8.toInt32)), (.int (3 : Int32)), (.ref a6)])) rfl rfl (hb hby at_52)
  have N13 := Fr.snoc X13 N12 ge_a6
  have f13_0 := (f12_0.same W13 ((own_in4 _ (by decide))).2).congr (g := (own_b4 b0 b1 b2 (nar .byte (p5.toInt8.toInt32)))) (by intro j hj; rcases j with _ | _ | _ | _ | j <;> first | rfl | omega)
  have Z13 : n0 ≤ h13.size := Nat.le_trans Z12 (Nat.le_of_eq W13.size.symm)
  refine own_of (T13.setTop (mkF m 53 #[.val (.int p1), .val (.int p2), .val (.int p3), .val (.int p4), .val (.int p5), .val (.int n), .val (.ref a6), .unset, .unset, .unset] [])) (fun t q => st13 t q) ?_
  generalize nar .byte (p5.toInt8.toInt32) = b3 at *
  refine own_of (T13.setTop (mkF m 55 #[.val (.int p1), .val (.int p2), .val (.int p3), .val (.int p4), .val (.int p5), .val (.int n), .val (.ref a6), .unset, .unset, .unset] [(.ref a6)])) (fun t k => XS.aload X13.here hx rfl (hb hby at_53) rfl rfl k) ?_
  refine own_of (T13.setTop (mkF m 56 #[.val (.int p1), .val (.int p2), .val (.int p3), .val (.int p4), .val (.int p5), .val (.int n), .val (.ref a6), .unset, .unset, .unset] [(.int (0 : Int32)), (.ref a6)])) (fun t k => XS.iconst X13.here hx rfl (hb hby at_55) k) ?_
  refine own_of (T13.setTop (mkF m 57 #[.val (.int p1), .val (.int p2), .val (.int p3), .val (.int p4), .val (.int p5), .val (.int n), .val (.ref a6), .unset, .unset, .unset] [(.int b0)])) (fun t k => own_bald X13 hx hZ e13 f13_0 (own_in4 _ (by decide)) (g := (mkF m 56 #[.val (.int p1), .val (.int p2), .val (.int p3), .val (.int p4), .val (.int p5), .val (.int n), .val (.ref a6), .unset, .unset, .unset] [(.int (0 : Int32)), (.ref a6)])) rfl rfl (hb hby at_56) t k) ?_
  refine own_of (T13.setTop (mkF m 60 #[.val (.int p1), .val (.int p2), .val (.int p3), .val (.int p4), .val (.int p5), .val (.int n), .val (.ref a6), .unset, .unset, .unset] [(.int (255 : Int32)), (.int b0)])) (fun t k => XS.sipush X13.here hx rfl (hb hby at_57) k) ?_
  refine own_of (T13.setTop (mkF m 61 #[.val (.int p1), .val (.int p2), .val (.int p3), .val (.int p4), .val (.int p5), .val (.int n), .val (.ref a6), .unset, .unset, .unset] [(.int (b0 &&& (255 : Int32)))])) (fun t k => XS.iand X13.here hx rfl (hb hby at_60) rfl k) ?_
  refine own_of (T13.setTop (mkF m 63 #[.val (.int p1), .val (.int p2), .val (.int p3), .val (.int p4), .val (.int p5), .val (.int n), .val (.ref a6), .unset, .unset, .unset] [(.int (16 : Int32)), (.int (b0 &&& (255 : Int32)))])) (fun t k => XS.bipush X13.here hx rfl (hb hby at_61) k) ?_
  refine own_of (T13.setTop (mkF m 64 #[.val (.int p1), .val (.int p2), .val (.int p3), .val (.int p4), .val (.int p5), .val (.int n), .val (.ref a6), .unset, .unset, .unset] [(.int ((b0 &&& (255 : Int32)) <<< ((16 : Int32) &&& 31)))])) (fun t k => XS.ishl X13.here hx rfl (hb hby at_63) rfl k) ?_
  refine own_of (T13.setTop (mkF m 66 #[.val (.int p1), .val (.int p2), .val (.int p3), .val (.int p4), .val (.int p5), .val (.int n), .val (.ref a6), .unset, .unset, .unset] [(.ref a6), (.int ((b0 &&& (255 : Int32)) <<< ((16 : Int32) &&& 31)))])) (fun t k => XS.aload X13.here hx rfl (hb hby at_64) rfl rfl k) ?_
  refine own_of (T13.setTop (mkF m 67 #[.val (.int p1), .val (.int p2), .val (.int p3), .val (.int p4), .val (.int p5), .val (.int n), .val (.ref a6), .unset, .unset, .unset] [(.int (1 : Int32)), (.ref a6), (.int ((b0 &&& (255 : Int32)) <<< ((16 : Int32) &&& 31)))])) (fun t k => XS.iconst X13.here hx rfl (hb hby at_66) k) ?_
  refine own_of (T13.setTop (mkF m 68 #[.val (.int p1), .val (.int p2), .val (.int p3), .val (.int p4), .val (.int p5), .val (.int n), .val (.ref a6), .unset, .unset, .unset] [(.int b1), (.int ((b0 &&& (255 : Int32)) <<< ((16 : Int32) &&& 31)))])) (fun t k => own_bald X13 hx hZ e13 f13_0 (own_in4 _ (by decide)) (g := (mkF m 67 #[.val (.int p1), .val (.int p2), .val (.int p3), .val (.int p4), .val (.int p5), .val (.int n), .val (.ref a6), .unset, .unset, .unset] [(.int (1 : Int32)), (.ref a6), (.int ((b0 &&& (255 : Int32)) <<< ((16 : Int32) &&& 31)))])) rfl rfl (hb hby at_67) t k) ?_
  refine own_of (T13.setTop (mkF m 71 #[.val (.int p1), .val (.int p2), .val (.int p3), .val (.int p4), .val (.int p5), .val (.int n), .val (.ref a6), .unset, .unset, .unset] [(.int (255 : Int32)), (.int b1), (.int ((b0 &&& (255 : Int32)) <<< ((16 : Int32) &&& 31)))])) (fun t k => XS.sipush X13.here hx rfl (hb hby at_68) k) ?_
  refine own_of (T13.setTop (mkF m 72 #[.val (.int p1), .val (.int p2), .val (.int p3), .val (.int p4), .val (.int p5), .val (.int n), .val (.ref a6), .unset, .unset, .unset] [(.int (b1 &&& (255 : Int32))), (.int ((b0 &&& (255 : Int32)) <<< ((16 : Int32) &&& 31)))])) (fun t k => XS.iand X13.here hx rfl (hb hby at_71) rfl k) ?_
  refine own_of (T13.setTop (mkF m 74 #[.val (.int p1), .val (.int p2), .val (.int p3), .val (.int p4), .val (.int p5), .val (.int n), .val (.ref a6), .unset, .unset, .unset] [(.int (8 : Int32)), (.int (b1 &&& (255 : Int32))), (.int ((b0 &&& (255 : Int32)) <<< ((16 : Int32) &&& 31)))])) (fun t k => XS.bipush X13.here hx rfl (hb hby at_72) k) ?_
  refine own_of (T13.setTop (mkF m 75 #[.val (.int p1), .val (.int p2), .val (.int p3), .val (.int p4), .val (.int p5), .val (.int n), .val (.ref a6), .unset, .unset, .unset] [(.int ((b1 &&& (255 : Int32)) <<< ((8 : Int32) &&& 31))), (.int ((b0 &&& (255 : Int32)) <<< ((16 : Int32) &&& 31)))])) (fun t k => XS.ishl X13.here hx rfl (hb hby at_74) rfl k) ?_
  refine own_of (T13.setTop (mkF m 76 #[.val (.int p1), .val (.int p2), .val (.int p3), .val (.int p4), .val (.int p5), .val (.int n), .val (.ref a6), .unset, .unset, .unset] [(.int (((b0 &&& (255 : Int32)) <<< ((16 : Int32) &&& 31)) ||| ((b1 &&& (255 : Int32)) <<< ((8 : Int32) &&& 31))))])) (fun t k => XS.ior X13.here hx rfl (hb hby at_75) rfl k) ?_
  refine own_of (T13.setTop (mkF m 78 #[.val (.int p1), .val (.int p2), .val (.int p3), .val (.int p4), .val (.int p5), .val (.int n), .val (.ref a6), .unset, .unset, .unset] [(.ref a6), (.int (((b0 &&& (255 : Int32)) <<< ((16 : Int32) &&& 31)) ||| ((b1 &&& (255 : Int32)) <<< ((8 : Int32) &&& 31))))])) (fun t k => XS.aload X13.here hx rfl (hb hby at_76) rfl rfl k) ?_
  refine own_of (T13.setTop (mkF m 79 #[.val (.int p1), .val (.int p2), .val (.int p3), .val (.int p4), .val (.int p5), .val (.int n), .val (.ref a6), .unset, .unset, .unset] [(.int (2 : Int32)), (.ref a6), (.int (((b0 &&& (255 : Int32)) <<< ((16 : Int32) &&& 31)) ||| ((b1 &&& (255 : Int32)) <<< ((8 : Int32) &&& 31))))])) (fun t k => XS.iconst X13.here hx rfl (hb hby at_78) k) ?_
  refine own_of (T13.setTop (mkF m 80 #[.val (.int p1), .val (.int p2), .val (.int p3), .val (.int p4), .val (.int p5), .val (.int n), .val (.ref a6), .unset, .unset, .unset] [(.int b2), (.int (((b0 &&& (255 : Int32)) <<< ((16 : Int32) &&& 31)) ||| ((b1 &&& (255 : Int32)) <<< ((8 : Int32) &&& 31))))])) (fun t k => own_bald X13 hx hZ e13 f13_0 (own_in4 _ (by decide)) (g := (mkF m 79 #[.val (.int p1), .val (.int p2), .val (.int p3), .val (.int p4), .val (.int p5), .val (.int n), .val (.ref a6), .unset, .unset, .unset] [(.int (2 : Int32)), (.ref a6), (.int (((b0 &&& (255 : Int32)) <<< ((16 : Int32) &&& 31)) ||| ((b1 &&& (255 : Int32)) <<< ((8 : Int32) &&& 31))))])) rfl rfl (hb hby at_79) t k) ?_
  refine own_of (T13.setTop (mkF m 83 #[.val (.int p1), .val (.int p2), .val (.int p3), .val (.int p4), .val (.int p5), .val (.int n), .val (.ref a6), .unset, .unset, .unset] [(.int (255 : Int32)), (.int b2), (.int (((b0 &&& (255 : Int32)) <<< ((16 : Int32) &&& 31)) ||| ((b1 &&& (255 : Int32)) <<< ((8 : Int32) &&& 31))))])) (fun t k => XS.sipush X13.here hx rfl (hb hby at_80) k) ?_
  refine own_of (T13.setTop (mkF m 84 #[.val (.int p1), .val (.int p2), .val (.int p3), .val (.int p4), .val (.int p5), .val (.int n), .val (.ref a6), .unset, .unset, .unset] [(.int (b2 &&& (255 : Int32))), (.int (((b0 &&& (255 : Int32)) <<< ((16 : Int32) &&& 31)) ||| ((b1 &&& (255 : Int32)) <<< ((8 : Int32) &&& 31))))])) (fun t k => XS.iand X13.here hx rfl (hb hby at_83) rfl k) ?_
  refine own_of (T13.setTop (mkF m 85 #[.val (.int p1), .val (.int p2), .val (.int p3), .val (.int p4), .val (.int p5), .val (.int n), .val (.ref a6), .unset, .unset, .unset] [(.int ((((b0 &&& (255 : Int32)) <<< ((16 : Int32) &&& 31)) ||| ((b1 &&& (255 : Int32)) <<< ((8 : Int32) &&& 31))) ||| (b2 &&& (255 : Int32))))])) (fun t k => XS.ior X13.here hx rfl (hb hby at_84) rfl k) ?_
  show own_Dn p e below _ (T13.setTop (mkF m 85 #[.val (.int p1), .val (.int p2), .val (.int p3), .val (.int p4), .val (.int p5), .val (.int n), .val (.ref a6), .unset, .unset, .unset] [(.int (own_hd b0 b1 b2))]))
  refine own_of (T13.setTop (mkF m 87 #[.val (.int p1), .val (.int p2), .val (.int p3), .val (.int p4), .val (.int p5), .val (.int n), .val (.ref a6), .val (.int (own_hd b0 b1 b2)), .unset, .unset] [])) (fun t k => XS.istore X13.here hx rfl (hb hby at_85) rfl (l' := #[.val (.int p1), .val (.int p2), .val (.int p3), .val (.int p4), .val (.int p5), .val (.int n), .val (.ref a6), .val (.int (own_hd b0 b1 b2)), .unset, .unset]) rfl k) ?_
  refine own_of (T13.setTop (mkF m 88 #[.val (.int p1), .val (.int p2), .val (.int p3), .val (.int p4), .val (.int p5), .val (.int n), .val (.ref a6), .val (.int (own_hd b0 b1 b2)), .unset, .unset] [(.int (0 : Int32))])) (fun t k => XS.iconst X13.here hx rfl (hb hby at_87) k) ?_
  refine own_of (T13.setTop (mkF m 90 #[.val (.int p1), .val (.int p2), .val (.int p3), .val (.int p4), .val (.int p5), .val (.int n), .val (.ref a6), .val (.int (own_hd b0 b1 b2)), .val (.int (0 : Int32)), .unset] [])) (fun t k => XS.istore X13.here hx rfl (hb hby at_88) rfl (l' := #[.val (.int p1), .val (.int p2), .val (.int p3), .val (.int p4), .val (.int p5), .val (.int n), .val (.ref a6), .val (.int (own_hd b0 b1 b2)), .val (.int (0 : Int32)), .unset]) rfl k) ?_
  refine own_of (T13.setTop (mkF m 106 #[.val (.int p1), .val (.int p2), .val (.int p3), .val (.int p4), .val (.int p5), .val (.int n), .val (.ref a6), .val (.int (own_hd b0 b1 b2)), .val (.int (own_ex n b0 b1 b2)), .unset] [])) (fun t k => ?_) ?_
  · refine XS.iload X13.here hx rfl (hb hby at_90) rfl ?_
    show Steps p.tables e below (T13.setTop (mkF m 92 #[.val (.int p1), .val (.int p2), .val (.int p3), .val (.int p4), .val (.int p5), .val (.int n), .val (.ref a6), .val (.int (own_hd b0 b1 b2)), .val (.int (0 : Int32)), .unset] [(.int n)])) t
    refine XS.iconst X13.here hx rfl (hb hby at_92) ?_
    show Steps p.tables e below (T13.setTop (mkF m 93 #[.val (.int p1), .val (.int p2), .val (.int p3), .val (.int p4), .val (.int p5), .val (.int n), .val (.ref a6), .val (.int (own_hd b0 b1 b2)), .val (.int (0 : Int32)), .unset] [(.int (3 : Int32)), (.int n)])) t
    by_cases hc14 : n < (3 : Int32)
    · refine XS.icmpYes X13.here hx rfl (pc0 := 93) (pc' := 106) rfl (hb hby at_93) rfl (tlt hc14).1 (by decide) (by decide) ?_
      show Steps p.tables e below (T13.setTop (mkF m 106 #[.val (.int p1), .val (.int p2), .val (.int p3), .val (.int p4), .val (.int p5), .val (.int n), .val (.ref a6), .val (.int (own_hd b0 b1 b2)), .val (.int (0 : Int32)), .unset] [])) t
      rw [show own_ex n b0 b1 b2 = (0 : Int32) from by simp only [own_ex, hc14, if_true, if_false]] at k
      exact k
    · refine XS.icmpNo X13.here hx rfl (hb hby at_93) rfl (flt hc14).1 ?_
      show Steps p.tables e below (T13.setTop (mkF m 96 #[.val (.int p1), .val (.int p2), .val (.int p3), .val (.int p4), .val (.int p5), .val (.int n), .val (.ref a6), .val (.int (own_hd b0 b1 b2)), .val (.int (0 : Int32)), .unset] [])) t
      refine XS.iload X13.here hx rfl (hb hby at_96) rfl ?_
      show Steps p.tables e below (T13.setTop (mkF m 98 #[.val (.int p1), .val (.int p2), .val (.int p3), .val (.int p4), .val (.int p5), .val (.int n), .val (.ref a6), .val (.int (own_hd b0 b1 b2)), .val (.int (0 : Int32)), .unset] [(.int (own_hd b0 b1 b2))])) t
      refine X13.ldcInt hx hown (mvT hZ (hw _ (List.mem_of_getElem? (i := 10) rfl))) (g := (mkF m 98 #[.val (.int p1), .val (.int p2), .val (.int p3), .val (.int p4), .val (.int p5), .val (.int n), .val (.ref a6), .val (.int (own_hd b0 b1 b2)), .val (.int (0 : Int32)), .unset] [(.int (own_hd b0 b1 b2))])) rfl (hb hby at_98) t ?_
      show Steps p.tables e below (T13.setTop (mkF m 100 #[.val (.int p1), .val (.int p2), .val (.int p3), .val (.int p4), .val (.int p5), .val (.int n), .val (.ref a6), .val (.int (own_hd b0 b1 b2)), .val (.int (0 : Int32)), .unset] [(.int (15711167 : Int32)), (.int (own_hd b0 b1 b2))])) t
      by_cases hc15 : (own_hd b0 b1 b2) = (15711167 : Int32)
      · refine XS.icmpNo X13.here hx rfl (hb hby at_100) rfl (teq hc15).2 ?_
        show Steps p.tables e below (T13.setTop (mkF m 103 #[.val (.int p1), .val (.int p2), .val (.int p3), .val (.int p4), .val (.int p5), .val (.int n), .val (.ref a6), .val (.int (own_hd b0 b1 b2)), .val (.int (0 : Int32)), .unset] [])) t
        refine XS.iconst X13.here hx rfl (hb hby at_103) ?_
        show Steps p.tables e below (T13.setTop (mkF m 104 #[.val (.int p1), .val (.int p2), .val (.int p3), .val (.int p4), .val (.int p5), .val (.int n), .val (.ref a6), .val (.int (own_hd b0 b1 b2)), .val (.int (0 : Int32)), .unset] [(.int (3 : Int32))])) t
        refine XS.istore X13.here hx rfl (hb hby at_104) rfl (l' := #[.val (.int p1), .val (.int p2), .val (.int p3), .val (.int p4), .val (.int p5), .val (.int n), .val (.ref a6), .val (.int (own_hd b0 b1 b2)), .val (.int (3 : Int32)), .unset]) rfl ?_
        show Steps p.tables e below (T13.setTop (mkF m 106 #[.val (.int p1), .val (.int p2), .val (.int p3), .val (.int p4), .val (.int p5), .val (.int n), .val (.ref a6), .val (.int (own_hd b0 b1 b2)), .val (.int (3 : Int32)), .unset] [])) t
        rw [show own_ex n b0 b1 b2 = (3 : Int32) from by simp only [own_ex, hc14, hc15, if_true, if_false]] at k
        exact k
      · refine XS.icmpYes X13.here hx rfl (pc0 := 100) (pc' := 106) rfl (hb hby at_100) rfl (feq hc15).2 (by decide) (by decide) ?_
        show Steps p.tables e below (T13.setTop (mkF m 106 #[.val (.int p1), .val (.int p2), .val (.int p3), .val (.int p4), .val (.int p5), .val (.int n), .val (.ref a6), .val (.int (own_hd b0 b1 b2)), .val (.int (0 : Int32)), .unset] [])) t
        rw [show own_ex n b0 b1 b2 = (0 : Int32) from by simp only [own_ex, hc14, hc15, if_true, if_false]] at k
        exact k
  refine own_of (T13.setTop (mkF m 108 #[.val (.int p1), .val (.int p2), .val (.int p3), .val (.int p4), .val (.int p5), .val (.int n), .val (.ref a6), .val (.int (own_hd b0 b1 b2)), .val (.int (own_ex n b0 b1 b2)), .unset] [(.ref a6)])) (fun t k => XS.aload X13.here hx rfl (hb hby at_106) rfl rfl k) ?_
  refine own_of (T13.setTop (mkF m 110 #[.val (.int p1), .val (.int p2), .val (.int p3), .val (.int p4), .val (.int p5), .val (.int n), .val (.ref a6), .val (.int (own_hd b0 b1 b2)), .val (.int (own_ex n b0 b1 b2)), .unset] [(.int n), (.ref a6)])) (fun t k => XS.iload X13.here hx rfl (hb hby at_108) rfl k) ?_
  obtain ⟨_, _, ⟨T16, L16, k16, n16⟩, -, X16, ⟨Lc16, hQ16, l16, y16, z16⟩, st16⟩ := Jvm.LawKit.callS X13 hx (y := (⟨"mendloom/io/Utf8", "byteOrderMark", "([BI)I"⟩ : MethodName)) hown (mvT hZ (hw _ (List.mem_of_getElem? (i := 6) rfl))) (mvT hZ (hw _ (List.mem_of_getElem? (i := 7) rfl))) (mvT hZ (hw _ (List.mem_of_getElem? (i := 8) rfl))) (mvT hZ (hw _ (List.mem_of_getElem? (i := 9) rfl))) (by decide) (backOf (W := 0) (rm2 l Z a0 hw [] a6 n (own_b4 b0 b1 b2 b3) h13 n0 Z13 f13_0) hZ (hw _ (List.mem_of_getElem? (i := 9) rfl)) (hw _ (List.mem_of_getElem? (i := 8) rfl)) (by decide) (by decide)) (g := (mkF m 110 #[.val (.int p1), .val (.int p2), .val (.int p3), .val (.int p4), .val (.int p5), .val (.int n), .val (.ref a6), .val (.int (own_hd b0 b1 b2)), .val (.int (own_ex n b0 b1 b2)), .unset] [(.int n), (.ref a6)])) rfl (by rw [hml]; rfl) (argsL := [(.ref a6), (.int n)]) (rest := []) (lenOf (by decide +kernel : parseMethodDescriptor "([BI)I" = some ⟨[(.array .byte), .int], some .int⟩) rfl) rfl (by show 2 * 0 + _ ≤ _; exact Nat.le_of_eq rfl) (hb hby at_110) (fun _ _ => ⟨rfl, e13, (by decide : 1 + 0 ≤ _), (by decide : 4 + 0 ≤ _)⟩)
  dsimp only [Pt.U, Pt.locs, Pt.cells, Pt.slots] at X16 l16 y16 z16 st16 hQ16
  subst l16 y16 z16
  obtain ⟨rfl, Nq16, eh16⟩ := hQ16
  have N16 := Fr.app N13 Nq16
  refine own_of (T16.setTop (mkF m 113 #[.val (.int p1), .val (.int p2), .val (.int p3), .val (.int p4), .val (.int p5), .val (.int n), .val (.ref a6), .val (.int (own_hd b0 b1 b2)), .val (.int (own_ex n b0 b1 b2)), .unset] [(.int (own_bom n b0 b1 b2))])) (fun t q => st16 t q) ?_
  refine own_of (T16.setTop (mkF m 115 #[.val (.int p1), .val (.int p2), .val (.int p3), .val (.int p4), .val (.int p5), .val (.int n), .val (.ref a6), .val (.int (own_hd b0 b1 b2)), .val (.int (own_ex n b0 b1 b2)), .val (.int (own_bom n b0 b1 b2))] [])) (fun t k => XS.istore X16.here hx rfl (hb hby at_113) rfl (l' := #[.val (.int p1), .val (.int p2), .val (.int p3), .val (.int p4), .val (.int p5), .val (.int n), .val (.ref a6), .val (.int (own_hd b0 b1 b2)), .val (.int (own_ex n b0 b1 b2)), .val (.int (own_bom n b0 b1 b2))]) rfl k) ?_
  refine own_of (T16.setTop (mkF m 117 #[.val (.int p1), .val (.int p2), .val (.int p3), .val (.int p4), .val (.int p5), .val (.int n), .val (.ref a6), .val (.int (own_hd b0 b1 b2)), .val (.int (own_ex n b0 b1 b2)), .val (.int (own_bom n b0 b1 b2))] [(.int (own_bom n b0 b1 b2))])) (fun t k => XS.iload X16.here hx rfl (hb hby at_115) rfl k) ?_
  refine own_of (T16.setTop (mkF m 119 #[.val (.int p1), .val (.int p2), .val (.int p3), .val (.int p4), .val (.int p5), .val (.int n), .val (.ref a6), .val (.int (own_hd b0 b1 b2)), .val (.int (own_ex n b0 b1 b2)), .val (.int (own_bom n b0 b1 b2))] [(.int (own_ex n b0 b1 b2)), (.int (own_bom n b0 b1 b2))])) (fun t k => XS.iload X16.here hx rfl (hb hby at_117) rfl k) ?_
  refine own_of (T16.setTop (mkF m 122 #[.val (.int p1), .val (.int p2), .val (.int p3), .val (.int p4), .val (.int p5), .val (.int n), .val (.ref a6), .val (.int (own_hd b0 b1 b2)), .val (.int (own_ex n b0 b1 b2)), .val (.int (own_bom n b0 b1 b2))] [])) (fun t k => XS.icmpNo X16.here hx rfl (hb hby at_119) rfl (teq (own_law n b0 b1 b2 hr0 hr1 hr2)).2 k) ?_
  refine own_of (T16.setTop (mkF m 123 #[.val (.int p1), .val (.int p2), .val (.int p3), .val (.int p4), .val (.int p5), .val (.int n), .val (.ref a6), .val (.int (own_hd b0 b1 b2)), .val (.int (own_ex n b0 b1 b2)), .val (.int (own_bom n b0 b1 b2))] [(.int (1 : Int32))])) (fun t k => XS.iconst X16.here hx rfl (hb hby at_122) k) ?_
  refine own_of (T16.setTop (mkF m 127 #[.val (.int p1), .val (.int p2), .val (.int p3), .val (.int p4), .val (.int p5), .val (.int n), .val (.ref a6), .val (.int (own_hd b0 b1 b2)), .val (.int (own_ex n b0 b1 b2)), .val (.int (own_bom n b0 b1 b2))] [(.int (1 : Int32))])) (fun t k => XS.goto X16.here hx rfl (pc0 := 123) (pc' := 127) rfl (hb hby at_123) (by decide) (by decide) k) ?_
  obtain ⟨fs, hr, hrun, hended, hW, hsame⟩ := X16.leave (v := some (.int (1 : Int32))) (fun h => by rw [Bd.returns] at h; cases h)
  refine ⟨_, _, retN X16 hx (t := .boolean) Bd.returns (by simp) (hb hby at_127) hr, hrun, hended, _, _, rfl, ?_, ⟨_, rfl⟩, hW, hsame.mono (by decide) (by decide)⟩
  show Q_rm0 Z p1 p2 p3 p4 p5  h0 n0 _ T16.heap _
  rw [eh16]
  exact ⟨rfl, N16⟩
set_option maxRecDepth 65536 in
set_option maxHeartbeats 40000000 in
theorem comes_1 {Post : Tables → Env → Array Value → State → Outcome → State → Prop} (hpost : ∀ tb e args s v u, (limb_1_1.after args s (.returned v) u = true ∧ limb_1_2.after args s (.returned v) u = true ∧ True) → FrameEnd s (.returned v) u (Jvm.fieldLocs frame_1_writes args s ++ Jvm.arrayLocs frame_1_arrays args s ++ Jvm.staticLocs frame_1_statics s) 16 128 → Post tb e args s (.returned v) u) :
    ArmFor flags0 classFile x code maxLocals ret World_1 tables_1 room_1 Calls_1 rest_1 Pre_1 Post := by
  intro l hfl _ _ p e ha hc hk s m args below hf hA hF happ hP
  obtain ⟨hcalls, hrest, hpre⟩ := hP
  obtain ⟨-, -, -, hnamed, -, -, -, hat⟩ := (Spec.applies_iff hf).mp happ
  obtain ⟨hg, hn⟩ := and_e (Cond.before_iff.mp (show (Jvm.Cond.and given_1 narrow_1).before args s = true from hpre))
  obtain ⟨h1, g0⟩ := and_e hg
  obtain ⟨w0, w1, w2, w3, w4, rfl⟩ : ∃ w0 w1 w2 w3 w4 : Value, args = #[w0, w1, w2, w3, w4] := by
    have hs : args.size = 5 := by simpa [Cond.value, given_1] using h1
    obtain ⟨L⟩ := args
    match L, hs with
    | [w0, w1, w2, w3, w4], _ => exact ⟨w0, w1, w2, w3, w4, rfl⟩
  have hw := fun d (hd : d ∈ tables_1) => atoms_spec (ws := Jvm.Cond.code x code maxLocals ret :: tables_1) hat d (List.mem_cons_of_mem _ hd)
  obtain ⟨c0, g1⟩ := and_e g0
  obtain ⟨i0, e0⟩ := is_v c0
  obtain rfl : w0 = (.int i0) := Option.some.inj e0
  obtain ⟨c1, g2⟩ := and_e g1
  obtain ⟨i1, e1⟩ := is_v c1
  obtain rfl : w1 = (.int i1) := Option.some.inj e1
  obtain ⟨c2, g3⟩ := and_e g2
  obtain ⟨i2, e2⟩ := is_v c2
  obtain rfl : w2 = (.int i2) := Option.some.inj e2
  obtain ⟨c3, g4⟩ := and_e g3
  obtain ⟨i3, e3⟩ := is_v c3
  obtain rfl : w3 = (.int i3) := Option.some.inj e3
  obtain ⟨i4, e4⟩ := is_v g4
  obtain rfl : w4 = (.int i4) := Option.some.inj e4
  obtain ⟨n, o, h1, h2, h3, _, L, rfl, ⟨rfl, N⟩, hq⟩ := rm0 l s _ hw tables_1 i0 i1 i2 i3 i4 s.heap s.heap.size (Nat.le_refl _) p e ha hc hk s m _ below hf ((Spec.applies_iff_loose hf).mp happ).1 ⟨rfl, State.Warmed39.refl s, rfl⟩ trivial
  refine ⟨n, _, h1, h2, h3, hpost _ _ _ _ _ _ ⟨Cond.after_iff.mpr rfl, Cond.after_iff.mpr (eq_i res_at (Term.int_eval (1)) rfl), trivial⟩ ⟨hq.1, hq.2.1, (hq.2.2.sift fun y hy => Or.inr (N y hy)).mono (by decide) (by decide)⟩⟩
theorem main_1_1 : Claimed_1_1 := comes_1 fun _ _ _ _ _ _ h hF => ⟨h.1, hF⟩
theorem main_1_2 : Claimed_1_2 := comes_1 fun _ _ _ _ _ _ h hF => ⟨h.2.1, hF⟩
end Jvm.Pilot.@@N@@
namespace Jvm.Pilot.@@N@@
open Jvm Jvm.ClassFile Sem Op Lib Jvm.Free Jvm.Stand Jvm.Pilot.@@N@@.Jvm.D
/-! MADE BY PROGRAM (witnessworld.py) out of the Statement's table words and the real class files: 9 classes; the members and pool entries that the words name. The judged class is class 1, her method 2. -/
namespace start1
open Jvm.ClassFile
def u (s : String) : CpInfo := .utf8 (stringToUtf16 s)
/-- a pool by its gaps: so many unusable entries, then the entry; so many at the end -/
def gap : Nat → List CpInfo → List CpInfo
  | 0, r => r
  | n + 1, r => .unusable :: gap n r
def poolList (es : List (Nat × CpInfo)) (last : Nat) : List CpInfo := es.foldr (fun e r => gap e.1 (e.2 :: r)) (gap last [])
def pool (es : List (Nat × CpInfo)) (last : Nat) : Array CpInfo := ⟨poolList es last⟩
def fileOf (pool : Array CpInfo) (this : Nat) (attrs : Array Attribute := #[]) (ms : Array MethodInfo := #[]) (fl : Nat := 33) (sup : Nat := 0) (ifs : Array Nat := #[]) (fds : Array FieldInfo := #[]) : ClassFile where
  minorVersion := 0
  majorVersion := 65
  constantPool := pool
  accessFlags := fl
  thisClass := this
  superClass := sup
  interfaces := ifs
  fields := fds
  methods := ms
  attributes := attrs
def plain (name : String) (sup : Option ClassId) : Class where
  name := name
  kind := .ordinary
  loader := none
  accessFlags := 33
  super := sup
  interfaces := #[]
  cf := none
  fields := #[]
  methods := #[]
  instanceTypes := #[]
  staticTypes := #[]
  resolved := #[]
  callSites := []
  init := .initialized
  statics := none
  mirror := none

def pool0 : Array CpInfo := pool [(5, u "<init>"), (0, u "()V"), (1, .class_ 10), (1, u "java/lang/Object")] 113

def k0m0 : Method := { name := "<init>", desc := "()V", sig := { parameters := [], returnType := none }, accessFlags := 1, code := none }
/-- java/lang/Object -/
def k0 : Class := { plain "java/lang/Object" none with
  accessFlags := 33
  interfaces := #[]
  cf := some (fileOf pool0 8 #[] #[{ accessFlags := 1, nameIndex := 5, descriptorIndex := 6, attributes := #[] }] 33 0 #[] #[])
  fields := #[]
  methods := #[k0m0]
  instanceTypes := #[]
  staticTypes := #[]
  resolved := Array.replicate 124 none
  statics := none }

def pool1 : Array CpInfo := pool [(2, .class_ 4), (1, u "java/lang/Object"), (0, u "<init>"), (0, u "()V"), (0, .integer 2147483647), (0, .methodref 9 10), (0, .class_ 11), (0, .nameAndType 12 13), (0, u "mendloom/io/Utf8ByteOrderMarkPinLaw"), (0, u "draw"), (0, u "(II)B"), (0, .integer 15711167), (0, .methodref 16 17), (0, .class_ 18), (0, .nameAndType 19 20), (0, u "mendloom/io/Utf8"), (0, u "byteOrderMark"), (0, u "([BI)I"), (3, u "law"), (0, u "(IIIII)Z")] 4

def k1m0 : Method := { name := "<init>", desc := "()V", sig := { parameters := [], returnType := none }, accessFlags := 1, code := none }
def k1c1 : Code := { maxStack := 2, maxLocals := 2, code := method_2_code, exceptionTable := #[], attributes := #[] }
def k1m1 : Method := { name := "draw", desc := "(II)B", sig := { parameters := [.int, .int], returnType := some .byte }, accessFlags := 10, code := some k1c1 }
def k1c2 : Code := { maxStack := 4, maxLocals := 10, code := code, exceptionTable := #[], attributes := #[] }
def k1m2 : Method := { name := "law", desc := "(IIIII)Z", sig := { parameters := [.int, .int, .int, .int, .int], returnType := some .boolean }, accessFlags := 9, code := some k1c2 }
/-- mendloom/io/Utf8ByteOrderMarkPinLaw -/
def k1 : Class := { plain "mendloom/io/Utf8ByteOrderMarkPinLaw" (some 0) with
  accessFlags := 49
  interfaces := #[]
  cf := some (fileOf pool1 9 #[] #[{ accessFlags := 1, nameIndex := 5, descriptorIndex := 6, attributes := #[] }, { accessFlags := 10, nameIndex := 12, descriptorIndex := 13, attributes := #[] }, { accessFlags := 9, nameIndex := 24, descriptorIndex := 25, attributes := #[] }] 49 2 #[] #[])
  fields := #[]
  methods := #[k1m0, k1m1, k1m2]
  instanceTypes := #[]
  staticTypes := #[]
  resolved := Array.replicate 30 none
  statics := none }

def pool2 : Array CpInfo := pool [(2, .class_ 4), (1, u "java/lang/Object"), (0, u "<init>"), (0, u "()V"), (38, .class_ 46), (0, u "mendloom/io/Utf8"), (0, u "NOT_UTF8"), (0, u "Ljava/lang/String;"), (5, u "byteOrderMark"), (0, u "([BI)I")] 7

def k2m0 : Method := { name := "<init>", desc := "()V", sig := { parameters := [], returnType := none }, accessFlags := 2, code := none }
def k2c1 : Code := { maxStack := 2, maxLocals := 2, code := prog_17_method_2_code, exceptionTable := #[], attributes := #[] }
def k2m1 : Method := { name := "byteOrderMark", desc := "([BI)I", sig := { parameters := [(.array .byte), .int], returnType := some .int }, accessFlags := 8, code := some k2c1 }
/-- mendloom/io/Utf8 -/
def k2 : Class := { plain "mendloom/io/Utf8" (some 0) with
  accessFlags := 48
  interfaces := #[]
  cf := some (fileOf pool2 45 #[] #[{ accessFlags := 2, nameIndex := 5, descriptorIndex := 6, attributes := #[] }, { accessFlags := 8, nameIndex := 54, descriptorIndex := 55, attributes := #[] }] 48 2 #[] #[{ accessFlags := 24, nameIndex := 47, descriptorIndex := 48, attributes := #[] }])
  fields := #[{ name := "NOT_UTF8", type := (.object "java/lang/String"), accessFlags := 24, slot := 0, constantValue := 0 }]
  methods := #[k2m0, k2m1]
  instanceTypes := #[]
  staticTypes := #[(.object "java/lang/String")]
  resolved := Array.replicate 63 none
  statics := none }

def pool3 : Array CpInfo := pool [(1, u "java/lang/Cloneable"), (0, .class_ 1), (0, u "java/lang/Object"), (0, .class_ 3)] 3

/-- java/lang/Cloneable -/
def k3 : Class := { plain "java/lang/Cloneable" (some 0) with
  accessFlags := 1537
  interfaces := #[]
  cf := some (fileOf pool3 2 #[] #[] 1537 4 #[] #[])
  fields := #[]
  methods := #[]
  instanceTypes := #[]
  staticTypes := #[]
  resolved := Array.replicate 8 none
  statics := none }

def pool4 : Array CpInfo := pool [(1, u "java/io/Serializable"), (0, .class_ 1), (0, u "java/lang/Object"), (0, .class_ 3)] 3

/-- java/io/Serializable -/
def k4 : Class := { plain "java/io/Serializable" (some 0) with
  accessFlags := 1537
  interfaces := #[]
  cf := some (fileOf pool4 2 #[] #[] 1537 4 #[] #[])
  fields := #[]
  methods := #[]
  instanceTypes := #[]
  staticTypes := #[]
  resolved := Array.replicate 8 none
  statics := none }

/-- the primitive byte -/
def k5 : Class := { plain "byte" none with kind := .primitive 'B', accessFlags := 0x411 }
/-- [B -/
def k6 : Class := { plain "[B" (some 0) with kind := .array 5 .byte, interfaces := #[3, 4], accessFlags := 1041 }

/-- the primitive int -/
def k7 : Class := { plain "int" none with kind := .primitive 'I', accessFlags := 0x411 }
/-- [I -/
def k8 : Class := { plain "[I" (some 0) with kind := .array 7 .int, interfaces := #[3, 4], accessFlags := 1041 }

def heap : Heap := #[]
def classes : Array Class := #[k0, k1, k2, k3, k4, k5, k6, k7, k8]
def interned : List (Array UInt16 × Addr) := []
def slotsUsed : Nat := 0
def theMethod : MethodId := ⟨1, 2⟩
def args0 : Array Value := #[.int 5, .int 7, .int 9, .int 4, .int 8]
def aboutOver (below : List Frame) : State where
  vm := { classes := classes, interned := interned.toArray }
  heap := heap
  slotsUsed := slotsUsed
  threads := #[{ frames := .invoking theMethod args0 :: below }]
def below0 : List Frame := [.native { method := ⟨0, 0⟩, args := #[] }]
def about1 : State := aboutOver below0
def p0 : Program := .bare "" "" ""
def e0 : Env := launch0.env 0 0 0
theorem w_frames : about1.frames = Frame.invoking theMethod args0 :: below0 := rfl
set_option maxRecDepth 65536 in
theorem w_args : argsFit about1.vm theMethod args0 = true := by decide +kernel
set_option maxRecDepth 65536 in
theorem w_heap : heapFits about1 = true := by decide +kernel
set_option maxRecDepth 65536 in
theorem w_runnable : about1.curStatus? = some .runnable := by decide +kernel
set_option maxRecDepth 65536 in
theorem w_alone : about1.alone = true := by decide +kernel
set_option maxRecDepth 65536 in
theorem w_named : about1.methodNamed? x = some theMethod := by decide +kernel
set_option maxRecDepth 65536 in
theorem w_hears : about1.hears theMethod below0 = true := by decide +kernel
set_option maxRecDepth 65536 in
theorem w_ripe : about1.ripe theMethod args0 below0 = true := by decide +kernel
theorem w_running : about1.status = .running := rfl
set_option maxRecDepth 65536 in
theorem w_room : about1.hasRoom e0.platform room_1 = true :=
  launch0.hasRoom_least _ room_1 (by decide +kernel) (by decide +kernel) (by decide +kernel) (by decide +kernel) (by decide +kernel) (by decide +kernel)
theorem allAtoms_all (ts : List Jvm.Cond) (a : Array Jvm.Value) (st : Jvm.State) : (allAtoms ts).before a st = ts.all (fun c => c.before a st) := by
  induction ts with
  | nil => rfl
  | cons c t ih =>
    show (Jvm.Cond.and c (allAtoms t)).before a st = _
    rw [Jvm.Cond.before_and, ih, List.all_cons]
def words1 : List Jvm.Cond := Jvm.Cond.code x code maxLocals ret :: tables_1
/-- a 'code' word, met by the world's own term for the bytes: nothing is compared byte by byte -/
theorem code_word {y : MethodName} {bytes : ByteArray} {mx : Nat} {rt : Option FieldType} {a : Array Value} {s : State} {m : MethodId} {meth : Method} {c : Code} (h1 : s.methodNamed? y = some m) (h2 : s.vm.method? m = some meth) (h3 : meth.code = some c) (h4 : c.code = bytes)
    (h5 : (c.maxLocals == mx && c.exceptionTable.isEmpty && decide (c.maxStack ≤ mostOperands) && decide (meth.sig.returnType = rt) && !meth.locks && decide (parseMethodDescriptor y.desc = some meth.sig)) = true) : (Jvm.Cond.code y bytes mx rt).before a s = true := by
  simp only [Bool.and_eq_true, beq_iff_eq, Bool.not_eq_true', decide_eq_true_eq] at h5
  obtain ⟨⟨⟨⟨⟨g1, g2⟩, g3⟩, g4⟩, g5⟩, g6⟩ := h5
  simp [Cond.before, Cond.holds, Cond.value, h1, h2, h3, h4, g1, g2, g3, g4, g5, g6]
def isCode : Jvm.Cond → Bool
  | .code _ _ _ _ => true
  | _ => false
theorem all_split {L : List Jvm.Cond} {P : Jvm.Cond → Bool} (h1 : L.all (fun c => isCode c || P c) = true) (h2 : ∀ c ∈ L.filter isCode, P c = true) : L.all P = true := by
  refine List.all_eq_true.mpr fun c hc => ?_
  have h := List.all_eq_true.mp h1 c hc
  rcases Bool.eq_false_or_eq_true (isCode c) with hi | hi
  · exact h2 c (List.mem_filter.mpr ⟨hc, hi⟩)
  · simpa [hi] using h
set_option maxRecDepth 65536 in
theorem w_c0 : (Jvm.Cond.code x code maxLocals ret).before args0 about1 = true := code_word (m := ⟨1, 2⟩) (meth := k1m2) (c := k1c2) (by decide +kernel) rfl rfl rfl (by decide +kernel)
set_option maxRecDepth 65536 in
theorem w_c1 : (Jvm.Cond.code ({ cls := "mendloom/io/Utf8ByteOrderMarkPinLaw", name := "draw", desc := "(II)B" } : Jvm.MethodName) method_2_code (2 : Nat) (Option.some Jvm.ClassFile.FieldType.byte)).before args0 about1 = true := code_word (m := ⟨1, 1⟩) (meth := k1m1) (c := k1c1) (by decide +kernel) rfl rfl rfl (by decide +kernel)
set_option maxRecDepth 65536 in
theorem w_c2 : (Jvm.Cond.code ({ cls := "mendloom/io/Utf8", name := "byteOrderMark", desc := "([BI)I" } : Jvm.MethodName) prog_17_method_2_code (2 : Nat) (Option.some Jvm.ClassFile.FieldType.int)).before args0 about1 = true := code_word (m := ⟨2, 1⟩) (meth := k2m1) (c := k2c1) (by decide +kernel) rfl rfl rfl (by decide +kernel)
def codes1 : List Jvm.Cond := [Jvm.Cond.code x code maxLocals ret, Jvm.Cond.code ({ cls := "mendloom/io/Utf8ByteOrderMarkPinLaw", name := "draw", desc := "(II)B" } : Jvm.MethodName) method_2_code (2 : Nat) (Option.some Jvm.ClassFile.FieldType.byte), Jvm.Cond.code ({ cls := "mendloom/io/Utf8", name := "byteOrderMark", desc := "([BI)I" } : Jvm.MethodName) prog_17_method_2_code (2 : Nat) (Option.some Jvm.ClassFile.FieldType.int)]
set_option maxRecDepth 65536 in
theorem codes_eq : words1.filter isCode = codes1 := rfl
theorem w_codes : ∀ c ∈ words1.filter isCode, c.before args0 about1 = true := by
  rw [codes_eq]
  intro c hc
  simp only [codes1, List.mem_cons, List.not_mem_nil, or_false] at hc
  rcases hc with rfl | rfl | rfl
  · exact w_c0
  · exact w_c1
  · exact w_c2
set_option maxRecDepth 65536 in
theorem w_t1 : words1.all (fun c => isCode c || c.before args0 about1) = true := by decide +kernel
theorem w_tables : (allAtoms (Jvm.Cond.code x code maxLocals ret :: tables_1)).before args0 about1 = true := by
  rw [allAtoms_all]
  show words1.all (fun c => c.before args0 about1) = true
  refine all_split ?_ w_codes
  rw [w_t1]
set_option maxRecDepth 65536 in
theorem w_case : (Jvm.Cond.and given_1 narrow_1).before args0 about1 = true := by decide +kernel
theorem w_applies : (headSpec (Jvm.Cond.code x code maxLocals ret :: tables_1) room_1).applies x e0.platform about1 = true :=
  (Spec.applies_iff w_frames).mpr ⟨w_running, w_runnable, w_alone, w_named, w_hears, w_ripe, w_room, w_tables⟩
theorem atStart : AtStart classFile x code maxLocals ret World_1 tables_1 room_1 Calls_1 rest_1 Pre_1 launch0 p0 e0 about1 theMethod args0 below0 :=
  ⟨lists_1, trivial, launch0.admits_env _ _ _, launch0.least_env, fairChoices_fair.cas, fairChoices_fair.clock, w_frames, w_args, w_heap, w_applies, trivial, trivial, w_case⟩
end start1
theorem witness_1 : WitnessClaimed_1 := ⟨start1.p0, start1.e0, start1.about1, start1.theMethod, start1.args0, start1.below0, start1.atStart⟩
end Jvm.Pilot.@@N@@
