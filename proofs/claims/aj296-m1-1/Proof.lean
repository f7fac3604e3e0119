import JvmDerived
import JvmDerived.Pilot.@@N@@Statement
import JvmDerived.Pilot.@@N@@Code
set_option linter.unusedVariables false
set_option linter.unusedSimpArgs false
namespace Jvm.RoadKit
open Sem ClassFile Op Lib Jvm.Stand Jvm.Free Jvm.LawKit
section New
variable {p : Program} {l : Launch} {e : Env} {R : Room} {s : State} {m : MethodId} {args : Array Value} {below : List Frame} {meth : Method} {c : Code} {T : State} {locs : List Loc} {cells slots : Nat}
theorem retI (X : Stand p l e R s m args below meth c T locs cells slots) (hx : p.tables.exec = Jvm.exec) {pc : Nat} {Ls : Array Slot} {z : Int32} {rest : List Value} (hret : meth.sig.returnType = some .int) (hd : decode c.code pc = .ok (.ireturn, 1)) {fs : List Frame}
    (hl : ∀ (f : JFrame) (acts : List Action), f.method = m → f.locked = none → f.entered = [] → (doReturn e (T.setTop f) acts (some (.int z))).1 = T.setFrames fs) : Steps p.tables e below (T.setTop (mkF m pc Ls (.int z :: rest))) (T.setFrames fs) := by
  have hm' : T.vm.method? m = some meth := X.method'
  have hn : narrow .int (.int z) = .int z := rfl
  show Steps p.tables e below (T.setTop { method := m, pc := pc, locals := Ls, stack := _ :: rest, locked := none }) _
  jvm_step X.here [X.here.top, hx, hd, hm', hret, hn]
  first | (intro acts; rw [hl _ acts rfl rfl rfl]) | rw [hl _ _ rfl rfl rfl]
  exact Steps.refl _
end New
/-- the run from A ends as P says -/
def own_Dn (p : Program) (e : Env) (below : List Frame) (P : Outcome → State → Prop) (A : State) : Prop := ∃ U o, Steps p.tables e below A U ∧ U.status = .running ∧ Ended U below o ∧ P o U
theorem own_in {p : Program} {e : Env} {below : List Frame} {P : Outcome → State → Prop} {A : State} (h : own_Dn p e below P A) : ∃ U o, Steps p.tables e below A U ∧ U.status = .running ∧ Ended U below o ∧ P o U := h
/-- one step (or many) from A to B -/
theorem own_of {p : Program} {e : Env} {below : List Frame} {P : Outcome → State → Prop} {A : State} (B : State) (st : ∀ t, Steps p.tables e below B t → Steps p.tables e below A t) (h : own_Dn p e below P B) : own_Dn p e below P A := by
  obtain ⟨U, o, h1, r⟩ := h
  exact ⟨U, o, st U h1, r⟩
theorem own_tr {p : Program} {e : Env} {below : List Frame} {P : Outcome → State → Prop} {A : State} (B : State) (st : Steps p.tables e below A B) (h : own_Dn p e below P B) : own_Dn p e below P A := by
  obtain ⟨U, o, h1, r⟩ := h
  exact ⟨U, o, st.trans h1, r⟩
end Jvm.RoadKit
namespace Jvm.Pilot.@@N@@
open Jvm Jvm.ClassFile Sem Op Lib Jvm.Free Jvm.Stand Jvm.LawKit Jvm.RoadKit Bundle Jvm.Pilot.@@N@@.Jvm.D
def own_maxL (a b : Int64) : Int64 := if lcmpW a b < (0 : Int32) then b else a
def own_ok (a b : Int64) : Int32 := if lcmpW (own_maxL a b) b = (0 : Int32) then 1 else 0
def own_and3 (x y z : Int32) : Int32 := if x = (0 : Int32) then 0 else if y = (0 : Int32) then 0 else if z = (0 : Int32) then 0 else 1
def own_fit (c m w fc fm fw : Int64) : Int32 := if (0 : Int32) < lcmpW c fc then 0 else if (0 : Int32) < lcmpW m fm then 0 else if (0 : Int32) < lcmpW w fw then 0 else 1
theorem own_okE (a b : Int64) : own_ok a b = if (0 : Int32) < lcmpW a b then 0 else 1 := by
  unfold own_ok own_maxL
  simp only [lw_lt, lw_gt, lw_eq]
  by_cases h : a < b
  · have h2 : ¬ b < a := by rw [Int64.lt_iff_toInt_lt] at h ⊢; omega
    simp [h, h2]
  · by_cases h2 : b < a
    · have h3 : ¬ a = b := by intro q; rw [q] at h2; rw [Int64.lt_iff_toInt_lt] at h2; omega
      simp [h, h2, h3]
    · have h3 : a = b := by apply Int64.toInt_inj.mp; rw [Int64.lt_iff_toInt_lt] at h h2; omega
      simp [h3]
theorem own_law (c m w fc fm fw : Int64) : own_fit c m w fc fm fw = own_and3 (own_ok c fc) (own_ok m fm) (own_ok w fw) := by
  simp only [own_okE, own_fit, own_and3]
  by_cases h1 : (0 : Int32) < lcmpW c fc <;> by_cases h2 : (0 : Int32) < lcmpW m fm <;> by_cases h3 : (0 : Int32) < lcmpW w fw <;> simp only [h1, h2, h3, if_true, if_false] <;> rfl
theorem d2_0 : decode jdk_30_method_1_code 0 = .ok (.aload_n 0, 1) := by decide +kernel
theorem d2_1 : decode jdk_30_method_1_code 1 = .ok (.invokespecial 1, 3) := by decide +kernel
theorem d2_4 : decode jdk_30_method_1_code 4 = .ok (.return_, 1) := by decide +kernel
theorem pn_2 : plainName "java/lang/Record" = true := by first | (simp [plainName, overriddenIn]; done) | decide +kernel
theorem ef_rm2 (m : MethodId) (x0 : Addr) : entryFrame m #[(.ref x0)] 1 = mkF m 0 #[.val (.ref x0)] [] := by first | (simp [entryFrame, mkF, argsToLocals, Value.category]; done) | rfl
def Q_rm2 (Z : State) (a1 : Addr)  (h0 : Heap) (n0 : Nat) (v : Option Value) (h : Heap) (L : List Loc) : Prop := v = none ∧ Fr n0 L ∧ h = h0
set_option maxRecDepth 65536 in
set_option maxHeartbeats 40000000 in
theorem rm2 (l : Launch) (Z : State) (a0 : Array Value) (hw : ∀ d ∈ tables_1, d.before a0 Z = true) (ws : List Jvm.Cond) (a1 : Addr)  (h0 : Heap) (n0 : Nat) (Z0 : n0 ≤ h0.size) :
    MetFree l (⟨"java/lang/Record", "<init>", "()V"⟩ : MethodName) (head1 (Jvm.Cond.code (⟨"java/lang/Record", "<init>", "()V"⟩ : MethodName) jdk_30_method_1_code 1 none :: ws) ({ frames := 1, cells := 0, slots := 0, locals := 12 } : Room)) (fun a U => a = #[(.ref a1)] ∧ Z.Warmed39 U.vm ∧ U.heap = h0) (fun _ _ _ _ _ => True) (fun _ U o U' => ∃ v L, o = .returned v ∧ Q_rm2 Z a1  h0 n0 v U'.heap L ∧ FrameEnd U o U' L ({ frames := 1, cells := 0, slots := 0, locals := 12 } : Room).cells ({ frames := 1, cells := 0, slots := 0, locals := 12 } : Room).slots) := by
  refine MetFree.of_bodySF (plainFor_of_name pn_2) hisR ?_
  intro p e s m args below meth c s₁ Bd hml0 hP hK
  obtain ⟨rfl, hZ, hh⟩ := hP
  have hx := Bd.exec
  have hby := Bd.bytes
  have hml : c.maxLocals = 1 := hml0
  have hown : s.vm.findClass "java/lang/Record" = some m.cls := findClass_of_methodNamed Bd.named
  have hnm := (name_of_methodNamed Bd.named Bd.method).1
  have X0 : Stand p l e ({ frames := 1, cells := 0, slots := 0, locals := 12 } : Room) s m #[(.ref a1)] below meth c s₁ [] 0 0 := Stand.of_body Bd
  have e0 : s₁.heap = h0 := by rw [← hh, Bd.state]; rfl
  have N0 := Fr.nil n0
  refine own_in ?_
  refine own_of (s₁.setTop (mkF m 0 #[.val (.ref a1)] [])) (fun t k => castTop (ef_rm2 m a1) k) ?_
  refine own_of (s₁.setTop (mkF m 1 #[.val (.ref a1)] [(.ref a1)])) (fun t k => XS.aloadN X0.here hx rfl (hb hby d2_0) rfl rfl k) ?_
  obtain ⟨T1, X1, e1, st1⟩ := initO X0 hx hZ hown (hw _ (List.mem_of_getElem? (i := 11) rfl)) (hw _ (List.mem_of_getElem? (i := 12) rfl)) (hw _ (List.mem_of_getElem? (i := 13) rfl)) e0 (g := (mkF m 1 #[.val (.ref a1)] [(.ref a1)])) rfl (by rw [hml]; rfl) rfl (hb hby d2_1) (by decide) (W := 0) (by show 2 * 0 + _ ≤ _; exact Nat.le_of_eq rfl) (by decide)
  refine own_of (T1.setTop (mkF m 4 #[.val (.ref a1)] [])) (fun t q => st1 t q) ?_
  obtain ⟨fs, hr, hrun, hended, hW, hsame⟩ := X1.leave (v := none) (fun _ => rfl)
  refine ⟨_, _, X1.returnOut hx Bd.returns (hb hby d2_4) hr, hrun, hended, _, _, rfl, ?_, ⟨_, rfl⟩, hW, hsame.mono (by decide) (by decide)⟩
  show Q_rm2 Z a1  h0 n0 _ T1.heap _
  rw [e1]
  exact ⟨rfl, N0, rfl⟩
theorem d4_0 : decode jdk_29_method_66_code 0 = .ok (.lload_n 0, 1) := by decide +kernel
theorem d4_1 : decode jdk_29_method_66_code 1 = .ok (.lload_n 2, 1) := by decide +kernel
theorem d4_2 : decode jdk_29_method_66_code 2 = .ok (.lcmp, 1) := by decide +kernel
theorem d4_3 : decode jdk_29_method_66_code 3 = .ok (.ifCond .lt 7, 3) := by decide +kernel
theorem d4_6 : decode jdk_29_method_66_code 6 = .ok (.lload_n 0, 1) := by decide +kernel
theorem d4_7 : decode jdk_29_method_66_code 7 = .ok (.goto 4, 3) := by decide +kernel
theorem d4_10 : decode jdk_29_method_66_code 10 = .ok (.lload_n 2, 1) := by decide +kernel
theorem d4_11 : decode jdk_29_method_66_code 11 = .ok (.lreturn, 1) := by decide +kernel
theorem ef_rm4 (m : MethodId) (x0 : Int64) (x1 : Int64) : entryFrame m #[(.long x0), (.long x1)] 4 = mkF m 0 #[.val (.long x0), .second, .val (.long x1), .second] [] := by first | (simp [entryFrame, mkF, argsToLocals, Value.category]; done) | rfl
def Q_rm4 (Z : State) (q1 : Int64) (q2 : Int64)  (h0 : Heap) (n0 : Nat) (v : Option Value) (h : Heap) (L : List Loc) : Prop := v = some (.long (own_maxL q1 q2)) ∧ Fr n0 L ∧ h = h0
set_option maxRecDepth 65536 in
set_option maxHeartbeats 40000000 in
theorem rm4 (l : Launch) (Z : State) (a0 : Array Value) (hw : ∀ d ∈ tables_1, d.before a0 Z = true) (ws : List Jvm.Cond) (q1 : Int64) (q2 : Int64)  (h0 : Heap) (n0 : Nat) (Z0 : n0 ≤ h0.size) :
    MetFree l (⟨"java/lang/Math", "max", "(JJ)J"⟩ : MethodName) (head1 (Jvm.Cond.code (⟨"java/lang/Math", "max", "(JJ)J"⟩ : MethodName) jdk_29_method_66_code 4 (some .long) :: ws) ({ frames := 0, cells := 0, slots := 0, locals := 0 } : Room)) (fun a U => a = #[(.long q1), (.long q2)] ∧ Z.Warmed39 U.vm ∧ U.heap = h0) (fun _ _ _ _ _ => True) (fun _ U o U' => ∃ v L, o = .returned v ∧ Q_rm4 Z q1 q2  h0 n0 v U'.heap L ∧ FrameEnd U o U' L ({ frames := 0, cells := 0, slots := 0, locals := 0 } : Room).cells ({ frames := 0, cells := 0, slots := 0, locals := 0 } : Room).slots) := by
  refine MetFree.of_bodySF (Jvm.Free.JP.mathPlain rfl (by decide +kernel)) hisR ?_
  intro p e s m args below meth c s₁ Bd hml0 hP hK
  obtain ⟨rfl, hZ, hh⟩ := hP
  have hx := Bd.exec
  have hby := Bd.bytes
  have hml : c.maxLocals = 4 := hml0
  have hown : s.vm.findClass "java/lang/Math" = some m.cls := findClass_of_methodNamed Bd.named
  have hnm := (name_of_methodNamed Bd.named Bd.method).1
  have X0 : Stand p l e ({ frames := 0, cells := 0, slots := 0, locals := 0 } : Room) s m #[(.long q1), (.long q2)] below meth c s₁ [] 0 0 := Stand.of_body Bd
  have e0 : s₁.heap = h0 := by rw [← hh, Bd.state]; rfl
  have N0 := Fr.nil n0
  refine own_in ?_
  refine own_of (s₁.setTop (mkF m 0 #[.val (.long q1), .second, .val (.long q2), .second] [])) (fun t k => castTop (ef_rm4 m q1 q2) k) ?_
  refine own_of (s₁.setTop (mkF m 1 #[.val (.long q1), .second, .val (.long q2), .second] [(.long q1)])) (fun t k => XS.lloadN X0.here hx rfl (hb hby d4_0) rfl k) ?_
  refine own_of (s₁.setTop (mkF m 2 #[.val (.long q1), .second, .val (.long q2), .second] [(.long q2), (.long q1)])) (fun t k => XS.lloadN X0.here hx rfl (hb hby d4_1) rfl k) ?_
  refine own_of (s₁.setTop (mkF m 3 #[.val (.long q1), .second, .val (.long q2), .second] [(.int (lcmpW q1 q2))])) (fun t k => XS.lcmp X0.here hx rfl (hb hby d4_2) rfl k) ?_
  by_cases hc2 : (lcmpW q1 q2) < (0 : Int32)
  · refine own_of (s₁.setTop (mkF m 10 #[.val (.long q1), .second, .val (.long q2), .second] [])) (fun t k => XS.ifYes X0.here hx rfl (pc0 := 3) (pc' := 10) rfl (hb hby d4_3) rfl ((if0 _ _).trans (tlt hc2).1) (by decide) (by decide) k) ?_
    refine own_of (s₁.setTop (mkF m 11 #[.val (.long q1), .second, .val (.long q2), .second] [(.long q2)])) (fun t k => XS.lloadN X0.here hx rfl (hb hby d4_10) rfl k) ?_
    have hv : own_maxL q1 q2 = q2 := by simp only [own_maxL, hc2, if_true, if_false]
    obtain ⟨fs, hr, hrun, hended, hW, hsame⟩ := X0.leave (v := some (.long q2)) (fun h => by rw [Bd.returns] at h; cases h)
    refine ⟨_, _, X0.lreturnOut hx Bd.returns (hb hby d4_11) hr, hrun, hended, _, _, rfl, ?_, ⟨_, rfl⟩, hW, hsame.mono (by decide) (by decide)⟩
    show Q_rm4 Z q1 q2  h0 n0 _ s₁.heap _
    rw [e0]
    exact ⟨by rw [hv], N0, rfl⟩
  · refine own_of (s₁.setTop (mkF m 6 #[.val (.long q1), .second, .val (.long q2), .second] [])) (fun t k => XS.ifNo X0.here hx rfl (hb hby d4_3) rfl ((if0 _ _).trans (flt hc2).1) k) ?_
    refine own_of (s₁.setTop (mkF m 7 #[.val (.long q1), .second, .val (.long q2), .second] [(.long q1)])) (fun t k => XS.lloadN X0.here hx rfl (hb hby d4_6) rfl k) ?_
    refine own_of (s₁.setTop (mkF m 11 #[.val (.long q1), .second, .val (.long q2), .second] [(.long q1)])) (fun t k => XS.goto X0.here hx rfl (pc0 := 7) (pc' := 11) rfl (hb hby d4_7) (by decide) (by decide) k) ?_
    have hv : own_maxL q1 q2 = q1 := by simp only [own_maxL, hc2, if_true, if_false]
    obtain ⟨fs, hr, hrun, hended, hW, hsame⟩ := X0.leave (v := some (.long q1)) (fun h => by rw [Bd.returns] at h; cases h)
    refine ⟨_, _, X0.lreturnOut hx Bd.returns (hb hby d4_11) hr, hrun, hended, _, _, rfl, ?_, ⟨_, rfl⟩, hW, hsame.mono (by decide) (by decide)⟩
    show Q_rm4 Z q1 q2  h0 n0 _ s₁.heap _
    rw [e0]
    exact ⟨by rw [hv], N0, rfl⟩
theorem d1_0 : decode prog_34_method_1_code 0 = .ok (.aload_n 0, 1) := by decide +kernel
theorem d1_1 : decode prog_34_method_1_code 1 = .ok (.invokespecial 1, 3) := by decide +kernel
theorem d1_4 : decode prog_34_method_1_code 4 = .ok (.aload_n 0, 1) := by decide +kernel
theorem d1_5 : decode prog_34_method_1_code 5 = .ok (.lload_n 1, 1) := by decide +kernel
theorem d1_6 : decode prog_34_method_1_code 6 = .ok (.putfield 7, 3) := by decide +kernel
theorem d1_9 : decode prog_34_method_1_code 9 = .ok (.aload_n 0, 1) := by decide +kernel
theorem d1_10 : decode prog_34_method_1_code 10 = .ok (.lload_n 3, 1) := by decide +kernel
theorem d1_11 : decode prog_34_method_1_code 11 = .ok (.putfield 13, 3) := by decide +kernel
theorem d1_14 : decode prog_34_method_1_code 14 = .ok (.aload_n 0, 1) := by decide +kernel
theorem d1_15 : decode prog_34_method_1_code 15 = .ok (.lload 5, 2) := by decide +kernel
theorem d1_17 : decode prog_34_method_1_code 17 = .ok (.putfield 16, 3) := by decide +kernel
theorem d1_20 : decode prog_34_method_1_code 20 = .ok (.return_, 1) := by decide +kernel
theorem pn_1 : plainName "com/example/loadstone/loadstone/placement/Resources" = true := by first | (simp [plainName, overriddenIn]; done) | decide +kernel
theorem ef_rm1 (m : MethodId) (x0 : Addr) (x1 : Int64) (x2 : Int64) (x3 : Int64) : entryFrame m #[(.ref x0), (.long x1), (.long x2), (.long x3)] 7 = mkF m 0 #[.val (.ref x0), .val (.long x1), .second, .val (.long x2), .second, .val (.long x3), .second] [] := by first | (simp [entryFrame, mkF, argsToLocals, Value.category]; done) | rfl
def Q_rm1 (Z : State) (a1 : Addr) (q2 : Int64) (q3 : Int64) (q4 : Int64)  (h0 : Heap) (n0 : Nat) (v : Option Value) (h : Heap) (L : List Loc) : Prop := v = none ∧ Fr n0 L ∧ Keep h0 h [a1] ∧ Fld Z h a1 "com/example/loadstone/loadstone/placement/Resources" "cores" "J" (.long q2) ∧ Fld Z h a1 "com/example/loadstone/loadstone/placement/Resources" "memoryMib" "J" (.long q3) ∧ Fld Z h a1 "com/example/loadstone/loadstone/placement/Resources" "bandwidthMbps" "J" (.long q4)
set_option maxRecDepth 65536 in
set_option maxHeartbeats 40000000 in
theorem rm1 (l : Launch) (Z : State) (a0 : Array Value) (hw : ∀ d ∈ tables_1, d.before a0 Z = true) (ws : List Jvm.Cond) (a1 : Addr) (q2 : Int64) (q3 : Int64) (q4 : Int64)  (h0 : Heap) (n0 : Nat) (Z0 : n0 ≤ h0.size) (E1 : Exa Z h0 a1 "com/example/loadstone/loadstone/placement/Resources") (F0 : Fld Z h0 a1 "com/example/loadstone/loadstone/placement/Resources" "cores" "J" (.long (0 : Int64))) (F1 : Fld Z h0 a1 "com/example/loadstone/loadstone/placement/Resources" "memoryMib" "J" (.long (0 : Int64))) (F2 : Fld Z h0 a1 "com/example/loadstone/loadstone/placement/Resources" "bandwidthMbps" "J" (.long (0 : Int64))) (g1 : n0 ≤ a1) :
    MetFree l (⟨"com/example/loadstone/loadstone/placement/Resources", "<init>", "(JJJ)V"⟩ : MethodName) (head1 (Jvm.Cond.code (⟨"com/example/loadstone/loadstone/placement/Resources", "<init>", "(JJJ)V"⟩ : MethodName) prog_34_method_1_code 7 none :: ws) ({ frames := 2, cells := 0, slots := 0, locals := 24 } : Room)) (fun a U => a = #[(.ref a1), (.long q2), (.long q3), (.long q4)] ∧ Z.Warmed39 U.vm ∧ U.heap = h0) (fun _ _ _ _ _ => True) (fun _ U o U' => ∃ v L, o = .returned v ∧ Q_rm1 Z a1 q2 q3 q4  h0 n0 v U'.heap L ∧ FrameEnd U o U' L ({ frames := 2, cells := 0, slots := 0, locals := 24 } : Room).cells ({ frames := 2, cells := 0, slots := 0, locals := 24 } : Room).slots) := by
  refine MetFree.of_bodySF (plainFor_of_name pn_1) hisR ?_
  intro p e s m args below meth c s₁ Bd hml0 hP hK
  obtain ⟨rfl, hZ, hh⟩ := hP
  have hx := Bd.exec
  have hby := Bd.bytes
  have hml : c.maxLocals = 7 := hml0
  have hown : s.vm.findClass "com/example/loadstone/loadstone/placement/Resources" = some m.cls := findClass_of_methodNamed Bd.named
  have hnm := (name_of_methodNamed Bd.named Bd.method).1
  have X0 : Stand p l e ({ frames := 2, cells := 0, slots := 0, locals := 24 } : Room) s m #[(.ref a1), (.long q2), (.long q3), (.long q4)] below meth c s₁ [] 0 0 := Stand.of_body Bd
  have e0 : s₁.heap = h0 := by rw [← hh, Bd.state]; rfl
  have N0 := Fr.nil n0
  refine own_in ?_
  refine own_of (s₁.setTop (mkF m 0 #[.val (.ref a1), .val (.long q2), .second, .val (.long q3), .second, .val (.long q4), .second] [])) (fun t k => castTop (ef_rm1 m a1 q2 q3 q4) k) ?_
  refine own_of (s₁.setTop (mkF m 1 #[.val (.ref a1), .val (.long q2), .second, .val (.long q3), .second, .val (.long q4), .second] [(.ref a1)])) (fun t k => XS.aloadN X0.here hx rfl (hb hby d1_0) rfl rfl k) ?_
  obtain ⟨_, _, ⟨T3, L3, k3, n3⟩, -, X3, ⟨Lc3, hQ3, l3, y3, z3⟩, st3⟩ := X0.specialBack hx (y := (⟨"java/lang/Record", "<init>", "()V"⟩ : MethodName)) rfl hown (mvT hZ (hw _ (List.mem_of_getElem? (i := 6) rfl))) (mvT hZ (hw _ (List.mem_of_getElem? (i := 7) rfl))) (mvT hZ (hw _ (List.mem_of_getElem? (i := 10) rfl))) (by decide) (backOf (W := 0) (rm2 l Z a0 hw [] a1  h0 n0 Z0) hZ (hw _ (List.mem_of_getElem? (i := 10) rfl)) (hw _ (List.mem_of_getElem? (i := 9) rfl)) (by decide) (by decide)) (g := (mkF m 1 #[.val (.ref a1), .val (.long q2), .second, .val (.long q3), .second, .val (.long q4), .second] [(.ref a1)])) rfl (by rw [hml]; rfl) (Steps.refl _) (a := a1) (argsL := []) (rest := []) (lenOf (by decide +kernel : parseMethodDescriptor "()V" = some ⟨[], none⟩) rfl) rfl (by show 2 * 0 + _ ≤ _; exact Nat.le_of_eq rfl) (hb hby d1_1) (fun _ _ => ⟨rfl, e0, (by decide : 0 + 0 ≤ _), (by decide : 0 + 0 ≤ _)⟩)
  dsimp only [Pt.U, Pt.locs, Pt.cells, Pt.slots] at X3 l3 y3 z3 st3 hQ3
  subst l3 y3 z3
  obtain ⟨rfl, Nq3, eh3⟩ := hQ3
  have N3 := Fr.app N0 Nq3
  refine own_tr (T3.setTop (mkF m 4 #[.val (.ref a1), .val (.long q2), .second, .val (.long q3), .second, .val (.long q4), .second] [])) st3 ?_
  refine own_of (T3.setTop (mkF m 5 #[.val (.ref a1), .val (.long q2), .second, .val (.long q3), .second, .val (.long q4), .second] [(.ref a1)])) (fun t k => XS.aloadN X3.here hx rfl (hb hby d1_4) rfl rfl k) ?_
  refine own_of (T3.setTop (mkF m 6 #[.val (.ref a1), .val (.long q2), .second, .val (.long q3), .second, .val (.long q4), .second] [(.long q2), (.ref a1)])) (fun t k => XS.lloadN X3.here hx rfl (hb hby d1_5) rfl k) ?_
  obtain ⟨T4, h4, X4, e4, W4, st4⟩ := putF X3 hx hZ hown (host := "") (Or.inl (hw _ (List.mem_of_getElem? (i := 14) rfl))) Via.refl eh3 F0 E1 (Or.inr ⟨(hw _ (List.mem_of_getElem? (i := 15) rfl)), rfl, hnm⟩) (hw _ (List.mem_of_getElem? (i := 1) rfl)) (ty := .long) (by decide) rfl rfl (g := (mkF m 6 #[.val (.ref a1), .val (.long q2), .second, .val (.long q3), .second, .val (.long q4), .second] [(.long q2), (.ref a1)])) rfl rfl (hb hby d1_6)
  have N4 := Fr.snoc X4 N3 g1
  have f4_0 := E1.wr W4
  have f4_1 := F0.same W4
  have f4_2 := F1.other W4 (Or.inr (slot_ne (Or.inr (hw _ (List.mem_of_getElem? (i := 17) rfl))) (Or.inr (hw _ (List.mem_of_getElem? (i := 15) rfl))) (by decide) (t := .long) (t' := .long) (by decide) (by decide)))
  have f4_3 := F2.other W4 (Or.inr (slot_ne (Or.inr (hw _ (List.mem_of_getElem? (i := 19) rfl))) (Or.inr (hw _ (List.mem_of_getElem? (i := 15) rfl))) (by decide) (t := .long) (t' := .long) (by decide) (by decide)))
  have K4 := (Keep.refl h0 [a1]).wr W4 (Or.inl (List.mem_of_getElem? (i := 0) rfl))
  have Z4 : n0 ≤ h4.size := Nat.le_trans Z0 (Nat.le_of_eq W4.size.symm)
  refine own_of (T4.setTop (mkF m 9 #[.val (.ref a1), .val (.long q2), .second, .val (.long q3), .second, .val (.long q4), .second] [])) (fun t q => st4 t q) ?_
  refine own_of (T4.setTop (mkF m 10 #[.val (.ref a1), .val (.long q2), .second, .val (.long q3), .second, .val (.long q4), .second] [(.ref a1)])) (fun t k => XS.aloadN X4.here hx rfl (hb hby d1_9) rfl rfl k) ?_
  refine own_of (T4.setTop (mkF m 11 #[.val (.ref a1), .val (.long q2), .second, .val (.long q3), .second, .val (.long q4), .second] [(.long q3), (.ref a1)])) (fun t k => XS.lloadN X4.here hx rfl (hb hby d1_10) rfl k) ?_
  obtain ⟨T5, h5, X5, e5, W5, st5⟩ := putF X4 hx hZ hown (host := "") (Or.inl (hw _ (List.mem_of_getElem? (i := 16) rfl))) Via.refl e4 f4_2 f4_0 (Or.inr ⟨(hw _ (List.mem_of_getElem? (i := 17) rfl)), rfl, hnm⟩) (hw _ (List.mem_of_getElem? (i := 1) rfl)) (ty := .long) (by decide) rfl rfl (g := (mkF m 11 #[.val (.ref a1), .val (.long q2), .second, .val (.long q3), .second, .val (.long q4), .second] [(.long q3), (.ref a1)])) rfl rfl (hb hby d1_11)
  have N5 := Fr.snoc X5 N4 g1
  have f5_0 := f4_0.wr W5
  have f5_1 := f4_1.other W5 (Or.inr (slot_ne (Or.inr (hw _ (List.mem_of_getElem? (i := 15) rfl))) (Or.inr (hw _ (List.mem_of_getElem? (i := 17) rfl))) (by decide) (t := .long) (t' := .long) (by decide) (by decide)))
  have f5_2 := f4_2.same W5
  have f5_3 := f4_3.other W5 (Or.inr (slot_ne (Or.inr (hw _ (List.mem_of_getElem? (i := 19) rfl))) (Or.inr (hw _ (List.mem_of_getElem? (i := 17) rfl))) (by decide) (t := .long) (t' := .long) (by decide) (by decide)))
  have K5 := K4.wr W5 (Or.inl (List.mem_of_getElem? (i := 0) rfl))
  have Z5 : n0 ≤ h5.size := Nat.le_trans Z4 (Nat.le_of_eq W5.size.symm)
  refine own_of (T5.setTop (mkF m 14 #[.val (.ref a1), .val (.long q2), .second, .val (.long q3), .second, .val (.long q4), .second] [])) (fun t q => st5 t q) ?_
  refine own_of (T5.setTop (mkF m 15 #[.val (.ref a1), .val (.long q2), .second, .val (.long q3), .second, .val (.long q4), .second] [(.ref a1)])) (fun t k => XS.aloadN X5.here hx rfl (hb hby d1_14) rfl rfl k) ?_
  refine own_of (T5.setTop (mkF m 17 #[.val (.ref a1), .val (.long q2), .second, .val (.long q3), .second, .val (.long q4), .second] [(.long q4), (.ref a1)])) (fun t k => XS.lload X5.here hx rfl (hb hby d1_15) rfl k) ?_
  obtain ⟨T6, h6, X6, e6, W6, st6⟩ := putF X5 hx hZ hown (host := "") (Or.inl (hw _ (List.mem_of_getElem? (i := 18) rfl))) Via.refl e5 f5_3 f5_0 (Or.inr ⟨(hw _ (List.mem_of_getElem? (i := 19) rfl)), rfl, hnm⟩) (hw _ (List.mem_of_getElem? (i := 1) rfl)) (ty := .long) (by decide) rfl rfl (g := (mkF m 17 #[.val (.ref a1), .val (.long q2), .second, .val (.long q3), .second, .val (.long q4), .second] [(.long q4), (.ref a1)])) rfl rfl (hb hby d1_17)
  have N6 := Fr.snoc X6 N5 g1
  have f6_0 := f5_0.wr W6
  have f6_1 := f5_1.other W6 (Or.inr (slot_ne (Or.inr (hw _ (List.mem_of_getElem? (i := 15) rfl))) (Or.inr (hw _ (List.mem_of_getElem? (i := 19) rfl))) (by decide) (t := .long) (t' := .long) (by decide) (by decide)))
  have f6_2 := f5_2.other W6 (Or.inr (slot_ne (Or.inr (hw _ (List.mem_of_getElem? (i := 17) rfl))) (Or.inr (hw _ (List.mem_of_getElem? (i := 19) rfl))) (by decide) (t := .long) (t' := .long) (by decide) (by decide)))
  have f6_3 := f5_3.same W6
  have K6 := K5.wr W6 (Or.inl (List.mem_of_getElem? (i := 0) rfl))
  have Z6 : n0 ≤ h6.size := Nat.le_trans Z5 (Nat.le_of_eq W6.size.symm)
  refine own_of (T6.setTop (mkF m 20 #[.val (.ref a1), .val (.long q2), .second, .val (.long q3), .second, .val (.long q4), .second] [])) (fun t q => st6 t q) ?_
  obtain ⟨fs, hr, hrun, hended, hW, hsame⟩ := X6.leave (v := none) (fun _ => rfl)
  refine ⟨_, _, X6.returnOut hx Bd.returns (hb hby d1_20) hr, hrun, hended, _, _, rfl, ?_, ⟨_, rfl⟩, hW, hsame.mono (by decide) (by decide)⟩
  show Q_rm1 Z a1 q2 q3 q4  h0 n0 _ T6.heap _
  rw [e6]
  exact ⟨rfl, N6, K6, f6_1, f6_2, f6_3⟩
theorem d5_0 : decode prog_34_method_2_code 0 = .ok (.aload_n 0, 1) := by decide +kernel
theorem d5_1 : decode prog_34_method_2_code 1 = .ok (.getfield 7, 3) := by decide +kernel
theorem d5_4 : decode prog_34_method_2_code 4 = .ok (.aload_n 1, 1) := by decide +kernel
theorem d5_5 : decode prog_34_method_2_code 5 = .ok (.getfield 7, 3) := by decide +kernel
theorem d5_8 : decode prog_34_method_2_code 8 = .ok (.lcmp, 1) := by decide +kernel
theorem d5_9 : decode prog_34_method_2_code 9 = .ok (.ifCond .gt 31, 3) := by decide +kernel
theorem d5_12 : decode prog_34_method_2_code 12 = .ok (.aload_n 0, 1) := by decide +kernel
theorem d5_13 : decode prog_34_method_2_code 13 = .ok (.getfield 13, 3) := by decide +kernel
theorem d5_16 : decode prog_34_method_2_code 16 = .ok (.aload_n 1, 1) := by decide +kernel
theorem d5_17 : decode prog_34_method_2_code 17 = .ok (.getfield 13, 3) := by decide +kernel
theorem d5_20 : decode prog_34_method_2_code 20 = .ok (.lcmp, 1) := by decide +kernel
theorem d5_21 : decode prog_34_method_2_code 21 = .ok (.ifCond .gt 19, 3) := by decide +kernel
theorem d5_24 : decode prog_34_method_2_code 24 = .ok (.aload_n 0, 1) := by decide +kernel
theorem d5_25 : decode prog_34_method_2_code 25 = .ok (.getfield 16, 3) := by decide +kernel
theorem d5_28 : decode prog_34_method_2_code 28 = .ok (.aload_n 1, 1) := by decide +kernel
theorem d5_29 : decode prog_34_method_2_code 29 = .ok (.getfield 16, 3) := by decide +kernel
theorem d5_32 : decode prog_34_method_2_code 32 = .ok (.lcmp, 1) := by decide +kernel
theorem d5_33 : decode prog_34_method_2_code 33 = .ok (.ifCond .gt 7, 3) := by decide +kernel
theorem d5_36 : decode prog_34_method_2_code 36 = .ok (.iconst 1, 1) := by decide +kernel
theorem d5_37 : decode prog_34_method_2_code 37 = .ok (.goto 4, 3) := by decide +kernel
theorem d5_40 : decode prog_34_method_2_code 40 = .ok (.iconst 0, 1) := by decide +kernel
theorem d5_41 : decode prog_34_method_2_code 41 = .ok (.ireturn, 1) := by decide +kernel
theorem pn_5 : plainName "com/example/loadstone/loadstone/placement/Resources" = true := by first | (simp [plainName, overriddenIn]; done) | decide +kernel
theorem ef_rm5 (m : MethodId) (x0 : Addr) (x1 : Addr) : entryFrame m #[(.ref x0), (.ref x1)] 2 = mkF m 0 #[.val (.ref x0), .val (.ref x1)] [] := by first | (simp [entryFrame, mkF, argsToLocals, Value.category]; done) | rfl
def Q_rm5 (Z : State) (a1 : Addr) (a2 : Addr) (u0 : Int64) (u1 : Int64) (u2 : Int64) (v0 : Int64) (v1 : Int64) (v2 : Int64) (h0 : Heap) (n0 : Nat) (v : Option Value) (h : Heap) (L : List Loc) : Prop := v = some (.int (own_fit u0 u1 u2 v0 v1 v2)) ∧ Fr n0 L ∧ h = h0
set_option maxRecDepth 65536 in
set_option maxHeartbeats 40000000 in
theorem rm5 (l : Launch) (Z : State) (a0 : Array Value) (hw : ∀ d ∈ tables_1, d.before a0 Z = true) (ws : List Jvm.Cond) (a1 : Addr) (a2 : Addr) (u0 : Int64) (u1 : Int64) (u2 : Int64) (v0 : Int64) (v1 : Int64) (v2 : Int64) (h0 : Heap) (n0 : Nat) (Z0 : n0 ≤ h0.size) (F0 : Fld Z h0 a1 "com/example/loadstone/loadstone/placement/Resources" "cores" "J" (.long u0)) (F1 : Fld Z h0 a1 "com/example/loadstone/loadstone/placement/Resources" "memoryMib" "J" (.long u1)) (F2 : Fld Z h0 a1 "com/example/loadstone/loadstone/placement/Resources" "bandwidthMbps" "J" (.long u2)) (G0 : Fld Z h0 a2 "com/example/loadstone/loadstone/placement/Resources" "cores" "J" (.long v0)) (G1 : Fld Z h0 a2 "com/example/loadstone/loadstone/placement/Resources" "memoryMib" "J" (.long v1)) (G2 : Fld Z h0 a2 "com/example/loadstone/loadstone/placement/Resources" "bandwidthMbps" "J" (.long v2)) :
    MetFree l (⟨"com/example/loadstone/loadstone/placement/Resources", "fitsWithin", "(Lcom/example/loadstone/loadstone/placement/Resources;)Z"⟩ : MethodName) (head1 (Jvm.Cond.code (⟨"com/example/loadstone/loadstone/placement/Resources", "fitsWithin", "(Lcom/example/loadstone/loadstone/placement/Resources;)Z"⟩ : MethodName) prog_34_method_2_code 2 (some .boolean) :: ws) ({ frames := 0, cells := 0, slots := 0, locals := 0 } : Room)) (fun a U => a = #[(.ref a1), (.ref a2)] ∧ Z.Warmed39 U.vm ∧ U.heap = h0) (fun _ _ _ _ _ => True) (fun _ U o U' => ∃ v L, o = .returned v ∧ Q_rm5 Z a1 a2 u0 u1 u2 v0 v1 v2 h0 n0 v U'.heap L ∧ FrameEnd U o U' L ({ frames := 0, cells := 0, slots := 0, locals := 0 } : Room).cells ({ frames := 0, cells := 0, slots := 0, locals := 0 } : Room).slots) := by
  refine MetFree.of_bodySF (plainFor_of_name pn_5) hisR ?_
  intro p e s m args below meth c s₁ Bd hml0 hP hK
  obtain ⟨rfl, hZ, hh⟩ := hP
  have hx := Bd.exec
  have hby := Bd.bytes
  have hml : c.maxLocals = 2 := hml0
  have hown : s.vm.findClass "com/example/loadstone/loadstone/placement/Resources" = some m.cls := findClass_of_methodNamed Bd.named
  have hnm := (name_of_methodNamed Bd.named Bd.method).1
  have X0 : Stand p l e ({ frames := 0, cells := 0, slots := 0, locals := 0 } : Room) s m #[(.ref a1), (.ref a2)] below meth c s₁ [] 0 0 := Stand.of_body Bd
  have e0 : s₁.heap = h0 := by rw [← hh, Bd.state]; rfl
  have N0 := Fr.nil n0
  refine own_in ?_
  refine own_of (s₁.setTop (mkF m 0 #[.val (.ref a1), .val (.ref a2)] [])) (fun t k => castTop (ef_rm5 m a1 a2) k) ?_
  refine own_of (s₁.setTop (mkF m 1 #[.val (.ref a1), .val (.ref a2)] [(.ref a1)])) (fun t k => XS.aloadN X0.here hx rfl (hb hby d5_0) rfl rfl k) ?_
  obtain ⟨T7, X7, e7, st7⟩ := getF X0 hx hZ hown (host := "") (Or.inl (hw _ (List.mem_of_getElem? (i := 14) rfl))) Via.refl e0 F0 (g := (mkF m 1 #[.val (.ref a1), .val (.ref a2)] [(.ref a1)])) rfl rfl (hb hby d5_1)
  refine own_of (T7.setTop (mkF m 4 #[.val (.ref a1), .val (.ref a2)] [(.long u0)])) (fun t q => st7 t q) ?_
  refine own_of (T7.setTop (mkF m 5 #[.val (.ref a1), .val (.ref a2)] [(.ref a2), (.long u0)])) (fun t k => XS.aloadN X7.here hx rfl (hb hby d5_4) rfl rfl k) ?_
  obtain ⟨T8, X8, e8, st8⟩ := getF X7 hx hZ hown (host := "") (Or.inl (hw _ (List.mem_of_getElem? (i := 14) rfl))) Via.refl e7 G0 (g := (mkF m 5 #[.val (.ref a1), .val (.ref a2)] [(.ref a2), (.long u0)])) rfl rfl (hb hby d5_5)
  refine own_of (T8.setTop (mkF m 8 #[.val (.ref a1), .val (.ref a2)] [(.long v0), (.long u0)])) (fun t q => st8 t q) ?_
  refine own_of (T8.setTop (mkF m 9 #[.val (.ref a1), .val (.ref a2)] [(.int (lcmpW u0 v0))])) (fun t k => XS.lcmp X8.here hx rfl (hb hby d5_8) rfl k) ?_
  by_cases hc9 : (0 : Int32) < (lcmpW u0 v0)
  · refine own_of (T8.setTop (mkF m 40 #[.val (.ref a1), .val (.ref a2)] [])) (fun t k => XS.ifYes X8.here hx rfl (pc0 := 9) (pc' := 40) rfl (hb hby d5_9) rfl ((if0 _ _).trans (tlt hc9).2.2.1) (by decide) (by decide) k) ?_
    refine own_of (T8.setTop (mkF m 41 #[.val (.ref a1), .val (.ref a2)] [(.int (0 : Int32))])) (fun t k => XS.iconst X8.here hx rfl (hb hby d5_40) k) ?_
    have hv : own_fit u0 u1 u2 v0 v1 v2 = (0 : Int32) := by simp only [own_fit, hc9, if_true, if_false]
    obtain ⟨fs, hr, hrun, hended, hW, hsame⟩ := X8.leave (v := some (.int (0 : Int32))) (fun h => by rw [Bd.returns] at h; cases h)
    refine ⟨_, _, retN X8 hx (t := .boolean) Bd.returns (by simp) (hb hby d5_41) hr, hrun, hended, _, _, rfl, ?_, ⟨_, rfl⟩, hW, hsame.mono (by decide) (by decide)⟩
    show Q_rm5 Z a1 a2 u0 u1 u2 v0 v1 v2 h0 n0 _ T8.heap _
    rw [e8]
    exact ⟨by rw [hv], N0, rfl⟩
  · refine own_of (T8.setTop (mkF m 12 #[.val (.ref a1), .val (.ref a2)] [])) (fun t k => XS.ifNo X8.here hx rfl (hb hby d5_9) rfl ((if0 _ _).trans (flt hc9).2.2.1) k) ?_
    refine own_of (T8.setTop (mkF m 13 #[.val (.ref a1), .val (.ref a2)] [(.ref a1)])) (fun t k => XS.aloadN X8.here hx rfl (hb hby d5_12) rfl rfl k) ?_
    obtain ⟨T10, X10, e10, st10⟩ := getF X8 hx hZ hown (host := "") (Or.inl (hw _ (List.mem_of_getElem? (i := 16) rfl))) Via.refl e8 F1 (g := (mkF m 13 #[.val (.ref a1), .val (.ref a2)] [(.ref a1)])) rfl rfl (hb hby d5_13)
    refine own_of (T10.setTop (mkF m 16 #[.val (.ref a1), .val (.ref a2)] [(.long u1)])) (fun t q => st10 t q) ?_
    refine own_of (T10.setTop (mkF m 17 #[.val (.ref a1), .val (.ref a2)] [(.ref a2), (.long u1)])) (fun t k => XS.aloadN X10.here hx rfl (hb hby d5_16) rfl rfl k) ?_
    obtain ⟨T11, X11, e11, st11⟩ := getF X10 hx hZ hown (host := "") (Or.inl (hw _ (List.mem_of_getElem? (i := 16) rfl))) Via.refl e10 G1 (g := (mkF m 17 #[.val (.ref a1), .val (.ref a2)] [(.ref a2), (.long u1)])) rfl rfl (hb hby d5_17)
    refine own_of (T11.setTop (mkF m 20 #[.val (.ref a1), .val (.ref a2)] [(.long v1), (.long u1)])) (fun t q => st11 t q) ?_
    refine own_of (T11.setTop (mkF m 21 #[.val (.ref a1), .val (.ref a2)] [(.int (lcmpW u1 v1))])) (fun t k => XS.lcmp X11.here hx rfl (hb hby d5_20) rfl k) ?_
    by_cases hc12 : (0 : Int32) < (lcmpW u1 v1)
    · refine own_of (T11.setTop (mkF m 40 #[.val (.ref a1), .val (.ref a2)] [])) (fun t k => XS.ifYes X11.here hx rfl (pc0 := 21) (pc' := 40) rfl (hb hby d5_21) rfl ((if0 _ _).trans (tlt hc12).2.2.1) (by decide) (by decide) k) ?_
      refine own_of (T11.setTop (mkF m 41 #[.val (.ref a1), .val (.ref a2)] [(.int (0 : Int32))])) (fun t k => XS.iconst X11.here hx rfl (hb hby d5_40) k) ?_
      have hv : own_fit u0 u1 u2 v0 v1 v2 = (0 : Int32) := by simp only [own_fit, hc9, hc12, if_true, if_false]
      obtain ⟨fs, hr, hrun, hended, hW, hsame⟩ := X11.leave (v := some (.int (0 : Int32))) (fun h => by rw [Bd.returns] at h; cases h)
      refine ⟨_, _, retN X11 hx (t := .boolean) Bd.returns (by simp) (hb hby d5_41) hr, hrun, hended, _, _, rfl, ?_, ⟨_, rfl⟩, hW, hsame.mono (by decide) (by decide)⟩
      show Q_rm5 Z a1 a2 u0 u1 u2 v0 v1 v2 h0 n0 _ T11.heap _
      rw [e11]
      exact ⟨by rw [hv], N0, rfl⟩
    · refine own_of (T11.setTop (mkF m 24 #[.val (.ref a1), .val (.ref a2)] [])) (fun t k => XS.ifNo X11.here hx rfl (hb hby d5_21) rfl ((if0 _ _).trans (flt hc12).2.2.1) k) ?_
      refine own_of (T11.setTop (mkF m 25 #[.val (.ref a1), .val (.ref a2)] [(.ref a1)])) (fun t k => XS.aloadN X11.here hx rfl (hb hby d5_24) rfl rfl k) ?_
      obtain ⟨T13, X13, e13, st13⟩ := getF X11 hx hZ hown (host := "") (Or.inl (hw _ (List.mem_of_getElem? (i := 18) rfl))) Via.refl e11 F2 (g := (mkF m 25 #[.val (.ref a1), .val (.ref a2)] [(.ref a1)])) rfl rfl (hb hby d5_25)
      refine own_of (T13.setTop (mkF m 28 #[.val (.ref a1), .val (.ref a2)] [(.long u2)])) (fun t q => st13 t q) ?_
      refine own_of (T13.setTop (mkF m 29 #[.val (.ref a1), .val (.ref a2)] [(.ref a2), (.long u2)])) (fun t k => XS.aloadN X13.here hx rfl (hb hby d5_28) rfl rfl k) ?_
      obtain ⟨T14, X14, e14, st14⟩ := getF X13 hx hZ hown (host := "") (Or.inl (hw _ (List.mem_of_getElem? (i := 18) rfl))) Via.refl e13 G2 (g := (mkF m 29 #[.val (.ref a1), .val (.ref a2)] [(.ref a2), (.long u2)])) rfl rfl (hb hby d5_29)
      refine own_of (T14.setTop (mkF m 32 #[.val (.ref a1), .val (.ref a2)] [(.long v2), (.long u2)])) (fun t q => st14 t q) ?_
      refine own_of (T14.setTop (mkF m 33 #[.val (.ref a1), .val (.ref a2)] [(.int (lcmpW u2 v2))])) (fun t k => XS.lcmp X14.here hx rfl (hb hby d5_32) rfl k) ?_
      by_cases hc15 : (0 : Int32) < (lcmpW u2 v2)
      · refine own_of (T14.setTop (mkF m 40 #[.val (.ref a1), .val (.ref a2)] [])) (fun t k => XS.ifYes X14.here hx rfl (pc0 := 33) (pc' := 40) rfl (hb hby d5_33) rfl ((if0 _ _).trans (tlt hc15).2.2.1) (by decide) (by decide) k) ?_
        refine own_of (T14.setTop (mkF m 41 #[.val (.ref a1), .val (.ref a2)] [(.int (0 : Int32))])) (fun t k => XS.iconst X14.here hx rfl (hb hby d5_40) k) ?_
        have hv : own_fit u0 u1 u2 v0 v1 v2 = (0 : Int32) := by simp only [own_fit, hc9, hc12, hc15, if_true, if_false]
        obtain ⟨fs, hr, hrun, hended, hW, hsame⟩ := X14.leave (v := some (.int (0 : Int32))) (fun h => by rw [Bd.returns] at h; cases h)
        refine ⟨_, _, retN X14 hx (t := .boolean) Bd.returns (by simp) (hb hby d5_41) hr, hrun, hended, _, _, rfl, ?_, ⟨_, rfl⟩, hW, hsame.mono (by decide) (by decide)⟩
        show Q_rm5 Z a1 a2 u0 u1 u2 v0 v1 v2 h0 n0 _ T14.heap _
        rw [e14]
        exact ⟨by rw [hv], N0, rfl⟩
      · refine own_of (T14.setTop (mkF m 36 #[.val (.ref a1), .val (.ref a2)] [])) (fun t k => XS.ifNo X14.here hx rfl (hb hby d5_33) rfl ((if0 _ _).trans (flt hc15).2.2.1) k) ?_
        refine own_of (T14.setTop (mkF m 37 #[.val (.ref a1), .val (.ref a2)] [(.int (1 : Int32))])) (fun t k => XS.iconst X14.here hx rfl (hb hby d5_36) k) ?_
        refine own_of (T14.setTop (mkF m 41 #[.val (.ref a1), .val (.ref a2)] [(.int (1 : Int32))])) (fun t k => XS.goto X14.here hx rfl (pc0 := 37) (pc' := 41) rfl (hb hby d5_37) (by decide) (by decide) k) ?_
        have hv : own_fit u0 u1 u2 v0 v1 v2 = (1 : Int32) := by simp only [own_fit, hc9, hc12, hc15, if_true, if_false]
        obtain ⟨fs, hr, hrun, hended, hW, hsame⟩ := X14.leave (v := some (.int (1 : Int32))) (fun h => by rw [Bd.returns] at h; cases h)
        refine ⟨_, _, retN X14 hx (t := .boolean) Bd.returns (by simp) (hb hby d5_41) hr, hrun, hended, _, _, rfl, ?_, ⟨_, rfl⟩, hW, hsame.mono (by decide) (by decide)⟩
        show Q_rm5 Z a1 a2 u0 u1 u2 v0 v1 v2 h0 n0 _ T14.heap _
        rw [e14]
        exact ⟨by rw [hv], N0, rfl⟩
theorem pn_0 : plainName "com/example/loadstone/loadstone/placement/ResourcesFitsWithinPinLaw" = true := by first | (simp [plainName, overriddenIn]; done) | decide +kernel
theorem ef_rm0 (m : MethodId) (x0 : Int64) (x1 : Int64) (x2 : Int64) (x3 : Int64) (x4 : Int64) (x5 : Int64) : entryFrame m #[(.long x0), (.long x1), (.long x2), (.long x3), (.long x4), (.long x5)] maxLocals = mkF m 0 #[.val (.long x0), .second, .val (.long x1), .second, .val (.long x2), .second, .val (.long x3), .second, .val (.long x4), .second, .val (.long x5), .second, .unset, .unset, .unset, .unset, .unset, .unset] [] := by first | (simp [entryFrame, mkF, argsToLocals, Value.category, maxLocals]; done) | rfl
def Q_rm0 (Z : State) (q1 : Int64) (q2 : Int64) (q3 : Int64) (q4 : Int64) (q5 : Int64) (q6 : Int64)  (h0 : Heap) (n0 : Nat) (v : Option Value) (h : Heap) (L : List Loc) : Prop := v = some (.int 1) ∧ Fr n0 L
set_option maxRecDepth 65536 in
set_option maxHeartbeats 40000000 in
theorem rm0 (l : Launch) (Z : State) (a0 : Array Value) (hw : ∀ d ∈ tables_1, d.before a0 Z = true) (ws : List Jvm.Cond) (q1 : Int64) (q2 : Int64) (q3 : Int64) (q4 : Int64) (q5 : Int64) (q6 : Int64)  (h0 : Heap) (n0 : Nat) (Z0 : n0 ≤ h0.size) :
    MetFree l x (head1 (Jvm.Cond.code x code maxLocals ret :: ws) room_1) (fun a U => a = #[(.long q1), (.long q2), (.long q3), (.long q4), (.long q5), (.long q6)] ∧ Z.Warmed39 U.vm ∧ U.heap = h0) (fun _ _ _ _ _ => True) (fun _ U o U' => ∃ v L, o = .returned v ∧ Q_rm0 Z q1 q2 q3 q4 q5 q6  h0 n0 v U'.heap L ∧ FrameEnd U o U' L 16 128) := by
  refine MetFree.of_bodySF (plainFor_of_name pn_0) hisR ?_
  intro p e s m args below meth c s₁ Bd hml0 hP hK
  obtain ⟨rfl, hZ, hh⟩ := hP
  have hx := Bd.exec
  have hby := Bd.bytes
  have hml : c.maxLocals = 18 := hml0
  have hown : s.vm.findClass "com/example/loadstone/loadstone/placement/ResourcesFitsWithinPinLaw" = some m.cls := findClass_of_methodNamed Bd.named
  have hnm := (name_of_methodNamed Bd.named Bd.method).1
  have X0 : Stand p l e room_1 s m #[(.long q1), (.long q2), (.long q3), (.long q4), (.long q5), (.long q6)] below meth c s₁ [] 0 0 := Stand.of_body Bd
  have e0 : s₁.heap = h0 := by rw [← hh, Bd.state]; rfl
  have N0 := Fr.nil n0
  refine own_in ?_
  refine own_of (s₁.setTop (mkF m 0 #[.val (.long q1), .second, .val (.long q2), .second, .val (.long q3), .second, .val (.long q4), .second, .val (.long q5), .second, .val (.long q6), .second, .unset, .unset, .unset, .unset, .unset, .unset] [])) (fun t k => castTop (ef_rm0 m q1 q2 q3 q4 q5 q6) k) ?_
  obtain ⟨T16, h16, X16, e16, E16, A16, D16, -, st16⟩ := newO X0 hx hZ hown (hw _ (List.mem_of_getElem? (i := 0) rfl)) (hw _ (List.mem_of_getElem? (i := 1) rfl)) (hw _ (List.mem_of_getElem? (i := 2) rfl)) e0 (g := (mkF m 0 #[.val (.long q1), .second, .val (.long q2), .second, .val (.long q3), .second, .val (.long q4), .second, .val (.long q5), .second, .val (.long q6), .second, .unset, .unset, .unset, .unset, .unset, .unset] [])) rfl (hb hby at_0) (by decide) (by decide)
  obtain ⟨a16, g16⟩ : ∃ z, z = h0.size := ⟨_, rfl⟩
  rw [← g16] at A16 D16 st16
  have fn16_0 : Fld Z h16 a16 "com/example/loadstone/loadstone/placement/Resources" "cores" "J" (.long (0 : Int64)) := D16 (Or.inr (hw _ (List.mem_of_getElem? (i := 15) rfl))) (ty := .long) (by decide)
  have fn16_1 : Fld Z h16 a16 "com/example/loadstone/loadstone/placement/Resources" "memoryMib" "J" (.long (0 : Int64)) := D16 (Or.inr (hw _ (List.mem_of_getElem? (i := 17) rfl))) (ty := .long) (by decide)
  have fn16_2 : Fld Z h16 a16 "com/example/loadstone/loadstone/placement/Resources" "bandwidthMbps" "J" (.long (0 : Int64)) := D16 (Or.inr (hw _ (List.mem_of_getElem? (i := 19) rfl))) (ty := .long) (by decide)
  have ge_a16 : n0 ≤ a16 := Nat.le_trans Z0 (Nat.le_of_eq g16.symm)
  have Z16 : n0 ≤ h16.size := Nat.le_trans Z0 E16.1
  refine own_of (T16.setTop (mkF m 3 #[.val (.long q1), .second, .val (.long q2), .second, .val (.long q3), .second, .val (.long q4), .second, .val (.long q5), .second, .val (.long q6), .second, .unset, .unset, .unset, .unset, .unset, .unset] [(.ref a16)])) (fun t q => st16 t q) ?_
  refine own_of (T16.setTop (mkF m 4 #[.val (.long q1), .second, .val (.long q2), .second, .val (.long q3), .second, .val (.long q4), .second, .val (.long q5), .second, .val (.long q6), .second, .unset, .unset, .unset, .unset, .unset, .unset] [(.ref a16), (.ref a16)])) (fun t k => XS.dup X16.here hx rfl (hb hby at_3) rfl rfl k) ?_
  refine own_of (T16.setTop (mkF m 5 #[.val (.long q1), .second, .val (.long q2), .second, .val (.long q3), .second, .val (.long q4), .second, .val (.long q5), .second, .val (.long q6), .second, .unset, .unset, .unset, .unset, .unset, .unset] [(.long q1), (.ref a16), (.ref a16)])) (fun t k => XS.lloadN X16.here hx rfl (hb hby at_4) rfl k) ?_
  refine own_of (T16.setTop (mkF m 6 #[.val (.long q1), .second, .val (.long q2), .second, .val (.long q3), .second, .val (.long q4), .second, .val (.long q5), .second, .val (.long q6), .second, .unset, .unset, .unset, .unset, .unset, .unset] [(.long q2), (.long q1), (.ref a16), (.ref a16)])) (fun t k => XS.lloadN X16.here hx rfl (hb hby at_5) rfl k) ?_
  refine own_of (T16.setTop (mkF m 8 #[.val (.long q1), .second, .val (.long q2), .second, .val (.long q3), .second, .val (.long q4), .second, .val (.long q5), .second, .val (.long q6), .second, .unset, .unset, .unset, .unset, .unset, .unset] [(.long q3), (.long q2), (.long q1), (.ref a16), (.ref a16)])) (fun t k => XS.lload X16.here hx rfl (hb hby at_6) rfl k) ?_
  obtain ⟨_, _, ⟨T17, L17, k17, n17⟩, -, X17, ⟨Lc17, hQ17, l17, y17, z17⟩, st17⟩ := X16.specialBack hx (y := (⟨"com/example/loadstone/loadstone/placement/Resources", "<init>", "(JJJ)V"⟩ : MethodName)) rfl hown (mvT hZ (hw _ (List.mem_of_getElem? (i := 3) rfl))) (mvT hZ (hw _ (List.mem_of_getElem? (i := 4) rfl))) (mvT hZ (hw _ (List.mem_of_getElem? (i := 5) rfl))) (by decide) (backOf (W := 1) (rm1 l Z a0 hw [] a16 q1 q2 q3 h16 n0 Z16 A16 fn16_0 fn16_1 fn16_2 ge_a16) hZ (hw _ (List.mem_of_getElem? (i := 5) rfl)) (hw _ (List.mem_of_getElem? (i := 2) rfl)) (by decide) (by decide)) (g := (mkF m 8 #[.val (.long q1), .second, .val (.long q2), .second, .val (.long q3), .second, .val (.long q4), .second, .val (.long q5), .second, .val (.long q6), .second, .unset, .unset, .unset, .unset, .unset, .unset] [(.long q3), (.long q2), (.long q1), (.ref a16), (.ref a16)])) rfl (by rw [hml]; rfl) (Steps.refl _) (a := a16) (argsL := [(.long q1), (.long q2), (.long q3)]) (rest := [(.ref a16)]) (lenOf (by decide +kernel : parseMethodDescriptor "(JJJ)V" = some ⟨[.long, .long, .long], none⟩) rfl) rfl (by show 2 * 0 + _ ≤ _; exact Nat.le_of_eq rfl) (hb hby at_8) (fun _ _ => ⟨rfl, e16, (by decide : 1 + 0 ≤ _), (by decide : 3 + 0 ≤ _)⟩)
  dsimp only [Pt.U, Pt.locs, Pt.cells, Pt.slots] at X17 l17 y17 z17 st17 hQ17
  subst l17 y17 z17
  obtain ⟨rfl, Nq17, Kq17, fa17, fb17, fc17⟩ := hQ17
  have N17 := Fr.app N0 Nq17
  refine own_tr (T17.setTop (mkF m 11 #[.val (.long q1), .second, .val (.long q2), .second, .val (.long q3), .second, .val (.long q4), .second, .val (.long q5), .second, .val (.long q6), .second, .unset, .unset, .unset, .unset, .unset, .unset] [(.ref a16)])) st17 ?_
  have f17_0 := A16.keep Kq17
  have Z17 : n0 ≤ T17.heap.size := Nat.le_trans Z16 Kq17.1
  refine own_of (T17.setTop (mkF m 13 #[.val (.long q1), .second, .val (.long q2), .second, .val (.long q3), .second, .val (.long q4), .second, .val (.long q5), .second, .val (.long q6), .second, .val (.ref a16), .unset, .unset, .unset, .unset, .unset] [])) (fun t k => XS.astore X17.here hx rfl (hb hby at_11) rfl rfl (l' := #[.val (.long q1), .second, .val (.long q2), .second, .val (.long q3), .second, .val (.long q4), .second, .val (.long q5), .second, .val (.long q6), .second, .val (.ref a16), .unset, .unset, .unset, .unset, .unset]) rfl k) ?_
  obtain ⟨T18, h18, X18, e18, E18, A18, D18, -, st18⟩ := newO X17 hx hZ hown (hw _ (List.mem_of_getElem? (i := 0) rfl)) (hw _ (List.mem_of_getElem? (i := 1) rfl)) (hw _ (List.mem_of_getElem? (i := 2) rfl)) rfl (g := (mkF m 13 #[.val (.long q1), .second, .val (.long q2), .second, .val (.long q3), .second, .val (.long q4), .second, .val (.long q5), .second, .val (.long q6), .second, .val (.ref a16), .unset, .unset, .unset, .unset, .unset] [])) rfl (hb hby at_13) (by decide) (by decide)
  obtain ⟨a18, g18⟩ : ∃ z, z = T17.heap.size := ⟨_, rfl⟩
  rw [← g18] at A18 D18 st18
  have ne_a16_a18 : a16 ≠ a18 := by rw [g18]; exact Nat.ne_of_lt f17_0.lt
  have f18_0 := f17_0.ext E18
  have f18_1 := fa17.ext E18
  have f18_2 := fb17.ext E18
  have f18_3 := fc17.ext E18
  have fn18_0 : Fld Z h18 a18 "com/example/loadstone/loadstone/placement/Resources" "cores" "J" (.long (0 : Int64)) := D18 (Or.inr (hw _ (List.mem_of_getElem? (i := 15) rfl))) (ty := .long) (by decide)
  have fn18_1 : Fld Z h18 a18 "com/example/loadstone/loadstone/placement/Resources" "memoryMib" "J" (.long (0 : Int64)) := D18 (Or.inr (hw _ (List.mem_of_getElem? (i := 17) rfl))) (ty := .long) (by decide)
  have fn18_2 : Fld Z h18 a18 "com/example/loadstone/loadstone/placement/Resources" "bandwidthMbps" "J" (.long (0 : Int64)) := D18 (Or.inr (hw _ (List.mem_of_getElem? (i := 19) rfl))) (ty := .long) (by decide)
  have ge_a18 : n0 ≤ a18 := Nat.le_trans Z17 (Nat.le_of_eq g18.symm)
  have Z18 : n0 ≤ h18.size := Nat.le_trans Z17 E18.1
  refine own_of (T18.setTop (mkF m 16 #[.val (.long q1), .second, .val (.long q2), .second, .val (.long q3), .second, .val (.long q4), .second, .val (.long q5), .second, .val (.long q6), .second, .val (.ref a16), .unset, .unset, .unset, .unset, .unset] [(.ref a18)])) (fun t q => st18 t q) ?_
  refine own_of (T18.setTop (mkF m 17 #[.val (.long q1), .second, .val (.long q2), .second, .val (.long q3), .second, .val (.long q4), .second, .val (.long q5), .second, .val (.long q6), .second, .val (.ref a16), .unset, .unset, .unset, .unset, .unset] [(.ref a18), (.ref a18)])) (fun t k => XS.dup X18.here hx rfl (hb hby at_16) rfl rfl k) ?_
  refine own_of (T18.setTop (mkF m 19 #[.val (.long q1), .second, .val (.long q2), .second, .val (.long q3), .second, .val (.long q4), .second, .val (.long q5), .second, .val (.long q6), .second, .val (.ref a16), .unset, .unset, .unset, .unset, .unset] [(.long q4), (.ref a18), (.ref a18)])) (fun t k => XS.lload X18.here hx rfl (hb hby at_17) rfl k) ?_
  refine own_of (T18.setTop (mkF m 21 #[.val (.long q1), .second, .val (.long q2), .second, .val (.long q3), .second, .val (.long q4), .second, .val (.long q5), .second, .val (.long q6), .second, .val (.ref a16), .unset, .unset, .unset, .unset, .unset] [(.long q5), (.long q4), (.ref a18), (.ref a18)])) (fun t k => XS.lload X18.here hx rfl (hb hby at_19) rfl k) ?_
  refine own_of (T18.setTop (mkF m 23 #[.val (.long q1), .second, .val (.long q2), .second, .val (.long q3), .second, .val (.long q4), .second, .val (.long q5), .second, .val (.long q6), .second, .val (.ref a16), .unset, .unset, .unset, .unset, .unset] [(.long q6), (.long q5), (.long q4), (.ref a18), (.ref a18)])) (fun t k => XS.lload X18.here hx rfl (hb hby at_21) rfl k) ?_
  obtain ⟨_, _, ⟨T19, L19, k19, n19⟩, -, X19, ⟨Lc19, hQ19, l19, y19, z19⟩, st19⟩ := X18.specialBack hx (y := (⟨"com/example/loadstone/loadstone/placement/Resources", "<init>", "(JJJ)V"⟩ : MethodName)) rfl hown (mvT hZ (hw _ (List.mem_of_getElem? (i := 3) rfl))) (mvT hZ (hw _ (List.mem_of_getElem? (i := 4) rfl))) (mvT hZ (hw _ (List.mem_of_getElem? (i := 5) rfl))) (by decide) (backOf (W := 1) (rm1 l Z a0 hw [] a18 q4 q5 q6 h18 n0 Z18 A18 fn18_0 fn18_1 fn18_2 ge_a18) hZ (hw _ (List.mem_of_getElem? (i := 5) rfl)) (hw _ (List.mem_of_getElem? (i := 2) rfl)) (by decide) (by decide)) (g := (mkF m 23 #[.val (.long q1), .second, .val (.long q2), .second, .val (.long q3), .second, .val (.long q4), .second, .val (.long q5), .second, .val (.long q6), .second, .val (.ref a16), .unset, .unset, .unset, .unset, .unset] [(.long q6), (.long q5), (.long q4), (.ref a18), (.ref a18)])) rfl (by rw [hml]; rfl) (Steps.refl _) (a := a18) (argsL := [(.long q4), (.long q5), (.long q6)]) (rest := [(.ref a18)]) (lenOf (by decide +kernel : parseMethodDescriptor "(JJJ)V" = some ⟨[.long, .long, .long], none⟩) rfl) rfl (by show 2 * 0 + _ ≤ _; exact Nat.le_of_eq rfl) (hb hby at_23) (fun _ _ => ⟨rfl, e18, (by decide : 2 + 0 ≤ _), (by decide : 6 + 0 ≤ _)⟩)
  dsimp only [Pt.U, Pt.locs, Pt.cells, Pt.slots] at X19 l19 y19 z19 st19 hQ19
  subst l19 y19 z19
  obtain ⟨rfl, Nq19, Kq19, fa19, fb19, fc19⟩ := hQ19
  have N19 := Fr.app N17 Nq19
  refine own_tr (T19.setTop (mkF m 26 #[.val (.long q1), .second, .val (.long q2), .second, .val (.long q3), .second, .val (.long q4), .second, .val (.long q5), .second, .val (.long q6), .second, .val (.ref a16), .unset, .unset, .unset, .unset, .unset] [(.ref a18)])) st19 ?_
  have f19_0 := f18_0.keep Kq19
  have f19_1 := f18_1.keep Kq19 (ninS ne_a16_a18 nin0)
  have f19_2 := f18_2.keep Kq19 (ninS ne_a16_a18 nin0)
  have f19_3 := f18_3.keep Kq19 (ninS ne_a16_a18 nin0)
  have f19_4 := A18.keep Kq19
  have Z19 : n0 ≤ T19.heap.size := Nat.le_trans Z18 Kq19.1
  refine own_of (T19.setTop (mkF m 28 #[.val (.long q1), .second, .val (.long q2), .second, .val (.long q3), .second, .val (.long q4), .second, .val (.long q5), .second, .val (.long q6), .second, .val (.ref a16), .val (.ref a18), .unset, .unset, .unset, .unset] [])) (fun t k => XS.astore X19.here hx rfl (hb hby at_26) rfl rfl (l' := #[.val (.long q1), .second, .val (.long q2), .second, .val (.long q3), .second, .val (.long q4), .second, .val (.long q5), .second, .val (.long q6), .second, .val (.ref a16), .val (.ref a18), .unset, .unset, .unset, .unset]) rfl k) ?_
  refine own_of (T19.setTop (mkF m 29 #[.val (.long q1), .second, .val (.long q2), .second, .val (.long q3), .second, .val (.long q4), .second, .val (.long q5), .second, .val (.long q6), .second, .val (.ref a16), .val (.ref a18), .unset, .unset, .unset, .unset] [(.long q1)])) (fun t k => XS.lloadN X19.here hx rfl (hb hby at_28) rfl k) ?_
  refine own_of (T19.setTop (mkF m 31 #[.val (.long q1), .second, .val (.long q2), .second, .val (.long q3), .second, .val (.long q4), .second, .val (.long q5), .second, .val (.long q6), .second, .val (.ref a16), .val (.ref a18), .unset, .unset, .unset, .unset] [(.long q4), (.long q1)])) (fun t k => XS.lload X19.here hx rfl (hb hby at_29) rfl k) ?_
  obtain ⟨_, _, ⟨T20, L20, k20, n20⟩, -, X20, ⟨Lc20, hQ20, l20, y20, z20⟩, st20⟩ := Jvm.LawKit.callS X19 hx (y := (⟨"java/lang/Math", "max", "(JJ)J"⟩ : MethodName)) hown (mvT hZ (hw _ (List.mem_of_getElem? (i := 20) rfl))) (mvT hZ (hw _ (List.mem_of_getElem? (i := 21) rfl))) (mvT hZ (hw _ (List.mem_of_getElem? (i := 22) rfl))) (mvT hZ (hw _ (List.mem_of_getElem? (i := 23) rfl))) (by decide) (backOf (W := 0) (rm4 l Z a0 hw [] q1 q4 T19.heap n0 Z19) hZ (hw _ (List.mem_of_getElem? (i := 23) rfl)) (hw _ (List.mem_of_getElem? (i := 22) rfl)) (by decide) (by decide)) (g := (mkF m 31 #[.val (.long q1), .second, .val (.long q2), .second, .val (.long q3), .second, .val (.long q4), .second, .val (.long q5), .second, .val (.long q6), .second, .val (.ref a16), .val (.ref a18), .unset, .unset, .unset, .unset] [(.long q4), (.long q1)])) rfl (by rw [hml]; rfl) (argsL := [(.long q1), (.long q4)]) (rest := []) (lenOf (by decide +kernel : parseMethodDescriptor "(JJ)J" = some ⟨[.long, .long], some .long⟩) rfl) rfl (by show 2 * 0 + _ ≤ _; exact Nat.le_of_eq rfl) (hb hby at_31) (fun _ _ => ⟨rfl, rfl, (by decide : 2 + 0 ≤ _), (by decide : 6 + 0 ≤ _)⟩)
  dsimp only [Pt.U, Pt.locs, Pt.cells, Pt.slots] at X20 l20 y20 z20 st20 hQ20
  subst l20 y20 z20
  obtain ⟨rfl, Nq20, eh20⟩ := hQ20
  have N20 := Fr.app N19 Nq20
  refine own_of (T20.setTop (mkF m 34 #[.val (.long q1), .second, .val (.long q2), .second, .val (.long q3), .second, .val (.long q4), .second, .val (.long q5), .second, .val (.long q6), .second, .val (.ref a16), .val (.ref a18), .unset, .unset, .unset, .unset] [(.long (own_maxL q1 q4))])) (fun t q => st20 t q) ?_
  refine own_of (T20.setTop (mkF m 36 #[.val (.long q1), .second, .val (.long q2), .second, .val (.long q3), .second, .val (.long q4), .second, .val (.long q5), .second, .val (.long q6), .second, .val (.ref a16), .val (.ref a18), .unset, .unset, .unset, .unset] [(.long q4), (.long (own_maxL q1 q4))])) (fun t k => XS.lload X20.here hx rfl (hb hby at_34) rfl k) ?_
  refine own_of (T20.setTop (mkF m 37 #[.val (.long q1), .second, .val (.long q2), .second, .val (.long q3), .second, .val (.long q4), .second, .val (.long q5), .second, .val (.long q6), .second, .val (.ref a16), .val (.ref a18), .unset, .unset, .unset, .unset] [(.int (lcmpW (own_maxL q1 q4) q4))])) (fun t k => XS.lcmp X20.here hx rfl (hb hby at_36) rfl k) ?_
  refine own_of (T20.setTop (mkF m 45 #[.val (.long q1), .second, .val (.long q2), .second, .val (.long q3), .second, .val (.long q4), .second, .val (.long q5), .second, .val (.long q6), .second, .val (.ref a16), .val (.ref a18), .unset, .unset, .unset, .unset] [(.int (own_ok q1 q4))])) (fun t k => ?_) ?_
  · by_cases hc21 : (lcmpW (own_maxL q1 q4) q4) = (0 : Int32)
    · refine XS.ifNo X20.here hx rfl (hb hby at_37) rfl ((if0 _ _).trans (teq hc21).2) ?_
      show Steps p.tables e below (T20.setTop (mkF m 40 #[.val (.long q1), .second, .val (.long q2), .second, .val (.long q3), .second, .val (.long q4), .second, .val (.long q5), .second, .val (.long q6), .second, .val (.ref a16), .val (.ref a18), .unset, .unset, .unset, .unset] [])) t
      refine XS.iconst X20.here hx rfl (hb hby at_40) ?_
      show Steps p.tables e below (T20.setTop (mkF m 41 #[.val (.long q1), .second, .val (.long q2), .second, .val (.long q3), .second, .val (.long q4), .second, .val (.long q5), .second, .val (.long q6), .second, .val (.ref a16), .val (.ref a18), .unset, .unset, .unset, .unset] [(.int (1 : Int32))])) t
      refine XS.goto X20.here hx rfl (pc0 := 41) (pc' := 45) rfl (hb hby at_41) (by decide) (by decide) ?_
      show Steps p.tables e below (T20.setTop (mkF m 45 #[.val (.long q1), .second, .val (.long q2), .second, .val (.long q3), .second, .val (.long q4), .second, .val (.long q5), .second, .val (.long q6), .second, .val (.ref a16), .val (.ref a18), .unset, .unset, .unset, .unset] [(.int (1 : Int32))])) t
      rw [show own_ok q1 q4 = (1 : Int32) from by simp only [own_ok, hc21, if_true, if_false]] at k
      exact k
    · refine XS.ifYes X20.here hx rfl (pc0 := 37) (pc' := 44) rfl (hb hby at_37) rfl ((if0 _ _).trans (feq hc21).2) (by decide) (by decide) ?_
      show Steps p.tables e below (T20.setTop (mkF m 44 #[.val (.long q1), .second, .val (.long q2), .second, .val (.long q3), .second, .val (.long q4), .second, .val (.long q5), .second, .val (.long q6), .second, .val (.ref a16), .val (.ref a18), .unset, .unset, .unset, .unset] [])) t
      refine XS.iconst X20.here hx rfl (hb hby at_44) ?_
      show Steps p.tables e below (T20.setTop (mkF m 45 #[.val (.long q1), .second, .val (.long q2), .second, .val (.long q3), .second, .val (.long q4), .second, .val (.long q5), .second, .val (.long q6), .second, .val (.ref a16), .val (.ref a18), .unset, .unset, .unset, .unset] [(.int (0 : Int32))])) t
      rw [show own_ok q1 q4 = (0 : Int32) from by simp only [own_ok, hc21, if_true, if_false]] at k
      exact k
  refine own_of (T20.setTop (mkF m 47 #[.val (.long q1), .second, .val (.long q2), .second, .val (.long q3), .second, .val (.long q4), .second, .val (.long q5), .second, .val (.long q6), .second, .val (.ref a16), .val (.ref a18), .val (.int (own_ok q1 q4)), .unset, .unset, .unset] [])) (fun t k => XS.istore X20.here hx rfl (hb hby at_45) rfl (l' := #[.val (.long q1), .second, .val (.long q2), .second, .val (.long q3), .second, .val (.long q4), .second, .val (.long q5), .second, .val (.long q6), .second, .val (.ref a16), .val (.ref a18), .val (.int (own_ok q1 q4)), .unset, .unset, .unset]) rfl k) ?_
  refine own_of (T20.setTop (mkF m 48 #[.val (.long q1), .second, .val (.long q2), .second, .val (.long q3), .second, .val (.long q4), .second, .val (.long q5), .second, .val (.long q6), .second, .val (.ref a16), .val (.ref a18), .val (.int (own_ok q1 q4)), .unset, .unset, .unset] [(.long q2)])) (fun t k => XS.lloadN X20.here hx rfl (hb hby at_47) rfl k) ?_
  refine own_of (T20.setTop (mkF m 50 #[.val (.long q1), .second, .val (.long q2), .second, .val (.long q3), .second, .val (.long q4), .second, .val (.long q5), .second, .val (.long q6), .second, .val (.ref a16), .val (.ref a18), .val (.int (own_ok q1 q4)), .unset, .unset, .unset] [(.long q5), (.long q2)])) (fun t k => XS.lload X20.here hx rfl (hb hby at_48) rfl k) ?_
  obtain ⟨_, _, ⟨T22, L22, k22, n22⟩, -, X22, ⟨Lc22, hQ22, l22, y22, z22⟩, st22⟩ := Jvm.LawKit.callS X20 hx (y := (⟨"java/lang/Math", "max", "(JJ)J"⟩ : MethodName)) hown (mvT hZ (hw _ (List.mem_of_getElem? (i := 20) rfl))) (mvT hZ (hw _ (List.mem_of_getElem? (i := 21) rfl))) (mvT hZ (hw _ (List.mem_of_getElem? (i := 22) rfl))) (mvT hZ (hw _ (List.mem_of_getElem? (i := 23) rfl))) (by decide) (backOf (W := 0) (rm4 l Z a0 hw [] q2 q5 T19.heap n0 Z19) hZ (hw _ (List.mem_of_getElem? (i := 23) rfl)) (hw _ (List.mem_of_getElem? (i := 22) rfl)) (by decide) (by decide)) (g := (mkF m 50 #[.val (.long q1), .second, .val (.long q2), .second, .val (.long q3), .second, .val (.long q4), .second, .val (.long q5), .second, .val (.long q6), .second, .val (.ref a16), .val (.ref a18), .val (.int (own_ok q1 q4)), .unset, .unset, .unset] [(.long q5), (.long q2)])) rfl (by rw [hml]; rfl) (argsL := [(.long q2), (.long q5)]) (rest := []) (lenOf (by decide +kernel : parseMethodDescriptor "(JJ)J" = some ⟨[.long, .long], some .long⟩) rfl) rfl (by show 2 * 0 + _ ≤ _; exact Nat.le_of_eq rfl) (hb hby at_50) (fun _ _ => ⟨rfl, eh20, (by decide : 2 + 0 ≤ _), (by decide : 6 + 0 ≤ _)⟩)
  dsimp only [Pt.U, Pt.locs, Pt.cells, Pt.slots] at X22 l22 y22 z22 st22 hQ22
  subst l22 y22 z22
  obtain ⟨rfl, Nq22, eh22⟩ := hQ22
  have N22 := Fr.app N20 Nq22
  refine own_of (T22.setTop (mkF m 53 #[.val (.long q1), .second, .val (.long q2), .second, .val (.long q3), .second, .val (.long q4), .second, .val (.long q5), .second, .val (.long q6), .second, .val (.ref a16), .val (.ref a18), .val (.int (own_ok q1 q4)), .unset, .unset, .unset] [(.long (own_maxL q2 q5))])) (fun t q => st22 t q) ?_
  refine own_of (T22.setTop (mkF m 55 #[.val (.long q1), .second, .val (.long q2), .second, .val (.long q3), .second, .val (.long q4), .second, .val (.long q5), .second, .val (.long q6), .second, .val (.ref a16), .val (.ref a18), .val (.int (own_ok q1 q4)), .unset, .unset, .unset] [(.long q5), (.long (own_maxL q2 q5))])) (fun t k => XS.lload X22.here hx rfl (hb hby at_53) rfl k) ?_
  refine own_of (T22.setTop (mkF m 56 #[.val (.long q1), .second, .val (.long q2), .second, .val (.long q3), .second, .val (.long q4), .second, .val (.long q5), .second, .val (.long q6), .second, .val (.ref a16), .val (.ref a18), .val (.int (own_ok q1 q4)), .unset, .unset, .unset] [(.int (lcmpW (own_maxL q2 q5) q5))])) (fun t k => XS.lcmp X22.here hx rfl (hb hby at_55) rfl k) ?_
  refine own_of (T22.setTop (mkF m 64 #[.val (.long q1), .second, .val (.long q2), .second, .val (.long q3), .second, .val (.long q4), .second, .val (.long q5), .second, .val (.long q6), .second, .val (.ref a16), .val (.ref a18), .val (.int (own_ok q1 q4)), .unset, .unset, .unset] [(.int (own_ok q2 q5))])) (fun t k => ?_) ?_
  · by_cases hc23 : (lcmpW (own_maxL q2 q5) q5) = (0 : Int32)
    · refine XS.ifNo X22.here hx rfl (hb hby at_56) rfl ((if0 _ _).trans (teq hc23).2) ?_
      show Steps p.tables e below (T22.setTop (mkF m 59 #[.val (.long q1), .second, .val (.long q2), .second, .val (.long q3), .second, .val (.long q4), .second, .val (.long q5), .second, .val (.long q6), .second, .val (.ref a16), .val (.ref a18), .val (.int (own_ok q1 q4)), .unset, .unset, .unset] [])) t
      refine XS.iconst X22.here hx rfl (hb hby at_59) ?_
      show Steps p.tables e below (T22.setTop (mkF m 60 #[.val (.long q1), .second, .val (.long q2), .second, .val (.long q3), .second, .val (.long q4), .second, .val (.long q5), .second, .val (.long q6), .second, .val (.ref a16), .val (.ref a18), .val (.int (own_ok q1 q4)), .unset, .unset, .unset] [(.int (1 : Int32))])) t
      refine XS.goto X22.here hx rfl (pc0 := 60) (pc' := 64) rfl (hb hby at_60) (by decide) (by decide) ?_
      show Steps p.tables e below (T22.setTop (mkF m 64 #[.val (.long q1), .second, .val (.long q2), .second, .val (.long q3), .second, .val (.long q4), .second, .val (.long q5), .second, .val (.long q6), .second, .val (.ref a16), .val (.ref a18), .val (.int (own_ok q1 q4)), .unset, .unset, .unset] [(.int (1 : Int32))])) t
      rw [show own_ok q2 q5 = (1 : Int32) from by simp only [own_ok, hc23, if_true, if_false]] at k
      exact k
    · refine XS.ifYes X22.here hx rfl (pc0 := 56) (pc' := 63) rfl (hb hby at_56) rfl ((if0 _ _).trans (feq hc23).2) (by decide) (by decide) ?_
      show Steps p.tables e below (T22.setTop (mkF m 63 #[.val (.long q1), .second, .val (.long q2), .second, .val (.long q3), .second, .val (.long q4), .second, .val (.long q5), .second, .val (.long q6), .second, .val (.ref a16), .val (.ref a18), .val (.int (own_ok q1 q4)), .unset, .unset, .unset] [])) t
      refine XS.iconst X22.here hx rfl (hb hby at_63) ?_
      show Steps p.tables e below (T22.setTop (mkF m 64 #[.val (.long q1), .second, .val (.long q2), .second, .val (.long q3), .second, .val (.long q4), .second, .val (.long q5), .second, .val (.long q6), .second, .val (.ref a16), .val (.ref a18), .val (.int (own_ok q1 q4)), .unset, .unset, .unset] [(.int (0 : Int32))])) t
      rw [show own_ok q2 q5 = (0 : Int32) from by simp only [own_ok, hc23, if_true, if_false]] at k
      exact k
  refine own_of (T22.setTop (mkF m 66 #[.val (.long q1), .second, .val (.long q2), .second, .val (.long q3), .second, .val (.long q4), .second, .val (.long q5), .second, .val (.long q6), .second, .val (.ref a16), .val (.ref a18), .val (.int (own_ok q1 q4)), .val (.int (own_ok q2 q5)), .unset, .unset] [])) (fun t k => XS.istore X22.here hx rfl (hb hby at_64) rfl (l' := #[.val (.long q1), .second, .val (.long q2), .second, .val (.long q3), .second, .val (.long q4), .second, .val (.long q5), .second, .val (.long q6), .second, .val (.ref a16), .val (.ref a18), .val (.int (own_ok q1 q4)), .val (.int (own_ok q2 q5)), .unset, .unset]) rfl k) ?_
  refine own_of (T22.setTop (mkF m 68 #[.val (.long q1), .second, .val (.long q2), .second, .val (.long q3), .second, .val (.long q4), .second, .val (.long q5), .second, .val (.long q6), .second, .val (.ref a16), .val (.ref a18), .val (.int (own_ok q1 q4)), .val (.int (own_ok q2 q5)), .unset, .unset] [(.long q3)])) (fun t k => XS.lload X22.here hx rfl (hb hby at_66) rfl k) ?_
  refine own_of (T22.setTop (mkF m 70 #[.val (.long q1), .second, .val (.long q2), .second, .val (.long q3), .second, .val (.long q4), .second, .val (.long q5), .second, .val (.long q6), .second, .val (.ref a16), .val (.ref a18), .val (.int (own_ok q1 q4)), .val (.int (own_ok q2 q5)), .unset, .unset] [(.long q6), (.long q3)])) (fun t k => XS.lload X22.here hx rfl (hb hby at_68) rfl k) ?_
  obtain ⟨_, _, ⟨T24, L24, k24, n24⟩, -, X24, ⟨Lc24, hQ24, l24, y24, z24⟩, st24⟩ := Jvm.LawKit.callS X22 hx (y := (⟨"java/lang/Math", "max", "(JJ)J"⟩ : MethodName)) hown (mvT hZ (hw _ (List.mem_of_getElem? (i := 20) rfl))) (mvT hZ (hw _ (List.mem_of_getElem? (i := 21) rfl))) (mvT hZ (hw _ (List.mem_of_getElem? (i := 22) rfl))) (mvT hZ (hw _ (List.mem_of_getElem? (i := 23) rfl))) (by decide) (backOf (W := 0) (rm4 l Z a0 hw [] q3 q6 T19.heap n0 Z19) hZ (hw _ (List.mem_of_getElem? (i := 23) rfl)) (hw _ (List.mem_of_getElem? (i := 22) rfl)) (by decide) (by decide)) (g := (mkF m 70 #[.val (.long q1), .second, .val (.long q2), .second, .val (.long q3), .second, .val (.long q4), .second, .val (.long q5), .second, .val (.long q6), .second, .val (.ref a16), .val (.ref a18), .val (.int (own_ok q1 q4)), .val (.int (own_ok q2 q5)), .unset, .unset] [(.long q6), (.long q3)])) rfl (by rw [hml]; rfl) (argsL := [(.long q3), (.long q6)]) (rest := []) (lenOf (by decide +kernel : parseMethodDescriptor "(JJ)J" = some ⟨[.long, .long], some .long⟩) rfl) rfl (by show 2 * 0 + _ ≤ _; exact Nat.le_of_eq rfl) (hb hby at_70) (fun _ _ => ⟨rfl, eh22, (by decide : 2 + 0 ≤ _), (by decide : 6 + 0 ≤ _)⟩)
  dsimp only [Pt.U, Pt.locs, Pt.cells, Pt.slots] at X24 l24 y24 z24 st24 hQ24
  subst l24 y24 z24
  obtain ⟨rfl, Nq24, eh24⟩ := hQ24
  have N24 := Fr.app N22 Nq24
  refine own_of (T24.setTop (mkF m 73 #[.val (.long q1), .second, .val (.long q2), .second, .val (.long q3), .second, .val (.long q4), .second, .val (.long q5), .second, .val (.long q6), .second, .val (.ref a16), .val (.ref a18), .val (.int (own_ok q1 q4)), .val (.int (own_ok q2 q5)), .unset, .unset] [(.long (own_maxL q3 q6))])) (fun t q => st24 t q) ?_
  refine own_of (T24.setTop (mkF m 75 #[.val (.long q1), .second, .val (.long q2), .second, .val (.long q3), .second, .val (.long q4), .second, .val (.long q5), .second, .val (.long q6), .second, .val (.ref a16), .val (.ref a18), .val (.int (own_ok q1 q4)), .val (.int (own_ok q2 q5)), .unset, .unset] [(.long q6), (.long (own_maxL q3 q6))])) (fun t k => XS.lload X24.here hx rfl (hb hby at_73) rfl k) ?_
  refine own_of (T24.setTop (mkF m 76 #[.val (.long q1), .second, .val (.long q2), .second, .val (.long q3), .second, .val (.long q4), .second, .val (.long q5), .second, .val (.long q6), .second, .val (.ref a16), .val (.ref a18), .val (.int (own_ok q1 q4)), .val (.int (own_ok q2 q5)), .unset, .unset] [(.int (lcmpW (own_maxL q3 q6) q6))])) (fun t k => XS.lcmp X24.here hx rfl (hb hby at_75) rfl k) ?_
  refine own_of (T24.setTop (mkF m 84 #[.val (.long q1), .second, .val (.long q2), .second, .val (.long q3), .second, .val (.long q4), .second, .val (.long q5), .second, .val (.long q6), .second, .val (.ref a16), .val (.ref a18), .val (.int (own_ok q1 q4)), .val (.int (own_ok q2 q5)), .unset, .unset] [(.int (own_ok q3 q6))])) (fun t k => ?_) ?_
  · by_cases hc25 : (lcmpW (own_maxL q3 q6) q6) = (0 : Int32)
    · refine XS.ifNo X24.here hx rfl (hb hby at_76) rfl ((if0 _ _).trans (teq hc25).2) ?_
      show Steps p.tables e below (T24.setTop (mkF m 79 #[.val (.long q1), .second, .val (.long q2), .second, .val (.long q3), .second, .val (.long q4), .second, .val (.long q5), .second, .val (.long q6), .second, .val (.ref a16), .val (.ref a18), .val (.int (own_ok q1 q4)), .val (.int (own_ok q2 q5)), .unset, .unset] [])) t
      refine XS.iconst X24.here hx rfl (hb hby at_79) ?_
      show Steps p.tables e below (T24.setTop (mkF m 80 #[.val (.long q1), .second, .val (.long q2), .second, .val (.long q3), .second, .val (.long q4), .second, .val (.long q5), .second, .val (.long q6), .second, .val (.ref a16), .val (.ref a18), .val (.int (own_ok q1 q4)), .val (.int (own_ok q2 q5)), .unset, .unset] [(.int (1 : Int32))])) t
      refine XS.goto X24.here hx rfl (pc0 := 80) (pc' := 84) rfl (hb hby at_80) (by decide) (by decide) ?_
      show Steps p.tables e below (T24.setTop (mkF m 84 #[.val (.long q1), .second, .val (.long q2), .second, .val (.long q3), .second, .val (.long q4), .second, .val (.long q5), .second, .val (.long q6), .second, .val (.ref a16), .val (.ref a18), .val (.int (own_ok q1 q4)), .val (.int (own_ok q2 q5)), .unset, .unset] [(.int (1 : Int32))])) t
      rw [show own_ok q3 q6 = (1 : Int32) from by simp only [own_ok, hc25, if_true, if_false]] at k
      exact k
    · refine XS.ifYes X24.here hx rfl (pc0 := 76) (pc' := 83) rfl (hb hby at_76) rfl ((if0 _ _).trans (feq hc25).2) (by decide) (by decide) ?_
      show Steps p.tables e below (T24.setTop (mkF m 83 #[.val (.long q1), .second, .val (.long q2), .second, .val (.long q3), .second, .val (.long q4), .second, .val (.long q5), .second, .val (.long q6), .second, .val (.ref a16), .val (.ref a18), .val (.int (own_ok q1 q4)), .val (.int (own_ok q2 q5)), .unset, .unset] [])) t
      refine XS.iconst X24.here hx rfl (hb hby at_83) ?_
      show Steps p.tables e below (T24.setTop (mkF m 84 #[.val (.long q1), .second, .val (.long q2), .second, .val (.long q3), .second, .val (.long q4), .second, .val (.long q5), .second, .val (.long q6), .second, .val (.ref a16), .val (.ref a18), .val (.int (own_ok q1 q4)), .val (.int (own_ok q2 q5)), .unset, .unset] [(.int (0 : Int32))])) t
      rw [show own_ok q3 q6 = (0 : Int32) from by simp only [own_ok, hc25, if_true, if_false]] at k
      exact k
  refine own_of (T24.setTop (mkF m 86 #[.val (.long q1), .second, .val (.long q2), .second, .val (.long q3), .second, .val (.long q4), .second, .val (.long q5), .second, .val (.long q6), .second, .val (.ref a16), .val (.ref a18), .val (.int (own_ok q1 q4)), .val (.int (own_ok q2 q5)), .val (.int (own_ok q3 q6)), .unset] [])) (fun t k => XS.istore X24.here hx rfl (hb hby at_84) rfl (l' := #[.val (.long q1), .second, .val (.long q2), .second, .val (.long q3), .second, .val (.long q4), .second, .val (.long q5), .second, .val (.long q6), .second, .val (.ref a16), .val (.ref a18), .val (.int (own_ok q1 q4)), .val (.int (own_ok q2 q5)), .val (.int (own_ok q3 q6)), .unset]) rfl k) ?_
  refine own_of (T24.setTop (mkF m 88 #[.val (.long q1), .second, .val (.long q2), .second, .val (.long q3), .second, .val (.long q4), .second, .val (.long q5), .second, .val (.long q6), .second, .val (.ref a16), .val (.ref a18), .val (.int (own_ok q1 q4)), .val (.int (own_ok q2 q5)), .val (.int (own_ok q3 q6)), .unset] [(.int (own_ok q1 q4))])) (fun t k => XS.iload X24.here hx rfl (hb hby at_86) rfl k) ?_
  refine own_of (T24.setTop (mkF m 106 #[.val (.long q1), .second, .val (.long q2), .second, .val (.long q3), .second, .val (.long q4), .second, .val (.long q5), .second, .val (.long q6), .second, .val (.ref a16), .val (.ref a18), .val (.int (own_ok q1 q4)), .val (.int (own_ok q2 q5)), .val (.int (own_ok q3 q6)), .unset] [(.int (own_and3 (own_ok q1 q4) (own_ok q2 q5) (own_ok q3 q6)))])) (fun t k => ?_) ?_
  · by_cases hc26 : (own_ok q1 q4) = (0 : Int32)
    · refine XS.ifYes X24.here hx rfl (pc0 := 88) (pc' := 105) rfl (hb hby at_88) rfl ((if0 _ _).trans (teq hc26).1) (by decide) (by decide) ?_
      show Steps p.tables e below (T24.setTop (mkF m 105 #[.val (.long q1), .second, .val (.long q2), .second, .val (.long q3), .second, .val (.long q4), .second, .val (.long q5), .second, .val (.long q6), .second, .val (.ref a16), .val (.ref a18), .val (.int (own_ok q1 q4)), .val (.int (own_ok q2 q5)), .val (.int (own_ok q3 q6)), .unset] [])) t
      refine XS.iconst X24.here hx rfl (hb hby at_105) ?_
      show Steps p.tables e below (T24.setTop (mkF m 106 #[.val (.long q1), .second, .val (.long q2), .second, .val (.long q3), .second, .val (.long q4), .second, .val (.long q5), .second, .val (.long q6), .second, .val (.ref a16), .val (.ref a18), .val (.int (own_ok q1 q4)), .val (.int (own_ok q2 q5)), .val (.int (own_ok q3 q6)), .unset] [(.int (0 : Int32))])) t
      rw [show own_and3 (own_ok q1 q4) (own_ok q2 q5) (own_ok q3 q6) = (0 : Int32) from by simp only [own_and3, hc26, if_true, if_false]] at k
      exact k
    · refine XS.ifNo X24.here hx rfl (hb hby at_88) rfl ((if0 _ _).trans (feq hc26).1) ?_
      show Steps p.tables e below (T24.setTop (mkF m 91 #[.val (.long q1), .second, .val (.long q2), .second, .val (.long q3), .second, .val (.long q4), .second, .val (.long q5), .second, .val (.long q6), .second, .val (.ref a16), .val (.ref a18), .val (.int (own_ok q1 q4)), .val (.int (own_ok q2 q5)), .val (.int (own_ok q3 q6)), .unset] [])) t
      refine XS.iload X24.here hx rfl (hb hby at_91) rfl ?_
      show Steps p.tables e below (T24.setTop (mkF m 93 #[.val (.long q1), .second, .val (.long q2), .second, .val (.long q3), .second, .val (.long q4), .second, .val (.long q5), .second, .val (.long q6), .second, .val (.ref a16), .val (.ref a18), .val (.int (own_ok q1 q4)), .val (.int (own_ok q2 q5)), .val (.int (own_ok q3 q6)), .unset] [(.int (own_ok q2 q5))])) t
      by_cases hc27 : (own_ok q2 q5) = (0 : Int32)
      · refine XS.ifYes X24.here hx rfl (pc0 := 93) (pc' := 105) rfl (hb hby at_93) rfl ((if0 _ _).trans (teq hc27).1) (by decide) (by decide) ?_
        show Steps p.tables e below (T24.setTop (mkF m 105 #[.val (.long q1), .second, .val (.long q2), .second, .val (.long q3), .second, .val (.long q4), .second, .val (.long q5), .second, .val (.long q6), .second, .val (.ref a16), .val (.ref a18), .val (.int (own_ok q1 q4)), .val (.int (own_ok q2 q5)), .val (.int (own_ok q3 q6)), .unset] [])) t
        refine XS.iconst X24.here hx rfl (hb hby at_105) ?_
        show Steps p.tables e below (T24.setTop (mkF m 106 #[.val (.long q1), .second, .val (.long q2), .second, .val (.long q3), .second, .val (.long q4), .second, .val (.long q5), .second, .val (.long q6), .second, .val (.ref a16), .val (.ref a18), .val (.int (own_ok q1 q4)), .val (.int (own_ok q2 q5)), .val (.int (own_ok q3 q6)), .unset] [(.int (0 : Int32))])) t
        rw [show own_and3 (own_ok q1 q4) (own_ok q2 q5) (own_ok q3 q6) = (0 : Int32) from by simp only [own_and3, hc26, hc27, if_true, if_false]] at k
        exact k
      · refine XS.ifNo X24.here hx rfl (hb hby at_93) rfl ((if0 _ _).trans (feq hc27).1) ?_
        show Steps p.tables e below (T24.setTop (mkF m 96 #[.val (.long q1), .second, .val (.long q2), .second, .val (.long q3), .second, .val (.long q4), .second, .val (.long q5), .second, .val (.long q6), .second, .val (.ref a16), .val (.ref a18), .val (.int (own_ok q1 q4)), .val (.int (own_ok q2 q5)), .val (.int (own_ok q3 q6)), .unset] [])) t
        refine XS.iload X24.here hx rfl (hb hby at_96) rfl ?_
        show Steps p.tables e below (T24.setTop (mkF m 98 #[.val (.long q1), .second, .val (.long q2), .second, .val (.long q3), .second, .val (.long q4), .second, .val (.long q5), .second, .val (.long q6), .second, .val (.ref a16), .val (.ref a18), .val (.int (own_ok q1 q4)), .val (.int (own_ok q2 q5)), .val (.int (own_ok q3 q6)), .unset] [(.int (own_ok q3 q6))])) t
        by_cases hc28 : (own_ok q3 q6) = (0 : Int32)
        · refine XS.ifYes X24.here hx rfl (pc0 := 98) (pc' := 105) rfl (hb hby at_98) rfl ((if0 _ _).trans (teq hc28).1) (by decide) (by decide) ?_
          show Steps p.tables e below (T24.setTop (mkF m 105 #[.val (.long q1), .second, .val (.long q2), .second, .val (.long q3), .second, .val (.long q4), .second, .val (.long q5), .second, .val (.long q6), .second, .val (.ref a16), .val (.ref a18), .val (.int (own_ok q1 q4)), .val (.int (own_ok q2 q5)), .val (.int (own_ok q3 q6)), .unset] [])) t
          refine XS.iconst X24.here hx rfl (hb hby at_105) ?_
          show Steps p.tables e below (T24.setTop (mkF m 106 #[.val (.long q1), .second, .val (.long q2), .second, .val (.long q3), .second, .val (.long q4), .second, .val (.long q5), .second, .val (.long q6), .second, .val (.ref a16), .val (.ref a18), .val (.int (own_ok q1 q4)), .val (.int (own_ok q2 q5)), .val (.int (own_ok q3 q6)), .unset] [(.int (0 : Int32))])) t
          rw [show own_and3 (own_ok q1 q4) (own_ok q2 q5) (own_ok q3 q6) = (0 : Int32) from by simp only [own_and3, hc26, hc27, hc28, if_true, if_false]] at k
          exact k
        · refine XS.ifNo X24.here hx rfl (hb hby at_98) rfl ((if0 _ _).trans (feq hc28).1) ?_
          show Steps p.tables e below (T24.setTop (mkF m 101 #[.val (.long q1), .second, .val (.long q2), .second, .val (.long q3), .second, .val (.long q4), .second, .val (.long q5), .second, .val (.long q6), .second, .val (.ref a16), .val (.ref a18), .val (.int (own_ok q1 q4)), .val (.int (own_ok q2 q5)), .val (.int (own_ok q3 q6)), .unset] [])) t
          refine XS.iconst X24.here hx rfl (hb hby at_101) ?_
          show Steps p.tables e below (T24.setTop (mkF m 102 #[.val (.long q1), .second, .val (.long q2), .second, .val (.long q3), .second, .val (.long q4), .second, .val (.long q5), .second, .val (.long q6), .second, .val (.ref a16), .val (.ref a18), .val (.int (own_ok q1 q4)), .val (.int (own_ok q2 q5)), .val (.int (own_ok q3 q6)), .unset] [(.int (1 : Int32))])) t
          refine XS.goto X24.here hx rfl (pc0 := 102) (pc' := 106) rfl (hb hby at_102) (by decide) (by decide) ?_
          show Steps p.tables e below (T24.setTop (mkF m 106 #[.val (.long q1), .second, .val (.long q2), .second, .val (.long q3), .second, .val (.long q4), .second, .val (.long q5), .second, .val (.long q6), .second, .val (.ref a16), .val (.ref a18), .val (.int (own_ok q1 q4)), .val (.int (own_ok q2 q5)), .val (.int (own_ok q3 q6)), .unset] [(.int (1 : Int32))])) t
          rw [show own_and3 (own_ok q1 q4) (own_ok q2 q5) (own_ok q3 q6) = (1 : Int32) from by simp only [own_and3, hc26, hc27, hc28, if_true, if_false]] at k
          exact k
  refine own_of (T24.setTop (mkF m 108 #[.val (.long q1), .second, .val (.long q2), .second, .val (.long q3), .second, .val (.long q4), .second, .val (.long q5), .second, .val (.long q6), .second, .val (.ref a16), .val (.ref a18), .val (.int (own_ok q1 q4)), .val (.int (own_ok q2 q5)), .val (.int (own_ok q3 q6)), .val (.int (own_and3 (own_ok q1 q4) (own_ok q2 q5) (own_ok q3 q6)))] [])) (fun t k => XS.istore X24.here hx rfl (hb hby at_106) rfl (l' := #[.val (.long q1), .second, .val (.long q2), .second, .val (.long q3), .second, .val (.long q4), .second, .val (.long q5), .second, .val (.long q6), .second, .val (.ref a16), .val (.ref a18), .val (.int (own_ok q1 q4)), .val (.int (own_ok q2 q5)), .val (.int (own_ok q3 q6)), .val (.int (own_and3 (own_ok q1 q4) (own_ok q2 q5) (own_ok q3 q6)))]) rfl k) ?_
  refine own_of (T24.setTop (mkF m 110 #[.val (.long q1), .second, .val (.long q2), .second, .val (.long q3), .second, .val (.long q4), .second, .val (.long q5), .second, .val (.long q6), .second, .val (.ref a16), .val (.ref a18), .val (.int (own_ok q1 q4)), .val (.int (own_ok q2 q5)), .val (.int (own_ok q3 q6)), .val (.int (own_and3 (own_ok q1 q4) (own_ok q2 q5) (own_ok q3 q6)))] [(.ref a16)])) (fun t k => XS.aload X24.here hx rfl (hb hby at_108) rfl rfl k) ?_
  refine own_of (T24.setTop (mkF m 112 #[.val (.long q1), .second, .val (.long q2), .second, .val (.long q3), .second, .val (.long q4), .second, .val (.long q5), .second, .val (.long q6), .second, .val (.ref a16), .val (.ref a18), .val (.int (own_ok q1 q4)), .val (.int (own_ok q2 q5)), .val (.int (own_ok q3 q6)), .val (.int (own_and3 (own_ok q1 q4) (own_ok q2 q5) (own_ok q3 q6)))] [(.ref a18), (.ref a16)])) (fun t k => XS.aload X24.here hx rfl (hb hby at_110) rfl rfl k) ?_
  obtain ⟨cq29, kq29, qa29, qb29, qc29⟩ := isOf hZ eh24 f19_0
  obtain ⟨_, _, ⟨T29, L29, k29, n29⟩, -, X29, ⟨Lc29, hQ29, l29, y29, z29⟩, st29⟩ := X24.virtualBack hx (y := (⟨"com/example/loadstone/loadstone/placement/Resources", "fitsWithin", "(Lcom/example/loadstone/loadstone/placement/Resources;)Z"⟩ : MethodName)) (z := (⟨"com/example/loadstone/loadstone/placement/Resources", "fitsWithin", "(Lcom/example/loadstone/loadstone/placement/Resources;)Z"⟩ : MethodName)) hown (mvT hZ (hw _ (List.mem_of_getElem? (i := 24) rfl))) (mvT hZ (hw _ (List.mem_of_getElem? (i := 25) rfl))) (notFace_of_selects (args := #[]) (mvT hZ (hw _ (List.mem_of_getElem? (i := 27) rfl)))) (mvT hZ (hw _ (List.mem_of_getElem? (i := 27) rfl))) (mvT hZ (hw _ (List.mem_of_getElem? (i := 26) rfl))) (by decide) (backOf (W := 0) (rm5 l Z a0 hw [] a16 a18 q1 q2 q3 q4 q5 q6 T19.heap n0 Z19 f19_1 f19_2 f19_3 fa19 fb19 fc19) hZ (hw _ (List.mem_of_getElem? (i := 28) rfl)) (hw _ (List.mem_of_getElem? (i := 2) rfl)) (by decide) (by decide)) qa29 qc29 (g := (mkF m 112 #[.val (.long q1), .second, .val (.long q2), .second, .val (.long q3), .second, .val (.long q4), .second, .val (.long q5), .second, .val (.long q6), .second, .val (.ref a16), .val (.ref a18), .val (.int (own_ok q1 q4)), .val (.int (own_ok q2 q5)), .val (.int (own_ok q3 q6)), .val (.int (own_and3 (own_ok q1 q4) (own_ok q2 q5) (own_ok q3 q6)))] [(.ref a18), (.ref a16)])) rfl (by rw [hml]; rfl) (Steps.refl _) (argsL := [(.ref a18)]) (rest := []) (lenOf (by decide +kernel : parseMethodDescriptor "(Lcom/example/loadstone/loadstone/placement/Resources;)Z" = some ⟨[(.object "com/example/loadstone/loadstone/placement/Resources")], some .boolean⟩) rfl) rfl (by show 2 * 0 + _ ≤ _; exact Nat.le_of_eq rfl) (hb hby at_112) (fun _ _ => ⟨rfl, eh24, (by decide : 2 + 0 ≤ _), (by decide : 6 + 0 ≤ _)⟩)
  dsimp only [Pt.U, Pt.locs, Pt.cells, Pt.slots] at X29 l29 y29 z29 st29 hQ29
  subst l29 y29 z29
  obtain ⟨rfl, Nq29, eh29⟩ := hQ29
  have N29 := Fr.app N24 Nq29
  refine own_tr (T29.setTop (mkF m 115 #[.val (.long q1), .second, .val (.long q2), .second, .val (.long q3), .second, .val (.long q4), .second, .val (.long q5), .second, .val (.long q6), .second, .val (.ref a16), .val (.ref a18), .val (.int (own_ok q1 q4)), .val (.int (own_ok q2 q5)), .val (.int (own_ok q3 q6)), .val (.int (own_and3 (own_ok q1 q4) (own_ok q2 q5) (own_ok q3 q6)))] [(.int (own_fit q1 q2 q3 q4 q5 q6))])) st29 ?_
  refine own_of (T29.setTop (mkF m 117 #[.val (.long q1), .second, .val (.long q2), .second, .val (.long q3), .second, .val (.long q4), .second, .val (.long q5), .second, .val (.long q6), .second, .val (.ref a16), .val (.ref a18), .val (.int (own_ok q1 q4)), .val (.int (own_ok q2 q5)), .val (.int (own_ok q3 q6)), .val (.int (own_and3 (own_ok q1 q4) (own_ok q2 q5) (own_ok q3 q6)))] [(.int (own_and3 (own_ok q1 q4) (own_ok q2 q5) (own_ok q3 q6))), (.int (own_fit q1 q2 q3 q4 q5 q6))])) (fun t k => XS.iload X29.here hx rfl (hb hby at_115) rfl k) ?_
  refine own_of (T29.setTop (mkF m 120 #[.val (.long q1), .second, .val (.long q2), .second, .val (.long q3), .second, .val (.long q4), .second, .val (.long q5), .second, .val (.long q6), .second, .val (.ref a16), .val (.ref a18), .val (.int (own_ok q1 q4)), .val (.int (own_ok q2 q5)), .val (.int (own_ok q3 q6)), .val (.int (own_and3 (own_ok q1 q4) (own_ok q2 q5) (own_ok q3 q6)))] [])) (fun t k => XS.icmpNo X29.here hx rfl (hb hby at_117) rfl (teq (own_law q1 q2 q3 q4 q5 q6)).2 k) ?_
  refine own_of (T29.setTop (mkF m 121 #[.val (.long q1), .second, .val (.long q2), .second, .val (.long q3), .second, .val (.long q4), .second, .val (.long q5), .second, .val (.long q6), .second, .val (.ref a16), .val (.ref a18), .val (.int (own_ok q1 q4)), .val (.int (own_ok q2 q5)), .val (.int (own_ok q3 q6)), .val (.int (own_and3 (own_ok q1 q4) (own_ok q2 q5) (own_ok q3 q6)))] [(.int (1 : Int32))])) (fun t k => XS.iconst X29.here hx rfl (hb hby at_120) k) ?_
  refine own_of (T29.setTop (mkF m 125 #[.val (.long q1), .second, .val (.long q2), .second, .val (.long q3), .second, .val (.long q4), .second, .val (.long q5), .second, .val (.long q6), .second, .val (.ref a16), .val (.ref a18), .val (.int (own_ok q1 q4)), .val (.int (own_ok q2 q5)), .val (.int (own_ok q3 q6)), .val (.int (own_and3 (own_ok q1 q4) (own_ok q2 q5) (own_ok q3 q6)))] [(.int (1 : Int32))])) (fun t k => XS.goto X29.here hx rfl (pc0 := 121) (pc' := 125) rfl (hb hby at_121) (by decide) (by decide) k) ?_
  obtain ⟨fs, hr, hrun, hended, hW, hsame⟩ := X29.leave (v := some (.int (1 : Int32))) (fun h => by rw [Bd.returns] at h; cases h)
  refine ⟨_, _, retN X29 hx (t := .boolean) Bd.returns (by simp) (hb hby at_125) hr, hrun, hended, _, _, rfl, ?_, ⟨_, rfl⟩, hW, hsame.mono (by decide) (by decide)⟩
  show Q_rm0 Z q1 q2 q3 q4 q5 q6  h0 n0 _ T29.heap _
  rw [eh29]
  exact ⟨rfl, N29⟩
set_option maxRecDepth 65536 in
set_option maxHeartbeats 40000000 in
theorem comes_1 {Post : Tables → Env → Array Value → State → Outcome → State → Prop} (hpost : ∀ tb e args s v u, (limb_1_1.after args s (.returned v) u = true ∧ limb_1_2.after args s (.returned v) u = true ∧ True) → FrameEnd s (.returned v) u (Jvm.fieldLocs frame_1_writes args s ++ Jvm.arrayLocs frame_1_arrays args s ++ Jvm.staticLocs frame_1_statics s) 16 128 → Post tb e args s (.returned v) u) :
    ArmFor flags0 classFile x code maxLocals ret World_1 tables_1 room_1 Calls_1 rest_1 Pre_1 Post := by
  intro l hfl _ _ p e ha hc hk s m args below hf hA hF happ hP
  obtain ⟨hcalls, hrest, hpre⟩ := hP
  obtain ⟨-, -, -, hnamed, -, -, -, hat⟩ := (Spec.applies_iff hf).mp happ
  obtain ⟨hg, hn⟩ := and_e (Cond.before_iff.mp (show (Jvm.Cond.and given_1 narrow_1).before args s = true from hpre))
  obtain ⟨h1, g0⟩ := and_e hg
  obtain ⟨w0, w1, w2, w3, w4, w5, rfl⟩ : ∃ w0 w1 w2 w3 w4 w5 : Value, args = #[w0, w1, w2, w3, w4, w5] := by
    have hs : args.size = 6 := by simpa [Cond.value, given_1] using h1
    obtain ⟨L⟩ := args
    match L, hs with
    | [w0, w1, w2, w3, w4, w5], _ => exact ⟨w0, w1, w2, w3, w4, w5, rfl⟩
  have hw := fun d (hd : d ∈ tables_1) => atoms_spec (ws := Jvm.Cond.code x code maxLocals ret :: tables_1) hat d (List.mem_cons_of_mem _ hd)
  obtain ⟨c0, g1⟩ := and_e g0
  obtain ⟨i0, e0⟩ := isL_v c0
  obtain rfl : w0 = (.long i0) := Option.some.inj e0
  obtain ⟨c1, g2⟩ := and_e g1
  obtain ⟨i1, e1⟩ := isL_v c1
  obtain rfl : w1 = (.long i1) := Option.some.inj e1
  obtain ⟨c2, g3⟩ := and_e g2
  obtain ⟨i2, e2⟩ := isL_v c2
  obtain rfl : w2 = (.long i2) := Option.some.inj e2
  obtain ⟨c3, g4⟩ := and_e g3
  obtain ⟨i3, e3⟩ := isL_v c3
  obtain rfl : w3 = (.long i3) := Option.some.inj e3
  obtain ⟨c4, g5⟩ := and_e g4
  obtain ⟨i4, e4⟩ := isL_v c4
  obtain rfl : w4 = (.long i4) := Option.some.inj e4
  obtain ⟨i5, e5⟩ := isL_v g5
  obtain rfl : w5 = (.long i5) := Option.some.inj e5
  obtain ⟨n, o, h1, h2, h3, _, L, rfl, ⟨rfl, N⟩, hq⟩ := rm0 l s _ hw tables_1 i0 i1 i2 i3 i4 i5 s.heap s.heap.size (Nat.le_refl _) p e ha hc hk s m _ below hf ((Spec.applies_iff_loose hf).mp happ).1 ⟨rfl, State.Warmed39.refl s, rfl⟩ trivial
  refine ⟨n, _, h1, h2, h3, hpost _ _ _ _ _ _ ⟨Cond.after_iff.mpr rfl, Cond.after_iff.mpr (eq_i res_at (Term.int_eval (1)) rfl), trivial⟩ ⟨hq.1, hq.2.1, (hq.2.2.sift fun y hy => Or.inr (N y hy)).mono (by decide) (by decide)⟩⟩
theorem main_1_1 : Claimed_1_1 := comes_1 fun _ _ _ _ _ _ h hF => ⟨h.1, hF⟩
theorem main_1_2 : Claimed_1_2 := comes_1 fun _ _ _ _ _ _ h hF => ⟨h.2.1, hF⟩
end Jvm.Pilot.@@N@@
namespace Jvm.Pilot.@@N@@
open Jvm Jvm.ClassFile Sem Op Lib Jvm.Free Jvm.Stand Jvm.Pilot.@@N@@.Jvm.D
/-! MADE BY PROGRAM (witnessworld.py) out of the Statement's table words and the real class files: 11 classes; the members and pool entries that the words name. The judged class is class 1, her method 1. -/
namespace start1
open Jvm.ClassFile
def u (s : String) : CpInfo := .utf8 (stringToUtf16 s)
/-- a pool by its gaps: so many unusable entries, then the entry; so many at the end -/
def gap : Nat → List CpInfo → List CpInfo
  | 0, r => r
  | n + 1, r => .unusable :: gap n r
def poolList (es : List (Nat × CpInfo)) (last : Nat) : List CpInfo := es.foldr (fun e r => gap e.1 (e.2 :: r)) (gap last [])
def pool (es : List (Nat × CpInfo)) (last : Nat) : Array CpInfo := ⟨poolList es last⟩
def fileOf (pool : Array CpInfo) (this : Nat) (attrs : Array Attribute := #[]) (ms : Array MethodInfo := #[]) (fl : Nat := 33) (sup : Nat := 0) (ifs : Array Nat := #[]) (fds : Array FieldInfo := #[]) : ClassFile where
  minorVersion := 0
  majorVersion := 65
  constantPool := pool
  accessFlags := fl
  thisClass := this
  superClass := sup
  interfaces := ifs
  fields := fds
  methods := ms
  attributes := attrs
def plain (name : String) (sup : Option ClassId) : Class where
  name := name
  kind := .ordinary
  loader := none
  accessFlags := 33
  super := sup
  interfaces := #[]
  cf := none
  fields := #[]
  methods := #[]
  instanceTypes := #[]
  staticTypes := #[]
  resolved := #[]
  callSites := []
  init := .initialized
  statics := none
  mirror := none

def pool0 : Array CpInfo := pool [(5, u "<init>"), (0, u "()V"), (1, .class_ 10), (1, u "java/lang/Object")] 113

def k0c0 : Code := { maxStack := 0, maxLocals := 1, code := object_method_1_code, exceptionTable := #[], attributes := #[] }
def k0m0 : Method := { name := "<init>", desc := "()V", sig := { parameters := [], returnType := none }, accessFlags := 1, code := some k0c0 }
/-- java/lang/Object -/
def k0 : Class := { plain "java/lang/Object" none with
  accessFlags := 33
  interfaces := #[]
  cf := some (fileOf pool0 8 #[] #[{ accessFlags := 1, nameIndex := 5, descriptorIndex := 6, attributes := #[] }] 33 0 #[] #[])
  fields := #[]
  methods := #[k0m0]
  instanceTypes := #[]
  staticTypes := #[]
  resolved := Array.replicate 124 none
  statics := none }

def pool1 : Array CpInfo := pool [(2, .class_ 4), (1, u "java/lang/Object"), (0, u "<init>"), (0, u "()V"), (0, .class_ 8), (0, u "com/example/loadstone/loadstone/placement/Resources"), (0, .methodref 7 10), (0, .nameAndType 5 11), (0, u "(JJJ)V"), (0, .methodref 13 14), (0, .class_ 15), (0, .nameAndType 16 17), (0, u "java/lang/Math"), (0, u "max"), (0, u "(JJ)J"), (0, .methodref 7 19), (0, .nameAndType 20 21), (0, u "fitsWithin"), (0, u "(Lcom/example/loadstone/loadstone/placement/Resources;)Z"), (0, .class_ 23), (0, u "com/example/loadstone/loadstone/placement/ResourcesFitsWithinPinLaw"), (2, u "law"), (0, u "(JJJJJJ)Z")] 3

def k1m0 : Method := { name := "<init>", desc := "()V", sig := { parameters := [], returnType := none }, accessFlags := 1, code := none }
def k1c1 : Code := { maxStack := 8, maxLocals := 18, code := code, exceptionTable := #[], attributes := #[] }
def k1m1 : Method := { name := "law", desc := "(JJJJJJ)Z", sig := { parameters := [.long, .long, .long, .long, .long, .long], returnType := some .boolean }, accessFlags := 9, code := some k1c1 }
/-- com/example/loadstone/loadstone/placement/ResourcesFitsWithinPinLaw -/
def k1 : Class := { plain "com/example/loadstone/loadstone/placement/ResourcesFitsWithinPinLaw" (some 0) with
  accessFlags := 49
  interfaces := #[]
  cf := some (fileOf pool1 22 #[] #[{ accessFlags := 1, nameIndex := 5, descriptorIndex := 6, attributes := #[] }, { accessFlags := 9, nameIndex := 26, descriptorIndex := 27, attributes := #[] }] 49 2 #[] #[])
  fields := #[]
  methods := #[k1m0, k1m1]
  instanceTypes := #[]
  staticTypes := #[]
  resolved := Array.replicate 31 none
  statics := none }

def pool2 : Array CpInfo := pool [(1, .methodref 2 3), (0, .class_ 4), (0, .nameAndType 5 6), (0, u "java/lang/Object"), (0, u "<init>"), (0, u "()V"), (0, .class_ 8), (0, u "java/lang/Record")] 13

def k2c0 : Code := { maxStack := 1, maxLocals := 1, code := jdk_30_method_1_code, exceptionTable := #[], attributes := #[] }
def k2m0 : Method := { name := "<init>", desc := "()V", sig := { parameters := [], returnType := none }, accessFlags := 4, code := some k2c0 }
/-- java/lang/Record -/
def k2 : Class := { plain "java/lang/Record" (some 0) with
  accessFlags := 1057
  interfaces := #[]
  cf := some (fileOf pool2 7 #[] #[{ accessFlags := 4, nameIndex := 5, descriptorIndex := 6, attributes := #[] }] 1057 2 #[] #[])
  fields := #[]
  methods := #[k2m0]
  instanceTypes := #[]
  staticTypes := #[]
  resolved := Array.replicate 22 none
  statics := none }

def pool3 : Array CpInfo := pool [(1, .methodref 2 3), (0, .class_ 4), (0, .nameAndType 5 6), (0, u "java/lang/Record"), (0, u "<init>"), (0, u "()V"), (0, .fieldref 8 9), (0, .class_ 10), (0, .nameAndType 11 12), (0, u "com/example/loadstone/loadstone/placement/Resources"), (0, u "cores"), (0, u "J"), (0, .fieldref 8 14), (0, .nameAndType 15 12), (0, u "memoryMib"), (0, .fieldref 8 17), (0, .nameAndType 18 12), (0, u "bandwidthMbps"), (2, u "(JJJ)V"), (15, u "fitsWithin"), (0, u "(Lcom/example/loadstone/loadstone/placement/Resources;)Z")] 30

def k3c0 : Code := { maxStack := 3, maxLocals := 7, code := prog_34_method_1_code, exceptionTable := #[], attributes := #[] }
def k3m0 : Method := { name := "<init>", desc := "(JJJ)V", sig := { parameters := [.long, .long, .long], returnType := none }, accessFlags := 1, code := some k3c0 }
def k3c1 : Code := { maxStack := 4, maxLocals := 2, code := prog_34_method_2_code, exceptionTable := #[], attributes := #[] }
def k3m1 : Method := { name := "fitsWithin", desc := "(Lcom/example/loadstone/loadstone/placement/Resources;)Z", sig := { parameters := [(.object "com/example/loadstone/loadstone/placement/Resources")], returnType := some .boolean }, accessFlags := 1, code := some k3c1 }
/-- com/example/loadstone/loadstone/placement/Resources -/
def k3 : Class := { plain "com/example/loadstone/loadstone/placement/Resources" (some 2) with
  accessFlags := 49
  interfaces := #[]
  cf := some (fileOf pool3 8 #[] #[{ accessFlags := 1, nameIndex := 5, descriptorIndex := 21, attributes := #[] }, { accessFlags := 1, nameIndex := 37, descriptorIndex := 38, attributes := #[] }] 49 2 #[] #[{ accessFlags := 18, nameIndex := 11, descriptorIndex := 12, attributes := #[] }, { accessFlags := 18, nameIndex := 15, descriptorIndex := 12, attributes := #[] }, { accessFlags := 18, nameIndex := 18, descriptorIndex := 12, attributes := #[] }])
  fields := #[{ name := "cores", type := .long, accessFlags := 18, slot := 0, constantValue := 0 }, { name := "memoryMib", type := .long, accessFlags := 18, slot := 1, constantValue := 0 }, { name := "bandwidthMbps", type := .long, accessFlags := 18, slot := 2, constantValue := 0 }]
  methods := #[k3m0, k3m1]
  instanceTypes := #[.long, .long, .long]
  staticTypes := #[]
  resolved := Array.replicate 69 none
  statics := none }

def pool4 : Array CpInfo := pool [(1, .class_ 2), (0, u "java/lang/Math"), (1, .class_ 6), (1, u "java/lang/Object"), (0, u "<init>"), (0, u "()V"), (89, .class_ 100), (1, u "java/lang/Math$RandomNumberGeneratorHolder"), (20, u "(JJ)J"), (50, u "negativeZeroFloatBits"), (0, u "J"), (2, u "negativeZeroDoubleBits"), (21, u "max"), (46, u "$assertionsDisabled"), (0, u "Z"), (91, u "twoToTheDoubleScaleDown"), (0, u "D"), (4, u "twoToTheDoubleScaleUp"), (9, u "E"), (3, u "PI"), (2, u "TAU"), (2, u "DEGREES_TO_RADIANS"), (0, u "RADIANS_TO_DEGREES")] 94

def k4m0 : Method := { name := "<init>", desc := "()V", sig := { parameters := [], returnType := none }, accessFlags := 2, code := none }
def k4c1 : Code := { maxStack := 4, maxLocals := 4, code := jdk_29_method_66_code, exceptionTable := #[], attributes := #[] }
def k4m1 : Method := { name := "max", desc := "(JJ)J", sig := { parameters := [.long, .long], returnType := some .long }, accessFlags := 9, code := some k4c1 }
/-- java/lang/Math -/
def k4 : Class := { plain "java/lang/Math" (some 0) with
  accessFlags := 49
  interfaces := #[]
  cf := some (fileOf pool4 1 #[.nestMembers #[98]] #[{ accessFlags := 2, nameIndex := 7, descriptorIndex := 8, attributes := #[] }, { accessFlags := 9, nameIndex := 198, descriptorIndex := 121, attributes := #[] }] 49 4 #[] #[{ accessFlags := 25, nameIndex := 354, descriptorIndex := 339, attributes := #[] }, { accessFlags := 25, nameIndex := 358, descriptorIndex := 339, attributes := #[] }, { accessFlags := 25, nameIndex := 361, descriptorIndex := 339, attributes := #[] }, { accessFlags := 26, nameIndex := 364, descriptorIndex := 339, attributes := #[] }, { accessFlags := 26, nameIndex := 365, descriptorIndex := 339, attributes := #[] }, { accessFlags := 26, nameIndex := 172, descriptorIndex := 173, attributes := #[] }, { accessFlags := 26, nameIndex := 176, descriptorIndex := 173, attributes := #[] }, { accessFlags := 8, nameIndex := 344, descriptorIndex := 339, attributes := #[] }, { accessFlags := 8, nameIndex := 338, descriptorIndex := 339, attributes := #[] }, { accessFlags := 4120, nameIndex := 245, descriptorIndex := 246, attributes := #[] }])
  fields := #[{ name := "E", type := .double, accessFlags := 25, slot := 0, constantValue := 0 }, { name := "PI", type := .double, accessFlags := 25, slot := 1, constantValue := 0 }, { name := "TAU", type := .double, accessFlags := 25, slot := 2, constantValue := 0 }, { name := "DEGREES_TO_RADIANS", type := .double, accessFlags := 26, slot := 3, constantValue := 0 }, { name := "RADIANS_TO_DEGREES", type := .double, accessFlags := 26, slot := 4, constantValue := 0 }, { name := "negativeZeroFloatBits", type := .long, accessFlags := 26, slot := 5, constantValue := 0 }, { name := "negativeZeroDoubleBits", type := .long, accessFlags := 26, slot := 6, constantValue := 0 }, { name := "twoToTheDoubleScaleUp", type := .double, accessFlags := 8, slot := 7, constantValue := 0 }, { name := "twoToTheDoubleScaleDown", type := .double, accessFlags := 8, slot := 8, constantValue := 0 }, { name := "$assertionsDisabled", type := .boolean, accessFlags := 4120, slot := 9, constantValue := 0 }]
  methods := #[k4m0, k4m1]
  instanceTypes := #[]
  staticTypes := #[.double, .double, .double, .double, .double, .long, .long, .double, .double, .boolean]
  resolved := Array.replicate 460 none
  statics := none }

def pool5 : Array CpInfo := pool [(1, u "java/lang/Cloneable"), (0, .class_ 1), (0, u "java/lang/Object"), (0, .class_ 3)] 3

/-- java/lang/Cloneable -/
def k5 : Class := { plain "java/lang/Cloneable" (some 0) with
  accessFlags := 1537
  interfaces := #[]
  cf := some (fileOf pool5 2 #[] #[] 1537 4 #[] #[])
  fields := #[]
  methods := #[]
  instanceTypes := #[]
  staticTypes := #[]
  resolved := Array.replicate 8 none
  statics := none }

def pool6 : Array CpInfo := pool [(1, u "java/io/Serializable"), (0, .class_ 1), (0, u "java/lang/Object"), (0, .class_ 3)] 3

/-- java/io/Serializable -/
def k6 : Class := { plain "java/io/Serializable" (some 0) with
  accessFlags := 1537
  interfaces := #[]
  cf := some (fileOf pool6 2 #[] #[] 1537 4 #[] #[])
  fields := #[]
  methods := #[]
  instanceTypes := #[]
  staticTypes := #[]
  resolved := Array.replicate 8 none
  statics := none }

/-- the primitive byte -/
def k7 : Class := { plain "byte" none with kind := .primitive 'B', accessFlags := 0x411 }
/-- [B -/
def k8 : Class := { plain "[B" (some 0) with kind := .array 7 .byte, interfaces := #[5, 6], accessFlags := 1041 }

/-- the primitive int -/
def k9 : Class := { plain "int" none with kind := .primitive 'I', accessFlags := 0x411 }
/-- [I -/
def k10 : Class := { plain "[I" (some 0) with kind := .array 9 .int, interfaces := #[5, 6], accessFlags := 1041 }

def heap : Heap := #[]
def classes : Array Class := #[k0, k1, k2, k3, k4, k5, k6, k7, k8, k9, k10]
def interned : List (Array UInt16 × Addr) := []
def slotsUsed : Nat := 0
def theMethod : MethodId := ⟨1, 1⟩
def args0 : Array Value := #[.long 5, .long 7, .long 9, .long 4, .long 8, .long 9]
def aboutOver (below : List Frame) : State where
  vm := { classes := classes, interned := interned.toArray }
  heap := heap
  slotsUsed := slotsUsed
  threads := #[{ frames := .invoking theMethod args0 :: below }]
def below0 : List Frame := [.native { method := ⟨0, 0⟩, args := #[] }]
def about1 : State := aboutOver below0
def p0 : Program := .bare "" "" ""
def e0 : Env := launch0.env 0 0 0
theorem w_frames : about1.frames = Frame.invoking theMethod args0 :: below0 := rfl
set_option maxRecDepth 65536 in
theorem w_args : argsFit about1.vm theMethod args0 = true := by decide +kernel
set_option maxRecDepth 65536 in
theorem w_heap : heapFits about1 = true := by decide +kernel
set_option maxRecDepth 65536 in
theorem w_runnable : about1.curStatus? = some .runnable := by decide +kernel
set_option maxRecDepth 65536 in
theorem w_alone : about1.alone = true := by decide +kernel
set_option maxRecDepth 65536 in
theorem w_named : about1.methodNamed? x = some theMethod := by decide +kernel
set_option maxRecDepth 65536 in
theorem w_hears : about1.hears theMethod below0 = true := by decide +kernel
set_option maxRecDepth 65536 in
theorem w_ripe : about1.ripe theMethod args0 below0 = true := by decide +kernel
theorem w_running : about1.status = .running := rfl
set_option maxRecDepth 65536 in
theorem w_room : about1.hasRoom e0.platform room_1 = true :=
  launch0.hasRoom_least _ room_1 (by decide +kernel) (by decide +kernel) (by decide +kernel) (by decide +kernel) (by decide +kernel) (by decide +kernel)
theorem allAtoms_all (ts : List Jvm.Cond) (a : Array Jvm.Value) (st : Jvm.State) : (allAtoms ts).before a st = ts.all (fun c => c.before a st) := by
  induction ts with
  | nil => rfl
  | cons c t ih =>
    show (Jvm.Cond.and c (allAtoms t)).before a st = _
    rw [Jvm.Cond.before_and, ih, List.all_cons]
def words1 : List Jvm.Cond := Jvm.Cond.code x code maxLocals ret :: tables_1
/-- a 'code' word, met by the world's own term for the bytes: nothing is compared byte by byte -/
theorem code_word {y : MethodName} {bytes : ByteArray} {mx : Nat} {rt : Option FieldType} {a : Array Value} {s : State} {m : MethodId} {meth : Method} {c : Code} (h1 : s.methodNamed? y = some m) (h2 : s.vm.method? m = some meth) (h3 : meth.code = some c) (h4 : c.code = bytes)
    (h5 : (c.maxLocals == mx && c.exceptionTable.isEmpty && decide (c.maxStack ≤ mostOperands) && decide (meth.sig.returnType = rt) && !meth.locks && decide (parseMethodDescriptor y.desc = some meth.sig)) = true) : (Jvm.Cond.code y bytes mx rt).before a s = true := by
  simp only [Bool.and_eq_true, beq_iff_eq, Bool.not_eq_true', decide_eq_true_eq] at h5
  obtain ⟨⟨⟨⟨⟨g1, g2⟩, g3⟩, g4⟩, g5⟩, g6⟩ := h5
  simp [Cond.before, Cond.holds, Cond.value, h1, h2, h3, h4, g1, g2, g3, g4, g5, g6]
def isCode : Jvm.Cond → Bool
  | .code _ _ _ _ => true
  | _ => false
theorem all_split {L : List Jvm.Cond} {P : Jvm.Cond → Bool} (h1 : L.all (fun c => isCode c || P c) = true) (h2 : ∀ c ∈ L.filter isCode, P c = true) : L.all P = true := by
  refine List.all_eq_true.mpr fun c hc => ?_
  have h := List.all_eq_true.mp h1 c hc
  rcases Bool.eq_false_or_eq_true (isCode c) with hi | hi
  · exact h2 c (List.mem_filter.mpr ⟨hc, hi⟩)
  · simpa [hi] using h
set_option maxRecDepth 65536 in
theorem w_c0 : (Jvm.Cond.code x code maxLocals ret).before args0 about1 = true := code_word (m := ⟨1, 1⟩) (meth := k1m1) (c := k1c1) (by decide +kernel) rfl rfl rfl (by decide +kernel)
set_option maxRecDepth 65536 in
theorem w_c1 : (Jvm.Cond.code ({ cls := "com/example/loadstone/loadstone/placement/Resources", name := "<init>", desc := "(JJJ)V" } : Jvm.MethodName) prog_34_method_1_code (7 : Nat) (Option.none : Option Jvm.ClassFile.FieldType)).before args0 about1 = true := code_word (m := ⟨3, 0⟩) (meth := k3m0) (c := k3c0) (by decide +kernel) rfl rfl rfl (by decide +kernel)
set_option maxRecDepth 65536 in
theorem w_c2 : (Jvm.Cond.code ({ cls := "java/lang/Record", name := "<init>", desc := "()V" } : Jvm.MethodName) jdk_30_method_1_code (1 : Nat) (Option.none : Option Jvm.ClassFile.FieldType)).before args0 about1 = true := code_word (m := ⟨2, 0⟩) (meth := k2m0) (c := k2c0) (by decide +kernel) rfl rfl rfl (by decide +kernel)
set_option maxRecDepth 65536 in
theorem w_c3 : (Jvm.Cond.code ({ cls := "java/lang/Object", name := "<init>", desc := "()V" } : Jvm.MethodName) object_method_1_code (1 : Nat) (Option.none : Option Jvm.ClassFile.FieldType)).before args0 about1 = true := code_word (m := ⟨0, 0⟩) (meth := k0m0) (c := k0c0) (by decide +kernel) rfl rfl rfl (by decide +kernel)
set_option maxRecDepth 65536 in
theorem w_c4 : (Jvm.Cond.code ({ cls := "java/lang/Math", name := "max", desc := "(JJ)J" } : Jvm.MethodName) jdk_29_method_66_code (4 : Nat) (Option.some Jvm.ClassFile.FieldType.long)).before args0 about1 = true := code_word (m := ⟨4, 1⟩) (meth := k4m1) (c := k4c1) (by decide +kernel) rfl rfl rfl (by decide +kernel)
set_option maxRecDepth 65536 in
theorem w_c5 : (Jvm.Cond.code ({ cls := "com/example/loadstone/loadstone/placement/Resources", name := "fitsWithin", desc := "(Lcom/example/loadstone/loadstone/placement/Resources;)Z" } : Jvm.MethodName) prog_34_method_2_code (2 : Nat) (Option.some Jvm.ClassFile.FieldType.boolean)).before args0 about1 = true := code_word (m := ⟨3, 1⟩) (meth := k3m1) (c := k3c1) (by decide +kernel) rfl rfl rfl (by decide +kernel)
def codes1 : List Jvm.Cond := [Jvm.Cond.code x code maxLocals ret, Jvm.Cond.code ({ cls := "com/example/loadstone/loadstone/placement/Resources", name := "<init>", desc := "(JJJ)V" } : Jvm.MethodName) prog_34_method_1_code (7 : Nat) (Option.none : Option Jvm.ClassFile.FieldType), Jvm.Cond.code ({ cls := "java/lang/Record", name := "<init>", desc := "()V" } : Jvm.MethodName) jdk_30_method_1_code (1 : Nat) (Option.none : Option Jvm.ClassFile.FieldType), Jvm.Cond.code ({ cls := "java/lang/Object", name := "<init>", desc := "()V" } : Jvm.MethodName) object_method_1_code (1 : Nat) (Option.none : Option Jvm.ClassFile.FieldType), Jvm.Cond.code ({ cls := "java/lang/Math", name := "max", desc := "(JJ)J" } : Jvm.MethodName) jdk_29_method_66_code (4 : Nat) (Option.some Jvm.ClassFile.FieldType.long), Jvm.Cond.code ({ cls := "com/example/loadstone/loadstone/placement/Resources", name := "fitsWithin", desc := "(Lcom/example/loadstone/loadstone/placement/Resources;)Z" } : Jvm.MethodName) prog_34_method_2_code (2 : Nat) (Option.some Jvm.ClassFile.FieldType.boolean)]
set_option maxRecDepth 65536 in
theorem codes_eq : words1.filter isCode = codes1 := rfl
theorem w_codes : ∀ c ∈ words1.filter isCode, c.before args0 about1 = true := by
  rw [codes_eq]
  intro c hc
  simp only [codes1, List.mem_cons, List.not_mem_nil, or_false] at hc
  rcases hc with rfl | rfl | rfl | rfl | rfl | rfl
  · exact w_c0
  · exact w_c1
  · exact w_c2
  · exact w_c3
  · exact w_c4
  · exact w_c5
set_option maxRecDepth 65536 in
theorem w_t1 : (words1.take 24).all (fun c => isCode c || c.before args0 about1) = true := by decide +kernel
set_option maxRecDepth 65536 in
theorem w_t2 : (words1.drop 24).all (fun c => isCode c || c.before args0 about1) = true := by decide +kernel
theorem w_tables : (allAtoms (Jvm.Cond.code x code maxLocals ret :: tables_1)).before args0 about1 = true := by
  rw [allAtoms_all]
  show words1.all (fun c => c.before args0 about1) = true
  refine all_split ?_ w_codes
  rw [← List.take_append_drop 24 words1, List.all_append, w_t1, w_t2]
  rfl
set_option maxRecDepth 65536 in
theorem w_case : (Jvm.Cond.and given_1 narrow_1).before args0 about1 = true := by decide +kernel
theorem w_applies : (headSpec (Jvm.Cond.code x code maxLocals ret :: tables_1) room_1).applies x e0.platform about1 = true :=
  (Spec.applies_iff w_frames).mpr ⟨w_running, w_runnable, w_alone, w_named, w_hears, w_ripe, w_room, w_tables⟩
theorem atStart : AtStart classFile x code maxLocals ret World_1 tables_1 room_1 Calls_1 rest_1 Pre_1 launch0 p0 e0 about1 theMethod args0 below0 :=
  ⟨lists_1, trivial, launch0.admits_env _ _ _, launch0.least_env, fairChoices_fair.cas, fairChoices_fair.clock, w_frames, w_args, w_heap, w_applies, trivial, trivial, w_case⟩
end start1
theorem witness_1 : WitnessClaimed_1 := ⟨start1.p0, start1.e0, start1.about1, start1.theMethod, start1.args0, start1.below0, start1.atStart⟩
end Jvm.Pilot.@@N@@
