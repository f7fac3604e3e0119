import JvmDerived
import JvmDerived.Pilot.@@N@@Statement
import JvmDerived.Pilot.@@N@@Code
set_option linter.unusedVariables false
set_option linter.unusedSimpArgs false
namespace Jvm.RoadKit
open Sem ClassFile Op Lib Jvm.Stand Jvm.Free Jvm.LawKit
section New
variable {p : Program} {l : Launch} {e : Env} {R : Room} {s : State} {m : MethodId} {args : Array Value} {below : List Frame} {meth : Method} {c : Code} {T : State} {locs : List Loc} {cells slots : Nat}
theorem retI (X : Stand p l e R s m args below meth c T locs cells slots) (hx : p.tables.exec = Jvm.exec) {pc : Nat} {Ls : Array Slot} {z : Int32} {rest : List Value} (hret : meth.sig.returnType = some .int) (hd : decode c.code pc = .ok (.ireturn, 1)) {fs : List Frame}
    (hl : ∀ (f : JFrame) (acts : List Action), f.method = m → f.locked = none → f.entered = [] → (doReturn e (T.setTop f) acts (some (.int z))).1 = T.setFrames fs) : Steps p.tables e below (T.setTop (mkF m pc Ls (.int z :: rest))) (T.setFrames fs) := by
  have hm' : T.vm.method? m = some meth := X.method'
  have hn : narrow .int (.int z) = .int z := rfl
  show Steps p.tables e below (T.setTop { method := m, pc := pc, locals := Ls, stack := _ :: rest, locked := none }) _
  jvm_step X.here [X.here.top, hx, hd, hm', hret, hn]
  first | (intro acts; rw [hl _ acts rfl rfl rfl]) | rw [hl _ _ rfl rfl rfl]
  exact Steps.refl _
end New
/-- the run from A ends as P says -/
def own_Dn (p : Program) (e : Env) (below : List Frame) (P : Outcome → State → Prop) (A : State) : Prop := ∃ U o, Steps p.tables e below A U ∧ U.status = .running ∧ Ended U below o ∧ P o U
theorem own_in {p : Program} {e : Env} {below : List Frame} {P : Outcome → State → Prop} {A : State} (h : own_Dn p e below P A) : ∃ U o, Steps p.tables e below A U ∧ U.status = .running ∧ Ended U below o ∧ P o U := h
/-- one step (or many) from A to B -/
theorem own_of {p : Program} {e : Env} {below : List Frame} {P : Outcome → State → Prop} {A : State} (B : State) (st : ∀ t, Steps p.tables e below B t → Steps p.tables e below A t) (h : own_Dn p e below P B) : own_Dn p e below P A := by
  obtain ⟨U, o, h1, r⟩ := h
  exact ⟨U, o, st U h1, r⟩
theorem own_tr {p : Program} {e : Env} {below : List Frame} {P : Outcome → State → Prop} {A : State} (B : State) (st : Steps p.tables e below A B) (h : own_Dn p e below P B) : own_Dn p e below P A := by
  obtain ⟨U, o, h1, r⟩ := h
  exact ⟨U, o, st.trans h1, r⟩
end Jvm.RoadKit
namespace Jvm.Pilot.@@N@@
open Jvm Jvm.ClassFile Sem Op Lib Jvm.Free Jvm.Stand Jvm.LawKit Jvm.RoadKit Bundle Jvm.Pilot.@@N@@.Jvm.D
def own_max (a b : Int32) : Int32 := if a < b then b else a
def own_min (a b : Int32) : Int32 := if b < a then b else a
def own_lo (q : Int64) : Int32 := own_min ((q >>> ((32 : Int32) &&& 0x3f).toInt64).toInt32) (q.toInt32)
def own_hi (q : Int64) : Int32 := own_max ((q >>> ((32 : Int32) &&& 0x3f).toInt64).toInt32) (q.toInt32)
def own_ov (a b c d : Int32) : Int32 := if own_min b d < own_max a c then 0 else 1
def own_mt (a0 a1 a2 a3 b0 b1 b2 b3 : Int32) : Int32 := if b2 < a0 then 0 else if a2 < b0 then 0 else if b3 < a1 then 0 else if a3 < b1 then 0 else 1
def own_ex (a0 a1 a2 a3 b0 b1 b2 b3 : Int32) : Int32 := if own_ov a0 a2 b0 b2 = (0 : Int32) then 0 else if own_ov a1 a3 b1 b3 = (0 : Int32) then 0 else 1
theorem own_mm (a b : Int32) : ¬ own_max a b < own_min a b := by
  unfold own_max own_min
  simp only [Int32.lt_iff_toInt_lt]
  by_cases h : a.toInt < b.toInt <;> by_cases h2 : b.toInt < a.toInt <;> simp only [h, h2, if_true, if_false] <;> first | exact not_false | omega
theorem own_lohi (q : Int64) : ¬ own_hi q < own_lo q := own_mm _ _
theorem own_ovE (a b c d : Int32) (h1 : ¬ b < a) (h2 : ¬ d < c) : own_ov a b c d = if d < a then 0 else if b < c then 0 else 1 := by
  unfold own_ov own_max own_min
  simp only [Int32.lt_iff_toInt_lt] at *
  by_cases k1 : d.toInt < a.toInt <;> by_cases k2 : b.toInt < c.toInt <;> by_cases k3 : d.toInt < b.toInt <;> by_cases k4 : a.toInt < c.toInt <;> simp only [k1, k2, k3, k4, if_true, if_false] <;> (try split) <;> first | rfl | (exfalso; omega)
theorem own_law (a0 a1 a2 a3 b0 b1 b2 b3 : Int32) (h1 : ¬ a2 < a0) (h2 : ¬ a3 < a1) (h3 : ¬ b2 < b0) (h4 : ¬ b3 < b1) : own_mt a0 a1 a2 a3 b0 b1 b2 b3 = own_ex a0 a1 a2 a3 b0 b1 b2 b3 := by
  unfold own_mt own_ex
  rw [own_ovE _ _ _ _ h1 h3, own_ovE _ _ _ _ h2 h4]
  by_cases k1 : b2 < a0 <;> by_cases k2 : a2 < b0 <;> by_cases k3 : b3 < a1 <;> by_cases k4 : a3 < b1 <;> simp only [k1, k2, k3, k4, if_true, if_false] <;> rfl
theorem own_law' (a0 a1 a2 a3 b0 b1 b2 b3 : Int32) (h1 : ¬ a2 < a0) (h2 : ¬ a3 < a1) (h3 : ¬ b2 < b0) (h4 : ¬ b3 < b1) : own_mt b0 b1 b2 b3 a0 a1 a2 a3 = own_ex a0 a1 a2 a3 b0 b1 b2 b3 := by
  rw [← own_law _ _ _ _ _ _ _ _ h1 h2 h3 h4]
  unfold own_mt
  by_cases k1 : b2 < a0 <;> by_cases k2 : a2 < b0 <;> by_cases k3 : b3 < a1 <;> by_cases k4 : a3 < b1 <;> simp only [k1, k2, k3, k4, if_true, if_false]
theorem d4_0 : decode jdk_29_method_65_code 0 = .ok (.iload_n 0, 1) := by decide +kernel
theorem d4_1 : decode jdk_29_method_65_code 1 = .ok (.iload_n 1, 1) := by decide +kernel
theorem d4_2 : decode jdk_29_method_65_code 2 = .ok (.if_icmp .lt 7, 3) := by decide +kernel
theorem d4_5 : decode jdk_29_method_65_code 5 = .ok (.iload_n 0, 1) := by decide +kernel
theorem d4_6 : decode jdk_29_method_65_code 6 = .ok (.goto 4, 3) := by decide +kernel
theorem d4_9 : decode jdk_29_method_65_code 9 = .ok (.iload_n 1, 1) := by decide +kernel
theorem d4_10 : decode jdk_29_method_65_code 10 = .ok (.ireturn, 1) := by decide +kernel
theorem ef_rm4 (m : MethodId) (x0 : Int32) (x1 : Int32) : entryFrame m #[(.int x0), (.int x1)] 2 = mkF m 0 #[.val (.int x0), .val (.int x1)] [] := by first | (simp [entryFrame, mkF, argsToLocals, Value.category]; done) | rfl
def Q_rm4 (Z : State) (p1 : Int32) (p2 : Int32)  (h0 : Heap) (n0 : Nat) (v : Option Value) (h : Heap) (L : List Loc) : Prop := v = some (.int (own_max p1 p2)) ∧ Fr n0 L ∧ h = h0
set_option maxRecDepth 65536 in
set_option maxHeartbeats 40000000 in
theorem rm4 (l : Launch) (Z : State) (a0 : Array Value) (hw : ∀ d ∈ tables_1, d.before a0 Z = true) (ws : List Jvm.Cond) (p1 : Int32) (p2 : Int32)  (h0 : Heap) (n0 : Nat) (Z0 : n0 ≤ h0.size) :
    MetFree l (⟨"java/lang/Math", "max", "(II)I"⟩ : MethodName) (head1 (Jvm.Cond.code (⟨"java/lang/Math", "max", "(II)I"⟩ : MethodName) jdk_29_method_65_code 2 (some .int) :: ws) ({ frames := 0, cells := 0, slots := 0, locals := 0 } : Room)) (fun a U => a = #[(.int p1), (.int p2)] ∧ Z.Warmed39 U.vm ∧ U.heap = h0) (fun _ _ _ _ _ => True) (fun _ U o U' => ∃ v L, o = .returned v ∧ Q_rm4 Z p1 p2  h0 n0 v U'.heap L ∧ FrameEnd U o U' L ({ frames := 0, cells := 0, slots := 0, locals := 0 } : Room).cells ({ frames := 0, cells := 0, slots := 0, locals := 0 } : Room).slots) := by
  refine MetFree.of_bodySF (Jvm.Free.JP.mathPlain rfl (by decide +kernel)) hisR ?_
  intro p e s m args below meth c s₁ Bd hml0 hP hK
  obtain ⟨rfl, hZ, hh⟩ := hP
  have hx := Bd.exec
  have hby := Bd.bytes
  have hml : c.maxLocals = 2 := hml0
  have hown : s.vm.findClass "java/lang/Math" = some m.cls := findClass_of_methodNamed Bd.named
  have hnm := (name_of_methodNamed Bd.named Bd.method).1
  have X0 : Stand p l e ({ frames := 0, cells := 0, slots := 0, locals := 0 } : Room) s m #[(.int p1), (.int p2)] below meth c s₁ [] 0 0 := Stand.of_body Bd
  have e0 : s₁.heap = h0 := by rw [← hh, Bd.state]; rfl
  have N0 := Fr.nil n0
  refine own_in ?_
  refine own_of (s₁.setTop (mkF m 0 #[.val (.int p1), .val (.int p2)] [])) (fun t k => castTop (ef_rm4 m p1 p2) k) ?_
  refine own_of (s₁.setTop (mkF m 1 #[.val (.int p1), .val (.int p2)] [(.int p1)])) (fun t k => XS.iloadN X0.here hx rfl (hb hby d4_0) rfl k) ?_
  refine own_of (s₁.setTop (mkF m 2 #[.val (.int p1), .val (.int p2)] [(.int p2), (.int p1)])) (fun t k => XS.iloadN X0.here hx rfl (hb hby d4_1) rfl k) ?_
  by_cases hc1 : p1 < p2
  · refine own_of (s₁.setTop (mkF m 9 #[.val (.int p1), .val (.int p2)] [])) (fun t k => XS.icmpYes X0.here hx rfl (pc0 := 2) (pc' := 9) rfl (hb hby d4_2) rfl (tlt hc1).1 (by decide) (by decide) k) ?_
    refine own_of (s₁.setTop (mkF m 10 #[.val (.int p1), .val (.int p2)] [(.int p2)])) (fun t k => XS.iloadN X0.here hx rfl (hb hby d4_9) rfl k) ?_
    have hv : own_max p1 p2 = p2 := by simp only [own_max, hc1, if_true, if_false]
    obtain ⟨fs, hr, hrun, hended, hW, hsame⟩ := X0.leave (v := some (.int p2)) (fun h => by rw [Bd.returns] at h; cases h)
    refine ⟨_, _, retI X0 hx Bd.returns (hb hby d4_10) hr, hrun, hended, _, _, rfl, ?_, ⟨_, rfl⟩, hW, hsame.mono (by decide) (by decide)⟩
    show Q_rm4 Z p1 p2  h0 n0 _ s₁.heap _
    rw [e0]
    exact ⟨by rw [hv], N0, rfl⟩
  · refine own_of (s₁.setTop (mkF m 5 #[.val (.int p1), .val (.int p2)] [])) (fun t k => XS.icmpNo X0.here hx rfl (hb hby d4_2) rfl (flt hc1).1 k) ?_
    refine own_of (s₁.setTop (mkF m 6 #[.val (.int p1), .val (.int p2)] [(.int p1)])) (fun t k => XS.iloadN X0.here hx rfl (hb hby d4_5) rfl k) ?_
    refine own_of (s₁.setTop (mkF m 10 #[.val (.int p1), .val (.int p2)] [(.int p1)])) (fun t k => XS.goto X0.here hx rfl (pc0 := 6) (pc' := 10) rfl (hb hby d4_6) (by decide) (by decide) k) ?_
    have hv : own_max p1 p2 = p1 := by simp only [own_max, hc1, if_true, if_false]
    obtain ⟨fs, hr, hrun, hended, hW, hsame⟩ := X0.leave (v := some (.int p1)) (fun h => by rw [Bd.returns] at h; cases h)
    refine ⟨_, _, retI X0 hx Bd.returns (hb hby d4_10) hr, hrun, hended, _, _, rfl, ?_, ⟨_, rfl⟩, hW, hsame.mono (by decide) (by decide)⟩
    show Q_rm4 Z p1 p2  h0 n0 _ s₁.heap _
    rw [e0]
    exact ⟨by rw [hv], N0, rfl⟩
theorem d2_0 : decode jdk_29_method_69_code 0 = .ok (.iload_n 0, 1) := by decide +kernel
theorem d2_1 : decode jdk_29_method_69_code 1 = .ok (.iload_n 1, 1) := by decide +kernel
theorem d2_2 : decode jdk_29_method_69_code 2 = .ok (.if_icmp .gt 7, 3) := by decide +kernel
theorem d2_5 : decode jdk_29_method_69_code 5 = .ok (.iload_n 0, 1) := by decide +kernel
theorem d2_6 : decode jdk_29_method_69_code 6 = .ok (.goto 4, 3) := by decide +kernel
theorem d2_9 : decode jdk_29_method_69_code 9 = .ok (.iload_n 1, 1) := by decide +kernel
theorem d2_10 : decode jdk_29_method_69_code 10 = .ok (.ireturn, 1) := by decide +kernel
theorem ef_rm2 (m : MethodId) (x0 : Int32) (x1 : Int32) : entryFrame m #[(.int x0), (.int x1)] 2 = mkF m 0 #[.val (.int x0), .val (.int x1)] [] := by first | (simp [entryFrame, mkF, argsToLocals, Value.category]; done) | rfl
def Q_rm2 (Z : State) (p1 : Int32) (p2 : Int32)  (h0 : Heap) (n0 : Nat) (v : Option Value) (h : Heap) (L : List Loc) : Prop := v = some (.int (own_min p1 p2)) ∧ Fr n0 L ∧ h = h0
set_option maxRecDepth 65536 in
set_option maxHeartbeats 40000000 in
theorem rm2 (l : Launch) (Z : State) (a0 : Array Value) (hw : ∀ d ∈ tables_1, d.before a0 Z = true) (ws : List Jvm.Cond) (p1 : Int32) (p2 : Int32)  (h0 : Heap) (n0 : Nat) (Z0 : n0 ≤ h0.size) :
    MetFree l (⟨"java/lang/Math", "min", "(II)I"⟩ : MethodName) (head1 (Jvm.Cond.code (⟨"java/lang/Math", "min", "(II)I"⟩ : MethodName) jdk_29_method_69_code 2 (some .int) :: ws) ({ frames := 0, cells := 0, slots := 0, locals := 0 } : Room)) (fun a U => a = #[(.int p1), (.int p2)] ∧ Z.Warmed39 U.vm ∧ U.heap = h0) (fun _ _ _ _ _ => True) (fun _ U o U' => ∃ v L, o = .returned v ∧ Q_rm2 Z p1 p2  h0 n0 v U'.heap L ∧ FrameEnd U o U' L ({ frames := 0, cells := 0, slots := 0, locals := 0 } : Room).cells ({ frames := 0, cells := 0, slots := 0, locals := 0 } : Room).slots) := by
  refine MetFree.of_bodySF (Jvm.Free.JP.mathPlain rfl (by decide +kernel)) hisR ?_
  intro p e s m args below meth c s₁ Bd hml0 hP hK
  obtain ⟨rfl, hZ, hh⟩ := hP
  have hx := Bd.exec
  have hby := Bd.bytes
  have hml : c.maxLocals = 2 := hml0
  have hown : s.vm.findClass "java/lang/Math" = some m.cls := findClass_of_methodNamed Bd.named
  have hnm := (name_of_methodNamed Bd.named Bd.method).1
  have X0 : Stand p l e ({ frames := 0, cells := 0, slots := 0, locals := 0 } : Room) s m #[(.int p1), (.int p2)] below meth c s₁ [] 0 0 := Stand.of_body Bd
  have e0 : s₁.heap = h0 := by rw [← hh, Bd.state]; rfl
  have N0 := Fr.nil n0
  refine own_in ?_
  refine own_of (s₁.setTop (mkF m 0 #[.val (.int p1), .val (.int p2)] [])) (fun t k => castTop (ef_rm2 m p1 p2) k) ?_
  refine own_of (s₁.setTop (mkF m 1 #[.val (.int p1), .val (.int p2)] [(.int p1)])) (fun t k => XS.iloadN X0.here hx rfl (hb hby d2_0) rfl k) ?_
  refine own_of (s₁.setTop (mkF m 2 #[.val (.int p1), .val (.int p2)] [(.int p2), (.int p1)])) (fun t k => XS.iloadN X0.here hx rfl (hb hby d2_1) rfl k) ?_
  by_cases hc2 : p2 < p1
  · refine own_of (s₁.setTop (mkF m 9 #[.val (.int p1), .val (.int p2)] [])) (fun t k => XS.icmpYes X0.here hx rfl (pc0 := 2) (pc' := 9) rfl (hb hby d2_2) rfl (tlt hc2).2.2.1 (by decide) (by decide) k) ?_
    refine own_of (s₁.setTop (mkF m 10 #[.val (.int p1), .val (.int p2)] [(.int p2)])) (fun t k => XS.iloadN X0.here hx rfl (hb hby d2_9) rfl k) ?_
    have hv : own_min p1 p2 = p2 := by simp only [own_min, hc2, if_true, if_false]
    obtain ⟨fs, hr, hrun, hended, hW, hsame⟩ := X0.leave (v := some (.int p2)) (fun h => by rw [Bd.returns] at h; cases h)
    refine ⟨_, _, retI X0 hx Bd.returns (hb hby d2_10) hr, hrun, hended, _, _, rfl, ?_, ⟨_, rfl⟩, hW, hsame.mono (by decide) (by decide)⟩
    show Q_rm2 Z p1 p2  h0 n0 _ s₁.heap _
    rw [e0]
    exact ⟨by rw [hv], N0, rfl⟩
  · refine own_of (s₁.setTop (mkF m 5 #[.val (.int p1), .val (.int p2)] [])) (fun t k => XS.icmpNo X0.here hx rfl (hb hby d2_2) rfl (flt hc2).2.2.1 k) ?_
    refine own_of (s₁.setTop (mkF m 6 #[.val (.int p1), .val (.int p2)] [(.int p1)])) (fun t k => XS.iloadN X0.here hx rfl (hb hby d2_5) rfl k) ?_
    refine own_of (s₁.setTop (mkF m 10 #[.val (.int p1), .val (.int p2)] [(.int p1)])) (fun t k => XS.goto X0.here hx rfl (pc0 := 6) (pc' := 10) rfl (hb hby d2_6) (by decide) (by decide) k) ?_
    have hv : own_min p1 p2 = p1 := by simp only [own_min, hc2, if_true, if_false]
    obtain ⟨fs, hr, hrun, hended, hW, hsame⟩ := X0.leave (v := some (.int p1)) (fun h => by rw [Bd.returns] at h; cases h)
    refine ⟨_, _, retI X0 hx Bd.returns (hb hby d2_10) hr, hrun, hended, _, _, rfl, ?_, ⟨_, rfl⟩, hW, hsame.mono (by decide) (by decide)⟩
    show Q_rm2 Z p1 p2  h0 n0 _ s₁.heap _
    rw [e0]
    exact ⟨by rw [hv], N0, rfl⟩
theorem d1_0 : decode method_2_code 0 = .ok (.lload_n 0, 1) := by decide +kernel
theorem d1_1 : decode method_2_code 1 = .ok (.bipush 32, 2) := by decide +kernel
theorem d1_3 : decode method_2_code 3 = .ok (.lshr, 1) := by decide +kernel
theorem d1_4 : decode method_2_code 4 = .ok (.l2i, 1) := by decide +kernel
theorem d1_5 : decode method_2_code 5 = .ok (.lload_n 0, 1) := by decide +kernel
theorem d1_6 : decode method_2_code 6 = .ok (.l2i, 1) := by decide +kernel
theorem d1_7 : decode method_2_code 7 = .ok (.invokestatic 7, 3) := by decide +kernel
theorem d1_10 : decode method_2_code 10 = .ok (.ireturn, 1) := by decide +kernel
theorem pn_1 : plainName "com/example/swathe/swathe/CellRectangleMeetsPinLaw" = true := by first | (simp [plainName, overriddenIn]; done) | decide +kernel
theorem ef_rm1 (m : MethodId) (x0 : Int64) : entryFrame m #[(.long x0)] 2 = mkF m 0 #[.val (.long x0), .second] [] := by first | (simp [entryFrame, mkF, argsToLocals, Value.category]; done) | rfl
def Q_rm1 (Z : State) (q1 : Int64)  (h0 : Heap) (n0 : Nat) (v : Option Value) (h : Heap) (L : List Loc) : Prop := v = some (.int (own_lo q1)) ∧ Fr n0 L ∧ h = h0
set_option maxRecDepth 65536 in
set_option maxHeartbeats 40000000 in
theorem rm1 (l : Launch) (Z : State) (a0 : Array Value) (hw : ∀ d ∈ tables_1, d.before a0 Z = true) (ws : List Jvm.Cond) (q1 : Int64)  (h0 : Heap) (n0 : Nat) (Z0 : n0 ≤ h0.size) :
    MetFree l (⟨"com/example/swathe/swathe/CellRectangleMeetsPinLaw", "lo", "(J)I"⟩ : MethodName) (head1 (Jvm.Cond.code (⟨"com/example/swathe/swathe/CellRectangleMeetsPinLaw", "lo", "(J)I"⟩ : MethodName) method_2_code 2 (some .int) :: ws) ({ frames := 1, cells := 0, slots := 0, locals := 13 } : Room)) (fun a U => a = #[(.long q1)] ∧ Z.Warmed39 U.vm ∧ U.heap = h0) (fun _ _ _ _ _ => True) (fun _ U o U' => ∃ v L, o = .returned v ∧ Q_rm1 Z q1  h0 n0 v U'.heap L ∧ FrameEnd U o U' L ({ frames := 1, cells := 0, slots := 0, locals := 13 } : Room).cells ({ frames := 1, cells := 0, slots := 0, locals := 13 } : Room).slots) := by
  refine MetFree.of_bodySF (plainFor_of_name pn_1) hisR ?_
  intro p e s m args below meth c s₁ Bd hml0 hP hK
  obtain ⟨rfl, hZ, hh⟩ := hP
  have hx := Bd.exec
  have hby := Bd.bytes
  have hml : c.maxLocals = 2 := hml0
  have hown : s.vm.findClass "com/example/swathe/swathe/CellRectangleMeetsPinLaw" = some m.cls := findClass_of_methodNamed Bd.named
  have hnm := (name_of_methodNamed Bd.named Bd.method).1
  have X0 : Stand p l e ({ frames := 1, cells := 0, slots := 0, locals := 13 } : Room) s m #[(.long q1)] below meth c s₁ [] 0 0 := Stand.of_body Bd
  have e0 : s₁.heap = h0 := by rw [← hh, Bd.state]; rfl
  have N0 := Fr.nil n0
  refine own_in ?_
  refine own_of (s₁.setTop (mkF m 0 #[.val (.long q1), .second] [])) (fun t k => castTop (ef_rm1 m q1) k) ?_
  refine own_of (s₁.setTop (mkF m 1 #[.val (.long q1), .second] [(.long q1)])) (fun t k => XS.lloadN X0.here hx rfl (hb hby d1_0) rfl k) ?_
  refine own_of (s₁.setTop (mkF m 3 #[.val (.long q1), .second] [(.int (32 : Int32)), (.long q1)])) (fun t k => XS.bipush X0.here hx rfl (hb hby d1_1) k) ?_
  refine own_of (s₁.setTop (mkF m 4 #[.val (.long q1), .second] [(.long (q1 >>> ((32 : Int32) &&& 0x3f).toInt64))])) (fun t k => XS.lshr X0.here hx rfl (hb hby d1_3) rfl k) ?_
  refine own_of (s₁.setTop (mkF m 5 #[.val (.long q1), .second] [(.int ((q1 >>> ((32 : Int32) &&& 0x3f).toInt64).toInt32))])) (fun t k => XS.l2i X0.here hx rfl (hb hby d1_4) rfl k) ?_
  refine own_of (s₁.setTop (mkF m 6 #[.val (.long q1), .second] [(.long q1), (.int ((q1 >>> ((32 : Int32) &&& 0x3f).toInt64).toInt32))])) (fun t k => XS.lloadN X0.here hx rfl (hb hby d1_5) rfl k) ?_
  refine own_of (s₁.setTop (mkF m 7 #[.val (.long q1), .second] [(.int (q1.toInt32)), (.int ((q1 >>> ((32 : Int32) &&& 0x3f).toInt64).toInt32))])) (fun t k => XS.l2i X0.here hx rfl (hb hby d1_6) rfl k) ?_
  obtain ⟨_, _, ⟨T3, L3, k3, n3⟩, -, X3, ⟨Lc3, hQ3, l3, y3, z3⟩, st3⟩ := Jvm.LawKit.callS X0 hx (y := (⟨"java/lang/Math", "min", "(II)I"⟩ : MethodName)) hown (mvT hZ (hw _ (List.mem_of_getElem? (i := 4) rfl))) (mvT hZ (hw _ (List.mem_of_getElem? (i := 5) rfl))) (mvT hZ (hw _ (List.mem_of_getElem? (i := 6) rfl))) (mvT hZ (hw _ (List.mem_of_getElem? (i := 7) rfl))) (by decide) (backOf (W := 0) (rm2 l Z a0 hw [] ((q1 >>> ((32 : Int32) &&& 0x3f).toInt64).toInt32) (q1.toInt32) h0 n0 Z0) hZ (hw _ (List.mem_of_getElem? (i := 7) rfl)) (hw _ (List.mem_of_getElem? (i := 6) rfl)) (by decide) (by decide)) (g := (mkF m 7 #[.val (.long q1), .second] [(.int (q1.toInt32)), (.int ((q1 >>> ((32 : Int32) &&& 0x3f).toInt64).toInt32))])) rfl (by rw [hml]; rfl) (argsL := [(.int ((q1 >>> ((32 : Int32) &&& 0x3f).toInt64).toInt32)), (.int (q1.toInt32))]) (rest := []) (lenOf (by decide +kernel : parseMethodDescriptor "(II)I" = some ⟨[.int, .int], some .int⟩) rfl) rfl (by show 2 * 0 + _ ≤ _; exact Nat.le_of_eq rfl) (hb hby d1_7) (fun _ _ => ⟨rfl, e0, (by decide : 0 + 0 ≤ _), (by decide : 0 + 0 ≤ _)⟩)
  dsimp only [Pt.U, Pt.locs, Pt.cells, Pt.slots] at X3 l3 y3 z3 st3 hQ3
  subst l3 y3 z3
  obtain ⟨rfl, Nq3, eh3⟩ := hQ3
  have N3 := Fr.app N0 Nq3
  refine own_of (T3.setTop (mkF m 10 #[.val (.long q1), .second] [(.int (own_lo q1))])) (fun t q => st3 t q) ?_
  obtain ⟨fs, hr, hrun, hended, hW, hsame⟩ := X3.leave (v := some (.int (own_lo q1))) (fun h => by rw [Bd.returns] at h; cases h)
  refine ⟨_, _, retI X3 hx Bd.returns (hb hby d1_10) hr, hrun, hended, _, _, rfl, ?_, ⟨_, rfl⟩, hW, hsame.mono (by decide) (by decide)⟩
  show Q_rm1 Z q1  h0 n0 _ T3.heap _
  rw [eh3]
  exact ⟨rfl, N3, rfl⟩
theorem d3_0 : decode method_3_code 0 = .ok (.lload_n 0, 1) := by decide +kernel
theorem d3_1 : decode method_3_code 1 = .ok (.bipush 32, 2) := by decide +kernel
theorem d3_3 : decode method_3_code 3 = .ok (.lshr, 1) := by decide +kernel
theorem d3_4 : decode method_3_code 4 = .ok (.l2i, 1) := by decide +kernel
theorem d3_5 : decode method_3_code 5 = .ok (.lload_n 0, 1) := by decide +kernel
theorem d3_6 : decode method_3_code 6 = .ok (.l2i, 1) := by decide +kernel
theorem d3_7 : decode method_3_code 7 = .ok (.invokestatic 13, 3) := by decide +kernel
theorem d3_10 : decode method_3_code 10 = .ok (.ireturn, 1) := by decide +kernel
theorem pn_3 : plainName "com/example/swathe/swathe/CellRectangleMeetsPinLaw" = true := by first | (simp [plainName, overriddenIn]; done) | decide +kernel
theorem ef_rm3 (m : MethodId) (x0 : Int64) : entryFrame m #[(.long x0)] 2 = mkF m 0 #[.val (.long x0), .second] [] := by first | (simp [entryFrame, mkF, argsToLocals, Value.category]; done) | rfl
def Q_rm3 (Z : State) (q1 : Int64)  (h0 : Heap) (n0 : Nat) (v : Option Value) (h : Heap) (L : List Loc) : Prop := v = some (.int (own_hi q1)) ∧ Fr n0 L ∧ h = h0
set_option maxRecDepth 65536 in
set_option maxHeartbeats 40000000 in
theorem rm3 (l : Launch) (Z : State) (a0 : Array Value) (hw : ∀ d ∈ tables_1, d.before a0 Z = true) (ws : List Jvm.Cond) (q1 : Int64)  (h0 : Heap) (n0 : Nat) (Z0 : n0 ≤ h0.size) :
    MetFree l (⟨"com/example/swathe/swathe/CellRectangleMeetsPinLaw", "hi", "(J)I"⟩ : MethodName) (head1 (Jvm.Cond.code (⟨"com/example/swathe/swathe/CellRectangleMeetsPinLaw", "hi", "(J)I"⟩ : MethodName) method_3_code 2 (some .int) :: ws) ({ frames := 1, cells := 0, slots := 0, locals := 13 } : Room)) (fun a U => a = #[(.long q1)] ∧ Z.Warmed39 U.vm ∧ U.heap = h0) (fun _ _ _ _ _ => True) (fun _ U o U' => ∃ v L, o = .returned v ∧ Q_rm3 Z q1  h0 n0 v U'.heap L ∧ FrameEnd U o U' L ({ frames := 1, cells := 0, slots := 0, locals := 13 } : Room).cells ({ frames := 1, cells := 0, slots := 0, locals := 13 } : Room).slots) := by
  refine MetFree.of_bodySF (plainFor_of_name pn_3) hisR ?_
  intro p e s m args below meth c s₁ Bd hml0 hP hK
  obtain ⟨rfl, hZ, hh⟩ := hP
  have hx := Bd.exec
  have hby := Bd.bytes
  have hml : c.maxLocals = 2 := hml0
  have hown : s.vm.findClass "com/example/swathe/swathe/CellRectangleMeetsPinLaw" = some m.cls := findClass_of_methodNamed Bd.named
  have hnm := (name_of_methodNamed Bd.named Bd.method).1
  have X0 : Stand p l e ({ frames := 1, cells := 0, slots := 0, locals := 13 } : Room) s m #[(.long q1)] below meth c s₁ [] 0 0 := Stand.of_body Bd
  have e0 : s₁.heap = h0 := by rw [← hh, Bd.state]; rfl
  have N0 := Fr.nil n0
  refine own_in ?_
  refine own_of (s₁.setTop (mkF m 0 #[.val (.long q1), .second] [])) (fun t k => castTop (ef_rm3 m q1) k) ?_
  refine own_of (s₁.setTop (mkF m 1 #[.val (.long q1), .second] [(.long q1)])) (fun t k => XS.lloadN X0.here hx rfl (hb hby d3_0) rfl k) ?_
  refine own_of (s₁.setTop (mkF m 3 #[.val (.long q1), .second] [(.int (32 : Int32)), (.long q1)])) (fun t k => XS.bipush X0.here hx rfl (hb hby d3_1) k) ?_
  refine own_of (s₁.setTop (mkF m 4 #[.val (.long q1), .second] [(.long (q1 >>> ((32 : Int32) &&& 0x3f).toInt64))])) (fun t k => XS.lshr X0.here hx rfl (hb hby d3_3) rfl k) ?_
  refine own_of (s₁.setTop (mkF m 5 #[.val (.long q1), .second] [(.int ((q1 >>> ((32 : Int32) &&& 0x3f).toInt64).toInt32))])) (fun t k => XS.l2i X0.here hx rfl (hb hby d3_4) rfl k) ?_
  refine own_of (s₁.setTop (mkF m 6 #[.val (.long q1), .second] [(.long q1), (.int ((q1 >>> ((32 : Int32) &&& 0x3f).toInt64).toInt32))])) (fun t k => XS.lloadN X0.here hx rfl (hb hby d3_5) rfl k) ?_
  refine own_of (s₁.setTop (mkF m 7 #[.val (.long q1), .second] [(.int (q1.toInt32)), (.int ((q1 >>> ((32 : Int32) &&& 0x3f).toInt64).toInt32))])) (fun t k => XS.l2i X0.here hx rfl (hb hby d3_6) rfl k) ?_
  obtain ⟨_, _, ⟨T4, L4, k4, n4⟩, -, X4, ⟨Lc4, hQ4, l4, y4, z4⟩, st4⟩ := Jvm.LawKit.callS X0 hx (y := (⟨"java/lang/Math", "max", "(II)I"⟩ : MethodName)) hown (mvT hZ (hw _ (List.mem_of_getElem? (i := 11) rfl))) (mvT hZ (hw _ (List.mem_of_getElem? (i := 12) rfl))) (mvT hZ (hw _ (List.mem_of_getElem? (i := 6) rfl))) (mvT hZ (hw _ (List.mem_of_getElem? (i := 13) rfl))) (by decide) (backOf (W := 0) (rm4 l Z a0 hw [] ((q1 >>> ((32 : Int32) &&& 0x3f).toInt64).toInt32) (q1.toInt32) h0 n0 Z0) hZ (hw _ (List.mem_of_getElem? (i := 13) rfl)) (hw _ (List.mem_of_getElem? (i := 6) rfl)) (by decide) (by decide)) (g := (mkF m 7 #[.val (.long q1), .second] [(.int (q1.toInt32)), (.int ((q1 >>> ((32 : Int32) &&& 0x3f).toInt64).toInt32))])) rfl (by rw [hml]; rfl) (argsL := [(.int ((q1 >>> ((32 : Int32) &&& 0x3f).toInt64).toInt32)), (.int (q1.toInt32))]) (rest := []) (lenOf (by decide +kernel : parseMethodDescriptor "(II)I" = some ⟨[.int, .int], some .int⟩) rfl) rfl (by show 2 * 0 + _ ≤ _; exact Nat.le_of_eq rfl) (hb hby d3_7) (fun _ _ => ⟨rfl, e0, (by decide : 0 + 0 ≤ _), (by decide : 0 + 0 ≤ _)⟩)
  dsimp only [Pt.U, Pt.locs, Pt.cells, Pt.slots] at X4 l4 y4 z4 st4 hQ4
  subst l4 y4 z4
  obtain ⟨rfl, Nq4, eh4⟩ := hQ4
  have N4 := Fr.app N0 Nq4
  refine own_of (T4.setTop (mkF m 10 #[.val (.long q1), .second] [(.int (own_hi q1))])) (fun t q => st4 t q) ?_
  obtain ⟨fs, hr, hrun, hended, hW, hsame⟩ := X4.leave (v := some (.int (own_hi q1))) (fun h => by rw [Bd.returns] at h; cases h)
  refine ⟨_, _, retI X4 hx Bd.returns (hb hby d3_10) hr, hrun, hended, _, _, rfl, ?_, ⟨_, rfl⟩, hW, hsame.mono (by decide) (by decide)⟩
  show Q_rm3 Z q1  h0 n0 _ T4.heap _
  rw [eh4]
  exact ⟨rfl, N4, rfl⟩
theorem d8_0 : decode method_4_code 0 = .ok (.iload_n 0, 1) := by decide +kernel
theorem d8_1 : decode method_4_code 1 = .ok (.iload_n 2, 1) := by decide +kernel
theorem d8_2 : decode method_4_code 2 = .ok (.invokestatic 13, 3) := by decide +kernel
theorem d8_5 : decode method_4_code 5 = .ok (.iload_n 1, 1) := by decide +kernel
theorem d8_6 : decode method_4_code 6 = .ok (.iload_n 3, 1) := by decide +kernel
theorem d8_7 : decode method_4_code 7 = .ok (.invokestatic 7, 3) := by decide +kernel
theorem d8_10 : decode method_4_code 10 = .ok (.if_icmp .gt 7, 3) := by decide +kernel
theorem d8_13 : decode method_4_code 13 = .ok (.iconst 1, 1) := by decide +kernel
theorem d8_14 : decode method_4_code 14 = .ok (.goto 4, 3) := by decide +kernel
theorem d8_17 : decode method_4_code 17 = .ok (.iconst 0, 1) := by decide +kernel
theorem d8_18 : decode method_4_code 18 = .ok (.ireturn, 1) := by decide +kernel
theorem pn_8 : plainName "com/example/swathe/swathe/CellRectangleMeetsPinLaw" = true := by first | (simp [plainName, overriddenIn]; done) | decide +kernel
theorem ef_rm8 (m : MethodId) (x0 : Int32) (x1 : Int32) (x2 : Int32) (x3 : Int32) : entryFrame m #[(.int x0), (.int x1), (.int x2), (.int x3)] 4 = mkF m 0 #[.val (.int x0), .val (.int x1), .val (.int x2), .val (.int x3)] [] := by first | (simp [entryFrame, mkF, argsToLocals, Value.category]; done) | rfl
def Q_rm8 (Z : State) (p1 : Int32) (p2 : Int32) (p3 : Int32) (p4 : Int32)  (h0 : Heap) (n0 : Nat) (v : Option Value) (h : Heap) (L : List Loc) : Prop := v = some (.int (own_ov p1 p2 p3 p4)) ∧ Fr n0 L ∧ h = h0
set_option maxRecDepth 65536 in
set_option maxHeartbeats 40000000 in
theorem rm8 (l : Launch) (Z : State) (a0 : Array Value) (hw : ∀ d ∈ tables_1, d.before a0 Z = true) (ws : List Jvm.Cond) (p1 : Int32) (p2 : Int32) (p3 : Int32) (p4 : Int32)  (h0 : Heap) (n0 : Nat) (Z0 : n0 ≤ h0.size) :
    MetFree l (⟨"com/example/swathe/swathe/CellRectangleMeetsPinLaw", "overlap", "(IIII)Z"⟩ : MethodName) (head1 (Jvm.Cond.code (⟨"com/example/swathe/swathe/CellRectangleMeetsPinLaw", "overlap", "(IIII)Z"⟩ : MethodName) method_4_code 4 (some .boolean) :: ws) ({ frames := 1, cells := 0, slots := 0, locals := 14 } : Room)) (fun a U => a = #[(.int p1), (.int p2), (.int p3), (.int p4)] ∧ Z.Warmed39 U.vm ∧ U.heap = h0) (fun _ _ _ _ _ => True) (fun _ U o U' => ∃ v L, o = .returned v ∧ Q_rm8 Z p1 p2 p3 p4  h0 n0 v U'.heap L ∧ FrameEnd U o U' L ({ frames := 1, cells := 0, slots := 0, locals := 14 } : Room).cells ({ frames := 1, cells := 0, slots := 0, locals := 14 } : Room).slots) := by
  refine MetFree.of_bodySF (plainFor_of_name pn_8) hisR ?_
  intro p e s m args below meth c s₁ Bd hml0 hP hK
  obtain ⟨rfl, hZ, hh⟩ := hP
  have hx := Bd.exec
  have hby := Bd.bytes
  have hml : c.maxLocals = 4 := hml0
  have hown : s.vm.findClass "com/example/swathe/swathe/CellRectangleMeetsPinLaw" = some m.cls := findClass_of_methodNamed Bd.named
  have hnm := (name_of_methodNamed Bd.named Bd.method).1
  have X0 : Stand p l e ({ frames := 1, cells := 0, slots := 0, locals := 14 } : Room) s m #[(.int p1), (.int p2), (.int p3), (.int p4)] below meth c s₁ [] 0 0 := Stand.of_body Bd
  have e0 : s₁.heap = h0 := by rw [← hh, Bd.state]; rfl
  have N0 := Fr.nil n0
  refine own_in ?_
  refine own_of (s₁.setTop (mkF m 0 #[.val (.int p1), .val (.int p2), .val (.int p3), .val (.int p4)] [])) (fun t k => castTop (ef_rm8 m p1 p2 p3 p4) k) ?_
  refine own_of (s₁.setTop (mkF m 1 #[.val (.int p1), .val (.int p2), .val (.int p3), .val (.int p4)] [(.int p1)])) (fun t k => XS.iloadN X0.here hx rfl (hb hby d8_0) rfl k) ?_
  refine own_of (s₁.setTop (mkF m 2 #[.val (.int p1), .val (.int p2), .val (.int p3), .val (.int p4)] [(.int p3), (.int p1)])) (fun t k => XS.iloadN X0.here hx rfl (hb hby d8_1) rfl k) ?_
  obtain ⟨_, _, ⟨T5, L5, k5, n5⟩, -, X5, ⟨Lc5, hQ5, l5, y5, z5⟩, st5⟩ := Jvm.LawKit.callS X0 hx (y := (⟨"java/lang/Math", "max", "(II)I"⟩ : MethodName)) hown (mvT hZ (hw _ (List.mem_of_getElem? (i := 11) rfl))) (mvT hZ (hw _ (List.mem_of_getElem? (i := 12) rfl))) (mvT hZ (hw _ (List.mem_of_getElem? (i := 6) rfl))) (mvT hZ (hw _ (List.mem_of_getElem? (i := 13) rfl))) (by decide) (backOf (W := 0) (rm4 l Z a0 hw [] p1 p3 h0 n0 Z0) hZ (hw _ (List.mem_of_getElem? (i := 13) rfl)) (hw _ (List.mem_of_getElem? (i := 6) rfl)) (by decide) (by decide)) (g := (mkF m 2 #[.val (.int p1), .val (.int p2), .val (.int p3), .val (.int p4)] [(.int p3), (.int p1)])) rfl (by rw [hml]; rfl) (argsL := [(.int p1), (.int p3)]) (rest := []) (lenOf (by decide +kernel : parseMethodDescriptor "(II)I" = some ⟨[.int, .int], some .int⟩) rfl) rfl (by show 2 * 0 + _ ≤ _; exact Nat.le_of_eq rfl) (hb hby d8_2) (fun _ _ => ⟨rfl, e0, (by decide : 0 + 0 ≤ _), (by decide : 0 + 0 ≤ _)⟩)
  dsimp only [Pt.U, Pt.locs, Pt.cells, Pt.slots] at X5 l5 y5 z5 st5 hQ5
  subst l5 y5 z5
  obtain ⟨rfl, Nq5, eh5⟩ := hQ5
  have N5 := Fr.app N0 Nq5
  refine own_of (T5.setTop (mkF m 5 #[.val (.int p1), .val (.int p2), .val (.int p3), .val (.int p4)] [(.int (own_max p1 p3))])) (fun t q => st5 t q) ?_
  refine own_of (T5.setTop (mkF m 6 #[.val (.int p1), .val (.int p2), .val (.int p3), .val (.int p4)] [(.int p2), (.int (own_max p1 p3))])) (fun t k => XS.iloadN X5.here hx rfl (hb hby d8_5) rfl k) ?_
  refine own_of (T5.setTop (mkF m 7 #[.val (.int p1), .val (.int p2), .val (.int p3), .val (.int p4)] [(.int p4), (.int p2), (.int (own_max p1 p3))])) (fun t k => XS.iloadN X5.here hx rfl (hb hby d8_6) rfl k) ?_
  obtain ⟨_, _, ⟨T6, L6, k6, n6⟩, -, X6, ⟨Lc6, hQ6, l6, y6, z6⟩, st6⟩ := Jvm.LawKit.callS X5 hx (y := (⟨"java/lang/Math", "min", "(II)I"⟩ : MethodName)) hown (mvT hZ (hw _ (List.mem_of_getElem? (i := 4) rfl))) (mvT hZ (hw _ (List.mem_of_getElem? (i := 5) rfl))) (mvT hZ (hw _ (List.mem_of_getElem? (i := 6) rfl))) (mvT hZ (hw _ (List.mem_of_getElem? (i := 7) rfl))) (by decide) (backOf (W := 1) (rm2 l Z a0 hw [] p2 p4 h0 n0 Z0) hZ (hw _ (List.mem_of_getElem? (i := 7) rfl)) (hw _ (List.mem_of_getElem? (i := 6) rfl)) (by decide) (by decide)) (g := (mkF m 7 #[.val (.int p1), .val (.int p2), .val (.int p3), .val (.int p4)] [(.int p4), (.int p2), (.int (own_max p1 p3))])) rfl (by rw [hml]; rfl) (argsL := [(.int p2), (.int p4)]) (rest := [(.int (own_max p1 p3))]) (lenOf (by decide +kernel : parseMethodDescriptor "(II)I" = some ⟨[.int, .int], some .int⟩) rfl) rfl (by show 2 * 0 + _ ≤ _; exact Nat.le_of_eq rfl) (hb hby d8_7) (fun _ _ => ⟨rfl, eh5, (by decide : 0 + 0 ≤ _), (by decide : 0 + 0 ≤ _)⟩)
  dsimp only [Pt.U, Pt.locs, Pt.cells, Pt.slots] at X6 l6 y6 z6 st6 hQ6
  subst l6 y6 z6
  obtain ⟨rfl, Nq6, eh6⟩ := hQ6
  have N6 := Fr.app N5 Nq6
  refine own_of (T6.setTop (mkF m 10 #[.val (.int p1), .val (.int p2), .val (.int p3), .val (.int p4)] [(.int (own_min p2 p4)), (.int (own_max p1 p3))])) (fun t q => st6 t q) ?_
  by_cases hc7 : (own_min p2 p4) < (own_max p1 p3)
  · refine own_of (T6.setTop (mkF m 17 #[.val (.int p1), .val (.int p2), .val (.int p3), .val (.int p4)] [])) (fun t k => XS.icmpYes X6.here hx rfl (pc0 := 10) (pc' := 17) rfl (hb hby d8_10) rfl (tlt hc7).2.2.1 (by decide) (by decide) k) ?_
    refine own_of (T6.setTop (mkF m 18 #[.val (.int p1), .val (.int p2), .val (.int p3), .val (.int p4)] [(.int (0 : Int32))])) (fun t k => XS.iconst X6.here hx rfl (hb hby d8_17) k) ?_
    have hv : own_ov p1 p2 p3 p4 = (0 : Int32) := by simp only [own_ov, hc7, if_true, if_false]
    obtain ⟨fs, hr, hrun, hended, hW, hsame⟩ := X6.leave (v := some (.int (0 : Int32))) (fun h => by rw [Bd.returns] at h; cases h)
    refine ⟨_, _, retN X6 hx (t := .boolean) Bd.returns (by simp) (hb hby d8_18) hr, hrun, hended, _, _, rfl, ?_, ⟨_, rfl⟩, hW, hsame.mono (by decide) (by decide)⟩
    show Q_rm8 Z p1 p2 p3 p4  h0 n0 _ T6.heap _
    rw [eh6]
    exact ⟨by rw [hv], N6, rfl⟩
  · refine own_of (T6.setTop (mkF m 13 #[.val (.int p1), .val (.int p2), .val (.int p3), .val (.int p4)] [])) (fun t k => XS.icmpNo X6.here hx rfl (hb hby d8_10) rfl (flt hc7).2.2.1 k) ?_
    refine own_of (T6.setTop (mkF m 14 #[.val (.int p1), .val (.int p2), .val (.int p3), .val (.int p4)] [(.int (1 : Int32))])) (fun t k => XS.iconst X6.here hx rfl (hb hby d8_13) k) ?_
    refine own_of (T6.setTop (mkF m 18 #[.val (.int p1), .val (.int p2), .val (.int p3), .val (.int p4)] [(.int (1 : Int32))])) (fun t k => XS.goto X6.here hx rfl (pc0 := 14) (pc' := 18) rfl (hb hby d8_14) (by decide) (by decide) k) ?_
    have hv : own_ov p1 p2 p3 p4 = (1 : Int32) := by simp only [own_ov, hc7, if_true, if_false]
    obtain ⟨fs, hr, hrun, hended, hW, hsame⟩ := X6.leave (v := some (.int (1 : Int32))) (fun h => by rw [Bd.returns] at h; cases h)
    refine ⟨_, _, retN X6 hx (t := .boolean) Bd.returns (by simp) (hb hby d8_18) hr, hrun, hended, _, _, rfl, ?_, ⟨_, rfl⟩, hW, hsame.mono (by decide) (by decide)⟩
    show Q_rm8 Z p1 p2 p3 p4  h0 n0 _ T6.heap _
    rw [eh6]
    exact ⟨by rw [hv], N6, rfl⟩
theorem d6_0 : decode jdk_30_method_1_code 0 = .ok (.aload_n 0, 1) := by decide +kernel
theorem d6_1 : decode jdk_30_method_1_code 1 = .ok (.invokespecial 1, 3) := by decide +kernel
theorem d6_4 : decode jdk_30_method_1_code 4 = .ok (.return_, 1) := by decide +kernel
theorem pn_6 : plainName "java/lang/Record" = true := by first | (simp [plainName, overriddenIn]; done) | decide +kernel
theorem ef_rm6 (m : MethodId) (x0 : Addr) : entryFrame m #[(.ref x0)] 1 = mkF m 0 #[.val (.ref x0)] [] := by first | (simp [entryFrame, mkF, argsToLocals, Value.category]; done) | rfl
def Q_rm6 (Z : State) (a1 : Addr)  (h0 : Heap) (n0 : Nat) (v : Option Value) (h : Heap) (L : List Loc) : Prop := v = none ∧ Fr n0 L ∧ h = h0
set_option maxRecDepth 65536 in
set_option maxHeartbeats 40000000 in
theorem rm6 (l : Launch) (Z : State) (a0 : Array Value) (hw : ∀ d ∈ tables_1, d.before a0 Z = true) (ws : List Jvm.Cond) (a1 : Addr)  (h0 : Heap) (n0 : Nat) (Z0 : n0 ≤ h0.size) :
    MetFree l (⟨"java/lang/Record", "<init>", "()V"⟩ : MethodName) (head1 (Jvm.Cond.code (⟨"java/lang/Record", "<init>", "()V"⟩ : MethodName) jdk_30_method_1_code 1 none :: ws) ({ frames := 1, cells := 0, slots := 0, locals := 12 } : Room)) (fun a U => a = #[(.ref a1)] ∧ Z.Warmed39 U.vm ∧ U.heap = h0) (fun _ _ _ _ _ => True) (fun _ U o U' => ∃ v L, o = .returned v ∧ Q_rm6 Z a1  h0 n0 v U'.heap L ∧ FrameEnd U o U' L ({ frames := 1, cells := 0, slots := 0, locals := 12 } : Room).cells ({ frames := 1, cells := 0, slots := 0, locals := 12 } : Room).slots) := by
  refine MetFree.of_bodySF (plainFor_of_name pn_6) hisR ?_
  intro p e s m args below meth c s₁ Bd hml0 hP hK
  obtain ⟨rfl, hZ, hh⟩ := hP
  have hx := Bd.exec
  have hby := Bd.bytes
  have hml : c.maxLocals = 1 := hml0
  have hown : s.vm.findClass "java/lang/Record" = some m.cls := findClass_of_methodNamed Bd.named
  have hnm := (name_of_methodNamed Bd.named Bd.method).1
  have X0 : Stand p l e ({ frames := 1, cells := 0, slots := 0, locals := 12 } : Room) s m #[(.ref a1)] below meth c s₁ [] 0 0 := Stand.of_body Bd
  have e0 : s₁.heap = h0 := by rw [← hh, Bd.state]; rfl
  have N0 := Fr.nil n0
  refine own_in ?_
  refine own_of (s₁.setTop (mkF m 0 #[.val (.ref a1)] [])) (fun t k => castTop (ef_rm6 m a1) k) ?_
  refine own_of (s₁.setTop (mkF m 1 #[.val (.ref a1)] [(.ref a1)])) (fun t k => XS.aloadN X0.here hx rfl (hb hby d6_0) rfl rfl k) ?_
  obtain ⟨T8, X8, e8, st8⟩ := initO X0 hx hZ hown (hw _ (List.mem_of_getElem? (i := 25) rfl)) (hw _ (List.mem_of_getElem? (i := 26) rfl)) (hw _ (List.mem_of_getElem? (i := 27) rfl)) e0 (g := (mkF m 1 #[.val (.ref a1)] [(.ref a1)])) rfl (by rw [hml]; rfl) rfl (hb hby d6_1) (by decide) (W := 0) (by show 2 * 0 + _ ≤ _; exact Nat.le_of_eq rfl) (by decide)
  refine own_of (T8.setTop (mkF m 4 #[.val (.ref a1)] [])) (fun t q => st8 t q) ?_
  obtain ⟨fs, hr, hrun, hended, hW, hsame⟩ := X8.leave (v := none) (fun _ => rfl)
  refine ⟨_, _, X8.returnOut hx Bd.returns (hb hby d6_4) hr, hrun, hended, _, _, rfl, ?_, ⟨_, rfl⟩, hW, hsame.mono (by decide) (by decide)⟩
  show Q_rm6 Z a1  h0 n0 _ T8.heap _
  rw [e8]
  exact ⟨rfl, N0, rfl⟩
theorem d5_0 : decode prog_8_method_1_code 0 = .ok (.aload_n 0, 1) := by decide +kernel
theorem d5_1 : decode prog_8_method_1_code 1 = .ok (.invokespecial 1, 3) := by decide +kernel
theorem d5_4 : decode prog_8_method_1_code 4 = .ok (.iload_n 1, 1) := by decide +kernel
theorem d5_5 : decode prog_8_method_1_code 5 = .ok (.iload_n 3, 1) := by decide +kernel
theorem d5_6 : decode prog_8_method_1_code 6 = .ok (.if_icmp .gt 9, 3) := by decide +kernel
theorem d5_9 : decode prog_8_method_1_code 9 = .ok (.iload_n 2, 1) := by decide +kernel
theorem d5_10 : decode prog_8_method_1_code 10 = .ok (.iload 4, 2) := by decide +kernel
theorem d5_12 : decode prog_8_method_1_code 12 = .ok (.if_icmp .le 21, 3) := by decide +kernel
theorem d5_15 : decode prog_8_method_1_code 15 = .ok (.new 7, 3) := by decide +kernel
theorem d5_18 : decode prog_8_method_1_code 18 = .ok (.dup, 1) := by decide +kernel
theorem d5_19 : decode prog_8_method_1_code 19 = .ok (.iload_n 1, 1) := by decide +kernel
theorem d5_20 : decode prog_8_method_1_code 20 = .ok (.iload_n 3, 1) := by decide +kernel
theorem d5_21 : decode prog_8_method_1_code 21 = .ok (.iload_n 2, 1) := by decide +kernel
theorem d5_22 : decode prog_8_method_1_code 22 = .ok (.iload 4, 2) := by decide +kernel
theorem d5_24 : decode prog_8_method_1_code 24 = .ok (.invokedynamic 9, 5) := by decide +kernel
theorem d5_29 : decode prog_8_method_1_code 29 = .ok (.invokespecial 13, 3) := by decide +kernel
theorem d5_32 : decode prog_8_method_1_code 32 = .ok (.athrow, 1) := by decide +kernel
theorem d5_33 : decode prog_8_method_1_code 33 = .ok (.aload_n 0, 1) := by decide +kernel
theorem d5_34 : decode prog_8_method_1_code 34 = .ok (.iload_n 1, 1) := by decide +kernel
theorem d5_35 : decode prog_8_method_1_code 35 = .ok (.putfield 16, 3) := by decide +kernel
theorem d5_38 : decode prog_8_method_1_code 38 = .ok (.aload_n 0, 1) := by decide +kernel
theorem d5_39 : decode prog_8_method_1_code 39 = .ok (.iload_n 2, 1) := by decide +kernel
theorem d5_40 : decode prog_8_method_1_code 40 = .ok (.putfield 22, 3) := by decide +kernel
theorem d5_43 : decode prog_8_method_1_code 43 = .ok (.aload_n 0, 1) := by decide +kernel
theorem d5_44 : decode prog_8_method_1_code 44 = .ok (.iload_n 3, 1) := by decide +kernel
theorem d5_45 : decode prog_8_method_1_code 45 = .ok (.putfield 25, 3) := by decide +kernel
theorem d5_48 : decode prog_8_method_1_code 48 = .ok (.aload_n 0, 1) := by decide +kernel
theorem d5_49 : decode prog_8_method_1_code 49 = .ok (.iload 4, 2) := by decide +kernel
theorem d5_51 : decode prog_8_method_1_code 51 = .ok (.putfield 28, 3) := by decide +kernel
theorem d5_54 : decode prog_8_method_1_code 54 = .ok (.return_, 1) := by decide +kernel
theorem pn_5 : plainName "com/example/swathe/swathe/CellRectangle" = true := by first | (simp [plainName, overriddenIn]; done) | decide +kernel
theorem ef_rm5 (m : MethodId) (x0 : Addr) (x1 : Int32) (x2 : Int32) (x3 : Int32) (x4 : Int32) : entryFrame m #[(.ref x0), (.int x1), (.int x2), (.int x3), (.int x4)] 5 = mkF m 0 #[.val (.ref x0), .val (.int x1), .val (.int x2), .val (.int x3), .val (.int x4)] [] := by first | (simp [entryFrame, mkF, argsToLocals, Value.category]; done) | rfl
def Q_rm5 (Z : State) (a1 : Addr) (p2 : Int32) (p3 : Int32) (p4 : Int32) (p5 : Int32)  (h0 : Heap) (n0 : Nat) (v : Option Value) (h : Heap) (L : List Loc) : Prop := v = none ∧ Fr n0 L ∧ Keep h0 h [a1] ∧ Fld Z h a1 "com/example/swathe/swathe/CellRectangle" "minColumn" "I" (.int p2) ∧ Fld Z h a1 "com/example/swathe/swathe/CellRectangle" "minRow" "I" (.int p3) ∧ Fld Z h a1 "com/example/swathe/swathe/CellRectangle" "maxColumn" "I" (.int p4) ∧ Fld Z h a1 "com/example/swathe/swathe/CellRectangle" "maxRow" "I" (.int p5)
set_option maxRecDepth 65536 in
set_option maxHeartbeats 40000000 in
theorem rm5 (l : Launch) (Z : State) (a0 : Array Value) (hw : ∀ d ∈ tables_1, d.before a0 Z = true) (ws : List Jvm.Cond) (a1 : Addr) (p2 : Int32) (p3 : Int32) (p4 : Int32) (p5 : Int32)  (h0 : Heap) (n0 : Nat) (Z0 : n0 ≤ h0.size) (E1 : Exa Z h0 a1 "com/example/swathe/swathe/CellRectangle") (F0 : Fld Z h0 a1 "com/example/swathe/swathe/CellRectangle" "minColumn" "I" (.int (0 : Int32))) (F1 : Fld Z h0 a1 "com/example/swathe/swathe/CellRectangle" "minRow" "I" (.int (0 : Int32))) (F2 : Fld Z h0 a1 "com/example/swathe/swathe/CellRectangle" "maxColumn" "I" (.int (0 : Int32))) (F3 : Fld Z h0 a1 "com/example/swathe/swathe/CellRectangle" "maxRow" "I" (.int (0 : Int32))) (g1 : n0 ≤ a1) (c1 : ¬ p4 < p2) (c2 : ¬ p5 < p3) :
    MetFree l (⟨"com/example/swathe/swathe/CellRectangle", "<init>", "(IIII)V"⟩ : MethodName) (head1 (Jvm.Cond.code (⟨"com/example/swathe/swathe/CellRectangle", "<init>", "(IIII)V"⟩ : MethodName) prog_8_method_1_code 5 none :: ws) ({ frames := 2, cells := 0, slots := 0, locals := 24 } : Room)) (fun a U => a = #[(.ref a1), (.int p2), (.int p3), (.int p4), (.int p5)] ∧ Z.Warmed39 U.vm ∧ U.heap = h0) (fun _ _ _ _ _ => True) (fun _ U o U' => ∃ v L, o = .returned v ∧ Q_rm5 Z a1 p2 p3 p4 p5  h0 n0 v U'.heap L ∧ FrameEnd U o U' L ({ frames := 2, cells := 0, slots := 0, locals := 24 } : Room).cells ({ frames := 2, cells := 0, slots := 0, locals := 24 } : Room).slots) := by
  refine MetFree.of_bodySF (plainFor_of_name pn_5) hisR ?_
  intro p e s m args below meth c s₁ Bd hml0 hP hK
  obtain ⟨rfl, hZ, hh⟩ := hP
  have hx := Bd.exec
  have hby := Bd.bytes
  have hml : c.maxLocals = 5 := hml0
  have hown : s.vm.findClass "com/example/swathe/swathe/CellRectangle" = some m.cls := findClass_of_methodNamed Bd.named
  have hnm := (name_of_methodNamed Bd.named Bd.method).1
  have X0 : Stand p l e ({ frames := 2, cells := 0, slots := 0, locals := 24 } : Room) s m #[(.ref a1), (.int p2), (.int p3), (.int p4), (.int p5)] below meth c s₁ [] 0 0 := Stand.of_body Bd
  have e0 : s₁.heap = h0 := by rw [← hh, Bd.state]; rfl
  have N0 := Fr.nil n0
  refine own_in ?_
  refine own_of (s₁.setTop (mkF m 0 #[.val (.ref a1), .val (.int p2), .val (.int p3), .val (.int p4), .val (.int p5)] [])) (fun t k => castTop (ef_rm5 m a1 p2 p3 p4 p5) k) ?_
  refine own_of (s₁.setTop (mkF m 1 #[.val (.ref a1), .val (.int p2), .val (.int p3), .val (.int p4), .val (.int p5)] [(.ref a1)])) (fun t k => XS.aloadN X0.here hx rfl (hb hby d5_0) rfl rfl k) ?_
  obtain ⟨_, _, ⟨T9, L9, k9, n9⟩, -, X9, ⟨Lc9, hQ9, l9, y9, z9⟩, st9⟩ := X0.specialBack hx (y := (⟨"java/lang/Record", "<init>", "()V"⟩ : MethodName)) rfl hown (mvT hZ (hw _ (List.mem_of_getElem? (i := 20) rfl))) (mvT hZ (hw _ (List.mem_of_getElem? (i := 21) rfl))) (mvT hZ (hw _ (List.mem_of_getElem? (i := 24) rfl))) (by decide) (backOf (W := 0) (rm6 l Z a0 hw [] a1  h0 n0 Z0) hZ (hw _ (List.mem_of_getElem? (i := 24) rfl)) (hw _ (List.mem_of_getElem? (i := 23) rfl)) (by decide) (by decide)) (g := (mkF m 1 #[.val (.ref a1), .val (.int p2), .val (.int p3), .val (.int p4), .val (.int p5)] [(.ref a1)])) rfl (by rw [hml]; rfl) (Steps.refl _) (a := a1) (argsL := []) (rest := []) (lenOf (by decide +kernel : parseMethodDescriptor "()V" = some ⟨[], none⟩) rfl) rfl (by show 2 * 0 + _ ≤ _; exact Nat.le_of_eq rfl) (hb hby d5_1) (fun _ _ => ⟨rfl, e0, (by decide : 0 + 0 ≤ _), (by decide : 0 + 0 ≤ _)⟩)
  dsimp only [Pt.U, Pt.locs, Pt.cells, Pt.slots] at X9 l9 y9 z9 st9 hQ9
  subst l9 y9 z9
  obtain ⟨rfl, Nq9, eh9⟩ := hQ9
  have N9 := Fr.app N0 Nq9
  refine own_tr (T9.setTop (mkF m 4 #[.val (.ref a1), .val (.int p2), .val (.int p3), .val (.int p4), .val (.int p5)] [])) st9 ?_
  refine own_of (T9.setTop (mkF m 5 #[.val (.ref a1), .val (.int p2), .val (.int p3), .val (.int p4), .val (.int p5)] [(.int p2)])) (fun t k => XS.iloadN X9.here hx rfl (hb hby d5_4) rfl k) ?_
  refine own_of (T9.setTop (mkF m 6 #[.val (.ref a1), .val (.int p2), .val (.int p3), .val (.int p4), .val (.int p5)] [(.int p4), (.int p2)])) (fun t k => XS.iloadN X9.here hx rfl (hb hby d5_5) rfl k) ?_
  refine own_of (T9.setTop (mkF m 9 #[.val (.ref a1), .val (.int p2), .val (.int p3), .val (.int p4), .val (.int p5)] [])) (fun t k => XS.icmpNo X9.here hx rfl (hb hby d5_6) rfl (flt c1).2.2.1 k) ?_
  refine own_of (T9.setTop (mkF m 10 #[.val (.ref a1), .val (.int p2), .val (.int p3), .val (.int p4), .val (.int p5)] [(.int p3)])) (fun t k => XS.iloadN X9.here hx rfl (hb hby d5_9) rfl k) ?_
  refine own_of (T9.setTop (mkF m 12 #[.val (.ref a1), .val (.int p2), .val (.int p3), .val (.int p4), .val (.int p5)] [(.int p5), (.int p3)])) (fun t k => XS.iload X9.here hx rfl (hb hby d5_10) rfl k) ?_
  refine own_of (T9.setTop (mkF m 33 #[.val (.ref a1), .val (.int p2), .val (.int p3), .val (.int p4), .val (.int p5)] [])) (fun t k => XS.icmpYes X9.here hx rfl (pc0 := 12) (pc' := 33) rfl (hb hby d5_12) rfl (flt c2).2.2.2 (by decide) (by decide) k) ?_
  refine own_of (T9.setTop (mkF m 34 #[.val (.ref a1), .val (.int p2), .val (.int p3), .val (.int p4), .val (.int p5)] [(.ref a1)])) (fun t k => XS.aloadN X9.here hx rfl (hb hby d5_33) rfl rfl k) ?_
  refine own_of (T9.setTop (mkF m 35 #[.val (.ref a1), .val (.int p2), .val (.int p3), .val (.int p4), .val (.int p5)] [(.int p2), (.ref a1)])) (fun t k => XS.iloadN X9.here hx rfl (hb hby d5_34) rfl k) ?_
  obtain ⟨T10, h10, X10, e10, W10, st10⟩ := putF X9 hx hZ hown (host := "") (Or.inl (hw _ (List.mem_of_getElem? (i := 28) rfl))) Via.refl eh9 F0 E1 (Or.inr ⟨(hw _ (List.mem_of_getElem? (i := 29) rfl)), rfl, hnm⟩) (hw _ (List.mem_of_getElem? (i := 15) rfl)) (ty := .int) (by decide) rfl rfl (g := (mkF m 35 #[.val (.ref a1), .val (.int p2), .val (.int p3), .val (.int p4), .val (.int p5)] [(.int p2), (.ref a1)])) rfl rfl (hb hby d5_35)
  have N10 := Fr.snoc X10 N9 g1
  have f10_0 := E1.wr W10
  have f10_1 := F0.same W10
  have f10_2 := F1.other W10 (Or.inr (slot_ne (Or.inr (hw _ (List.mem_of_getElem? (i := 31) rfl))) (Or.inr (hw _ (List.mem_of_getElem? (i := 29) rfl))) (by decide) (t := .int) (t' := .int) (by decide) (by decide)))
  have f10_3 := F2.other W10 (Or.inr (slot_ne (Or.inr (hw _ (List.mem_of_getElem? (i := 33) rfl))) (Or.inr (hw _ (List.mem_of_getElem? (i := 29) rfl))) (by decide) (t := .int) (t' := .int) (by decide) (by decide)))
  have f10_4 := F3.other W10 (Or.inr (slot_ne (Or.inr (hw _ (List.mem_of_getElem? (i := 35) rfl))) (Or.inr (hw _ (List.mem_of_getElem? (i := 29) rfl))) (by decide) (t := .int) (t' := .int) (by decide) (by decide)))
  have K10 := (Keep.refl h0 [a1]).wr W10 (Or.inl (List.mem_of_getElem? (i := 0) rfl))
  have Z10 : n0 ≤ h10.size := Nat.le_trans Z0 (Nat.le_of_eq W10.size.symm)
  refine own_of (T10.setTop (mkF m 38 #[.val (.ref a1), .val (.int p2), .val (.int p3), .val (.int p4), .val (.int p5)] [])) (fun t q => st10 t q) ?_
  refine own_of (T10.setTop (mkF m 39 #[.val (.ref a1), .val (.int p2), .val (.int p3), .val (.int p4), .val (.int p5)] [(.ref a1)])) (fun t k => XS.aloadN X10.here hx rfl (hb hby d5_38) rfl rfl k) ?_
  refine own_of (T10.setTop (mkF m 40 #[.val (.ref a1), .val (.int p2), .val (.int p3), .val (.int p4), .val (.int p5)] [(.int p3), (.ref a1)])) (fun t k => XS.iloadN X10.here hx rfl (hb hby d5_39) rfl k) ?_
  obtain ⟨T11, h11, X11, e11, W11, st11⟩ := putF X10 hx hZ hown (host := "") (Or.inl (hw _ (List.mem_of_getElem? (i := 30) rfl))) Via.refl e10 f10_2 f10_0 (Or.inr ⟨(hw _ (List.mem_of_getElem? (i := 31) rfl)), rfl, hnm⟩) (hw _ (List.mem_of_getElem? (i := 15) rfl)) (ty := .int) (by decide) rfl rfl (g := (mkF m 40 #[.val (.ref a1), .val (.int p2), .val (.int p3), .val (.int p4), .val (.int p5)] [(.int p3), (.ref a1)])) rfl rfl (hb hby d5_40)
  have N11 := Fr.snoc X11 N10 g1
  have f11_0 := f10_0.wr W11
  have f11_1 := f10_1.other W11 (Or.inr (slot_ne (Or.inr (hw _ (List.mem_of_getElem? (i := 29) rfl))) (Or.inr (hw _ (List.mem_of_getElem? (i := 31) rfl))) (by decide) (t := .int) (t' := .int) (by decide) (by decide)))
  have f11_2 := f10_2.same W11
  have f11_3 := f10_3.other W11 (Or.inr (slot_ne (Or.inr (hw _ (List.mem_of_getElem? (i := 33) rfl))) (Or.inr (hw _ (List.mem_of_getElem? (i := 31) rfl))) (by decide) (t := .int) (t' := .int) (by decide) (by decide)))
  have f11_4 := f10_4.other W11 (Or.inr (slot_ne (Or.inr (hw _ (List.mem_of_getElem? (i := 35) rfl))) (Or.inr (hw _ (List.mem_of_getElem? (i := 31) rfl))) (by decide) (t := .int) (t' := .int) (by decide) (by decide)))
  have K11 := K10.wr W11 (Or.inl (List.mem_of_getElem? (i := 0) rfl))
  have Z11 : n0 ≤ h11.size := Nat.le_trans Z10 (Nat.le_of_eq W11.size.symm)
  refine own_of (T11.setTop (mkF m 43 #[.val (.ref a1), .val (.int p2), .val (.int p3), .val (.int p4), .val (.int p5)] [])) (fun t q => st11 t q) ?_
  refine own_of (T11.setTop (mkF m 44 #[.val (.ref a1), .val (.int p2), .val (.int p3), .val (.int p4), .val (.int p5)] [(.ref a1)])) (fun t k => XS.aloadN X11.here hx rfl (hb hby d5_43) rfl rfl k) ?_
  refine own_of (T11.setTop (mkF m 45 #[.val (.ref a1), .val (.int p2), .val (.int p3), .val (.int p4), .val (.int p5)] [(.int p4), (.ref a1)])) (fun t k => XS.iloadN X11.here hx rfl (hb hby d5_44) rfl k) ?_
  obtain ⟨T12, h12, X12, e12, W12, st12⟩ := putF X11 hx hZ hown (host := "") (Or.inl (hw _ (List.mem_of_getElem? (i := 32) rfl))) Via.refl e11 f11_3 f11_0 (Or.inr ⟨(hw _ (List.mem_of_getElem? (i := 33) rfl)), rfl, hnm⟩) (hw _ (List.mem_of_getElem? (i := 15) rfl)) (ty := .int) (by decide) rfl rfl (g := (mkF m 45 #[.val (.ref a1), .val (.int p2), .val (.int p3), .val (.int p4), .val (.int p5)] [(.int p4), (.ref a1)])) rfl rfl (hb hby d5_45)
  have N12 := Fr.snoc X12 N11 g1
  have f12_0 := f11_0.wr W12
  have f12_1 := f11_1.other W12 (Or.inr (slot_ne (Or.inr (hw _ (List.mem_of_getElem? (i := 29) rfl))) (Or.inr (hw _ (List.mem_of_getElem? (i := 33) rfl))) (by decide) (t := .int) (t' := .int) (by decide) (by decide)))
  have f12_2 := f11_2.other W12 (Or.inr (slot_ne (Or.inr (hw _ (List.mem_of_getElem? (i := 31) rfl))) (Or.inr (hw _ (List.mem_of_getElem? (i := 33) rfl))) (by decide) (t := .int) (t' := .int) (by decide) (by decide)))
  have f12_3 := f11_3.same W12
  have f12_4 := f11_4.other W12 (Or.inr (slot_ne (Or.inr (hw _ (List.mem_of_getElem? (i := 35) rfl))) (Or.inr (hw _ (List.mem_of_getElem? (i := 33) rfl))) (by decide) (t := .int) (t' := .int) (by decide) (by decide)))
  have K12 := K11.wr W12 (Or.inl (List.mem_of_getElem? (i := 0) rfl))
  have Z12 : n0 ≤ h12.size := Nat.le_trans Z11 (Nat.le_of_eq W12.size.symm)
  refine own_of (T12.setTop (mkF m 48 #[.val (.ref a1), .val (.int p2), .val (.int p3), .val (.int p4), .val (.int p5)] [])) (fun t q => st12 t q) ?_
  refine own_of (T12.setTop (mkF m 49 #[.val (.ref a1), .val (.int p2), .val (.int p3), .val (.int p4), .val (.int p5)] [(.ref a1)])) (fun t k => XS.aloadN X12.here hx rfl (hb hby d5_48) rfl rfl k) ?_
  refine own_of (T12.setTop (mkF m 51 #[.val (.ref a1), .val (.int p2), .val (.int p3), .val (.int p4), .val (.int p5)] [(.int p5), (.ref a1)])) (fun t k => XS.iload X12.here hx rfl (hb hby d5_49) rfl k) ?_
  obtain ⟨T13, h13, X13, e13, W13, st13⟩ := putF X12 hx hZ hown (host := "") (Or.inl (hw _ (List.mem_of_getElem? (i := 34) rfl))) Via.refl e12 f12_4 f12_0 (Or.inr ⟨(hw _ (List.mem_of_getElem? (i := 35) rfl)), rfl, hnm⟩) (hw _ (List.mem_of_getElem? (i := 15) rfl)) (ty := .int) (by decide) rfl rfl (g := (mkF m 51 #[.val (.ref a1), .val (.int p2), .val (.int p3), .val (.int p4), .val (.int p5)] [(.int p5), (.ref a1)])) rfl rfl (hb hby d5_51)
  have N13 := Fr.snoc X13 N12 g1
  have f13_0 := f12_0.wr W13
  have f13_1 := f12_1.other W13 (Or.inr (slot_ne (Or.inr (hw _ (List.mem_of_getElem? (i := 29) rfl))) (Or.inr (hw _ (List.mem_of_getElem? (i := 35) rfl))) (by decide) (t := .int) (t' := .int) (by decide) (by decide)))
  have f13_2 := f12_2.other W13 (Or.inr (slot_ne (Or.inr (hw _ (List.mem_of_getElem? (i := 31) rfl))) (Or.inr (hw _ (List.mem_of_getElem? (i := 35) rfl))) (by decide) (t := .int) (t' := .int) (by decide) (by decide)))
  have f13_3 := f12_3.other W13 (Or.inr (slot_ne (Or.inr (hw _ (List.mem_of_getElem? (i := 33) rfl))) (Or.inr (hw _ (List.mem_of_getElem? (i := 35) rfl))) (by decide) (t := .int) (t' := .int) (by decide) (by decide)))
  have f13_4 := f12_4.same W13
  have K13 := K12.wr W13 (Or.inl (List.mem_of_getElem? (i := 0) rfl))
  have Z13 : n0 ≤ h13.size := Nat.le_trans Z12 (Nat.le_of_eq W13.size.symm)
  refine own_of (T13.setTop (mkF m 54 #[.val (.ref a1), .val (.int p2), .val (.int p3), .val (.int p4), .val (.int p5)] [])) (fun t q => st13 t q) ?_
  obtain ⟨fs, hr, hrun, hended, hW, hsame⟩ := X13.leave (v := none) (fun _ => rfl)
  refine ⟨_, _, X13.returnOut hx Bd.returns (hb hby d5_54) hr, hrun, hended, _, _, rfl, ?_, ⟨_, rfl⟩, hW, hsame.mono (by decide) (by decide)⟩
  show Q_rm5 Z a1 p2 p3 p4 p5  h0 n0 _ T13.heap _
  rw [e13]
  exact ⟨rfl, N13, K13, f13_1, f13_2, f13_3, f13_4⟩
theorem d9_0 : decode prog_8_method_3_code 0 = .ok (.aload_n 0, 1) := by decide +kernel
theorem d9_1 : decode prog_8_method_3_code 1 = .ok (.getfield 16, 3) := by decide +kernel
theorem d9_4 : decode prog_8_method_3_code 4 = .ok (.aload_n 1, 1) := by decide +kernel
theorem d9_5 : decode prog_8_method_3_code 5 = .ok (.getfield 25, 3) := by decide +kernel
theorem d9_8 : decode prog_8_method_3_code 8 = .ok (.if_icmp .gt 40, 3) := by decide +kernel
theorem d9_11 : decode prog_8_method_3_code 11 = .ok (.aload_n 1, 1) := by decide +kernel
theorem d9_12 : decode prog_8_method_3_code 12 = .ok (.getfield 16, 3) := by decide +kernel
theorem d9_15 : decode prog_8_method_3_code 15 = .ok (.aload_n 0, 1) := by decide +kernel
theorem d9_16 : decode prog_8_method_3_code 16 = .ok (.getfield 25, 3) := by decide +kernel
theorem d9_19 : decode prog_8_method_3_code 19 = .ok (.if_icmp .gt 29, 3) := by decide +kernel
theorem d9_22 : decode prog_8_method_3_code 22 = .ok (.aload_n 0, 1) := by decide +kernel
theorem d9_23 : decode prog_8_method_3_code 23 = .ok (.getfield 22, 3) := by decide +kernel
theorem d9_26 : decode prog_8_method_3_code 26 = .ok (.aload_n 1, 1) := by decide +kernel
theorem d9_27 : decode prog_8_method_3_code 27 = .ok (.getfield 28, 3) := by decide +kernel
theorem d9_30 : decode prog_8_method_3_code 30 = .ok (.if_icmp .gt 18, 3) := by decide +kernel
theorem d9_33 : decode prog_8_method_3_code 33 = .ok (.aload_n 1, 1) := by decide +kernel
theorem d9_34 : decode prog_8_method_3_code 34 = .ok (.getfield 22, 3) := by decide +kernel
theorem d9_37 : decode prog_8_method_3_code 37 = .ok (.aload_n 0, 1) := by decide +kernel
theorem d9_38 : decode prog_8_method_3_code 38 = .ok (.getfield 28, 3) := by decide +kernel
theorem d9_41 : decode prog_8_method_3_code 41 = .ok (.if_icmp .gt 7, 3) := by decide +kernel
theorem d9_44 : decode prog_8_method_3_code 44 = .ok (.iconst 1, 1) := by decide +kernel
theorem d9_45 : decode prog_8_method_3_code 45 = .ok (.goto 4, 3) := by decide +kernel
theorem d9_48 : decode prog_8_method_3_code 48 = .ok (.iconst 0, 1) := by decide +kernel
theorem d9_49 : decode prog_8_method_3_code 49 = .ok (.ireturn, 1) := by decide +kernel
theorem pn_9 : plainName "com/example/swathe/swathe/CellRectangle" = true := by first | (simp [plainName, overriddenIn]; done) | decide +kernel
theorem ef_rm9 (m : MethodId) (x0 : Addr) (x1 : Addr) : entryFrame m #[(.ref x0), (.ref x1)] 2 = mkF m 0 #[.val (.ref x0), .val (.ref x1)] [] := by first | (simp [entryFrame, mkF, argsToLocals, Value.category]; done) | rfl
def Q_rm9 (Z : State) (a1 : Addr) (a2 : Addr) (u0 : Int32) (u1 : Int32) (u2 : Int32) (u3 : Int32) (v0 : Int32) (v1 : Int32) (v2 : Int32) (v3 : Int32) (h0 : Heap) (n0 : Nat) (v : Option Value) (h : Heap) (L : List Loc) : Prop := v = some (.int (own_mt u0 u1 u2 u3 v0 v1 v2 v3)) ∧ Fr n0 L ∧ h = h0
set_option maxRecDepth 65536 in
set_option maxHeartbeats 40000000 in
theorem rm9 (l : Launch) (Z : State) (a0 : Array Value) (hw : ∀ d ∈ tables_1, d.before a0 Z = true) (ws : List Jvm.Cond) (a1 : Addr) (a2 : Addr) (u0 : Int32) (u1 : Int32) (u2 : Int32) (u3 : Int32) (v0 : Int32) (v1 : Int32) (v2 : Int32) (v3 : Int32) (h0 : Heap) (n0 : Nat) (Z0 : n0 ≤ h0.size) (F0 : Fld Z h0 a1 "com/example/swathe/swathe/CellRectangle" "minColumn" "I" (.int u0)) (F1 : Fld Z h0 a1 "com/example/swathe/swathe/CellRectangle" "minRow" "I" (.int u1)) (F2 : Fld Z h0 a1 "com/example/swathe/swathe/CellRectangle" "maxColumn" "I" (.int u2)) (F3 : Fld Z h0 a1 "com/example/swathe/swathe/CellRectangle" "maxRow" "I" (.int u3)) (G0 : Fld Z h0 a2 "com/example/swathe/swathe/CellRectangle" "minColumn" "I" (.int v0)) (G1 : Fld Z h0 a2 "com/example/swathe/swathe/CellRectangle" "minRow" "I" (.int v1)) (G2 : Fld Z h0 a2 "com/example/swathe/swathe/CellRectangle" "maxColumn" "I" (.int v2)) (G3 : Fld Z h0 a2 "com/example/swathe/swathe/CellRectangle" "maxRow" "I" (.int v3)) :
    MetFree l (⟨"com/example/swathe/swathe/CellRectangle", "meets", "(Lcom/example/swathe/swathe/CellRectangle;)Z"⟩ : MethodName) (head1 (Jvm.Cond.code (⟨"com/example/swathe/swathe/CellRectangle", "meets", "(Lcom/example/swathe/swathe/CellRectangle;)Z"⟩ : MethodName) prog_8_method_3_code 2 (some .boolean) :: ws) ({ frames := 0, cells := 0, slots := 0, locals := 0 } : Room)) (fun a U => a = #[(.ref a1), (.ref a2)] ∧ Z.Warmed39 U.vm ∧ U.heap = h0) (fun _ _ _ _ _ => True) (fun _ U o U' => ∃ v L, o = .returned v ∧ Q_rm9 Z a1 a2 u0 u1 u2 u3 v0 v1 v2 v3 h0 n0 v U'.heap L ∧ FrameEnd U o U' L ({ frames := 0, cells := 0, slots := 0, locals := 0 } : Room).cells ({ frames := 0, cells := 0, slots := 0, locals := 0 } : Room).slots) := by
  refine MetFree.of_bodySF (plainFor_of_name pn_9) hisR ?_
  intro p e s m args below meth c s₁ Bd hml0 hP hK
  obtain ⟨rfl, hZ, hh⟩ := hP
  have hx := Bd.exec
  have hby := Bd.bytes
  have hml : c.maxLocals = 2 := hml0
  have hown : s.vm.findClass "com/example/swathe/swathe/CellRectangle" = some m.cls := findClass_of_methodNamed Bd.named
  have hnm := (name_of_methodNamed Bd.named Bd.method).1
  have X0 : Stand p l e ({ frames := 0, cells := 0, slots := 0, locals := 0 } : Room) s m #[(.ref a1), (.ref a2)] below meth c s₁ [] 0 0 := Stand.of_body Bd
  have e0 : s₁.heap = h0 := by rw [← hh, Bd.state]; rfl
  have N0 := Fr.nil n0
  refine own_in ?_
  refine own_of (s₁.setTop (mkF m 0 #[.val (.ref a1), .val (.ref a2)] [])) (fun t k => castTop (ef_rm9 m a1 a2) k) ?_
  refine own_of (s₁.setTop (mkF m 1 #[.val (.ref a1), .val (.ref a2)] [(.ref a1)])) (fun t k => XS.aloadN X0.here hx rfl (hb hby d9_0) rfl rfl k) ?_
  obtain ⟨T14, X14, e14, st14⟩ := getF X0 hx hZ hown (host := "") (Or.inl (hw _ (List.mem_of_getElem? (i := 28) rfl))) Via.refl e0 F0 (g := (mkF m 1 #[.val (.ref a1), .val (.ref a2)] [(.ref a1)])) rfl rfl (hb hby d9_1)
  refine own_of (T14.setTop (mkF m 4 #[.val (.ref a1), .val (.ref a2)] [(.int u0)])) (fun t q => st14 t q) ?_
  refine own_of (T14.setTop (mkF m 5 #[.val (.ref a1), .val (.ref a2)] [(.ref a2), (.int u0)])) (fun t k => XS.aloadN X14.here hx rfl (hb hby d9_4) rfl rfl k) ?_
  obtain ⟨T15, X15, e15, st15⟩ := getF X14 hx hZ hown (host := "") (Or.inl (hw _ (List.mem_of_getElem? (i := 32) rfl))) Via.refl e14 G2 (g := (mkF m 5 #[.val (.ref a1), .val (.ref a2)] [(.ref a2), (.int u0)])) rfl rfl (hb hby d9_5)
  refine own_of (T15.setTop (mkF m 8 #[.val (.ref a1), .val (.ref a2)] [(.int v2), (.int u0)])) (fun t q => st15 t q) ?_
  by_cases hc16 : v2 < u0
  · refine own_of (T15.setTop (mkF m 48 #[.val (.ref a1), .val (.ref a2)] [])) (fun t k => XS.icmpYes X15.here hx rfl (pc0 := 8) (pc' := 48) rfl (hb hby d9_8) rfl (tlt hc16).2.2.1 (by decide) (by decide) k) ?_
    refine own_of (T15.setTop (mkF m 49 #[.val (.ref a1), .val (.ref a2)] [(.int (0 : Int32))])) (fun t k => XS.iconst X15.here hx rfl (hb hby d9_48) k) ?_
    have hv : own_mt u0 u1 u2 u3 v0 v1 v2 v3 = (0 : Int32) := by simp only [own_mt, hc16, if_true, if_false]
    obtain ⟨fs, hr, hrun, hended, hW, hsame⟩ := X15.leave (v := some (.int (0 : Int32))) (fun h => by rw [Bd.returns] at h; cases h)
    refine ⟨_, _, retN X15 hx (t := .boolean) Bd.returns (by simp) (hb hby d9_49) hr, hrun, hended, _, _, rfl, ?_, ⟨_, rfl⟩, hW, hsame.mono (by decide) (by decide)⟩
    show Q_rm9 Z a1 a2 u0 u1 u2 u3 v0 v1 v2 v3 h0 n0 _ T15.heap _
    rw [e15]
    exact ⟨by rw [hv], N0, rfl⟩
  · refine own_of (T15.setTop (mkF m 11 #[.val (.ref a1), .val (.ref a2)] [])) (fun t k => XS.icmpNo X15.here hx rfl (hb hby d9_8) rfl (flt hc16).2.2.1 k) ?_
    refine own_of (T15.setTop (mkF m 12 #[.val (.ref a1), .val (.ref a2)] [(.ref a2)])) (fun t k => XS.aloadN X15.here hx rfl (hb hby d9_11) rfl rfl k) ?_
    obtain ⟨T17, X17, e17, st17⟩ := getF X15 hx hZ hown (host := "") (Or.inl (hw _ (List.mem_of_getElem? (i := 28) rfl))) Via.refl e15 G0 (g := (mkF m 12 #[.val (.ref a1), .val (.ref a2)] [(.ref a2)])) rfl rfl (hb hby d9_12)
    refine own_of (T17.setTop (mkF m 15 #[.val (.ref a1), .val (.ref a2)] [(.int v0)])) (fun t q => st17 t q) ?_
    refine own_of (T17.setTop (mkF m 16 #[.val (.ref a1), .val (.ref a2)] [(.ref a1), (.int v0)])) (fun t k => XS.aloadN X17.here hx rfl (hb hby d9_15) rfl rfl k) ?_
    obtain ⟨T18, X18, e18, st18⟩ := getF X17 hx hZ hown (host := "") (Or.inl (hw _ (List.mem_of_getElem? (i := 32) rfl))) Via.refl e17 F2 (g := (mkF m 16 #[.val (.ref a1), .val (.ref a2)] [(.ref a1), (.int v0)])) rfl rfl (hb hby d9_16)
    refine own_of (T18.setTop (mkF m 19 #[.val (.ref a1), .val (.ref a2)] [(.int u2), (.int v0)])) (fun t q => st18 t q) ?_
    by_cases hc19 : u2 < v0
    · refine own_of (T18.setTop (mkF m 48 #[.val (.ref a1), .val (.ref a2)] [])) (fun t k => XS.icmpYes X18.here hx rfl (pc0 := 19) (pc' := 48) rfl (hb hby d9_19) rfl (tlt hc19).2.2.1 (by decide) (by decide) k) ?_
      refine own_of (T18.setTop (mkF m 49 #[.val (.ref a1), .val (.ref a2)] [(.int (0 : Int32))])) (fun t k => XS.iconst X18.here hx rfl (hb hby d9_48) k) ?_
      have hv : own_mt u0 u1 u2 u3 v0 v1 v2 v3 = (0 : Int32) := by simp only [own_mt, hc16, hc19, if_true, if_false]
      obtain ⟨fs, hr, hrun, hended, hW, hsame⟩ := X18.leave (v := some (.int (0 : Int32))) (fun h => by rw [Bd.returns] at h; cases h)
      refine ⟨_, _, retN X18 hx (t := .boolean) Bd.returns (by simp) (hb hby d9_49) hr, hrun, hended, _, _, rfl, ?_, ⟨_, rfl⟩, hW, hsame.mono (by decide) (by decide)⟩
      show Q_rm9 Z a1 a2 u0 u1 u2 u3 v0 v1 v2 v3 h0 n0 _ T18.heap _
      rw [e18]
      exact ⟨by rw [hv], N0, rfl⟩
    · refine own_of (T18.setTop (mkF m 22 #[.val (.ref a1), .val (.ref a2)] [])) (fun t k => XS.icmpNo X18.here hx rfl (hb hby d9_19) rfl (flt hc19).2.2.1 k) ?_
      refine own_of (T18.setTop (mkF m 23 #[.val (.ref a1), .val (.ref a2)] [(.ref a1)])) (fun t k => XS.aloadN X18.here hx rfl (hb hby d9_22) rfl rfl k) ?_
      obtain ⟨T20, X20, e20, st20⟩ := getF X18 hx hZ hown (host := "") (Or.inl (hw _ (List.mem_of_getElem? (i := 30) rfl))) Via.refl e18 F1 (g := (mkF m 23 #[.val (.ref a1), .val (.ref a2)] [(.ref a1)])) rfl rfl (hb hby d9_23)
      refine own_of (T20.setTop (mkF m 26 #[.val (.ref a1), .val (.ref a2)] [(.int u1)])) (fun t q => st20 t q) ?_
      refine own_of (T20.setTop (mkF m 27 #[.val (.ref a1), .val (.ref a2)] [(.ref a2), (.int u1)])) (fun t k => XS.aloadN X20.here hx rfl (hb hby d9_26) rfl rfl k) ?_
      obtain ⟨T21, X21, e21, st21⟩ := getF X20 hx hZ hown (host := "") (Or.inl (hw _ (List.mem_of_getElem? (i := 34) rfl))) Via.refl e20 G3 (g := (mkF m 27 #[.val (.ref a1), .val (.ref a2)] [(.ref a2), (.int u1)])) rfl rfl (hb hby d9_27)
      refine own_of (T21.setTop (mkF m 30 #[.val (.ref a1), .val (.ref a2)] [(.int v3), (.int u1)])) (fun t q => st21 t q) ?_
      by_cases hc22 : v3 < u1
      · refine own_of (T21.setTop (mkF m 48 #[.val (.ref a1), .val (.ref a2)] [])) (fun t k => XS.icmpYes X21.here hx rfl (pc0 := 30) (pc' := 48) rfl (hb hby d9_30) rfl (tlt hc22).2.2.1 (by decide) (by decide) k) ?_
        refine own_of (T21.setTop (mkF m 49 #[.val (.ref a1), .val (.ref a2)] [(.int (0 : Int32))])) (fun t k => XS.iconst X21.here hx rfl (hb hby d9_48) k) ?_
        have hv : own_mt u0 u1 u2 u3 v0 v1 v2 v3 = (0 : Int32) := by simp only [own_mt, hc16, hc19, hc22, if_true, if_false]
        obtain ⟨fs, hr, hrun, hended, hW, hsame⟩ := X21.leave (v := some (.int (0 : Int32))) (fun h => by rw [Bd.returns] at h; cases h)
        refine ⟨_, _, retN X21 hx (t := .boolean) Bd.returns (by simp) (hb hby d9_49) hr, hrun, hended, _, _, rfl, ?_, ⟨_, rfl⟩, hW, hsame.mono (by decide) (by decide)⟩
        show Q_rm9 Z a1 a2 u0 u1 u2 u3 v0 v1 v2 v3 h0 n0 _ T21.heap _
        rw [e21]
        exact ⟨by rw [hv], N0, rfl⟩
      · refine own_of (T21.setTop (mkF m 33 #[.val (.ref a1), .val (.ref a2)] [])) (fun t k => XS.icmpNo X21.here hx rfl (hb hby d9_30) rfl (flt hc22).2.2.1 k) ?_
        refine own_of (T21.setTop (mkF m 34 #[.val (.ref a1), .val (.ref a2)] [(.ref a2)])) (fun t k => XS.aloadN X21.here hx rfl (hb hby d9_33) rfl rfl k) ?_
        obtain ⟨T23, X23, e23, st23⟩ := getF X21 hx hZ hown (host := "") (Or.inl (hw _ (List.mem_of_getElem? (i := 30) rfl))) Via.refl e21 G1 (g := (mkF m 34 #[.val (.ref a1), .val (.ref a2)] [(.ref a2)])) rfl rfl (hb hby d9_34)
        refine own_of (T23.setTop (mkF m 37 #[.val (.ref a1), .val (.ref a2)] [(.int v1)])) (fun t q => st23 t q) ?_
        refine own_of (T23.setTop (mkF m 38 #[.val (.ref a1), .val (.ref a2)] [(.ref a1), (.int v1)])) (fun t k => XS.aloadN X23.here hx rfl (hb hby d9_37) rfl rfl k) ?_
        obtain ⟨T24, X24, e24, st24⟩ := getF X23 hx hZ hown (host := "") (Or.inl (hw _ (List.mem_of_getElem? (i := 34) rfl))) Via.refl e23 F3 (g := (mkF m 38 #[.val (.ref a1), .val (.ref a2)] [(.ref a1), (.int v1)])) rfl rfl (hb hby d9_38)
        refine own_of (T24.setTop (mkF m 41 #[.val (.ref a1), .val (.ref a2)] [(.int u3), (.int v1)])) (fun t q => st24 t q) ?_
        by_cases hc25 : u3 < v1
        · refine own_of (T24.setTop (mkF m 48 #[.val (.ref a1), .val (.ref a2)] [])) (fun t k => XS.icmpYes X24.here hx rfl (pc0 := 41) (pc' := 48) rfl (hb hby d9_41) rfl (tlt hc25).2.2.1 (by decide) (by decide) k) ?_
          refine own_of (T24.setTop (mkF m 49 #[.val (.ref a1), .val (.ref a2)] [(.int (0 : Int32))])) (fun t k => XS.iconst X24.here hx rfl (hb hby d9_48) k) ?_
          have hv : own_mt u0 u1 u2 u3 v0 v1 v2 v3 = (0 : Int32) := by simp only [own_mt, hc16, hc19, hc22, hc25, if_true, if_false]
          obtain ⟨fs, hr, hrun, hended, hW, hsame⟩ := X24.leave (v := some (.int (0 : Int32))) (fun h => by rw [Bd.returns] at h; cases h)
          refine ⟨_, _, retN X24 hx (t := .boolean) Bd.returns (by simp) (hb hby d9_49) hr, hrun, hended, _, _, rfl, ?_, ⟨_, rfl⟩, hW, hsame.mono (by decide) (by decide)⟩
          show Q_rm9 Z a1 a2 u0 u1 u2 u3 v0 v1 v2 v3 h0 n0 _ T24.heap _
          rw [e24]
          exact ⟨by rw [hv], N0, rfl⟩
        · refine own_of (T24.setTop (mkF m 44 #[.val (.ref a1), .val (.ref a2)] [])) (fun t k => XS.icmpNo X24.here hx rfl (hb hby d9_41) rfl (flt hc25).2.2.1 k) ?_
          refine own_of (T24.setTop (mkF m 45 #[.val (.ref a1), .val (.ref a2)] [(.int (1 : Int32))])) (fun t k => XS.iconst X24.here hx rfl (hb hby d9_44) k) ?_
          refine own_of (T24.setTop (mkF m 49 #[.val (.ref a1), .val (.ref a2)] [(.int (1 : Int32))])) (fun t k => XS.goto X24.here hx rfl (pc0 := 45) (pc' := 49) rfl (hb hby d9_45) (by decide) (by decide) k) ?_
          have hv : own_mt u0 u1 u2 u3 v0 v1 v2 v3 = (1 : Int32) := by simp only [own_mt, hc16, hc19, hc22, hc25, if_true, if_false]
          obtain ⟨fs, hr, hrun, hended, hW, hsame⟩ := X24.leave (v := some (.int (1 : Int32))) (fun h => by rw [Bd.returns] at h; cases h)
          refine ⟨_, _, retN X24 hx (t := .boolean) Bd.returns (by simp) (hb hby d9_49) hr, hrun, hended, _, _, rfl, ?_, ⟨_, rfl⟩, hW, hsame.mono (by decide) (by decide)⟩
          show Q_rm9 Z a1 a2 u0 u1 u2 u3 v0 v1 v2 v3 h0 n0 _ T24.heap _
          rw [e24]
          exact ⟨by rw [hv], N0, rfl⟩
theorem pn_0 : plainName "com/example/swathe/swathe/CellRectangleMeetsPinLaw" = true := by first | (simp [plainName, overriddenIn]; done) | decide +kernel
theorem ef_rm0 (m : MethodId) (x0 : Int64) (x1 : Int64) (x2 : Int64) (x3 : Int64) : entryFrame m #[(.long x0), (.long x1), (.long x2), (.long x3)] maxLocals = mkF m 0 #[.val (.long x0), .second, .val (.long x1), .second, .val (.long x2), .second, .val (.long x3), .second, .unset, .unset, .unset, .unset, .unset, .unset, .unset, .unset, .unset, .unset, .unset] [] := by first | (simp [entryFrame, mkF, argsToLocals, Value.category, maxLocals]; done) | rfl
def Q_rm0 (Z : State) (q1 : Int64) (q2 : Int64) (q3 : Int64) (q4 : Int64)  (h0 : Heap) (n0 : Nat) (v : Option Value) (h : Heap) (L : List Loc) : Prop := v = some (.int 1) ∧ Fr n0 L
set_option maxRecDepth 65536 in
set_option maxHeartbeats 40000000 in
theorem rm0 (l : Launch) (Z : State) (a0 : Array Value) (hw : ∀ d ∈ tables_1, d.before a0 Z = true) (ws : List Jvm.Cond) (q1 : Int64) (q2 : Int64) (q3 : Int64) (q4 : Int64)  (h0 : Heap) (n0 : Nat) (Z0 : n0 ≤ h0.size) :
    MetFree l x (head1 (Jvm.Cond.code x code maxLocals ret :: ws) room_1) (fun a U => a = #[(.long q1), (.long q2), (.long q3), (.long q4)] ∧ Z.Warmed39 U.vm ∧ U.heap = h0) (fun _ _ _ _ _ => True) (fun _ U o U' => ∃ v L, o = .returned v ∧ Q_rm0 Z q1 q2 q3 q4  h0 n0 v U'.heap L ∧ FrameEnd U o U' L 16 128) := by
  refine MetFree.of_bodySF (plainFor_of_name pn_0) hisR ?_
  intro p e s m args below meth c s₁ Bd hml0 hP hK
  obtain ⟨rfl, hZ, hh⟩ := hP
  have hx := Bd.exec
  have hby := Bd.bytes
  have hml : c.maxLocals = 19 := hml0
  have hown : s.vm.findClass "com/example/swathe/swathe/CellRectangleMeetsPinLaw" = some m.cls := findClass_of_methodNamed Bd.named
  have hnm := (name_of_methodNamed Bd.named Bd.method).1
  have X0 : Stand p l e room_1 s m #[(.long q1), (.long q2), (.long q3), (.long q4)] below meth c s₁ [] 0 0 := Stand.of_body Bd
  have e0 : s₁.heap = h0 := by rw [← hh, Bd.state]; rfl
  have N0 := Fr.nil n0
  refine own_in ?_
  refine own_of (s₁.setTop (mkF m 0 #[.val (.long q1), .second, .val (.long q2), .second, .val (.long q3), .second, .val (.long q4), .second, .unset, .unset, .unset, .unset, .unset, .unset, .unset, .unset, .unset, .unset, .unset] [])) (fun t k => castTop (ef_rm0 m q1 q2 q3 q4) k) ?_
  refine own_of (s₁.setTop (mkF m 1 #[.val (.long q1), .second, .val (.long q2), .second, .val (.long q3), .second, .val (.long q4), .second, .unset, .unset, .unset, .unset, .unset, .unset, .unset, .unset, .unset, .unset, .unset] [(.long q1)])) (fun t k => XS.lloadN X0.here hx rfl (hb hby at_0) rfl k) ?_
  obtain ⟨_, _, ⟨T26, L26, k26, n26⟩, -, X26, ⟨Lc26, hQ26, l26, y26, z26⟩, st26⟩ := Jvm.LawKit.callS X0 hx (y := (⟨"com/example/swathe/swathe/CellRectangleMeetsPinLaw", "lo", "(J)I"⟩ : MethodName)) hown (mvT hZ (hw _ (List.mem_of_getElem? (i := 0) rfl))) (mvT hZ (hw _ (List.mem_of_getElem? (i := 1) rfl))) (mvT hZ (hw _ (List.mem_of_getElem? (i := 2) rfl))) (mvT hZ (hw _ (List.mem_of_getElem? (i := 3) rfl))) (by decide) (backOf (W := 0) (rm1 l Z a0 hw [] q1 h0 n0 Z0) hZ (hw _ (List.mem_of_getElem? (i := 3) rfl)) (hw _ (List.mem_of_getElem? (i := 2) rfl)) (by decide) (by decide)) (g := (mkF m 1 #[.val (.long q1), .second, .val (.long q2), .second, .val (.long q3), .second, .val (.long q4), .second, .unset, .unset, .unset, .unset, .unset, .unset, .unset, .unset, .unset, .unset, .unset] [(.long q1)])) rfl (by rw [hml]; rfl) (argsL := [(.long q1)]) (rest := []) (lenOf (by decide +kernel : parseMethodDescriptor "(J)I" = some ⟨[.long], some .int⟩) rfl) rfl (by show 2 * 0 + _ ≤ _; exact Nat.le_of_eq rfl) (hb hby at_1) (fun _ _ => ⟨rfl, e0, (by decide : 0 + 0 ≤ _), (by decide : 0 + 0 ≤ _)⟩)
  dsimp only [Pt.U, Pt.locs, Pt.cells, Pt.slots] at X26 l26 y26 z26 st26 hQ26
  subst l26 y26 z26
  obtain ⟨rfl, Nq26, eh26⟩ := hQ26
  have N26 := Fr.app N0 Nq26
  refine own_of (T26.setTop (mkF m 4 #[.val (.long q1), .second, .val (.long q2), .second, .val (.long q3), .second, .val (.long q4), .second, .unset, .unset, .unset, .unset, .unset, .unset, .unset, .unset, .unset, .unset, .unset] [(.int (own_lo q1))])) (fun t q => st26 t q) ?_
  refine own_of (T26.setTop (mkF m 6 #[.val (.long q1), .second, .val (.long q2), .second, .val (.long q3), .second, .val (.long q4), .second, .val (.int (own_lo q1)), .unset, .unset, .unset, .unset, .unset, .unset, .unset, .unset, .unset, .unset] [])) (fun t k => XS.istore X26.here hx rfl (hb hby at_4) rfl (l' := #[.val (.long q1), .second, .val (.long q2), .second, .val (.long q3), .second, .val (.long q4), .second, .val (.int (own_lo q1)), .unset, .unset, .unset, .unset, .unset, .unset, .unset, .unset, .unset, .unset]) rfl k) ?_
  refine own_of (T26.setTop (mkF m 7 #[.val (.long q1), .second, .val (.long q2), .second, .val (.long q3), .second, .val (.long q4), .second, .val (.int (own_lo q1)), .unset, .unset, .unset, .unset, .unset, .unset, .unset, .unset, .unset, .unset] [(.long q1)])) (fun t k => XS.lloadN X26.here hx rfl (hb hby at_6) rfl k) ?_
  obtain ⟨_, _, ⟨T27, L27, k27, n27⟩, -, X27, ⟨Lc27, hQ27, l27, y27, z27⟩, st27⟩ := Jvm.LawKit.callS X26 hx (y := (⟨"com/example/swathe/swathe/CellRectangleMeetsPinLaw", "hi", "(J)I"⟩ : MethodName)) hown (mvT hZ (hw _ (List.mem_of_getElem? (i := 8) rfl))) (mvT hZ (hw _ (List.mem_of_getElem? (i := 9) rfl))) (mvT hZ (hw _ (List.mem_of_getElem? (i := 2) rfl))) (mvT hZ (hw _ (List.mem_of_getElem? (i := 10) rfl))) (by decide) (backOf (W := 0) (rm3 l Z a0 hw [] q1 h0 n0 Z0) hZ (hw _ (List.mem_of_getElem? (i := 10) rfl)) (hw _ (List.mem_of_getElem? (i := 2) rfl)) (by decide) (by decide)) (g := (mkF m 7 #[.val (.long q1), .second, .val (.long q2), .second, .val (.long q3), .second, .val (.long q4), .second, .val (.int (own_lo q1)), .unset, .unset, .unset, .unset, .unset, .unset, .unset, .unset, .unset, .unset] [(.long q1)])) rfl (by rw [hml]; rfl) (argsL := [(.long q1)]) (rest := []) (lenOf (by decide +kernel : parseMethodDescriptor "(J)I" = some ⟨[.long], some .int⟩) rfl) rfl (by show 2 * 0 + _ ≤ _; exact Nat.le_of_eq rfl) (hb hby at_7) (fun _ _ => ⟨rfl, eh26, (by decide : 0 + 0 ≤ _), (by decide : 0 + 0 ≤ _)⟩)
  dsimp only [Pt.U, Pt.locs, Pt.cells, Pt.slots] at X27 l27 y27 z27 st27 hQ27
  subst l27 y27 z27
  obtain ⟨rfl, Nq27, eh27⟩ := hQ27
  have N27 := Fr.app N26 Nq27
  refine own_of (T27.setTop (mkF m 10 #[.val (.long q1), .second, .val (.long q2), .second, .val (.long q3), .second, .val (.long q4), .second, .val (.int (own_lo q1)), .unset, .unset, .unset, .unset, .unset, .unset, .unset, .unset, .unset, .unset] [(.int (own_hi q1))])) (fun t q => st27 t q) ?_
  refine own_of (T27.setTop (mkF m 12 #[.val (.long q1), .second, .val (.long q2), .second, .val (.long q3), .second, .val (.long q4), .second, .val (.int (own_lo q1)), .val (.int (own_hi q1)), .unset, .unset, .unset, .unset, .unset, .unset, .unset, .unset, .unset] [])) (fun t k => XS.istore X27.here hx rfl (hb hby at_10) rfl (l' := #[.val (.long q1), .second, .val (.long q2), .second, .val (.long q3), .second, .val (.long q4), .second, .val (.int (own_lo q1)), .val (.int (own_hi q1)), .unset, .unset, .unset, .unset, .unset, .unset, .unset, .unset, .unset]) rfl k) ?_
  refine own_of (T27.setTop (mkF m 13 #[.val (.long q1), .second, .val (.long q2), .second, .val (.long q3), .second, .val (.long q4), .second, .val (.int (own_lo q1)), .val (.int (own_hi q1)), .unset, .unset, .unset, .unset, .unset, .unset, .unset, .unset, .unset] [(.long q2)])) (fun t k => XS.lloadN X27.here hx rfl (hb hby at_12) rfl k) ?_
  obtain ⟨_, _, ⟨T28, L28, k28, n28⟩, -, X28, ⟨Lc28, hQ28, l28, y28, z28⟩, st28⟩ := Jvm.LawKit.callS X27 hx (y := (⟨"com/example/swathe/swathe/CellRectangleMeetsPinLaw", "lo", "(J)I"⟩ : MethodName)) hown (mvT hZ (hw _ (List.mem_of_getElem? (i := 0) rfl))) (mvT hZ (hw _ (List.mem_of_getElem? (i := 1) rfl))) (mvT hZ (hw _ (List.mem_of_getElem? (i := 2) rfl))) (mvT hZ (hw _ (List.mem_of_getElem? (i := 3) rfl))) (by decide) (backOf (W := 0) (rm1 l Z a0 hw [] q2 h0 n0 Z0) hZ (hw _ (List.mem_of_getElem? (i := 3) rfl)) (hw _ (List.mem_of_getElem? (i := 2) rfl)) (by decide) (by decide)) (g := (mkF m 13 #[.val (.long q1), .second, .val (.long q2), .second, .val (.long q3), .second, .val (.long q4), .second, .val (.int (own_lo q1)), .val (.int (own_hi q1)), .unset, .unset, .unset, .unset, .unset, .unset, .unset, .unset, .unset] [(.long q2)])) rfl (by rw [hml]; rfl) (argsL := [(.long q2)]) (rest := []) (lenOf (by decide +kernel : parseMethodDescriptor "(J)I" = some ⟨[.long], some .int⟩) rfl) rfl (by show 2 * 0 + _ ≤ _; exact Nat.le_of_eq rfl) (hb hby at_13) (fun _ _ => ⟨rfl, eh27, (by decide : 0 + 0 ≤ _), (by decide : 0 + 0 ≤ _)⟩)
  dsimp only [Pt.U, Pt.locs, Pt.cells, Pt.slots] at X28 l28 y28 z28 st28 hQ28
  subst l28 y28 z28
  obtain ⟨rfl, Nq28, eh28⟩ := hQ28
  have N28 := Fr.app N27 Nq28
  refine own_of (T28.setTop (mkF m 16 #[.val (.long q1), .second, .val (.long q2), .second, .val (.long q3), .second, .val (.long q4), .second, .val (.int (own_lo q1)), .val (.int (own_hi q1)), .unset, .unset, .unset, .unset, .unset, .unset, .unset, .unset, .unset] [(.int (own_lo q2))])) (fun t q => st28 t q) ?_
  refine own_of (T28.setTop (mkF m 18 #[.val (.long q1), .second, .val (.long q2), .second, .val (.long q3), .second, .val (.long q4), .second, .val (.int (own_lo q1)), .val (.int (own_hi q1)), .val (.int (own_lo q2)), .unset, .unset, .unset, .unset, .unset, .unset, .unset, .unset] [])) (fun t k => XS.istore X28.here hx rfl (hb hby at_16) rfl (l' := #[.val (.long q1), .second, .val (.long q2), .second, .val (.long q3), .second, .val (.long q4), .second, .val (.int (own_lo q1)), .val (.int (own_hi q1)), .val (.int (own_lo q2)), .unset, .unset, .unset, .unset, .unset, .unset, .unset, .unset]) rfl k) ?_
  refine own_of (T28.setTop (mkF m 19 #[.val (.long q1), .second, .val (.long q2), .second, .val (.long q3), .second, .val (.long q4), .second, .val (.int (own_lo q1)), .val (.int (own_hi q1)), .val (.int (own_lo q2)), .unset, .unset, .unset, .unset, .unset, .unset, .unset, .unset] [(.long q2)])) (fun t k => XS.lloadN X28.here hx rfl (hb hby at_18) rfl k) ?_
  obtain ⟨_, _, ⟨T29, L29, k29, n29⟩, -, X29, ⟨Lc29, hQ29, l29, y29, z29⟩, st29⟩ := Jvm.LawKit.callS X28 hx (y := (⟨"com/example/swathe/swathe/CellRectangleMeetsPinLaw", "hi", "(J)I"⟩ : MethodName)) hown (mvT hZ (hw _ (List.mem_of_getElem? (i := 8) rfl))) (mvT hZ (hw _ (List.mem_of_getElem? (i := 9) rfl))) (mvT hZ (hw _ (List.mem_of_getElem? (i := 2) rfl))) (mvT hZ (hw _ (List.mem_of_getElem? (i := 10) rfl))) (by decide) (backOf (W := 0) (rm3 l Z a0 hw [] q2 h0 n0 Z0) hZ (hw _ (List.mem_of_getElem? (i := 10) rfl)) (hw _ (List.mem_of_getElem? (i := 2) rfl)) (by decide) (by decide)) (g := (mkF m 19 #[.val (.long q1), .second, .val (.long q2), .second, .val (.long q3), .second, .val (.long q4), .second, .val (.int (own_lo q1)), .val (.int (own_hi q1)), .val (.int (own_lo q2)), .unset, .unset, .unset, .unset, .unset, .unset, .unset, .unset] [(.long q2)])) rfl (by rw [hml]; rfl) (argsL := [(.long q2)]) (rest := []) (lenOf (by decide +kernel : parseMethodDescriptor "(J)I" = some ⟨[.long], some .int⟩) rfl) rfl (by show 2 * 0 + _ ≤ _; exact Nat.le_of_eq rfl) (hb hby at_19) (fun _ _ => ⟨rfl, eh28, (by decide : 0 + 0 ≤ _), (by decide : 0 + 0 ≤ _)⟩)
  dsimp only [Pt.U, Pt.locs, Pt.cells, Pt.slots] at X29 l29 y29 z29 st29 hQ29
  subst l29 y29 z29
  obtain ⟨rfl, Nq29, eh29⟩ := hQ29
  have N29 := Fr.app N28 Nq29
  refine own_of (T29.setTop (mkF m 22 #[.val (.long q1), .second, .val (.long q2), .second, .val (.long q3), .second, .val (.long q4), .second, .val (.int (own_lo q1)), .val (.int (own_hi q1)), .val (.int (own_lo q2)), .unset, .unset, .unset, .unset, .unset, .unset, .unset, .unset] [(.int (own_hi q2))])) (fun t q => st29 t q) ?_
  refine own_of (T29.setTop (mkF m 24 #[.val (.long q1), .second, .val (.long q2), .second, .val (.long q3), .second, .val (.long q4), .second, .val (.int (own_lo q1)), .val (.int (own_hi q1)), .val (.int (own_lo q2)), .val (.int (own_hi q2)), .unset, .unset, .unset, .unset, .unset, .unset, .unset] [])) (fun t k => XS.istore X29.here hx rfl (hb hby at_22) rfl (l' := #[.val (.long q1), .second, .val (.long q2), .second, .val (.long q3), .second, .val (.long q4), .second, .val (.int (own_lo q1)), .val (.int (own_hi q1)), .val (.int (own_lo q2)), .val (.int (own_hi q2)), .unset, .unset, .unset, .unset, .unset, .unset, .unset]) rfl k) ?_
  refine own_of (T29.setTop (mkF m 26 #[.val (.long q1), .second, .val (.long q2), .second, .val (.long q3), .second, .val (.long q4), .second, .val (.int (own_lo q1)), .val (.int (own_hi q1)), .val (.int (own_lo q2)), .val (.int (own_hi q2)), .unset, .unset, .unset, .unset, .unset, .unset, .unset] [(.long q3)])) (fun t k => XS.lload X29.here hx rfl (hb hby at_24) rfl k) ?_
  obtain ⟨_, _, ⟨T30, L30, k30, n30⟩, -, X30, ⟨Lc30, hQ30, l30, y30, z30⟩, st30⟩ := Jvm.LawKit.callS X29 hx (y := (⟨"com/example/swathe/swathe/CellRectangleMeetsPinLaw", "lo", "(J)I"⟩ : MethodName)) hown (mvT hZ (hw _ (List.mem_of_getElem? (i := 0) rfl))) (mvT hZ (hw _ (List.mem_of_getElem? (i := 1) rfl))) (mvT hZ (hw _ (List.mem_of_getElem? (i := 2) rfl))) (mvT hZ (hw _ (List.mem_of_getElem? (i := 3) rfl))) (by decide) (backOf (W := 0) (rm1 l Z a0 hw [] q3 h0 n0 Z0) hZ (hw _ (List.mem_of_getElem? (i := 3) rfl)) (hw _ (List.mem_of_getElem? (i := 2) rfl)) (by decide) (by decide)) (g := (mkF m 26 #[.val (.long q1), .second, .val (.long q2), .second, .val (.long q3), .second, .val (.long q4), .second, .val (.int (own_lo q1)), .val (.int (own_hi q1)), .val (.int (own_lo q2)), .val (.int (own_hi q2)), .unset, .unset, .unset, .unset, .unset, .unset, .unset] [(.long q3)])) rfl (by rw [hml]; rfl) (argsL := [(.long q3)]) (rest := []) (lenOf (by decide +kernel : parseMethodDescriptor "(J)I" = some ⟨[.long], some .int⟩) rfl) rfl (by show 2 * 0 + _ ≤ _; exact Nat.le_of_eq rfl) (hb hby at_26) (fun _ _ => ⟨rfl, eh29, (by decide : 0 + 0 ≤ _), (by decide : 0 + 0 ≤ _)⟩)
  dsimp only [Pt.U, Pt.locs, Pt.cells, Pt.slots] at X30 l30 y30 z30 st30 hQ30
  subst l30 y30 z30
  obtain ⟨rfl, Nq30, eh30⟩ := hQ30
  have N30 := Fr.app N29 Nq30
  refine own_of (T30.setTop (mkF m 29 #[.val (.long q1), .second, .val (.long q2), .second, .val (.long q3), .second, .val (.long q4), .second, .val (.int (own_lo q1)), .val (.int (own_hi q1)), .val (.int (own_lo q2)), .val (.int (own_hi q2)), .unset, .unset, .unset, .unset, .unset, .unset, .unset] [(.int (own_lo q3))])) (fun t q => st30 t q) ?_
  refine own_of (T30.setTop (mkF m 31 #[.val (.long q1), .second, .val (.long q2), .second, .val (.long q3), .second, .val (.long q4), .second, .val (.int (own_lo q1)), .val (.int (own_hi q1)), .val (.int (own_lo q2)), .val (.int (own_hi q2)), .val (.int (own_lo q3)), .unset, .unset, .unset, .unset, .unset, .unset] [])) (fun t k => XS.istore X30.here hx rfl (hb hby at_29) rfl (l' := #[.val (.long q1), .second, .val (.long q2), .second, .val (.long q3), .second, .val (.long q4), .second, .val (.int (own_lo q1)), .val (.int (own_hi q1)), .val (.int (own_lo q2)), .val (.int (own_hi q2)), .val (.int (own_lo q3)), .unset, .unset, .unset, .unset, .unset, .unset]) rfl k) ?_
  refine own_of (T30.setTop (mkF m 33 #[.val (.long q1), .second, .val (.long q2), .second, .val (.long q3), .second, .val (.long q4), .second, .val (.int (own_lo q1)), .val (.int (own_hi q1)), .val (.int (own_lo q2)), .val (.int (own_hi q2)), .val (.int (own_lo q3)), .unset, .unset, .unset, .unset, .unset, .unset] [(.long q3)])) (fun t k => XS.lload X30.here hx rfl (hb hby at_31) rfl k) ?_
  obtain ⟨_, _, ⟨T31, L31, k31, n31⟩, -, X31, ⟨Lc31, hQ31, l31, y31, z31⟩, st31⟩ := Jvm.LawKit.callS X30 hx (y := (⟨"com/example/swathe/swathe/CellRectangleMeetsPinLaw", "hi", "(J)I"⟩ : MethodName)) hown (mvT hZ (hw _ (List.mem_of_getElem? (i := 8) rfl))) (mvT hZ (hw _ (List.mem_of_getElem? (i := 9) rfl))) (mvT hZ (hw _ (List.mem_of_getElem? (i := 2) rfl))) (mvT hZ (hw _ (List.mem_of_getElem? (i := 10) rfl))) (by decide) (backOf (W := 0) (rm3 l Z a0 hw [] q3 h0 n0 Z0) hZ (hw _ (List.mem_of_getElem? (i := 10) rfl)) (hw _ (List.mem_of_getElem? (i := 2) rfl)) (by decide) (by decide)) (g := (mkF m 33 #[.val (.long q1), .second, .val (.long q2), .second, .val (.long q3), .second, .val (.long q4), .second, .val (.int (own_lo q1)), .val (.int (own_hi q1)), .val (.int (own_lo q2)), .val (.int (own_hi q2)), .val (.int (own_lo q3)), .unset, .unset, .unset, .unset, .unset, .unset] [(.long q3)])) rfl (by rw [hml]; rfl) (argsL := [(.long q3)]) (rest := []) (lenOf (by decide +kernel : parseMethodDescriptor "(J)I" = some ⟨[.long], some .int⟩) rfl) rfl (by show 2 * 0 + _ ≤ _; exact Nat.le_of_eq rfl) (hb hby at_33) (fun _ _ => ⟨rfl, eh30, (by decide : 0 + 0 ≤ _), (by decide : 0 + 0 ≤ _)⟩)
  dsimp only [Pt.U, Pt.locs, Pt.cells, Pt.slots] at X31 l31 y31 z31 st31 hQ31
  subst l31 y31 z31
  obtain ⟨rfl, Nq31, eh31⟩ := hQ31
  have N31 := Fr.app N30 Nq31
  refine own_of (T31.setTop (mkF m 36 #[.val (.long q1), .second, .val (.long q2), .second, .val (.long q3), .second, .val (.long q4), .second, .val (.int (own_lo q1)), .val (.int (own_hi q1)), .val (.int (own_lo q2)), .val (.int (own_hi q2)), .val (.int (own_lo q3)), .unset, .unset, .unset, .unset, .unset, .unset] [(.int (own_hi q3))])) (fun t q => st31 t q) ?_
  refine own_of (T31.setTop (mkF m 38 #[.val (.long q1), .second, .val (.long q2), .second, .val (.long q3), .second, .val (.long q4), .second, .val (.int (own_lo q1)), .val (.int (own_hi q1)), .val (.int (own_lo q2)), .val (.int (own_hi q2)), .val (.int (own_lo q3)), .val (.int (own_hi q3)), .unset, .unset, .unset, .unset, .unset] [])) (fun t k => XS.istore X31.here hx rfl (hb hby at_36) rfl (l' := #[.val (.long q1), .second, .val (.long q2), .second, .val (.long q3), .second, .val (.long q4), .second, .val (.int (own_lo q1)), .val (.int (own_hi q1)), .val (.int (own_lo q2)), .val (.int (own_hi q2)), .val (.int (own_lo q3)), .val (.int (own_hi q3)), .unset, .unset, .unset, .unset, .unset]) rfl k) ?_
  refine own_of (T31.setTop (mkF m 40 #[.val (.long q1), .second, .val (.long q2), .second, .val (.long q3), .second, .val (.long q4), .second, .val (.int (own_lo q1)), .val (.int (own_hi q1)), .val (.int (own_lo q2)), .val (.int (own_hi q2)), .val (.int (own_lo q3)), .val (.int (own_hi q3)), .unset, .unset, .unset, .unset, .unset] [(.long q4)])) (fun t k => XS.lload X31.here hx rfl (hb hby at_38) rfl k) ?_
  obtain ⟨_, _, ⟨T32, L32, k32, n32⟩, -, X32, ⟨Lc32, hQ32, l32, y32, z32⟩, st32⟩ := Jvm.LawKit.callS X31 hx (y := (⟨"com/example/swathe/swathe/CellRectangleMeetsPinLaw", "lo", "(J)I"⟩ : MethodName)) hown (mvT hZ (hw _ (List.mem_of_getElem? (i := 0) rfl))) (mvT hZ (hw _ (List.mem_of_getElem? (i := 1) rfl))) (mvT hZ (hw _ (List.mem_of_getElem? (i := 2) rfl))) (mvT hZ (hw _ (List.mem_of_getElem? (i := 3) rfl))) (by decide) (backOf (W := 0) (rm1 l Z a0 hw [] q4 h0 n0 Z0) hZ (hw _ (List.mem_of_getElem? (i := 3) rfl)) (hw _ (List.mem_of_getElem? (i := 2) rfl)) (by decide) (by decide)) (g := (mkF m 40 #[.val (.long q1), .second, .val (.long q2), .second, .val (.long q3), .second, .val (.long q4), .second, .val (.int (own_lo q1)), .val (.int (own_hi q1)), .val (.int (own_lo q2)), .val (.int (own_hi q2)), .val (.int (own_lo q3)), .val (.int (own_hi q3)), .unset, .unset, .unset, .unset, .unset] [(.long q4)])) rfl (by rw [hml]; rfl) (argsL := [(.long q4)]) (rest := []) (lenOf (by decide +kernel : parseMethodDescriptor "(J)I" = some ⟨[.long], some .int⟩) rfl) rfl (by show 2 * 0 + _ ≤ _; exact Nat.le_of_eq rfl) (hb hby at_40) (fun _ _ => ⟨rfl, eh31, (by decide : 0 + 0 ≤ _), (by decide : 0 + 0 ≤ _)⟩)
  dsimp only [Pt.U, Pt.locs, Pt.cells, Pt.slots] at X32 l32 y32 z32 st32 hQ32
  subst l32 y32 z32
  obtain ⟨rfl, Nq32, eh32⟩ := hQ32
  have N32 := Fr.app N31 Nq32
  refine own_of (T32.setTop (mkF m 43 #[.val (.long q1), .second, .val (.long q2), .second, .val (.long q3), .second, .val (.long q4), .second, .val (.int (own_lo q1)), .val (.int (own_hi q1)), .val (.int (own_lo q2)), .val (.int (own_hi q2)), .val (.int (own_lo q3)), .val (.int (own_hi q3)), .unset, .unset, .unset, .unset, .unset] [(.int (own_lo q4))])) (fun t q => st32 t q) ?_
  refine own_of (T32.setTop (mkF m 45 #[.val (.long q1), .second, .val (.long q2), .second, .val (.long q3), .second, .val (.long q4), .second, .val (.int (own_lo q1)), .val (.int (own_hi q1)), .val (.int (own_lo q2)), .val (.int (own_hi q2)), .val (.int (own_lo q3)), .val (.int (own_hi q3)), .val (.int (own_lo q4)), .unset, .unset, .unset, .unset] [])) (fun t k => XS.istore X32.here hx rfl (hb hby at_43) rfl (l' := #[.val (.long q1), .second, .val (.long q2), .second, .val (.long q3), .second, .val (.long q4), .second, .val (.int (own_lo q1)), .val (.int (own_hi q1)), .val (.int (own_lo q2)), .val (.int (own_hi q2)), .val (.int (own_lo q3)), .val (.int (own_hi q3)), .val (.int (own_lo q4)), .unset, .unset, .unset, .unset]) rfl k) ?_
  refine own_of (T32.setTop (mkF m 47 #[.val (.long q1), .second, .val (.long q2), .second, .val (.long q3), .second, .val (.long q4), .second, .val (.int (own_lo q1)), .val (.int (own_hi q1)), .val (.int (own_lo q2)), .val (.int (own_hi q2)), .val (.int (own_lo q3)), .val (.int (own_hi q3)), .val (.int (own_lo q4)), .unset, .unset, .unset, .unset] [(.long q4)])) (fun t k => XS.lload X32.here hx rfl (hb hby at_45) rfl k) ?_
  obtain ⟨_, _, ⟨T33, L33, k33, n33⟩, -, X33, ⟨Lc33, hQ33, l33, y33, z33⟩, st33⟩ := Jvm.LawKit.callS X32 hx (y := (⟨"com/example/swathe/swathe/CellRectangleMeetsPinLaw", "hi", "(J)I"⟩ : MethodName)) hown (mvT hZ (hw _ (List.mem_of_getElem? (i := 8) rfl))) (mvT hZ (hw _ (List.mem_of_getElem? (i := 9) rfl))) (mvT hZ (hw _ (List.mem_of_getElem? (i := 2) rfl))) (mvT hZ (hw _ (List.mem_of_getElem? (i := 10) rfl))) (by decide) (backOf (W := 0) (rm3 l Z a0 hw [] q4 h0 n0 Z0) hZ (hw _ (List.mem_of_getElem? (i := 10) rfl)) (hw _ (List.mem_of_getElem? (i := 2) rfl)) (by decide) (by decide)) (g := (mkF m 47 #[.val (.long q1), .second, .val (.long q2), .second, .val (.long q3), .second, .val (.long q4), .second, .val (.int (own_lo q1)), .val (.int (own_hi q1)), .val (.int (own_lo q2)), .val (.int (own_hi q2)), .val (.int (own_lo q3)), .val (.int (own_hi q3)), .val (.int (own_lo q4)), .unset, .unset, .unset, .unset] [(.long q4)])) rfl (by rw [hml]; rfl) (argsL := [(.long q4)]) (rest := []) (lenOf (by decide +kernel : parseMethodDescriptor "(J)I" = some ⟨[.long], some .int⟩) rfl) rfl (by show 2 * 0 + _ ≤ _; exact Nat.le_of_eq rfl) (hb hby at_47) (fun _ _ => ⟨rfl, eh32, (by decide : 0 + 0 ≤ _), (by decide : 0 + 0 ≤ _)⟩)
  dsimp only [Pt.U, Pt.locs, Pt.cells, Pt.slots] at X33 l33 y33 z33 st33 hQ33
  subst l33 y33 z33
  obtain ⟨rfl, Nq33, eh33⟩ := hQ33
  have N33 := Fr.app N32 Nq33
  refine own_of (T33.setTop (mkF m 50 #[.val (.long q1), .second, .val (.long q2), .second, .val (.long q3), .second, .val (.long q4), .second, .val (.int (own_lo q1)), .val (.int (own_hi q1)), .val (.int (own_lo q2)), .val (.int (own_hi q2)), .val (.int (own_lo q3)), .val (.int (own_hi q3)), .val (.int (own_lo q4)), .unset, .unset, .unset, .unset] [(.int (own_hi q4))])) (fun t q => st33 t q) ?_
  refine own_of (T33.setTop (mkF m 52 #[.val (.long q1), .second, .val (.long q2), .second, .val (.long q3), .second, .val (.long q4), .second, .val (.int (own_lo q1)), .val (.int (own_hi q1)), .val (.int (own_lo q2)), .val (.int (own_hi q2)), .val (.int (own_lo q3)), .val (.int (own_hi q3)), .val (.int (own_lo q4)), .val (.int (own_hi q4)), .unset, .unset, .unset] [])) (fun t k => XS.istore X33.here hx rfl (hb hby at_50) rfl (l' := #[.val (.long q1), .second, .val (.long q2), .second, .val (.long q3), .second, .val (.long q4), .second, .val (.int (own_lo q1)), .val (.int (own_hi q1)), .val (.int (own_lo q2)), .val (.int (own_hi q2)), .val (.int (own_lo q3)), .val (.int (own_hi q3)), .val (.int (own_lo q4)), .val (.int (own_hi q4)), .unset, .unset, .unset]) rfl k) ?_
  have hl0 := own_lohi q1
  generalize own_lo q1 = ac at *
  generalize own_hi q1 = aC at *
  have hl1 := own_lohi q2
  generalize own_lo q2 = ar at *
  generalize own_hi q2 = aR at *
  have hl2 := own_lohi q3
  generalize own_lo q3 = bc at *
  generalize own_hi q3 = bC at *
  have hl3 := own_lohi q4
  generalize own_lo q4 = br at *
  generalize own_hi q4 = bR at *
  show own_Dn p e below _ (T33.setTop (mkF m 52 #[.val (.long q1), .second, .val (.long q2), .second, .val (.long q3), .second, .val (.long q4), .second, .val (.int ac), .val (.int aC), .val (.int ar), .val (.int aR), .val (.int bc), .val (.int bC), .val (.int br), .val (.int bR), .unset, .unset, .unset] []))
  obtain ⟨T34, h34, X34, e34, E34, A34, D34, -, st34⟩ := newO X33 hx hZ hown (hw _ (List.mem_of_getElem? (i := 14) rfl)) (hw _ (List.mem_of_getElem? (i := 15) rfl)) (hw _ (List.mem_of_getElem? (i := 16) rfl)) eh33 (g := (mkF m 52 #[.val (.long q1), .second, .val (.long q2), .second, .val (.long q3), .second, .val (.long q4), .second, .val (.int ac), .val (.int aC), .val (.int ar), .val (.int aR), .val (.int bc), .val (.int bC), .val (.int br), .val (.int bR), .unset, .unset, .unset] [])) rfl (hb hby at_52) (by decide) (by decide)
  obtain ⟨a34, g34⟩ : ∃ z, z = h0.size := ⟨_, rfl⟩
  rw [← g34] at A34 D34 st34
  have fn34_0 : Fld Z h34 a34 "com/example/swathe/swathe/CellRectangle" "minColumn" "I" (.int (0 : Int32)) := D34 (Or.inr (hw _ (List.mem_of_getElem? (i := 29) rfl))) (ty := .int) (by decide)
  have fn34_1 : Fld Z h34 a34 "com/example/swathe/swathe/CellRectangle" "minRow" "I" (.int (0 : Int32)) := D34 (Or.inr (hw _ (List.mem_of_getElem? (i := 31) rfl))) (ty := .int) (by decide)
  have fn34_2 : Fld Z h34 a34 "com/example/swathe/swathe/CellRectangle" "maxColumn" "I" (.int (0 : Int32)) := D34 (Or.inr (hw _ (List.mem_of_getElem? (i := 33) rfl))) (ty := .int) (by decide)
  have fn34_3 : Fld Z h34 a34 "com/example/swathe/swathe/CellRectangle" "maxRow" "I" (.int (0 : Int32)) := D34 (Or.inr (hw _ (List.mem_of_getElem? (i := 35) rfl))) (ty := .int) (by decide)
  have ge_a34 : n0 ≤ a34 := Nat.le_trans Z0 (Nat.le_of_eq g34.symm)
  have Z34 : n0 ≤ h34.size := Nat.le_trans Z0 E34.1
  refine own_of (T34.setTop (mkF m 55 #[.val (.long q1), .second, .val (.long q2), .second, .val (.long q3), .second, .val (.long q4), .second, .val (.int ac), .val (.int aC), .val (.int ar), .val (.int aR), .val (.int bc), .val (.int bC), .val (.int br), .val (.int bR), .unset, .unset, .unset] [(.ref a34)])) (fun t q => st34 t q) ?_
  refine own_of (T34.setTop (mkF m 56 #[.val (.long q1), .second, .val (.long q2), .second, .val (.long q3), .second, .val (.long q4), .second, .val (.int ac), .val (.int aC), .val (.int ar), .val (.int aR), .val (.int bc), .val (.int bC), .val (.int br), .val (.int bR), .unset, .unset, .unset] [(.ref a34), (.ref a34)])) (fun t k => XS.dup X34.here hx rfl (hb hby at_55) rfl rfl k) ?_
  refine own_of (T34.setTop (mkF m 58 #[.val (.long q1), .second, .val (.long q2), .second, .val (.long q3), .second, .val (.long q4), .second, .val (.int ac), .val (.int aC), .val (.int ar), .val (.int aR), .val (.int bc), .val (.int bC), .val (.int br), .val (.int bR), .unset, .unset, .unset] [(.int ac), (.ref a34), (.ref a34)])) (fun t k => XS.iload X34.here hx rfl (hb hby at_56) rfl k) ?_
  refine own_of (T34.setTop (mkF m 60 #[.val (.long q1), .second, .val (.long q2), .second, .val (.long q3), .second, .val (.long q4), .second, .val (.int ac), .val (.int aC), .val (.int ar), .val (.int aR), .val (.int bc), .val (.int bC), .val (.int br), .val (.int bR), .unset, .unset, .unset] [(.int ar), (.int ac), (.ref a34), (.ref a34)])) (fun t k => XS.iload X34.here hx rfl (hb hby at_58) rfl k) ?_
  refine own_of (T34.setTop (mkF m 62 #[.val (.long q1), .second, .val (.long q2), .second, .val (.long q3), .second, .val (.long q4), .second, .val (.int ac), .val (.int aC), .val (.int ar), .val (.int aR), .val (.int bc), .val (.int bC), .val (.int br), .val (.int bR), .unset, .unset, .unset] [(.int aC), (.int ar), (.int ac), (.ref a34), (.ref a34)])) (fun t k => XS.iload X34.here hx rfl (hb hby at_60) rfl k) ?_
  refine own_of (T34.setTop (mkF m 64 #[.val (.long q1), .second, .val (.long q2), .second, .val (.long q3), .second, .val (.long q4), .second, .val (.int ac), .val (.int aC), .val (.int ar), .val (.int aR), .val (.int bc), .val (.int bC), .val (.int br), .val (.int bR), .unset, .unset, .unset] [(.int aR), (.int aC), (.int ar), (.int ac), (.ref a34), (.ref a34)])) (fun t k => XS.iload X34.here hx rfl (hb hby at_62) rfl k) ?_
  obtain ⟨_, _, ⟨T35, L35, k35, n35⟩, -, X35, ⟨Lc35, hQ35, l35, y35, z35⟩, st35⟩ := X34.specialBack hx (y := (⟨"com/example/swathe/swathe/CellRectangle", "<init>", "(IIII)V"⟩ : MethodName)) rfl hown (mvT hZ (hw _ (List.mem_of_getElem? (i := 17) rfl))) (mvT hZ (hw _ (List.mem_of_getElem? (i := 18) rfl))) (mvT hZ (hw _ (List.mem_of_getElem? (i := 19) rfl))) (by decide) (backOf (W := 1) (rm5 l Z a0 hw [] a34 ac ar aC aR h34 n0 Z34 A34 fn34_0 fn34_1 fn34_2 fn34_3 ge_a34 hl0 hl1) hZ (hw _ (List.mem_of_getElem? (i := 19) rfl)) (hw _ (List.mem_of_getElem? (i := 16) rfl)) (by decide) (by decide)) (g := (mkF m 64 #[.val (.long q1), .second, .val (.long q2), .second, .val (.long q3), .second, .val (.long q4), .second, .val (.int ac), .val (.int aC), .val (.int ar), .val (.int aR), .val (.int bc), .val (.int bC), .val (.int br), .val (.int bR), .unset, .unset, .unset] [(.int aR), (.int aC), (.int ar), (.int ac), (.ref a34), (.ref a34)])) rfl (by rw [hml]; rfl) (Steps.refl _) (a := a34) (argsL := [(.int ac), (.int ar), (.int aC), (.int aR)]) (rest := [(.ref a34)]) (lenOf (by decide +kernel : parseMethodDescriptor "(IIII)V" = some ⟨[.int, .int, .int, .int], none⟩) rfl) rfl (by show 2 * 0 + _ ≤ _; exact Nat.le_of_eq rfl) (hb hby at_64) (fun _ _ => ⟨rfl, e34, (by decide : 1 + 0 ≤ _), (by decide : 4 + 0 ≤ _)⟩)
  dsimp only [Pt.U, Pt.locs, Pt.cells, Pt.slots] at X35 l35 y35 z35 st35 hQ35
  subst l35 y35 z35
  obtain ⟨rfl, Nq35, Kq35, fa35, fb35, fc35, fd35⟩ := hQ35
  have N35 := Fr.app N33 Nq35
  refine own_tr (T35.setTop (mkF m 67 #[.val (.long q1), .second, .val (.long q2), .second, .val (.long q3), .second, .val (.long q4), .second, .val (.int ac), .val (.int aC), .val (.int ar), .val (.int aR), .val (.int bc), .val (.int bC), .val (.int br), .val (.int bR), .unset, .unset, .unset] [(.ref a34)])) st35 ?_
  have f35_0 := A34.keep Kq35
  have Z35 : n0 ≤ T35.heap.size := Nat.le_trans Z34 Kq35.1
  refine own_of (T35.setTop (mkF m 69 #[.val (.long q1), .second, .val (.long q2), .second, .val (.long q3), .second, .val (.long q4), .second, .val (.int ac), .val (.int aC), .val (.int ar), .val (.int aR), .val (.int bc), .val (.int bC), .val (.int br), .val (.int bR), .val (.ref a34), .unset, .unset] [])) (fun t k => XS.astore X35.here hx rfl (hb hby at_67) rfl rfl (l' := #[.val (.long q1), .second, .val (.long q2), .second, .val (.long q3), .second, .val (.long q4), .second, .val (.int ac), .val (.int aC), .val (.int ar), .val (.int aR), .val (.int bc), .val (.int bC), .val (.int br), .val (.int bR), .val (.ref a34), .unset, .unset]) rfl k) ?_
  obtain ⟨T36, h36, X36, e36, E36, A36, D36, -, st36⟩ := newO X35 hx hZ hown (hw _ (List.mem_of_getElem? (i := 14) rfl)) (hw _ (List.mem_of_getElem? (i := 15) rfl)) (hw _ (List.mem_of_getElem? (i := 16) rfl)) rfl (g := (mkF m 69 #[.val (.long q1), .second, .val (.long q2), .second, .val (.long q3), .second, .val (.long q4), .second, .val (.int ac), .val (.int aC), .val (.int ar), .val (.int aR), .val (.int bc), .val (.int bC), .val (.int br), .val (.int bR), .val (.ref a34), .unset, .unset] [])) rfl (hb hby at_69) (by decide) (by decide)
  obtain ⟨a36, g36⟩ : ∃ z, z = T35.heap.size := ⟨_, rfl⟩
  rw [← g36] at A36 D36 st36
  have ne_a34_a36 : a34 ≠ a36 := by rw [g36]; exact Nat.ne_of_lt f35_0.lt
  have f36_0 := f35_0.ext E36
  have f36_1 := fa35.ext E36
  have f36_2 := fb35.ext E36
  have f36_3 := fc35.ext E36
  have f36_4 := fd35.ext E36
  have fn36_0 : Fld Z h36 a36 "com/example/swathe/swathe/CellRectangle" "minColumn" "I" (.int (0 : Int32)) := D36 (Or.inr (hw _ (List.mem_of_getElem? (i := 29) rfl))) (ty := .int) (by decide)
  have fn36_1 : Fld Z h36 a36 "com/example/swathe/swathe/CellRectangle" "minRow" "I" (.int (0 : Int32)) := D36 (Or.inr (hw _ (List.mem_of_getElem? (i := 31) rfl))) (ty := .int) (by decide)
  have fn36_2 : Fld Z h36 a36 "com/example/swathe/swathe/CellRectangle" "maxColumn" "I" (.int (0 : Int32)) := D36 (Or.inr (hw _ (List.mem_of_getElem? (i := 33) rfl))) (ty := .int) (by decide)
  have fn36_3 : Fld Z h36 a36 "com/example/swathe/swathe/CellRectangle" "maxRow" "I" (.int (0 : Int32)) := D36 (Or.inr (hw _ (List.mem_of_getElem? (i := 35) rfl))) (ty := .int) (by decide)
  have ge_a36 : n0 ≤ a36 := Nat.le_trans Z35 (Nat.le_of_eq g36.symm)
  have Z36 : n0 ≤ h36.size := Nat.le_trans Z35 E36.1
  refine own_of (T36.setTop (mkF m 72 #[.val (.long q1), .second, .val (.long q2), .second, .val (.long q3), .second, .val (.long q4), .second, .val (.int ac), .val (.int aC), .val (.int ar), .val (.int aR), .val (.int bc), .val (.int bC), .val (.int br), .val (.int bR), .val (.ref a34), .unset, .unset] [(.ref a36)])) (fun t q => st36 t q) ?_
  refine own_of (T36.setTop (mkF m 73 #[.val (.long q1), .second, .val (.long q2), .second, .val (.long q3), .second, .val (.long q4), .second, .val (.int ac), .val (.int aC), .val (.int ar), .val (.int aR), .val (.int bc), .val (.int bC), .val (.int br), .val (.int bR), .val (.ref a34), .unset, .unset] [(.ref a36), (.ref a36)])) (fun t k => XS.dup X36.here hx rfl (hb hby at_72) rfl rfl k) ?_
  refine own_of (T36.setTop (mkF m 75 #[.val (.long q1), .second, .val (.long q2), .second, .val (.long q3), .second, .val (.long q4), .second, .val (.int ac), .val (.int aC), .val (.int ar), .val (.int aR), .val (.int bc), .val (.int bC), .val (.int br), .val (.int bR), .val (.ref a34), .unset, .unset] [(.int bc), (.ref a36), (.ref a36)])) (fun t k => XS.iload X36.here hx rfl (hb hby at_73) rfl k) ?_
  refine own_of (T36.setTop (mkF m 77 #[.val (.long q1), .second, .val (.long q2), .second, .val (.long q3), .second, .val (.long q4), .second, .val (.int ac), .val (.int aC), .val (.int ar), .val (.int aR), .val (.int bc), .val (.int bC), .val (.int br), .val (.int bR), .val (.ref a34), .unset, .unset] [(.int br), (.int bc), (.ref a36), (.ref a36)])) (fun t k => XS.iload X36.here hx rfl (hb hby at_75) rfl k) ?_
  refine own_of (T36.setTop (mkF m 79 #[.val (.long q1), .second, .val (.long q2), .second, .val (.long q3), .second, .val (.long q4), .second, .val (.int ac), .val (.int aC), .val (.int ar), .val (.int aR), .val (.int bc), .val (.int bC), .val (.int br), .val (.int bR), .val (.ref a34), .unset, .unset] [(.int bC), (.int br), (.int bc), (.ref a36), (.ref a36)])) (fun t k => XS.iload X36.here hx rfl (hb hby at_77) rfl k) ?_
  refine own_of (T36.setTop (mkF m 81 #[.val (.long q1), .second, .val (.long q2), .second, .val (.long q3), .second, .val (.long q4), .second, .val (.int ac), .val (.int aC), .val (.int ar), .val (.int aR), .val (.int bc), .val (.int bC), .val (.int br), .val (.int bR), .val (.ref a34), .unset, .unset] [(.int bR), (.int bC), (.int br), (.int bc), (.ref a36), (.ref a36)])) (fun t k => XS.iload X36.here hx rfl (hb hby at_79) rfl k) ?_
  obtain ⟨_, _, ⟨T37, L37, k37, n37⟩, -, X37, ⟨Lc37, hQ37, l37, y37, z37⟩, st37⟩ := X36.specialBack hx (y := (⟨"com/example/swathe/swathe/CellRectangle", "<init>", "(IIII)V"⟩ : MethodName)) rfl hown (mvT hZ (hw _ (List.mem_of_getElem? (i := 17) rfl))) (mvT hZ (hw _ (List.mem_of_getElem? (i := 18) rfl))) (mvT hZ (hw _ (List.mem_of_getElem? (i := 19) rfl))) (by decide) (backOf (W := 1) (rm5 l Z a0 hw [] a36 bc br bC bR h36 n0 Z36 A36 fn36_0 fn36_1 fn36_2 fn36_3 ge_a36 hl2 hl3) hZ (hw _ (List.mem_of_getElem? (i := 19) rfl)) (hw _ (List.mem_of_getElem? (i := 16) rfl)) (by decide) (by decide)) (g := (mkF m 81 #[.val (.long q1), .second, .val (.long q2), .second, .val (.long q3), .second, .val (.long q4), .second, .val (.int ac), .val (.int aC), .val (.int ar), .val (.int aR), .val (.int bc), .val (.int bC), .val (.int br), .val (.int bR), .val (.ref a34), .unset, .unset] [(.int bR), (.int bC), (.int br), (.int bc), (.ref a36), (.ref a36)])) rfl (by rw [hml]; rfl) (Steps.refl _) (a := a36) (argsL := [(.int bc), (.int br), (.int bC), (.int bR)]) (rest := [(.ref a36)]) (lenOf (by decide +kernel : parseMethodDescriptor "(IIII)V" = some ⟨[.int, .int, .int, .int], none⟩) rfl) rfl (by show 2 * 0 + _ ≤ _; exact Nat.le_of_eq rfl) (hb hby at_81) (fun _ _ => ⟨rfl, e36, (by decide : 2 + 0 ≤ _), (by decide : 8 + 0 ≤ _)⟩)
  dsimp only [Pt.U, Pt.locs, Pt.cells, Pt.slots] at X37 l37 y37 z37 st37 hQ37
  subst l37 y37 z37
  obtain ⟨rfl, Nq37, Kq37, fa37, fb37, fc37, fd37⟩ := hQ37
  have N37 := Fr.app N35 Nq37
  refine own_tr (T37.setTop (mkF m 84 #[.val (.long q1), .second, .val (.long q2), .second, .val (.long q3), .second, .val (.long q4), .second, .val (.int ac), .val (.int aC), .val (.int ar), .val (.int aR), .val (.int bc), .val (.int bC), .val (.int br), .val (.int bR), .val (.ref a34), .unset, .unset] [(.ref a36)])) st37 ?_
  have f37_0 := f36_0.keep Kq37
  have f37_1 := f36_1.keep Kq37 (ninS ne_a34_a36 nin0)
  have f37_2 := f36_2.keep Kq37 (ninS ne_a34_a36 nin0)
  have f37_3 := f36_3.keep Kq37 (ninS ne_a34_a36 nin0)
  have f37_4 := f36_4.keep Kq37 (ninS ne_a34_a36 nin0)
  have f37_5 := A36.keep Kq37
  have Z37 : n0 ≤ T37.heap.size := Nat.le_trans Z36 Kq37.1
  refine own_of (T37.setTop (mkF m 86 #[.val (.long q1), .second, .val (.long q2), .second, .val (.long q3), .second, .val (.long q4), .second, .val (.int ac), .val (.int aC), .val (.int ar), .val (.int aR), .val (.int bc), .val (.int bC), .val (.int br), .val (.int bR), .val (.ref a34), .val (.ref a36), .unset] [])) (fun t k => XS.astore X37.here hx rfl (hb hby at_84) rfl rfl (l' := #[.val (.long q1), .second, .val (.long q2), .second, .val (.long q3), .second, .val (.long q4), .second, .val (.int ac), .val (.int aC), .val (.int ar), .val (.int aR), .val (.int bc), .val (.int bC), .val (.int br), .val (.int bR), .val (.ref a34), .val (.ref a36), .unset]) rfl k) ?_
  refine own_of (T37.setTop (mkF m 88 #[.val (.long q1), .second, .val (.long q2), .second, .val (.long q3), .second, .val (.long q4), .second, .val (.int ac), .val (.int aC), .val (.int ar), .val (.int aR), .val (.int bc), .val (.int bC), .val (.int br), .val (.int bR), .val (.ref a34), .val (.ref a36), .unset] [(.int ac)])) (fun t k => XS.iload X37.here hx rfl (hb hby at_86) rfl k) ?_
  refine own_of (T37.setTop (mkF m 90 #[.val (.long q1), .second, .val (.long q2), .second, .val (.long q3), .second, .val (.long q4), .second, .val (.int ac), .val (.int aC), .val (.int ar), .val (.int aR), .val (.int bc), .val (.int bC), .val (.int br), .val (.int bR), .val (.ref a34), .val (.ref a36), .unset] [(.int aC), (.int ac)])) (fun t k => XS.iload X37.here hx rfl (hb hby at_88) rfl k) ?_
  refine own_of (T37.setTop (mkF m 92 #[.val (.long q1), .second, .val (.long q2), .second, .val (.long q3), .second, .val (.long q4), .second, .val (.int ac), .val (.int aC), .val (.int ar), .val (.int aR), .val (.int bc), .val (.int bC), .val (.int br), .val (.int bR), .val (.ref a34), .val (.ref a36), .unset] [(.int bc), (.int aC), (.int ac)])) (fun t k => XS.iload X37.here hx rfl (hb hby at_90) rfl k) ?_
  refine own_of (T37.setTop (mkF m 94 #[.val (.long q1), .second, .val (.long q2), .second, .val (.long q3), .second, .val (.long q4), .second, .val (.int ac), .val (.int aC), .val (.int ar), .val (.int aR), .val (.int bc), .val (.int bC), .val (.int br), .val (.int bR), .val (.ref a34), .val (.ref a36), .unset] [(.int bC), (.int bc), (.int aC), (.int ac)])) (fun t k => XS.iload X37.here hx rfl (hb hby at_92) rfl k) ?_
  obtain ⟨_, _, ⟨T38, L38, k38, n38⟩, -, X38, ⟨Lc38, hQ38, l38, y38, z38⟩, st38⟩ := Jvm.LawKit.callS X37 hx (y := (⟨"com/example/swathe/swathe/CellRectangleMeetsPinLaw", "overlap", "(IIII)Z"⟩ : MethodName)) hown (mvT hZ (hw _ (List.mem_of_getElem? (i := 36) rfl))) (mvT hZ (hw _ (List.mem_of_getElem? (i := 37) rfl))) (mvT hZ (hw _ (List.mem_of_getElem? (i := 2) rfl))) (mvT hZ (hw _ (List.mem_of_getElem? (i := 38) rfl))) (by decide) (backOf (W := 0) (rm8 l Z a0 hw [] ac aC bc bC T37.heap n0 Z37) hZ (hw _ (List.mem_of_getElem? (i := 38) rfl)) (hw _ (List.mem_of_getElem? (i := 2) rfl)) (by decide) (by decide)) (g := (mkF m 94 #[.val (.long q1), .second, .val (.long q2), .second, .val (.long q3), .second, .val (.long q4), .second, .val (.int ac), .val (.int aC), .val (.int ar), .val (.int aR), .val (.int bc), .val (.int bC), .val (.int br), .val (.int bR), .val (.ref a34), .val (.ref a36), .unset] [(.int bC), (.int bc), (.int aC), (.int ac)])) rfl (by rw [hml]; rfl) (argsL := [(.int ac), (.int aC), (.int bc), (.int bC)]) (rest := []) (lenOf (by decide +kernel : parseMethodDescriptor "(IIII)Z" = some ⟨[.int, .int, .int, .int], some .boolean⟩) rfl) rfl (by show 2 * 0 + _ ≤ _; exact Nat.le_of_eq rfl) (hb hby at_94) (fun _ _ => ⟨rfl, rfl, (by decide : 2 + 0 ≤ _), (by decide : 8 + 0 ≤ _)⟩)
  dsimp only [Pt.U, Pt.locs, Pt.cells, Pt.slots] at X38 l38 y38 z38 st38 hQ38
  subst l38 y38 z38
  obtain ⟨rfl, Nq38, eh38⟩ := hQ38
  have N38 := Fr.app N37 Nq38
  refine own_of (T38.setTop (mkF m 97 #[.val (.long q1), .second, .val (.long q2), .second, .val (.long q3), .second, .val (.long q4), .second, .val (.int ac), .val (.int aC), .val (.int ar), .val (.int aR), .val (.int bc), .val (.int bC), .val (.int br), .val (.int bR), .val (.ref a34), .val (.ref a36), .unset] [(.int (own_ov ac aC bc bC))])) (fun t q => st38 t q) ?_
  by_cases hc39 : (own_ov ac aC bc bC) = (0 : Int32)
  · refine own_of (T38.setTop (mkF m 118 #[.val (.long q1), .second, .val (.long q2), .second, .val (.long q3), .second, .val (.long q4), .second, .val (.int ac), .val (.int aC), .val (.int ar), .val (.int aR), .val (.int bc), .val (.int bC), .val (.int br), .val (.int bR), .val (.ref a34), .val (.ref a36), .unset] [])) (fun t k => XS.ifYes X38.here hx rfl (pc0 := 97) (pc' := 118) rfl (hb hby at_97) rfl ((if0 _ _).trans (teq hc39).1) (by decide) (by decide) k) ?_
    refine own_of (T38.setTop (mkF m 119 #[.val (.long q1), .second, .val (.long q2), .second, .val (.long q3), .second, .val (.long q4), .second, .val (.int ac), .val (.int aC), .val (.int ar), .val (.int aR), .val (.int bc), .val (.int bC), .val (.int br), .val (.int bR), .val (.ref a34), .val (.ref a36), .unset] [(.int (0 : Int32))])) (fun t k => XS.iconst X38.here hx rfl (hb hby at_118) k) ?_
    have hx1 : own_ex ac ar aC aR bc br bC bR = (0 : Int32) := by simp only [own_ex, hc39, if_true, if_false]
    refine own_of (T38.setTop (mkF m 121 #[.val (.long q1), .second, .val (.long q2), .second, .val (.long q3), .second, .val (.long q4), .second, .val (.int ac), .val (.int aC), .val (.int ar), .val (.int aR), .val (.int bc), .val (.int bC), .val (.int br), .val (.int bR), .val (.ref a34), .val (.ref a36), .val (.int (0 : Int32))] [])) (fun t k => XS.istore X38.here hx rfl (hb hby at_119) rfl (l' := #[.val (.long q1), .second, .val (.long q2), .second, .val (.long q3), .second, .val (.long q4), .second, .val (.int ac), .val (.int aC), .val (.int ar), .val (.int aR), .val (.int bc), .val (.int bC), .val (.int br), .val (.int bR), .val (.ref a34), .val (.ref a36), .val (.int (0 : Int32))]) rfl k) ?_
    refine own_of (T38.setTop (mkF m 123 #[.val (.long q1), .second, .val (.long q2), .second, .val (.long q3), .second, .val (.long q4), .second, .val (.int ac), .val (.int aC), .val (.int ar), .val (.int aR), .val (.int bc), .val (.int bC), .val (.int br), .val (.int bR), .val (.ref a34), .val (.ref a36), .val (.int (0 : Int32))] [(.ref a34)])) (fun t k => XS.aload X38.here hx rfl (hb hby at_121) rfl rfl k) ?_
    refine own_of (T38.setTop (mkF m 125 #[.val (.long q1), .second, .val (.long q2), .second, .val (.long q3), .second, .val (.long q4), .second, .val (.int ac), .val (.int aC), .val (.int ar), .val (.int aR), .val (.int bc), .val (.int bC), .val (.int br), .val (.int bR), .val (.ref a34), .val (.ref a36), .val (.int (0 : Int32))] [(.ref a36), (.ref a34)])) (fun t k => XS.aload X38.here hx rfl (hb hby at_123) rfl rfl k) ?_
    obtain ⟨cq40, kq40, qa40, qb40, qc40⟩ := isOf hZ eh38 f37_0
    obtain ⟨_, _, ⟨T40, L40, k40, n40⟩, -, X40, ⟨Lc40, hQ40, l40, y40, z40⟩, st40⟩ := X38.virtualBack hx (y := (⟨"com/example/swathe/swathe/CellRectangle", "meets", "(Lcom/example/swathe/swathe/CellRectangle;)Z"⟩ : MethodName)) (z := (⟨"com/example/swathe/swathe/CellRectangle", "meets", "(Lcom/example/swathe/swathe/CellRectangle;)Z"⟩ : MethodName)) hown (mvT hZ (hw _ (List.mem_of_getElem? (i := 39) rfl))) (mvT hZ (hw _ (List.mem_of_getElem? (i := 40) rfl))) (notFace_of_selects (args := #[]) (mvT hZ (hw _ (List.mem_of_getElem? (i := 42) rfl)))) (mvT hZ (hw _ (List.mem_of_getElem? (i := 42) rfl))) (mvT hZ (hw _ (List.mem_of_getElem? (i := 41) rfl))) (by decide) (backOf (W := 0) (rm9 l Z a0 hw [] a34 a36 ac ar aC aR bc br bC bR T37.heap n0 Z37 f37_1 f37_2 f37_3 f37_4 fa37 fb37 fc37 fd37) hZ (hw _ (List.mem_of_getElem? (i := 43) rfl)) (hw _ (List.mem_of_getElem? (i := 16) rfl)) (by decide) (by decide)) qa40 qc40 (g := (mkF m 125 #[.val (.long q1), .second, .val (.long q2), .second, .val (.long q3), .second, .val (.long q4), .second, .val (.int ac), .val (.int aC), .val (.int ar), .val (.int aR), .val (.int bc), .val (.int bC), .val (.int br), .val (.int bR), .val (.ref a34), .val (.ref a36), .val (.int (0 : Int32))] [(.ref a36), (.ref a34)])) rfl (by rw [hml]; rfl) (Steps.refl _) (argsL := [(.ref a36)]) (rest := []) (lenOf (by decide +kernel : parseMethodDescriptor "(Lcom/example/swathe/swathe/CellRectangle;)Z" = some ⟨[(.object "com/example/swathe/swathe/CellRectangle")], some .boolean⟩) rfl) rfl (by show 2 * 0 + _ ≤ _; exact Nat.le_of_eq rfl) (hb hby at_125) (fun _ _ => ⟨rfl, eh38, (by decide : 2 + 0 ≤ _), (by decide : 8 + 0 ≤ _)⟩)
    dsimp only [Pt.U, Pt.locs, Pt.cells, Pt.slots] at X40 l40 y40 z40 st40 hQ40
    subst l40 y40 z40
    obtain ⟨rfl, Nq40, eh40⟩ := hQ40
    have N40 := Fr.app N38 Nq40
    refine own_tr (T40.setTop (mkF m 128 #[.val (.long q1), .second, .val (.long q2), .second, .val (.long q3), .second, .val (.long q4), .second, .val (.int ac), .val (.int aC), .val (.int ar), .val (.int aR), .val (.int bc), .val (.int bC), .val (.int br), .val (.int bR), .val (.ref a34), .val (.ref a36), .val (.int (0 : Int32))] [(.int (own_mt ac ar aC aR bc br bC bR))])) st40 ?_
    refine own_of (T40.setTop (mkF m 130 #[.val (.long q1), .second, .val (.long q2), .second, .val (.long q3), .second, .val (.long q4), .second, .val (.int ac), .val (.int aC), .val (.int ar), .val (.int aR), .val (.int bc), .val (.int bC), .val (.int br), .val (.int bR), .val (.ref a34), .val (.ref a36), .val (.int (0 : Int32))] [(.int (0 : Int32)), (.int (own_mt ac ar aC aR bc br bC bR))])) (fun t k => XS.iload X40.here hx rfl (hb hby at_128) rfl k) ?_
    refine own_of (T40.setTop (mkF m 133 #[.val (.long q1), .second, .val (.long q2), .second, .val (.long q3), .second, .val (.long q4), .second, .val (.int ac), .val (.int aC), .val (.int ar), .val (.int aR), .val (.int bc), .val (.int bC), .val (.int br), .val (.int bR), .val (.ref a34), .val (.ref a36), .val (.int (0 : Int32))] [])) (fun t k => XS.icmpNo X40.here hx rfl (hb hby at_130) rfl (teq ((own_law ac ar aC aR bc br bC bR hl0 hl1 hl2 hl3).trans hx1)).2 k) ?_
    refine own_of (T40.setTop (mkF m 135 #[.val (.long q1), .second, .val (.long q2), .second, .val (.long q3), .second, .val (.long q4), .second, .val (.int ac), .val (.int aC), .val (.int ar), .val (.int aR), .val (.int bc), .val (.int bC), .val (.int br), .val (.int bR), .val (.ref a34), .val (.ref a36), .val (.int (0 : Int32))] [(.ref a36)])) (fun t k => XS.aload X40.here hx rfl (hb hby at_133) rfl rfl k) ?_
    refine own_of (T40.setTop (mkF m 137 #[.val (.long q1), .second, .val (.long q2), .second, .val (.long q3), .second, .val (.long q4), .second, .val (.int ac), .val (.int aC), .val (.int ar), .val (.int aR), .val (.int bc), .val (.int bC), .val (.int br), .val (.int bR), .val (.ref a34), .val (.ref a36), .val (.int (0 : Int32))] [(.ref a34), (.ref a36)])) (fun t k => XS.aload X40.here hx rfl (hb hby at_135) rfl rfl k) ?_
    obtain ⟨cq41, kq41, qa41, qb41, qc41⟩ := isOf hZ eh40 f37_5
    obtain ⟨_, _, ⟨T41, L41, k41, n41⟩, -, X41, ⟨Lc41, hQ41, l41, y41, z41⟩, st41⟩ := X40.virtualBack hx (y := (⟨"com/example/swathe/swathe/CellRectangle", "meets", "(Lcom/example/swathe/swathe/CellRectangle;)Z"⟩ : MethodName)) (z := (⟨"com/example/swathe/swathe/CellRectangle", "meets", "(Lcom/example/swathe/swathe/CellRectangle;)Z"⟩ : MethodName)) hown (mvT hZ (hw _ (List.mem_of_getElem? (i := 39) rfl))) (mvT hZ (hw _ (List.mem_of_getElem? (i := 40) rfl))) (notFace_of_selects (args := #[]) (mvT hZ (hw _ (List.mem_of_getElem? (i := 42) rfl)))) (mvT hZ (hw _ (List.mem_of_getElem? (i := 42) rfl))) (mvT hZ (hw _ (List.mem_of_getElem? (i := 41) rfl))) (by decide) (backOf (W := 0) (rm9 l Z a0 hw [] a36 a34 bc br bC bR ac ar aC aR T37.heap n0 Z37 fa37 fb37 fc37 fd37 f37_1 f37_2 f37_3 f37_4) hZ (hw _ (List.mem_of_getElem? (i := 43) rfl)) (hw _ (List.mem_of_getElem? (i := 16) rfl)) (by decide) (by decide)) qa41 qc41 (g := (mkF m 137 #[.val (.long q1), .second, .val (.long q2), .second, .val (.long q3), .second, .val (.long q4), .second, .val (.int ac), .val (.int aC), .val (.int ar), .val (.int aR), .val (.int bc), .val (.int bC), .val (.int br), .val (.int bR), .val (.ref a34), .val (.ref a36), .val (.int (0 : Int32))] [(.ref a34), (.ref a36)])) rfl (by rw [hml]; rfl) (Steps.refl _) (argsL := [(.ref a34)]) (rest := []) (lenOf (by decide +kernel : parseMethodDescriptor "(Lcom/example/swathe/swathe/CellRectangle;)Z" = some ⟨[(.object "com/example/swathe/swathe/CellRectangle")], some .boolean⟩) rfl) rfl (by show 2 * 0 + _ ≤ _; exact Nat.le_of_eq rfl) (hb hby at_137) (fun _ _ => ⟨rfl, eh40, (by decide : 2 + 0 ≤ _), (by decide : 8 + 0 ≤ _)⟩)
    dsimp only [Pt.U, Pt.locs, Pt.cells, Pt.slots] at X41 l41 y41 z41 st41 hQ41
    subst l41 y41 z41
    obtain ⟨rfl, Nq41, eh41⟩ := hQ41
    have N41 := Fr.app N40 Nq41
    refine own_tr (T41.setTop (mkF m 140 #[.val (.long q1), .second, .val (.long q2), .second, .val (.long q3), .second, .val (.long q4), .second, .val (.int ac), .val (.int aC), .val (.int ar), .val (.int aR), .val (.int bc), .val (.int bC), .val (.int br), .val (.int bR), .val (.ref a34), .val (.ref a36), .val (.int (0 : Int32))] [(.int (own_mt bc br bC bR ac ar aC aR))])) st41 ?_
    refine own_of (T41.setTop (mkF m 142 #[.val (.long q1), .second, .val (.long q2), .second, .val (.long q3), .second, .val (.long q4), .second, .val (.int ac), .val (.int aC), .val (.int ar), .val (.int aR), .val (.int bc), .val (.int bC), .val (.int br), .val (.int bR), .val (.ref a34), .val (.ref a36), .val (.int (0 : Int32))] [(.int (0 : Int32)), (.int (own_mt bc br bC bR ac ar aC aR))])) (fun t k => XS.iload X41.here hx rfl (hb hby at_140) rfl k) ?_
    refine own_of (T41.setTop (mkF m 145 #[.val (.long q1), .second, .val (.long q2), .second, .val (.long q3), .second, .val (.long q4), .second, .val (.int ac), .val (.int aC), .val (.int ar), .val (.int aR), .val (.int bc), .val (.int bC), .val (.int br), .val (.int bR), .val (.ref a34), .val (.ref a36), .val (.int (0 : Int32))] [])) (fun t k => XS.icmpNo X41.here hx rfl (hb hby at_142) rfl (teq ((own_law' ac ar aC aR bc br bC bR hl0 hl1 hl2 hl3).trans hx1)).2 k) ?_
    refine own_of (T41.setTop (mkF m 146 #[.val (.long q1), .second, .val (.long q2), .second, .val (.long q3), .second, .val (.long q4), .second, .val (.int ac), .val (.int aC), .val (.int ar), .val (.int aR), .val (.int bc), .val (.int bC), .val (.int br), .val (.int bR), .val (.ref a34), .val (.ref a36), .val (.int (0 : Int32))] [(.int (1 : Int32))])) (fun t k => XS.iconst X41.here hx rfl (hb hby at_145) k) ?_
    refine own_of (T41.setTop (mkF m 150 #[.val (.long q1), .second, .val (.long q2), .second, .val (.long q3), .second, .val (.long q4), .second, .val (.int ac), .val (.int aC), .val (.int ar), .val (.int aR), .val (.int bc), .val (.int bC), .val (.int br), .val (.int bR), .val (.ref a34), .val (.ref a36), .val (.int (0 : Int32))] [(.int (1 : Int32))])) (fun t k => XS.goto X41.here hx rfl (pc0 := 146) (pc' := 150) rfl (hb hby at_146) (by decide) (by decide) k) ?_
    obtain ⟨fs, hr, hrun, hended, hW, hsame⟩ := X41.leave (v := some (.int (1 : Int32))) (fun h => by rw [Bd.returns] at h; cases h)
    refine ⟨_, _, retN X41 hx (t := .boolean) Bd.returns (by simp) (hb hby at_150) hr, hrun, hended, _, _, rfl, ?_, ⟨_, rfl⟩, hW, hsame.mono (by decide) (by decide)⟩
    show Q_rm0 Z q1 q2 q3 q4  h0 n0 _ T41.heap _
    rw [eh41]
    exact ⟨rfl, N41⟩
  · refine own_of (T38.setTop (mkF m 100 #[.val (.long q1), .second, .val (.long q2), .second, .val (.long q3), .second, .val (.long q4), .second, .val (.int ac), .val (.int aC), .val (.int ar), .val (.int aR), .val (.int bc), .val (.int bC), .val (.int br), .val (.int bR), .val (.ref a34), .val (.ref a36), .unset] [])) (fun t k => XS.ifNo X38.here hx rfl (hb hby at_97) rfl ((if0 _ _).trans (feq hc39).1) k) ?_
    refine own_of (T38.setTop (mkF m 102 #[.val (.long q1), .second, .val (.long q2), .second, .val (.long q3), .second, .val (.long q4), .second, .val (.int ac), .val (.int aC), .val (.int ar), .val (.int aR), .val (.int bc), .val (.int bC), .val (.int br), .val (.int bR), .val (.ref a34), .val (.ref a36), .unset] [(.int ar)])) (fun t k => XS.iload X38.here hx rfl (hb hby at_100) rfl k) ?_
    refine own_of (T38.setTop (mkF m 104 #[.val (.long q1), .second, .val (.long q2), .second, .val (.long q3), .second, .val (.long q4), .second, .val (.int ac), .val (.int aC), .val (.int ar), .val (.int aR), .val (.int bc), .val (.int bC), .val (.int br), .val (.int bR), .val (.ref a34), .val (.ref a36), .unset] [(.int aR), (.int ar)])) (fun t k => XS.iload X38.here hx rfl (hb hby at_102) rfl k) ?_
    refine own_of (T38.setTop (mkF m 106 #[.val (.long q1), .second, .val (.long q2), .second, .val (.long q3), .second, .val (.long q4), .second, .val (.int ac), .val (.int aC), .val (.int ar), .val (.int aR), .val (.int bc), .val (.int bC), .val (.int br), .val (.int bR), .val (.ref a34), .val (.ref a36), .unset] [(.int br), (.int aR), (.int ar)])) (fun t k => XS.iload X38.here hx rfl (hb hby at_104) rfl k) ?_
    refine own_of (T38.setTop (mkF m 108 #[.val (.long q1), .second, .val (.long q2), .second, .val (.long q3), .second, .val (.long q4), .second, .val (.int ac), .val (.int aC), .val (.int ar), .val (.int aR), .val (.int bc), .val (.int bC), .val (.int br), .val (.int bR), .val (.ref a34), .val (.ref a36), .unset] [(.int bR), (.int br), (.int aR), (.int ar)])) (fun t k => XS.iload X38.here hx rfl (hb hby at_106) rfl k) ?_
    obtain ⟨_, _, ⟨T42, L42, k42, n42⟩, -, X42, ⟨Lc42, hQ42, l42, y42, z42⟩, st42⟩ := Jvm.LawKit.callS X38 hx (y := (⟨"com/example/swathe/swathe/CellRectangleMeetsPinLaw", "overlap", "(IIII)Z"⟩ : MethodName)) hown (mvT hZ (hw _ (List.mem_of_getElem? (i := 36) rfl))) (mvT hZ (hw _ (List.mem_of_getElem? (i := 37) rfl))) (mvT hZ (hw _ (List.mem_of_getElem? (i := 2) rfl))) (mvT hZ (hw _ (List.mem_of_getElem? (i := 38) rfl))) (by decide) (backOf (W := 0) (rm8 l Z a0 hw [] ar aR br bR T37.heap n0 Z37) hZ (hw _ (List.mem_of_getElem? (i := 38) rfl)) (hw _ (List.mem_of_getElem? (i := 2) rfl)) (by decide) (by decide)) (g := (mkF m 108 #[.val (.long q1), .second, .val (.long q2), .second, .val (.long q3), .second, .val (.long q4), .second, .val (.int ac), .val (.int aC), .val (.int ar), .val (.int aR), .val (.int bc), .val (.int bC), .val (.int br), .val (.int bR), .val (.ref a34), .val (.ref a36), .unset] [(.int bR), (.int br), (.int aR), (.int ar)])) rfl (by rw [hml]; rfl) (argsL := [(.int ar), (.int aR), (.int br), (.int bR)]) (rest := []) (lenOf (by decide +kernel : parseMethodDescriptor "(IIII)Z" = some ⟨[.int, .int, .int, .int], some .boolean⟩) rfl) rfl (by show 2 * 0 + _ ≤ _; exact Nat.le_of_eq rfl) (hb hby at_108) (fun _ _ => ⟨rfl, eh38, (by decide : 2 + 0 ≤ _), (by decide : 8 + 0 ≤ _)⟩)
    dsimp only [Pt.U, Pt.locs, Pt.cells, Pt.slots] at X42 l42 y42 z42 st42 hQ42
    subst l42 y42 z42
    obtain ⟨rfl, Nq42, eh42⟩ := hQ42
    have N42 := Fr.app N38 Nq42
    refine own_of (T42.setTop (mkF m 111 #[.val (.long q1), .second, .val (.long q2), .second, .val (.long q3), .second, .val (.long q4), .second, .val (.int ac), .val (.int aC), .val (.int ar), .val (.int aR), .val (.int bc), .val (.int bC), .val (.int br), .val (.int bR), .val (.ref a34), .val (.ref a36), .unset] [(.int (own_ov ar aR br bR))])) (fun t q => st42 t q) ?_
    by_cases hc43 : (own_ov ar aR br bR) = (0 : Int32)
    · refine own_of (T42.setTop (mkF m 118 #[.val (.long q1), .second, .val (.long q2), .second, .val (.long q3), .second, .val (.long q4), .second, .val (.int ac), .val (.int aC), .val (.int ar), .val (.int aR), .val (.int bc), .val (.int bC), .val (.int br), .val (.int bR), .val (.ref a34), .val (.ref a36), .unset] [])) (fun t k => XS.ifYes X42.here hx rfl (pc0 := 111) (pc' := 118) rfl (hb hby at_111) rfl ((if0 _ _).trans (teq hc43).1) (by decide) (by decide) k) ?_
      refine own_of (T42.setTop (mkF m 119 #[.val (.long q1), .second, .val (.long q2), .second, .val (.long q3), .second, .val (.long q4), .second, .val (.int ac), .val (.int aC), .val (.int ar), .val (.int aR), .val (.int bc), .val (.int bC), .val (.int br), .val (.int bR), .val (.ref a34), .val (.ref a36), .unset] [(.int (0 : Int32))])) (fun t k => XS.iconst X42.here hx rfl (hb hby at_118) k) ?_
      have hx1 : own_ex ac ar aC aR bc br bC bR = (0 : Int32) := by simp only [own_ex, hc39, hc43, if_true, if_false]
      refine own_of (T42.setTop (mkF m 121 #[.val (.long q1), .second, .val (.long q2), .second, .val (.long q3), .second, .val (.long q4), .second, .val (.int ac), .val (.int aC), .val (.int ar), .val (.int aR), .val (.int bc), .val (.int bC), .val (.int br), .val (.int bR), .val (.ref a34), .val (.ref a36), .val (.int (0 : Int32))] [])) (fun t k => XS.istore X42.here hx rfl (hb hby at_119) rfl (l' := #[.val (.long q1), .second, .val (.long q2), .second, .val (.long q3), .second, .val (.long q4), .second, .val (.int ac), .val (.int aC), .val (.int ar), .val (.int aR), .val (.int bc), .val (.int bC), .val (.int br), .val (.int bR), .val (.ref a34), .val (.ref a36), .val (.int (0 : Int32))]) rfl k) ?_
      refine own_of (T42.setTop (mkF m 123 #[.val (.long q1), .second, .val (.long q2), .second, .val (.long q3), .second, .val (.long q4), .second, .val (.int ac), .val (.int aC), .val (.int ar), .val (.int aR), .val (.int bc), .val (.int bC), .val (.int br), .val (.int bR), .val (.ref a34), .val (.ref a36), .val (.int (0 : Int32))] [(.ref a34)])) (fun t k => XS.aload X42.here hx rfl (hb hby at_121) rfl rfl k) ?_
      refine own_of (T42.setTop (mkF m 125 #[.val (.long q1), .second, .val (.long q2), .second, .val (.long q3), .second, .val (.long q4), .second, .val (.int ac), .val (.int aC), .val (.int ar), .val (.int aR), .val (.int bc), .val (.int bC), .val (.int br), .val (.int bR), .val (.ref a34), .val (.ref a36), .val (.int (0 : Int32))] [(.ref a36), (.ref a34)])) (fun t k => XS.aload X42.here hx rfl (hb hby at_123) rfl rfl k) ?_
      obtain ⟨cq44, kq44, qa44, qb44, qc44⟩ := isOf hZ eh42 f37_0
      obtain ⟨_, _, ⟨T44, L44, k44, n44⟩, -, X44, ⟨Lc44, hQ44, l44, y44, z44⟩, st44⟩ := X42.virtualBack hx (y := (⟨"com/example/swathe/swathe/CellRectangle", "meets", "(Lcom/example/swathe/swathe/CellRectangle;)Z"⟩ : MethodName)) (z := (⟨"com/example/swathe/swathe/CellRectangle", "meets", "(Lcom/example/swathe/swathe/CellRectangle;)Z"⟩ : MethodName)) hown (mvT hZ (hw _ (List.mem_of_getElem? (i := 39) rfl))) (mvT hZ (hw _ (List.mem_of_getElem? (i := 40) rfl))) (notFace_of_selects (args := #[]) (mvT hZ (hw _ (List.mem_of_getElem? (i := 42) rfl)))) (mvT hZ (hw _ (List.mem_of_getElem? (i := 42) rfl))) (mvT hZ (hw _ (List.mem_of_getElem? (i := 41) rfl))) (by decide) (backOf (W := 0) (rm9 l Z a0 hw [] a34 a36 ac ar aC aR bc br bC bR T37.heap n0 Z37 f37_1 f37_2 f37_3 f37_4 fa37 fb37 fc37 fd37) hZ (hw _ (List.mem_of_getElem? (i := 43) rfl)) (hw _ (List.mem_of_getElem? (i := 16) rfl)) (by decide) (by decide)) qa44 qc44 (g := (mkF m 125 #[.val (.long q1), .second, .val (.long q2), .second, .val (.long q3), .second, .val (.long q4), .second, .val (.int ac), .val (.int aC), .val (.int ar), .val (.int aR), .val (.int bc), .val (.int bC), .val (.int br), .val (.int bR), .val (.ref a34), .val (.ref a36), .val (.int (0 : Int32))] [(.ref a36), (.ref a34)])) rfl (by rw [hml]; rfl) (Steps.refl _) (argsL := [(.ref a36)]) (rest := []) (lenOf (by decide +kernel : parseMethodDescriptor "(Lcom/example/swathe/swathe/CellRectangle;)Z" = some ⟨[(.object "com/example/swathe/swathe/CellRectangle")], some .boolean⟩) rfl) rfl (by show 2 * 0 + _ ≤ _; exact Nat.le_of_eq rfl) (hb hby at_125) (fun _ _ => ⟨rfl, eh42, (by decide : 2 + 0 ≤ _), (by decide : 8 + 0 ≤ _)⟩)
      dsimp only [Pt.U, Pt.locs, Pt.cells, Pt.slots] at X44 l44 y44 z44 st44 hQ44
      subst l44 y44 z44
      obtain ⟨rfl, Nq44, eh44⟩ := hQ44
      have N44 := Fr.app N42 Nq44
      refine own_tr (T44.setTop (mkF m 128 #[.val (.long q1), .second, .val (.long q2), .second, .val (.long q3), .second, .val (.long q4), .second, .val (.int ac), .val (.int aC), .val (.int ar), .val (.int aR), .val (.int bc), .val (.int bC), .val (.int br), .val (.int bR), .val (.ref a34), .val (.ref a36), .val (.int (0 : Int32))] [(.int (own_mt ac ar aC aR bc br bC bR))])) st44 ?_
      refine own_of (T44.setTop (mkF m 130 #[.val (.long q1), .second, .val (.long q2), .second, .val (.long q3), .second, .val (.long q4), .second, .val (.int ac), .val (.int aC), .val (.int ar), .val (.int aR), .val (.int bc), .val (.int bC), .val (.int br), .val (.int bR), .val (.ref a34), .val (.ref a36), .val (.int (0 : Int32))] [(.int (0 : Int32)), (.int (own_mt ac ar aC aR bc br bC bR))])) (fun t k => XS.iload X44.here hx rfl (hb hby at_128) rfl k) ?_
      refine own_of (T44.setTop (mkF m 133 #[.val (.long q1), .second, .val (.long q2), .second, .val (.long q3), .second, .val (.long q4), .second, .val (.int ac), .val (.int aC), .val (.int ar), .val (.int aR), .val (.int bc), .val (.int bC), .val (.int br), .val (.int bR), .val (.ref a34), .val (.ref a36), .val (.int (0 : Int32))] [])) (fun t k => XS.icmpNo X44.here hx rfl (hb hby at_130) rfl (teq ((own_law ac ar aC aR bc br bC bR hl0 hl1 hl2 hl3).trans hx1)).2 k) ?_
      refine own_of (T44.setTop (mkF m 135 #[.val (.long q1), .second, .val (.long q2), .second, .val (.long q3), .second, .val (.long q4), .second, .val (.int ac), .val (.int aC), .val (.int ar), .val (.int aR), .val (.int bc), .val (.int bC), .val (.int br), .val (.int bR), .val (.ref a34), .val (.ref a36), .val (.int (0 : Int32))] [(.ref a36)])) (fun t k => XS.aload X44.here hx rfl (hb hby at_133) rfl rfl k) ?_
      refine own_of (T44.setTop (mkF m 137 #[.val (.long q1), .second, .val (.long q2), .second, .val (.long q3), .second, .val (.long q4), .second, .val (.int ac), .val (.int aC), .val (.int ar), .val (.int aR), .val (.int bc), .val (.int bC), .val (.int br), .val (.int bR), .val (.ref a34), .val (.ref a36), .val (.int (0 : Int32))] [(.ref a34), (.ref a36)])) (fun t k => XS.aload X44.here hx rfl (hb hby at_135) rfl rfl k) ?_
      obtain ⟨cq45, kq45, qa45, qb45, qc45⟩ := isOf hZ eh44 f37_5
      obtain ⟨_, _, ⟨T45, L45, k45, n45⟩, -, X45, ⟨Lc45, hQ45, l45, y45, z45⟩, st45⟩ := X44.virtualBack hx (y := (⟨"com/example/swathe/swathe/CellRectangle", "meets", "(Lcom/example/swathe/swathe/CellRectangle;)Z"⟩ : MethodName)) (z := (⟨"com/example/swathe/swathe/CellRectangle", "meets", "(Lcom/example/swathe/swathe/CellRectangle;)Z"⟩ : MethodName)) hown (mvT hZ (hw _ (List.mem_of_getElem? (i := 39) rfl))) (mvT hZ (hw _ (List.mem_of_getElem? (i := 40) rfl))) (notFace_of_selects (args := #[]) (mvT hZ (hw _ (List.mem_of_getElem? (i := 42) rfl)))) (mvT hZ (hw _ (List.mem_of_getElem? (i := 42) rfl))) (mvT hZ (hw _ (List.mem_of_getElem? (i := 41) rfl))) (by decide) (backOf (W := 0) (rm9 l Z a0 hw [] a36 a34 bc br bC bR ac ar aC aR T37.heap n0 Z37 fa37 fb37 fc37 fd37 f37_1 f37_2 f37_3 f37_4) hZ (hw _ (List.mem_of_getElem? (i := 43) rfl)) (hw _ (List.mem_of_getElem? (i := 16) rfl)) (by decide) (by decide)) qa45 qc45 (g := (mkF m 137 #[.val (.long q1), .second, .val (.long q2), .second, .val (.long q3), .second, .val (.long q4), .second, .val (.int ac), .val (.int aC), .val (.int ar), .val (.int aR), .val (.int bc), .val (.int bC), .val (.int br), .val (.int bR), .val (.ref a34), .val (.ref a36), .val (.int (0 : Int32))] [(.ref a34), (.ref a36)])) rfl (by rw [hml]; rfl) (Steps.refl _) (argsL := [(.ref a34)]) (rest := []) (lenOf (by decide +kernel : parseMethodDescriptor "(Lcom/example/swathe/swathe/CellRectangle;)Z" = some ⟨[(.object "com/example/swathe/swathe/CellRectangle")], some .boolean⟩) rfl) rfl (by show 2 * 0 + _ ≤ _; exact Nat.le_of_eq rfl) (hb hby at_137) (fun _ _ => ⟨rfl, eh44, (by decide : 2 + 0 ≤ _), (by decide : 8 + 0 ≤ _)⟩)
      dsimp only [Pt.U, Pt.locs, Pt.cells, Pt.slots] at X45 l45 y45 z45 st45 hQ45
      subst l45 y45 z45
      obtain ⟨rfl, Nq45, eh45⟩ := hQ45
      have N45 := Fr.app N44 Nq45
      refine own_tr (T45.setTop (mkF m 140 #[.val (.long q1), .second, .val (.long q2), .second, .val (.long q3), .second, .val (.long q4), .second, .val (.int ac), .val (.int aC), .val (.int ar), .val (.int aR), .val (.int bc), .val (.int bC), .val (.int br), .val (.int bR), .val (.ref a34), .val (.ref a36), .val (.int (0 : Int32))] [(.int (own_mt bc br bC bR ac ar aC aR))])) st45 ?_
      refine own_of (T45.setTop (mkF m 142 #[.val (.long q1), .second, .val (.long q2), .second, .val (.long q3), .second, .val (.long q4), .second, .val (.int ac), .val (.int aC), .val (.int ar), .val (.int aR), .val (.int bc), .val (.int bC), .val (.int br), .val (.int bR), .val (.ref a34), .val (.ref a36), .val (.int (0 : Int32))] [(.int (0 : Int32)), (.int (own_mt bc br bC bR ac ar aC aR))])) (fun t k => XS.iload X45.here hx rfl (hb hby at_140) rfl k) ?_
      refine own_of (T45.setTop (mkF m 145 #[.val (.long q1), .second, .val (.long q2), .second, .val (.long q3), .second, .val (.long q4), .second, .val (.int ac), .val (.int aC), .val (.int ar), .val (.int aR), .val (.int bc), .val (.int bC), .val (.int br), .val (.int bR), .val (.ref a34), .val (.ref a36), .val (.int (0 : Int32))] [])) (fun t k => XS.icmpNo X45.here hx rfl (hb hby at_142) rfl (teq ((own_law' ac ar aC aR bc br bC bR hl0 hl1 hl2 hl3).trans hx1)).2 k) ?_
      refine own_of (T45.setTop (mkF m 146 #[.val (.long q1), .second, .val (.long q2), .second, .val (.long q3), .second, .val (.long q4), .second, .val (.int ac), .val (.int aC), .val (.int ar), .val (.int aR), .val (.int bc), .val (.int bC), .val (.int br), .val (.int bR), .val (.ref a34), .val (.ref a36), .val (.int (0 : Int32))] [(.int (1 : Int32))])) (fun t k => XS.iconst X45.here hx rfl (hb hby at_145) k) ?_
      refine own_of (T45.setTop (mkF m 150 #[.val (.long q1), .second, .val (.long q2), .second, .val (.long q3), .second, .val (.long q4), .second, .val (.int ac), .val (.int aC), .val (.int ar), .val (.int aR), .val (.int bc), .val (.int bC), .val (.int br), .val (.int bR), .val (.ref a34), .val (.ref a36), .val (.int (0 : Int32))] [(.int (1 : Int32))])) (fun t k => XS.goto X45.here hx rfl (pc0 := 146) (pc' := 150) rfl (hb hby at_146) (by decide) (by decide) k) ?_
      obtain ⟨fs, hr, hrun, hended, hW, hsame⟩ := X45.leave (v := some (.int (1 : Int32))) (fun h => by rw [Bd.returns] at h; cases h)
      refine ⟨_, _, retN X45 hx (t := .boolean) Bd.returns (by simp) (hb hby at_150) hr, hrun, hended, _, _, rfl, ?_, ⟨_, rfl⟩, hW, hsame.mono (by decide) (by decide)⟩
      show Q_rm0 Z q1 q2 q3 q4  h0 n0 _ T45.heap _
      rw [eh45]
      exact ⟨rfl, N45⟩
    · refine own_of (T42.setTop (mkF m 114 #[.val (.long q1), .second, .val (.long q2), .second, .val (.long q3), .second, .val (.long q4), .second, .val (.int ac), .val (.int aC), .val (.int ar), .val (.int aR), .val (.int bc), .val (.int bC), .val (.int br), .val (.int bR), .val (.ref a34), .val (.ref a36), .unset] [])) (fun t k => XS.ifNo X42.here hx rfl (hb hby at_111) rfl ((if0 _ _).trans (feq hc43).1) k) ?_
      refine own_of (T42.setTop (mkF m 115 #[.val (.long q1), .second, .val (.long q2), .second, .val (.long q3), .second, .val (.long q4), .second, .val (.int ac), .val (.int aC), .val (.int ar), .val (.int aR), .val (.int bc), .val (.int bC), .val (.int br), .val (.int bR), .val (.ref a34), .val (.ref a36), .unset] [(.int (1 : Int32))])) (fun t k => XS.iconst X42.here hx rfl (hb hby at_114) k) ?_
      refine own_of (T42.setTop (mkF m 119 #[.val (.long q1), .second, .val (.long q2), .second, .val (.long q3), .second, .val (.long q4), .second, .val (.int ac), .val (.int aC), .val (.int ar), .val (.int aR), .val (.int bc), .val (.int bC), .val (.int br), .val (.int bR), .val (.ref a34), .val (.ref a36), .unset] [(.int (1 : Int32))])) (fun t k => XS.goto X42.here hx rfl (pc0 := 115) (pc' := 119) rfl (hb hby at_115) (by decide) (by decide) k) ?_
      have hx1 : own_ex ac ar aC aR bc br bC bR = (1 : Int32) := by simp only [own_ex, hc39, hc43, if_true, if_false]
      refine own_of (T42.setTop (mkF m 121 #[.val (.long q1), .second, .val (.long q2), .second, .val (.long q3), .second, .val (.long q4), .second, .val (.int ac), .val (.int aC), .val (.int ar), .val (.int aR), .val (.int bc), .val (.int bC), .val (.int br), .val (.int bR), .val (.ref a34), .val (.ref a36), .val (.int (1 : Int32))] [])) (fun t k => XS.istore X42.here hx rfl (hb hby at_119) rfl (l' := #[.val (.long q1), .second, .val (.long q2), .second, .val (.long q3), .second, .val (.long q4), .second, .val (.int ac), .val (.int aC), .val (.int ar), .val (.int aR), .val (.int bc), .val (.int bC), .val (.int br), .val (.int bR), .val (.ref a34), .val (.ref a36), .val (.int (1 : Int32))]) rfl k) ?_
      refine own_of (T42.setTop (mkF m 123 #[.val (.long q1), .second, .val (.long q2), .second, .val (.long q3), .second, .val (.long q4), .second, .val (.int ac), .val (.int aC), .val (.int ar), .val (.int aR), .val (.int bc), .val (.int bC), .val (.int br), .val (.int bR), .val (.ref a34), .val (.ref a36), .val (.int (1 : Int32))] [(.ref a34)])) (fun t k => XS.aload X42.here hx rfl (hb hby at_121) rfl rfl k) ?_
      refine own_of (T42.setTop (mkF m 125 #[.val (.long q1), .second, .val (.long q2), .second, .val (.long q3), .second, .val (.long q4), .second, .val (.int ac), .val (.int aC), .val (.int ar), .val (.int aR), .val (.int bc), .val (.int bC), .val (.int br), .val (.int bR), .val (.ref a34), .val (.ref a36), .val (.int (1 : Int32))] [(.ref a36), (.ref a34)])) (fun t k => XS.aload X42.here hx rfl (hb hby at_123) rfl rfl k) ?_
      obtain ⟨cq46, kq46, qa46, qb46, qc46⟩ := isOf hZ eh42 f37_0
      obtain ⟨_, _, ⟨T46, L46, k46, n46⟩, -, X46, ⟨Lc46, hQ46, l46, y46, z46⟩, st46⟩ := X42.virtualBack hx (y := (⟨"com/example/swathe/swathe/CellRectangle", "meets", "(Lcom/example/swathe/swathe/CellRectangle;)Z"⟩ : MethodName)) (z := (⟨"com/example/swathe/swathe/CellRectangle", "meets", "(Lcom/example/swathe/swathe/CellRectangle;)Z"⟩ : MethodName)) hown (mvT hZ (hw _ (List.mem_of_getElem? (i := 39) rfl))) (mvT hZ (hw _ (List.mem_of_getElem? (i := 40) rfl))) (notFace_of_selects (args := #[]) (mvT hZ (hw _ (List.mem_of_getElem? (i := 42) rfl)))) (mvT hZ (hw _ (List.mem_of_getElem? (i := 42) rfl))) (mvT hZ (hw _ (List.mem_of_getElem? (i := 41) rfl))) (by decide) (backOf (W := 0) (rm9 l Z a0 hw [] a34 a36 ac ar aC aR bc br bC bR T37.heap n0 Z37 f37_1 f37_2 f37_3 f37_4 fa37 fb37 fc37 fd37) hZ (hw _ (List.mem_of_getElem? (i := 43) rfl)) (hw _ (List.mem_of_getElem? (i := 16) rfl)) (by decide) (by decide)) qa46 qc46 (g := (mkF m 125 #[.val (.long q1), .second, .val (.long q2), .second, .val (.long q3), .second, .val (.long q4), .second, .val (.int ac), .val (.int aC), .val (.int ar), .val (.int aR), .val (.int bc), .val (.int bC), .val (.int br), .val (.int bR), .val (.ref a34), .val (.ref a36), .val (.int (1 : Int32))] [(.ref a36), (.ref a34)])) rfl (by rw [hml]; rfl) (Steps.refl _) (argsL := [(.ref a36)]) (rest := []) (lenOf (by decide +kernel : parseMethodDescriptor "(Lcom/example/swathe/swathe/CellRectangle;)Z" = some ⟨[(.object "com/example/swathe/swathe/CellRectangle")], some .boolean⟩) rfl) rfl (by show 2 * 0 + _ ≤ _; exact Nat.le_of_eq rfl) (hb hby at_125) (fun _ _ => ⟨rfl, eh42, (by decide : 2 + 0 ≤ _), (by decide : 8 + 0 ≤ _)⟩)
      dsimp only [Pt.U, Pt.locs, Pt.cells, Pt.slots] at X46 l46 y46 z46 st46 hQ46
      subst l46 y46 z46
      obtain ⟨rfl, Nq46, eh46⟩ := hQ46
      have N46 := Fr.app N42 Nq46
      refine own_tr (T46.setTop (mkF m 128 #[.val (.long q1), .second, .val (.long q2), .second, .val (.long q3), .second, .val (.long q4), .second, .val (.int ac), .val (.int aC), .val (.int ar), .val (.int aR), .val (.int bc), .val (.int bC), .val (.int br), .val (.int bR), .val (.ref a34), .val (.ref a36), .val (.int (1 : Int32))] [(.int (own_mt ac ar aC aR bc br bC bR))])) st46 ?_
      refine own_of (T46.setTop (mkF m 130 #[.val (.long q1), .second, .val (.long q2), .second, .val (.long q3), .second, .val (.long q4), .second, .val (.int ac), .val (.int aC), .val (.int ar), .val (.int aR), .val (.int bc), .val (.int bC), .val (.int br), .val (.int bR), .val (.ref a34), .val (.ref a36), .val (.int (1 : Int32))] [(.int (1 : Int32)), (.int (own_mt ac ar aC aR bc br bC bR))])) (fun t k => XS.iload X46.here hx rfl (hb hby at_128) rfl k) ?_
      refine own_of (T46.setTop (mkF m 133 #[.val (.long q1), .second, .val (.long q2), .second, .val (.long q3), .second, .val (.long q4), .second, .val (.int ac), .val (.int aC), .val (.int ar), .val (.int aR), .val (.int bc), .val (.int bC), .val (.int br), .val (.int bR), .val (.ref a34), .val (.ref a36), .val (.int (1 : Int32))] [])) (fun t k => XS.icmpNo X46.here hx rfl (hb hby at_130) rfl (teq ((own_law ac ar aC aR bc br bC bR hl0 hl1 hl2 hl3).trans hx1)).2 k) ?_
      refine own_of (T46.setTop (mkF m 135 #[.val (.long q1), .second, .val (.long q2), .second, .val (.long q3), .second, .val (.long q4), .second, .val (.int ac), .val (.int aC), .val (.int ar), .val (.int aR), .val (.int bc), .val (.int bC), .val (.int br), .val (.int bR), .val (.ref a34), .val (.ref a36), .val (.int (1 : Int32))] [(.ref a36)])) (fun t k => XS.aload X46.here hx rfl (hb hby at_133) rfl rfl k) ?_
      refine own_of (T46.setTop (mkF m 137 #[.val (.long q1), .second, .val (.long q2), .second, .val (.long q3), .second, .val (.long q4), .second, .val (.int ac), .val (.int aC), .val (.int ar), .val (.int aR), .val (.int bc), .val (.int bC), .val (.int br), .val (.int bR), .val (.ref a34), .val (.ref a36), .val (.int (1 : Int32))] [(.ref a34), (.ref a36)])) (fun t k => XS.aload X46.here hx rfl (hb hby at_135) rfl rfl k) ?_
      obtain ⟨cq47, kq47, qa47, qb47, qc47⟩ := isOf hZ eh46 f37_5
      obtain ⟨_, _, ⟨T47, L47, k47, n47⟩, -, X47, ⟨Lc47, hQ47, l47, y47, z47⟩, st47⟩ := X46.virtualBack hx (y := (⟨"com/example/swathe/swathe/CellRectangle", "meets", "(Lcom/example/swathe/swathe/CellRectangle;)Z"⟩ : MethodName)) (z := (⟨"com/example/swathe/swathe/CellRectangle", "meets", "(Lcom/example/swathe/swathe/CellRectangle;)Z"⟩ : MethodName)) hown (mvT hZ (hw _ (List.mem_of_getElem? (i := 39) rfl))) (mvT hZ (hw _ (List.mem_of_getElem? (i := 40) rfl))) (notFace_of_selects (args := #[]) (mvT hZ (hw _ (List.mem_of_getElem? (i := 42) rfl)))) (mvT hZ (hw _ (List.mem_of_getElem? (i := 42) rfl))) (mvT hZ (hw _ (List.mem_of_getElem? (i := 41) rfl))) (by decide) (backOf (W := 0) (rm9 l Z a0 hw [] a36 a34 bc br bC bR ac ar aC aR T37.heap n0 Z37 fa37 fb37 fc37 fd37 f37_1 f37_2 f37_3 f37_4) hZ (hw _ (List.mem_of_getElem? (i := 43) rfl)) (hw _ (List.mem_of_getElem? (i := 16) rfl)) (by decide) (by decide)) qa47 qc47 (g := (mkF m 137 #[.val (.long q1), .second, .val (.long q2), .second, .val (.long q3), .second, .val (.long q4), .second, .val (.int ac), .val (.int aC), .val (.int ar), .val (.int aR), .val (.int bc), .val (.int bC), .val (.int br), .val (.int bR), .val (.ref a34), .val (.ref a36), .val (.int (1 : Int32))] [(.ref a34), (.ref a36)])) rfl (by rw [hml]; rfl) (Steps.refl _) (argsL := [(.ref a34)]) (rest := []) (lenOf (by decide +kernel : parseMethodDescriptor "(Lcom/example/swathe/swathe/CellRectangle;)Z" = some ⟨[(.object "com/example/swathe/swathe/CellRectangle")], some .boolean⟩) rfl) rfl (by show 2 * 0 + _ ≤ _; exact Nat.le_of_eq rfl) (hb hby at_137) (fun _ _ => ⟨rfl, eh46, (by decide : 2 + 0 ≤ _), (by decide : 8 + 0 ≤ _)⟩)
      dsimp only [Pt.U, Pt.locs, Pt.cells, Pt.slots] at X47 l47 y47 z47 st47 hQ47
      subst l47 y47 z47
      obtain ⟨rfl, Nq47, eh47⟩ := hQ47
      have N47 := Fr.app N46 Nq47
      refine own_tr (T47.setTop (mkF m 140 #[.val (.long q1), .second, .val (.long q2), .second, .val (.long q3), .second, .val (.long q4), .second, .val (.int ac), .val (.int aC), .val (.int ar), .val (.int aR), .val (.int bc), .val (.int bC), .val (.int br), .val (.int bR), .val (.ref a34), .val (.ref a36), .val (.int (1 : Int32))] [(.int (own_mt bc br bC bR ac ar aC aR))])) st47 ?_
      refine own_of (T47.setTop (mkF m 142 #[.val (.long q1), .second, .val (.long q2), .second, .val (.long q3), .second, .val (.long q4), .second, .val (.int ac), .val (.int aC), .val (.int ar), .val (.int aR), .val (.int bc), .val (.int bC), .val (.int br), .val (.int bR), .val (.ref a34), .val (.ref a36), .val (.int (1 : Int32))] [(.int (1 : Int32)), (.int (own_mt bc br bC bR ac ar aC aR))])) (fun t k => XS.iload X47.here hx rfl (hb hby at_140) rfl k) ?_
      refine own_of (T47.setTop (mkF m 145 #[.val (.long q1), .second, .val (.long q2), .second, .val (.long q3), .second, .val (.long q4), .second, .val (.int ac), .val (.int aC), .val (.int ar), .val (.int aR), .val (.int bc), .val (.int bC), .val (.int br), .val (.int bR), .val (.ref a34), .val (.ref a36), .val (.int (1 : Int32))] [])) (fun t k => XS.icmpNo X47.here hx rfl (hb hby at_142) rfl (teq ((own_law' ac ar aC aR bc br bC bR hl0 hl1 hl2 hl3).trans hx1)).2 k) ?_
      refine own_of (T47.setTop (mkF m 146 #[.val (.long q1), .second, .val (.long q2), .second, .val (.long q3), .second, .val (.long q4), .second, .val (.int ac), .val (.int aC), .val (.int ar), .val (.int aR), .val (.int bc), .val (.int bC), .val (.int br), .val (.int bR), .val (.ref a34), .val (.ref a36), .val (.int (1 : Int32))] [(.int (1 : Int32))])) (fun t k => XS.iconst X47.here hx rfl (hb hby at_145) k) ?_
      refine own_of (T47.setTop (mkF m 150 #[.val (.long q1), .second, .val (.long q2), .second, .val (.long q3), .second, .val (.long q4), .second, .val (.int ac), .val (.int aC), .val (.int ar), .val (.int aR), .val (.int bc), .val (.int bC), .val (.int br), .val (.int bR), .val (.ref a34), .val (.ref a36), .val (.int (1 : Int32))] [(.int (1 : Int32))])) (fun t k => XS.goto X47.here hx rfl (pc0 := 146) (pc' := 150) rfl (hb hby at_146) (by decide) (by decide) k) ?_
      obtain ⟨fs, hr, hrun, hended, hW, hsame⟩ := X47.leave (v := some (.int (1 : Int32))) (fun h => by rw [Bd.returns] at h; cases h)
      refine ⟨_, _, retN X47 hx (t := .boolean) Bd.returns (by simp) (hb hby at_150) hr, hrun, hended, _, _, rfl, ?_, ⟨_, rfl⟩, hW, hsame.mono (by decide) (by decide)⟩
      show Q_rm0 Z q1 q2 q3 q4  h0 n0 _ T47.heap _
      rw [eh47]
      exact ⟨rfl, N47⟩
set_option maxRecDepth 65536 in
set_option maxHeartbeats 40000000 in
theorem comes_1 {Post : Tables → Env → Array Value → State → Outcome → State → Prop} (hpost : ∀ tb e args s v u, (limb_1_1.after args s (.returned v) u = true ∧ limb_1_2.after args s (.returned v) u = true ∧ True) → FrameEnd s (.returned v) u (Jvm.fieldLocs frame_1_writes args s ++ Jvm.arrayLocs frame_1_arrays args s ++ Jvm.staticLocs frame_1_statics s) 16 128 → Post tb e args s (.returned v) u) :
    ArmFor flags0 classFile x code maxLocals ret World_1 tables_1 room_1 Calls_1 rest_1 Pre_1 Post := by
  intro l hfl _ _ p e ha hc hk s m args below hf hA hF happ hP
  obtain ⟨hcalls, hrest, hpre⟩ := hP
  obtain ⟨-, -, -, hnamed, -, -, -, hat⟩ := (Spec.applies_iff hf).mp happ
  obtain ⟨hg, hn⟩ := and_e (Cond.before_iff.mp (show (Jvm.Cond.and given_1 narrow_1).before args s = true from hpre))
  obtain ⟨h1, g0⟩ := and_e hg
  obtain ⟨w0, w1, w2, w3, rfl⟩ : ∃ w0 w1 w2 w3 : Value, args = #[w0, w1, w2, w3] := by
    have hs : args.size = 4 := by simpa [Cond.value, given_1] using h1
    obtain ⟨L⟩ := args
    match L, hs with
    | [w0, w1, w2, w3], _ => exact ⟨w0, w1, w2, w3, rfl⟩
  have hw := fun d (hd : d ∈ tables_1) => atoms_spec (ws := Jvm.Cond.code x code maxLocals ret :: tables_1) hat d (List.mem_cons_of_mem _ hd)
  obtain ⟨c0, g1⟩ := and_e g0
  obtain ⟨i0, e0⟩ := isL_v c0
  obtain rfl : w0 = (.long i0) := Option.some.inj e0
  obtain ⟨c1, g2⟩ := and_e g1
  obtain ⟨i1, e1⟩ := isL_v c1
  obtain rfl : w1 = (.long i1) := Option.some.inj e1
  obtain ⟨c2, g3⟩ := and_e g2
  obtain ⟨i2, e2⟩ := isL_v c2
  obtain rfl : w2 = (.long i2) := Option.some.inj e2
  obtain ⟨i3, e3⟩ := isL_v g3
  obtain rfl : w3 = (.long i3) := Option.some.inj e3
  obtain ⟨n, o, h1, h2, h3, _, L, rfl, ⟨rfl, N⟩, hq⟩ := rm0 l s _ hw tables_1 i0 i1 i2 i3 s.heap s.heap.size (Nat.le_refl _) p e ha hc hk s m _ below hf ((Spec.applies_iff_loose hf).mp happ).1 ⟨rfl, State.Warmed39.refl s, rfl⟩ trivial
  refine ⟨n, _, h1, h2, h3, hpost _ _ _ _ _ _ ⟨Cond.after_iff.mpr rfl, Cond.after_iff.mpr (eq_i res_at (Term.int_eval (1)) rfl), trivial⟩ ⟨hq.1, hq.2.1, (hq.2.2.sift fun y hy => Or.inr (N y hy)).mono (by decide) (by decide)⟩⟩
theorem main_1_1 : Claimed_1_1 := comes_1 fun _ _ _ _ _ _ h hF => ⟨h.1, hF⟩
theorem main_1_2 : Claimed_1_2 := comes_1 fun _ _ _ _ _ _ h hF => ⟨h.2.1, hF⟩
end Jvm.Pilot.@@N@@
namespace Jvm.Pilot.@@N@@
open Jvm Jvm.ClassFile Sem Op Lib Jvm.Free Jvm.Stand Jvm.Pilot.@@N@@.Jvm.D
/-! MADE BY PROGRAM (witnessworld.py) out of the Statement's table words and the real class files: 11 classes; the members and pool entries that the words name. The judged class is class 1, her method 4. -/
namespace start1
open Jvm.ClassFile
def u (s : String) : CpInfo := .utf8 (stringToUtf16 s)
/-- a pool by its gaps: so many unusable entries, then the entry; so many at the end -/
def gap : Nat → List CpInfo → List CpInfo
  | 0, r => r
  | n + 1, r => .unusable :: gap n r
def poolList (es : List (Nat × CpInfo)) (last : Nat) : List CpInfo := es.foldr (fun e r => gap e.1 (e.2 :: r)) (gap last [])
def pool (es : List (Nat × CpInfo)) (last : Nat) : Array CpInfo := ⟨poolList es last⟩
def fileOf (pool : Array CpInfo) (this : Nat) (attrs : Array Attribute := #[]) (ms : Array MethodInfo := #[]) (fl : Nat := 33) (sup : Nat := 0) (ifs : Array Nat := #[]) (fds : Array FieldInfo := #[]) : ClassFile where
  minorVersion := 0
  majorVersion := 65
  constantPool := pool
  accessFlags := fl
  thisClass := this
  superClass := sup
  interfaces := ifs
  fields := fds
  methods := ms
  attributes := attrs
def plain (name : String) (sup : Option ClassId) : Class where
  name := name
  kind := .ordinary
  loader := none
  accessFlags := 33
  super := sup
  interfaces := #[]
  cf := none
  fields := #[]
  methods := #[]
  instanceTypes := #[]
  staticTypes := #[]
  resolved := #[]
  callSites := []
  init := .initialized
  statics := none
  mirror := none

def pool0 : Array CpInfo := pool [(5, u "<init>"), (0, u "()V"), (1, .class_ 10), (1, u "java/lang/Object")] 113

def k0c0 : Code := { maxStack := 0, maxLocals := 1, code := object_method_1_code, exceptionTable := #[], attributes := #[] }
def k0m0 : Method := { name := "<init>", desc := "()V", sig := { parameters := [], returnType := none }, accessFlags := 1, code := some k0c0 }
/-- java/lang/Object -/
def k0 : Class := { plain "java/lang/Object" none with
  accessFlags := 33
  interfaces := #[]
  cf := some (fileOf pool0 8 #[] #[{ accessFlags := 1, nameIndex := 5, descriptorIndex := 6, attributes := #[] }] 33 0 #[] #[])
  fields := #[]
  methods := #[k0m0]
  instanceTypes := #[]
  staticTypes := #[]
  resolved := Array.replicate 124 none
  statics := none }

def pool1 : Array CpInfo := pool [(2, .class_ 4), (1, u "java/lang/Object"), (0, u "<init>"), (0, u "()V"), (0, .methodref 8 9), (0, .class_ 10), (0, .nameAndType 11 12), (0, u "java/lang/Math"), (0, u "min"), (0, u "(II)I"), (0, .methodref 8 14), (0, .nameAndType 15 12), (0, u "max"), (0, .methodref 17 18), (0, .class_ 19), (0, .nameAndType 20 21), (0, u "com/example/swathe/swathe/CellRectangleMeetsPinLaw"), (0, u "lo"), (0, u "(J)I"), (0, .methodref 17 23), (0, .nameAndType 24 21), (0, u "hi"), (0, .class_ 26), (0, u "com/example/swathe/swathe/CellRectangle"), (0, .methodref 25 28), (0, .nameAndType 5 29), (0, u "(IIII)V"), (0, .methodref 17 31), (0, .nameAndType 32 33), (0, u "overlap"), (0, u "(IIII)Z"), (0, .methodref 25 35), (0, .nameAndType 36 37), (0, u "meets"), (0, u "(Lcom/example/swathe/swathe/CellRectangle;)Z"), (3, u "law"), (0, u "(JJJJ)Z")] 2

def k1m0 : Method := { name := "<init>", desc := "()V", sig := { parameters := [], returnType := none }, accessFlags := 1, code := none }
def k1c1 : Code := { maxStack := 3, maxLocals := 2, code := method_2_code, exceptionTable := #[], attributes := #[] }
def k1m1 : Method := { name := "lo", desc := "(J)I", sig := { parameters := [.long], returnType := some .int }, accessFlags := 10, code := some k1c1 }
def k1c2 : Code := { maxStack := 3, maxLocals := 2, code := method_3_code, exceptionTable := #[], attributes := #[] }
def k1m2 : Method := { name := "hi", desc := "(J)I", sig := { parameters := [.long], returnType := some .int }, accessFlags := 10, code := some k1c2 }
def k1c3 : Code := { maxStack := 3, maxLocals := 4, code := method_4_code, exceptionTable := #[], attributes := #[] }
def k1m3 : Method := { name := "overlap", desc := "(IIII)Z", sig := { parameters := [.int, .int, .int, .int], returnType := some .boolean }, accessFlags := 10, code := some k1c3 }
def k1c4 : Code := { maxStack := 6, maxLocals := 19, code := code, exceptionTable := #[], attributes := #[] }
def k1m4 : Method := { name := "law", desc := "(JJJJ)Z", sig := { parameters := [.long, .long, .long, .long], returnType := some .boolean }, accessFlags := 9, code := some k1c4 }
/-- com/example/swathe/swathe/CellRectangleMeetsPinLaw -/
def k1 : Class := { plain "com/example/swathe/swathe/CellRectangleMeetsPinLaw" (some 0) with
  accessFlags := 49
  interfaces := #[]
  cf := some (fileOf pool1 17 #[] #[{ accessFlags := 1, nameIndex := 5, descriptorIndex := 6, attributes := #[] }, { accessFlags := 10, nameIndex := 20, descriptorIndex := 21, attributes := #[] }, { accessFlags := 10, nameIndex := 24, descriptorIndex := 21, attributes := #[] }, { accessFlags := 10, nameIndex := 32, descriptorIndex := 33, attributes := #[] }, { accessFlags := 9, nameIndex := 41, descriptorIndex := 42, attributes := #[] }] 49 2 #[] #[])
  fields := #[]
  methods := #[k1m0, k1m1, k1m2, k1m3, k1m4]
  instanceTypes := #[]
  staticTypes := #[]
  resolved := Array.replicate 45 none
  statics := none }

def pool2 : Array CpInfo := pool [(1, .class_ 2), (0, u "java/lang/Math"), (1, .class_ 6), (1, u "java/lang/Object"), (0, u "<init>"), (0, u "()V"), (89, .class_ 100), (1, u "java/lang/Math$RandomNumberGeneratorHolder"), (71, u "negativeZeroFloatBits"), (0, u "J"), (2, u "negativeZeroDoubleBits"), (21, u "max"), (2, u "min"), (43, u "$assertionsDisabled"), (0, u "Z"), (88, u "(II)I"), (2, u "twoToTheDoubleScaleDown"), (0, u "D"), (4, u "twoToTheDoubleScaleUp"), (9, u "E"), (3, u "PI"), (2, u "TAU"), (2, u "DEGREES_TO_RADIANS"), (0, u "RADIANS_TO_DEGREES")] 94

def k2m0 : Method := { name := "<init>", desc := "()V", sig := { parameters := [], returnType := none }, accessFlags := 2, code := none }
def k2c1 : Code := { maxStack := 2, maxLocals := 2, code := jdk_29_method_65_code, exceptionTable := #[], attributes := #[] }
def k2m1 : Method := { name := "max", desc := "(II)I", sig := { parameters := [.int, .int], returnType := some .int }, accessFlags := 9, code := some k2c1 }
def k2c2 : Code := { maxStack := 2, maxLocals := 2, code := jdk_29_method_69_code, exceptionTable := #[], attributes := #[] }
def k2m2 : Method := { name := "min", desc := "(II)I", sig := { parameters := [.int, .int], returnType := some .int }, accessFlags := 9, code := some k2c2 }
/-- java/lang/Math -/
def k2 : Class := { plain "java/lang/Math" (some 0) with
  accessFlags := 49
  interfaces := #[]
  cf := some (fileOf pool2 1 #[.nestMembers #[98]] #[{ accessFlags := 2, nameIndex := 7, descriptorIndex := 8, attributes := #[] }, { accessFlags := 9, nameIndex := 198, descriptorIndex := 335, attributes := #[] }, { accessFlags := 9, nameIndex := 201, descriptorIndex := 335, attributes := #[] }] 49 4 #[] #[{ accessFlags := 25, nameIndex := 354, descriptorIndex := 339, attributes := #[] }, { accessFlags := 25, nameIndex := 358, descriptorIndex := 339, attributes := #[] }, { accessFlags := 25, nameIndex := 361, descriptorIndex := 339, attributes := #[] }, { accessFlags := 26, nameIndex := 364, descriptorIndex := 339, attributes := #[] }, { accessFlags := 26, nameIndex := 365, descriptorIndex := 339, attributes := #[] }, { accessFlags := 26, nameIndex := 172, descriptorIndex := 173, attributes := #[] }, { accessFlags := 26, nameIndex := 176, descriptorIndex := 173, attributes := #[] }, { accessFlags := 8, nameIndex := 344, descriptorIndex := 339, attributes := #[] }, { accessFlags := 8, nameIndex := 338, descriptorIndex := 339, attributes := #[] }, { accessFlags := 4120, nameIndex := 245, descriptorIndex := 246, attributes := #[] }])
  fields := #[{ name := "E", type := .double, accessFlags := 25, slot := 0, constantValue := 0 }, { name := "PI", type := .double, accessFlags := 25, slot := 1, constantValue := 0 }, { name := "TAU", type := .double, accessFlags := 25, slot := 2, constantValue := 0 }, { name := "DEGREES_TO_RADIANS", type := .double, accessFlags := 26, slot := 3, constantValue := 0 }, { name := "RADIANS_TO_DEGREES", type := .double, accessFlags := 26, slot := 4, constantValue := 0 }, { name := "negativeZeroFloatBits", type := .long, accessFlags := 26, slot := 5, constantValue := 0 }, { name := "negativeZeroDoubleBits", type := .long, accessFlags := 26, slot := 6, constantValue := 0 }, { name := "twoToTheDoubleScaleUp", type := .double, accessFlags := 8, slot := 7, constantValue := 0 }, { name := "twoToTheDoubleScaleDown", type := .double, accessFlags := 8, slot := 8, constantValue := 0 }, { name := "$assertionsDisabled", type := .boolean, accessFlags := 4120, slot := 9, constantValue := 0 }]
  methods := #[k2m0, k2m1, k2m2]
  instanceTypes := #[]
  staticTypes := #[.double, .double, .double, .double, .double, .long, .long, .double, .double, .boolean]
  resolved := Array.replicate 460 none
  statics := none }

def pool3 : Array CpInfo := pool [(1, .methodref 2 3), (0, .class_ 4), (0, .nameAndType 5 6), (0, u "java/lang/Object"), (0, u "<init>"), (0, u "()V"), (0, .class_ 8), (0, u "java/lang/Record")] 13

def k3c0 : Code := { maxStack := 1, maxLocals := 1, code := jdk_30_method_1_code, exceptionTable := #[], attributes := #[] }
def k3m0 : Method := { name := "<init>", desc := "()V", sig := { parameters := [], returnType := none }, accessFlags := 4, code := some k3c0 }
/-- java/lang/Record -/
def k3 : Class := { plain "java/lang/Record" (some 0) with
  accessFlags := 1057
  interfaces := #[]
  cf := some (fileOf pool3 7 #[] #[{ accessFlags := 4, nameIndex := 5, descriptorIndex := 6, attributes := #[] }] 1057 2 #[] #[])
  fields := #[]
  methods := #[k3m0]
  instanceTypes := #[]
  staticTypes := #[]
  resolved := Array.replicate 22 none
  statics := none }

def pool4 : Array CpInfo := pool [(1, .methodref 2 3), (0, .class_ 4), (0, .nameAndType 5 6), (0, u "java/lang/Record"), (0, u "<init>"), (0, u "()V"), (9, .fieldref 17 18), (0, .class_ 19), (0, .nameAndType 20 21), (0, u "com/example/swathe/swathe/CellRectangle"), (0, u "minColumn"), (0, u "I"), (0, .fieldref 17 23), (0, .nameAndType 24 21), (0, u "minRow"), (0, .fieldref 17 26), (0, .nameAndType 27 21), (0, u "maxColumn"), (0, .fieldref 17 29), (0, .nameAndType 30 21), (0, u "maxRow"), (11, u "(IIII)V"), (38, u "meets"), (0, u "(Lcom/example/swathe/swathe/CellRectangle;)Z")] 43

def k4c0 : Code := { maxStack := 6, maxLocals := 5, code := prog_8_method_1_code, exceptionTable := #[], attributes := #[] }
def k4m0 : Method := { name := "<init>", desc := "(IIII)V", sig := { parameters := [.int, .int, .int, .int], returnType := none }, accessFlags := 1, code := some k4c0 }
def k4c1 : Code := { maxStack := 2, maxLocals := 2, code := prog_8_method_3_code, exceptionTable := #[], attributes := #[] }
def k4m1 : Method := { name := "meets", desc := "(Lcom/example/swathe/swathe/CellRectangle;)Z", sig := { parameters := [(.object "com/example/swathe/swathe/CellRectangle")], returnType := some .boolean }, accessFlags := 1, code := some k4c1 }
/-- com/example/swathe/swathe/CellRectangle -/
def k4 : Class := { plain "com/example/swathe/swathe/CellRectangle" (some 3) with
  accessFlags := 49
  interfaces := #[]
  cf := some (fileOf pool4 17 #[] #[{ accessFlags := 1, nameIndex := 5, descriptorIndex := 42, attributes := #[] }, { accessFlags := 1, nameIndex := 81, descriptorIndex := 82, attributes := #[] }] 49 2 #[] #[{ accessFlags := 18, nameIndex := 20, descriptorIndex := 21, attributes := #[] }, { accessFlags := 18, nameIndex := 24, descriptorIndex := 21, attributes := #[] }, { accessFlags := 18, nameIndex := 27, descriptorIndex := 21, attributes := #[] }, { accessFlags := 18, nameIndex := 30, descriptorIndex := 21, attributes := #[] }])
  fields := #[{ name := "minColumn", type := .int, accessFlags := 18, slot := 0, constantValue := 0 }, { name := "minRow", type := .int, accessFlags := 18, slot := 1, constantValue := 0 }, { name := "maxColumn", type := .int, accessFlags := 18, slot := 2, constantValue := 0 }, { name := "maxRow", type := .int, accessFlags := 18, slot := 3, constantValue := 0 }]
  methods := #[k4m0, k4m1]
  instanceTypes := #[.int, .int, .int, .int]
  staticTypes := #[]
  resolved := Array.replicate 126 none
  statics := none }

def pool5 : Array CpInfo := pool [(1, u "java/lang/Cloneable"), (0, .class_ 1), (0, u "java/lang/Object"), (0, .class_ 3)] 3

/-- java/lang/Cloneable -/
def k5 : Class := { plain "java/lang/Cloneable" (some 0) with
  accessFlags := 1537
  interfaces := #[]
  cf := some (fileOf pool5 2 #[] #[] 1537 4 #[] #[])
  fields := #[]
  methods := #[]
  instanceTypes := #[]
  staticTypes := #[]
  resolved := Array.replicate 8 none
  statics := none }

def pool6 : Array CpInfo := pool [(1, u "java/io/Serializable"), (0, .class_ 1), (0, u "java/lang/Object"), (0, .class_ 3)] 3

/-- java/io/Serializable -/
def k6 : Class := { plain "java/io/Serializable" (some 0) with
  accessFlags := 1537
  interfaces := #[]
  cf := some (fileOf pool6 2 #[] #[] 1537 4 #[] #[])
  fields := #[]
  methods := #[]
  instanceTypes := #[]
  staticTypes := #[]
  resolved := Array.replicate 8 none
  statics := none }

/-- the primitive byte -/
def k7 : Class := { plain "byte" none with kind := .primitive 'B', accessFlags := 0x411 }
/-- [B -/
def k8 : Class := { plain "[B" (some 0) with kind := .array 7 .byte, interfaces := #[5, 6], accessFlags := 1041 }

/-- the primitive int -/
def k9 : Class := { plain "int" none with kind := .primitive 'I', accessFlags := 0x411 }
/-- [I -/
def k10 : Class := { plain "[I" (some 0) with kind := .array 9 .int, interfaces := #[5, 6], accessFlags := 1041 }

def heap : Heap := #[]
def classes : Array Class := #[k0, k1, k2, k3, k4, k5, k6, k7, k8, k9, k10]
def interned : List (Array UInt16 × Addr) := []
def slotsUsed : Nat := 0
def theMethod : MethodId := ⟨1, 4⟩
def args0 : Array Value := #[.long 5, .long 7, .long 9, .long 4]
def aboutOver (below : List Frame) : State where
  vm := { classes := classes, interned := interned.toArray }
  heap := heap
  slotsUsed := slotsUsed
  threads := #[{ frames := .invoking theMethod args0 :: below }]
def below0 : List Frame := [.native { method := ⟨0, 0⟩, args := #[] }]
def about1 : State := aboutOver below0
def p0 : Program := .bare "" "" ""
def e0 : Env := launch0.env 0 0 0
theorem w_frames : about1.frames = Frame.invoking theMethod args0 :: below0 := rfl
set_option maxRecDepth 65536 in
theorem w_args : argsFit about1.vm theMethod args0 = true := by decide +kernel
set_option maxRecDepth 65536 in
theorem w_heap : heapFits about1 = true := by decide +kernel
set_option maxRecDepth 65536 in
theorem w_runnable : about1.curStatus? = some .runnable := by decide +kernel
set_option maxRecDepth 65536 in
theorem w_alone : about1.alone = true := by decide +kernel
set_option maxRecDepth 65536 in
theorem w_named : about1.methodNamed? x = some theMethod := by decide +kernel
set_option maxRecDepth 65536 in
theorem w_hears : about1.hears theMethod below0 = true := by decide +kernel
set_option maxRecDepth 65536 in
theorem w_ripe : about1.ripe theMethod args0 below0 = true := by decide +kernel
theorem w_running : about1.status = .running := rfl
set_option maxRecDepth 65536 in
theorem w_room : about1.hasRoom e0.platform room_1 = true :=
  launch0.hasRoom_least _ room_1 (by decide +kernel) (by decide +kernel) (by decide +kernel) (by decide +kernel) (by decide +kernel) (by decide +kernel)
theorem allAtoms_all (ts : List Jvm.Cond) (a : Array Jvm.Value) (st : Jvm.State) : (allAtoms ts).before a st = ts.all (fun c => c.before a st) := by
  induction ts with
  | nil => rfl
  | cons c t ih =>
    show (Jvm.Cond.and c (allAtoms t)).before a st = _
    rw [Jvm.Cond.before_and, ih, List.all_cons]
def words1 : List Jvm.Cond := Jvm.Cond.code x code maxLocals ret :: tables_1
/-- a 'code' word, met by the world's own term for the bytes: nothing is compared byte by byte -/
theorem code_word {y : MethodName} {bytes : ByteArray} {mx : Nat} {rt : Option FieldType} {a : Array Value} {s : State} {m : MethodId} {meth : Method} {c : Code} (h1 : s.methodNamed? y = some m) (h2 : s.vm.method? m = some meth) (h3 : meth.code = some c) (h4 : c.code = bytes)
    (h5 : (c.maxLocals == mx && c.exceptionTable.isEmpty && decide (c.maxStack ≤ mostOperands) && decide (meth.sig.returnType = rt) && !meth.locks && decide (parseMethodDescriptor y.desc = some meth.sig)) = true) : (Jvm.Cond.code y bytes mx rt).before a s = true := by
  simp only [Bool.and_eq_true, beq_iff_eq, Bool.not_eq_true', decide_eq_true_eq] at h5
  obtain ⟨⟨⟨⟨⟨g1, g2⟩, g3⟩, g4⟩, g5⟩, g6⟩ := h5
  simp [Cond.before, Cond.holds, Cond.value, h1, h2, h3, h4, g1, g2, g3, g4, g5, g6]
def isCode : Jvm.Cond → Bool
  | .code _ _ _ _ => true
  | _ => false
theorem all_split {L : List Jvm.Cond} {P : Jvm.Cond → Bool} (h1 : L.all (fun c => isCode c || P c) = true) (h2 : ∀ c ∈ L.filter isCode, P c = true) : L.all P = true := by
  refine List.all_eq_true.mpr fun c hc => ?_
  have h := List.all_eq_true.mp h1 c hc
  rcases Bool.eq_false_or_eq_true (isCode c) with hi | hi
  · exact h2 c (List.mem_filter.mpr ⟨hc, hi⟩)
  · simpa [hi] using h
set_option maxRecDepth 65536 in
theorem w_c0 : (Jvm.Cond.code x code maxLocals ret).before args0 about1 = true := code_word (m := ⟨1, 4⟩) (meth := k1m4) (c := k1c4) (by decide +kernel) rfl rfl rfl (by decide +kernel)
set_option maxRecDepth 65536 in
theorem w_c1 : (Jvm.Cond.code ({ cls := "com/example/swathe/swathe/CellRectangleMeetsPinLaw", name := "lo", desc := "(J)I" } : Jvm.MethodName) method_2_code (2 : Nat) (Option.some Jvm.ClassFile.FieldType.int)).before args0 about1 = true := code_word (m := ⟨1, 1⟩) (meth := k1m1) (c := k1c1) (by decide +kernel) rfl rfl rfl (by decide +kernel)
set_option maxRecDepth 65536 in
theorem w_c2 : (Jvm.Cond.code ({ cls := "java/lang/Math", name := "min", desc := "(II)I" } : Jvm.MethodName) jdk_29_method_69_code (2 : Nat) (Option.some Jvm.ClassFile.FieldType.int)).before args0 about1 = true := code_word (m := ⟨2, 2⟩) (meth := k2m2) (c := k2c2) (by decide +kernel) rfl rfl rfl (by decide +kernel)
set_option maxRecDepth 65536 in
theorem w_c3 : (Jvm.Cond.code ({ cls := "com/example/swathe/swathe/CellRectangleMeetsPinLaw", name := "hi", desc := "(J)I" } : Jvm.MethodName) method_3_code (2 : Nat) (Option.some Jvm.ClassFile.FieldType.int)).before args0 about1 = true := code_word (m := ⟨1, 2⟩) (meth := k1m2) (c := k1c2) (by decide +kernel) rfl rfl rfl (by decide +kernel)
set_option maxRecDepth 65536 in
theorem w_c4 : (Jvm.Cond.code ({ cls := "java/lang/Math", name := "max", desc := "(II)I" } : Jvm.MethodName) jdk_29_method_65_code (2 : Nat) (Option.some Jvm.ClassFile.FieldType.int)).before args0 about1 = true := code_word (m := ⟨2, 1⟩) (meth := k2m1) (c := k2c1) (by decide +kernel) rfl rfl rfl (by decide +kernel)
set_option maxRecDepth 65536 in
theorem w_c5 : (Jvm.Cond.code ({ cls := "com/example/swathe/swathe/CellRectangle", name := "<init>", desc := "(IIII)V" } : Jvm.MethodName) prog_8_method_1_code (5 : Nat) (Option.none : Option Jvm.ClassFile.FieldType)).before args0 about1 = true := code_word (m := ⟨4, 0⟩) (meth := k4m0) (c := k4c0) (by decide +kernel) rfl rfl rfl (by decide +kernel)
set_option maxRecDepth 65536 in
theorem w_c6 : (Jvm.Cond.code ({ cls := "java/lang/Record", name := "<init>", desc := "()V" } : Jvm.MethodName) jdk_30_method_1_code (1 : Nat) (Option.none : Option Jvm.ClassFile.FieldType)).before args0 about1 = true := code_word (m := ⟨3, 0⟩) (meth := k3m0) (c := k3c0) (by decide +kernel) rfl rfl rfl (by decide +kernel)
set_option maxRecDepth 65536 in
theorem w_c7 : (Jvm.Cond.code ({ cls := "java/lang/Object", name := "<init>", desc := "()V" } : Jvm.MethodName) object_method_1_code (1 : Nat) (Option.none : Option Jvm.ClassFile.FieldType)).before args0 about1 = true := code_word (m := ⟨0, 0⟩) (meth := k0m0) (c := k0c0) (by decide +kernel) rfl rfl rfl (by decide +kernel)
set_option maxRecDepth 65536 in
theorem w_c8 : (Jvm.Cond.code ({ cls := "com/example/swathe/swathe/CellRectangleMeetsPinLaw", name := "overlap", desc := "(IIII)Z" } : Jvm.MethodName) method_4_code (4 : Nat) (Option.some Jvm.ClassFile.FieldType.boolean)).before args0 about1 = true := code_word (m := ⟨1, 3⟩) (meth := k1m3) (c := k1c3) (by decide +kernel) rfl rfl rfl (by decide +kernel)
set_option maxRecDepth 65536 in
theorem w_c9 : (Jvm.Cond.code ({ cls := "com/example/swathe/swathe/CellRectangle", name := "meets", desc := "(Lcom/example/swathe/swathe/CellRectangle;)Z" } : Jvm.MethodName) prog_8_method_3_code (2 : Nat) (Option.some Jvm.ClassFile.FieldType.boolean)).before args0 about1 = true := code_word (m := ⟨4, 1⟩) (meth := k4m1) (c := k4c1) (by decide +kernel) rfl rfl rfl (by decide +kernel)
def codes1 : List Jvm.Cond := [Jvm.Cond.code x code maxLocals ret, Jvm.Cond.code ({ cls := "com/example/swathe/swathe/CellRectangleMeetsPinLaw", name := "lo", desc := "(J)I" } : Jvm.MethodName) method_2_code (2 : Nat) (Option.some Jvm.ClassFile.FieldType.int), Jvm.Cond.code ({ cls := "java/lang/Math", name := "min", desc := "(II)I" } : Jvm.MethodName) jdk_29_method_69_code (2 : Nat) (Option.some Jvm.ClassFile.FieldType.int), Jvm.Cond.code ({ cls := "com/example/swathe/swathe/CellRectangleMeetsPinLaw", name := "hi", desc := "(J)I" } : Jvm.MethodName) method_3_code (2 : Nat) (Option.some Jvm.ClassFile.FieldType.int), Jvm.Cond.code ({ cls := "java/lang/Math", name := "max", desc := "(II)I" } : Jvm.MethodName) jdk_29_method_65_code (2 : Nat) (Option.some Jvm.ClassFile.FieldType.int), Jvm.Cond.code ({ cls := "com/example/swathe/swathe/CellRectangle", name := "<init>", desc := "(IIII)V" } : Jvm.MethodName) prog_8_method_1_code (5 : Nat) (Option.none : Option Jvm.ClassFile.FieldType), Jvm.Cond.code ({ cls := "java/lang/Record", name := "<init>", desc := "()V" } : Jvm.MethodName) jdk_30_method_1_code (1 : Nat) (Option.none : Option Jvm.ClassFile.FieldType), Jvm.Cond.code ({ cls := "java/lang/Object", name := "<init>", desc := "()V" } : Jvm.MethodName) object_method_1_code (1 : Nat) (Option.none : Option Jvm.ClassFile.FieldType), Jvm.Cond.code ({ cls := "com/example/swathe/swathe/CellRectangleMeetsPinLaw", name := "overlap", desc := "(IIII)Z" } : Jvm.MethodName) method_4_code (4 : Nat) (Option.some Jvm.ClassFile.FieldType.boolean), Jvm.Cond.code ({ cls := "com/example/swathe/swathe/CellRectangle", name := "meets", desc := "(Lcom/example/swathe/swathe/CellRectangle;)Z" } : Jvm.MethodName) prog_8_method_3_code (2 : Nat) (Option.some Jvm.ClassFile.FieldType.boolean)]
set_option maxRecDepth 65536 in
theorem codes_eq : words1.filter isCode = codes1 := rfl
theorem w_codes : ∀ c ∈ words1.filter isCode, c.before args0 about1 = true := by
  rw [codes_eq]
  intro c hc
  simp only [codes1, List.mem_cons, List.not_mem_nil, or_false] at hc
  rcases hc with rfl | rfl | rfl | rfl | rfl | rfl | rfl | rfl | rfl | rfl
  · exact w_c0
  · exact w_c1
  · exact w_c2
  · exact w_c3
  · exact w_c4
  · exact w_c5
  · exact w_c6
  · exact w_c7
  · exact w_c8
  · exact w_c9
set_option maxRecDepth 65536 in
theorem w_t1 : (words1.take 24).all (fun c => isCode c || c.before args0 about1) = true := by decide +kernel
set_option maxRecDepth 65536 in
theorem w_t2 : (words1.drop 24).all (fun c => isCode c || c.before args0 about1) = true := by decide +kernel
theorem w_tables : (allAtoms (Jvm.Cond.code x code maxLocals ret :: tables_1)).before args0 about1 = true := by
  rw [allAtoms_all]
  show words1.all (fun c => c.before args0 about1) = true
  refine all_split ?_ w_codes
  rw [← List.take_append_drop 24 words1, List.all_append, w_t1, w_t2]
  rfl
set_option maxRecDepth 65536 in
theorem w_case : (Jvm.Cond.and given_1 narrow_1).before args0 about1 = true := by decide +kernel
theorem w_applies : (headSpec (Jvm.Cond.code x code maxLocals ret :: tables_1) room_1).applies x e0.platform about1 = true :=
  (Spec.applies_iff w_frames).mpr ⟨w_running, w_runnable, w_alone, w_named, w_hears, w_ripe, w_room, w_tables⟩
theorem atStart : AtStart classFile x code maxLocals ret World_1 tables_1 room_1 Calls_1 rest_1 Pre_1 launch0 p0 e0 about1 theMethod args0 below0 :=
  ⟨lists_1, trivial, launch0.admits_env _ _ _, launch0.least_env, fairChoices_fair.cas, fairChoices_fair.clock, w_frames, w_args, w_heap, w_applies, trivial, trivial, w_case⟩
end start1
theorem witness_1 : WitnessClaimed_1 := ⟨start1.p0, start1.e0, start1.about1, start1.theMethod, start1.args0, start1.below0, start1.atStart⟩
end Jvm.Pilot.@@N@@
