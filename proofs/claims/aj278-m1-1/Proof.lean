import JvmDerived
import JvmDerived.Pilot.@@N@@Statement
import JvmDerived.Pilot.@@N@@Code
set_option linter.unusedVariables false
set_option linter.unusedSimpArgs false
namespace Jvm.RoadKit
open Sem ClassFile Op Lib Jvm.Stand Jvm.Free Jvm.LawKit
section New
variable {p : Program} {l : Launch} {e : Env} {R : Room} {s : State} {m : MethodId} {args : Array Value} {below : List Frame} {meth : Method} {c : Code} {T : State} {locs : List Loc} {cells slots : Nat}
theorem retI (X : Stand p l e R s m args below meth c T locs cells slots) (hx : p.tables.exec = Jvm.exec) {pc : Nat} {Ls : Array Slot} {z : Int32} {rest : List Value} (hret : meth.sig.returnType = some .int) (hd : decode c.code pc = .ok (.ireturn, 1)) {fs : List Frame}
    (hl : ∀ (f : JFrame) (acts : List Action), f.method = m → f.locked = none → f.entered = [] → (doReturn e (T.setTop f) acts (some (.int z))).1 = T.setFrames fs) : Steps p.tables e below (T.setTop (mkF m pc Ls (.int z :: rest))) (T.setFrames fs) := by
  have hm' : T.vm.method? m = some meth := X.method'
  have hn : narrow .int (.int z) = .int z := rfl
  show Steps p.tables e below (T.setTop { method := m, pc := pc, locals := Ls, stack := _ :: rest, locked := none }) _
  jvm_step X.here [X.here.top, hx, hd, hm', hret, hn]
  first | (intro acts; rw [hl _ acts rfl rfl rfl]) | rw [hl _ _ rfl rfl rfl]
  exact Steps.refl _
end New
/-- the run from A ends as P says -/
def own_Dn (p : Program) (e : Env) (below : List Frame) (P : Outcome → State → Prop) (A : State) : Prop := ∃ U o, Steps p.tables e below A U ∧ U.status = .running ∧ Ended U below o ∧ P o U
theorem own_in {p : Program} {e : Env} {below : List Frame} {P : Outcome → State → Prop} {A : State} (h : own_Dn p e below P A) : ∃ U o, Steps p.tables e below A U ∧ U.status = .running ∧ Ended U below o ∧ P o U := h
/-- one step (or many) from A to B -/
theorem own_of {p : Program} {e : Env} {below : List Frame} {P : Outcome → State → Prop} {A : State} (B : State) (st : ∀ t, Steps p.tables e below B t → Steps p.tables e below A t) (h : own_Dn p e below P B) : own_Dn p e below P A := by
  obtain ⟨U, o, h1, r⟩ := h
  exact ⟨U, o, st U h1, r⟩
theorem own_tr {p : Program} {e : Env} {below : List Frame} {P : Outcome → State → Prop} {A : State} (B : State) (st : Steps p.tables e below A B) (h : own_Dn p e below P B) : own_Dn p e below P A := by
  obtain ⟨U, o, h1, r⟩ := h
  exact ⟨U, o, st.trans h1, r⟩
end Jvm.RoadKit
namespace Jvm.Pilot.@@N@@
open Jvm Jvm.ClassFile Sem Op Lib Jvm.Free Jvm.Stand Jvm.LawKit Jvm.RoadKit Bundle Jvm.Pilot.@@N@@.Jvm.D
def own_max (a b : Int32) : Int32 := if a < b then b else a
theorem own_max1 (b : Int32) : ¬ own_max (1 : Int32) b < (1 : Int32) := by
  unfold own_max
  split
  · rename_i h
    rw [Int32.lt_iff_toInt_lt] at h ⊢
    omega
  · decide
theorem own_prod (x y : Int32) : (x.toInt64 * y.toInt64).toInt = x.toInt * y.toInt := by
  have h := c_lmul x.toInt64 y.toInt64
  have r := rng64 (x.toInt64 * y.toInt64)
  rw [c_i2l, c_i2l] at h
  have hx := rng32 x
  have hy := rng32 y
  have m := mc hx.1 (Int.le_of_lt hx.2) hy.1 (Int.le_of_lt hy.2)
  omega
theorem d1_0 : decode jdk_29_method_65_code 0 = .ok (.iload_n 0, 1) := by decide +kernel
theorem d1_1 : decode jdk_29_method_65_code 1 = .ok (.iload_n 1, 1) := by decide +kernel
theorem d1_2 : decode jdk_29_method_65_code 2 = .ok (.if_icmp .lt 7, 3) := by decide +kernel
theorem d1_5 : decode jdk_29_method_65_code 5 = .ok (.iload_n 0, 1) := by decide +kernel
theorem d1_6 : decode jdk_29_method_65_code 6 = .ok (.goto 4, 3) := by decide +kernel
theorem d1_9 : decode jdk_29_method_65_code 9 = .ok (.iload_n 1, 1) := by decide +kernel
theorem d1_10 : decode jdk_29_method_65_code 10 = .ok (.ireturn, 1) := by decide +kernel
theorem ef_rm1 (m : MethodId) (x0 : Int32) (x1 : Int32) : entryFrame m #[(.int x0), (.int x1)] 2 = mkF m 0 #[.val (.int x0), .val (.int x1)] [] := by first | (simp [entryFrame, mkF, argsToLocals, Value.category]; done) | rfl
def Q_rm1 (Z : State) (p1 : Int32) (p2 : Int32)  (h0 : Heap) (n0 : Nat) (v : Option Value) (h : Heap) (L : List Loc) : Prop := v = some (.int (own_max p1 p2)) ∧ Fr n0 L ∧ h = h0
set_option maxRecDepth 65536 in
set_option maxHeartbeats 40000000 in
theorem rm1 (l : Launch) (Z : State) (a0 : Array Value) (hw : ∀ d ∈ tables_1, d.before a0 Z = true) (ws : List Jvm.Cond) (p1 : Int32) (p2 : Int32)  (h0 : Heap) (n0 : Nat) (Z0 : n0 ≤ h0.size) :
    MetFree l (⟨"java/lang/Math", "max", "(II)I"⟩ : MethodName) (head1 (Jvm.Cond.code (⟨"java/lang/Math", "max", "(II)I"⟩ : MethodName) jdk_29_method_65_code 2 (some .int) :: ws) ({ frames := 0, cells := 0, slots := 0, locals := 0 } : Room)) (fun a U => a = #[(.int p1), (.int p2)] ∧ Z.Warmed39 U.vm ∧ U.heap = h0) (fun _ _ _ _ _ => True) (fun _ U o U' => ∃ v L, o = .returned v ∧ Q_rm1 Z p1 p2  h0 n0 v U'.heap L ∧ FrameEnd U o U' L ({ frames := 0, cells := 0, slots := 0, locals := 0 } : Room).cells ({ frames := 0, cells := 0, slots := 0, locals := 0 } : Room).slots) := by
  refine MetFree.of_bodySF (Jvm.Free.JP.mathPlain rfl (by decide +kernel)) hisR ?_
  intro p e s m args below meth c s₁ Bd hml0 hP hK
  obtain ⟨rfl, hZ, hh⟩ := hP
  have hx := Bd.exec
  have hby := Bd.bytes
  have hml : c.maxLocals = 2 := hml0
  have hown : s.vm.findClass "java/lang/Math" = some m.cls := findClass_of_methodNamed Bd.named
  have hnm := (name_of_methodNamed Bd.named Bd.method).1
  have X0 : Stand p l e ({ frames := 0, cells := 0, slots := 0, locals := 0 } : Room) s m #[(.int p1), (.int p2)] below meth c s₁ [] 0 0 := Stand.of_body Bd
  have e0 : s₁.heap = h0 := by rw [← hh, Bd.state]; rfl
  have N0 := Fr.nil n0
  refine own_in ?_
  refine own_of (s₁.setTop (mkF m 0 #[.val (.int p1), .val (.int p2)] [])) (fun t k => castTop (ef_rm1 m p1 p2) k) ?_
  refine own_of (s₁.setTop (mkF m 1 #[.val (.int p1), .val (.int p2)] [(.int p1)])) (fun t k => XS.iloadN X0.here hx rfl (hb hby d1_0) rfl k) ?_
  refine own_of (s₁.setTop (mkF m 2 #[.val (.int p1), .val (.int p2)] [(.int p2), (.int p1)])) (fun t k => XS.iloadN X0.here hx rfl (hb hby d1_1) rfl k) ?_
  by_cases hc1 : p1 < p2
  · refine own_of (s₁.setTop (mkF m 9 #[.val (.int p1), .val (.int p2)] [])) (fun t k => XS.icmpYes X0.here hx rfl (pc0 := 2) (pc' := 9) rfl (hb hby d1_2) rfl (tlt hc1).1 (by decide) (by decide) k) ?_
    refine own_of (s₁.setTop (mkF m 10 #[.val (.int p1), .val (.int p2)] [(.int p2)])) (fun t k => XS.iloadN X0.here hx rfl (hb hby d1_9) rfl k) ?_
    have hv : own_max p1 p2 = p2 := by simp only [own_max, hc1, if_true, if_false]
    obtain ⟨fs, hr, hrun, hended, hW, hsame⟩ := X0.leave (v := some (.int p2)) (fun h => by rw [Bd.returns] at h; cases h)
    refine ⟨_, _, retI X0 hx Bd.returns (hb hby d1_10) hr, hrun, hended, _, _, rfl, ?_, ⟨_, rfl⟩, hW, hsame.mono (by decide) (by decide)⟩
    show Q_rm1 Z p1 p2  h0 n0 _ s₁.heap _
    rw [e0]
    exact ⟨by rw [hv], N0, rfl⟩
  · refine own_of (s₁.setTop (mkF m 5 #[.val (.int p1), .val (.int p2)] [])) (fun t k => XS.icmpNo X0.here hx rfl (hb hby d1_2) rfl (flt hc1).1 k) ?_
    refine own_of (s₁.setTop (mkF m 6 #[.val (.int p1), .val (.int p2)] [(.int p1)])) (fun t k => XS.iloadN X0.here hx rfl (hb hby d1_5) rfl k) ?_
    refine own_of (s₁.setTop (mkF m 10 #[.val (.int p1), .val (.int p2)] [(.int p1)])) (fun t k => XS.goto X0.here hx rfl (pc0 := 6) (pc' := 10) rfl (hb hby d1_6) (by decide) (by decide) k) ?_
    have hv : own_max p1 p2 = p1 := by simp only [own_max, hc1, if_true, if_false]
    obtain ⟨fs, hr, hrun, hended, hW, hsame⟩ := X0.leave (v := some (.int p1)) (fun h => by rw [Bd.returns] at h; cases h)
    refine ⟨_, _, retI X0 hx Bd.returns (hb hby d1_10) hr, hrun, hended, _, _, rfl, ?_, ⟨_, rfl⟩, hW, hsame.mono (by decide) (by decide)⟩
    show Q_rm1 Z p1 p2  h0 n0 _ s₁.heap _
    rw [e0]
    exact ⟨by rw [hv], N0, rfl⟩
theorem d2_0 : decode prog_35_method_1_code 0 = .ok (.aload_n 0, 1) := by decide +kernel
theorem d2_1 : decode prog_35_method_1_code 1 = .ok (.invokespecial 1, 3) := by decide +kernel
theorem d2_4 : decode prog_35_method_1_code 4 = .ok (.iload_n 1, 1) := by decide +kernel
theorem d2_5 : decode prog_35_method_1_code 5 = .ok (.ifCond .lt 8, 3) := by decide +kernel
theorem d2_8 : decode prog_35_method_1_code 8 = .ok (.iload_n 2, 1) := by decide +kernel
theorem d2_9 : decode prog_35_method_1_code 9 = .ok (.iconst 1, 1) := by decide +kernel
theorem d2_10 : decode prog_35_method_1_code 10 = .ok (.if_icmp .ge 18, 3) := by decide +kernel
theorem d2_13 : decode prog_35_method_1_code 13 = .ok (.new 7, 3) := by decide +kernel
theorem d2_16 : decode prog_35_method_1_code 16 = .ok (.dup, 1) := by decide +kernel
theorem d2_17 : decode prog_35_method_1_code 17 = .ok (.iload_n 1, 1) := by decide +kernel
theorem d2_18 : decode prog_35_method_1_code 18 = .ok (.iload_n 2, 1) := by decide +kernel
theorem d2_19 : decode prog_35_method_1_code 19 = .ok (.invokedynamic 9, 5) := by decide +kernel
theorem d2_24 : decode prog_35_method_1_code 24 = .ok (.invokespecial 13, 3) := by decide +kernel
theorem d2_27 : decode prog_35_method_1_code 27 = .ok (.athrow, 1) := by decide +kernel
theorem d2_28 : decode prog_35_method_1_code 28 = .ok (.aload_n 0, 1) := by decide +kernel
theorem d2_29 : decode prog_35_method_1_code 29 = .ok (.iload_n 1, 1) := by decide +kernel
theorem d2_30 : decode prog_35_method_1_code 30 = .ok (.putfield 16, 3) := by decide +kernel
theorem d2_33 : decode prog_35_method_1_code 33 = .ok (.aload_n 0, 1) := by decide +kernel
theorem d2_34 : decode prog_35_method_1_code 34 = .ok (.iload_n 2, 1) := by decide +kernel
theorem d2_35 : decode prog_35_method_1_code 35 = .ok (.putfield 22, 3) := by decide +kernel
theorem d2_38 : decode prog_35_method_1_code 38 = .ok (.return_, 1) := by decide +kernel
theorem pn_2 : plainName "com/example/graph_as_objects/graphasobjects/session/Pagination" = true := by first | (simp [plainName, overriddenIn]; done) | decide +kernel
theorem ef_rm2 (m : MethodId) (x0 : Addr) (x1 : Int32) (x2 : Int32) : entryFrame m #[(.ref x0), (.int x1), (.int x2)] 3 = mkF m 0 #[.val (.ref x0), .val (.int x1), .val (.int x2)] [] := by first | (simp [entryFrame, mkF, argsToLocals, Value.category]; done) | rfl
def Q_rm2 (Z : State) (a1 : Addr) (p2 : Int32) (p3 : Int32)  (h0 : Heap) (n0 : Nat) (v : Option Value) (h : Heap) (L : List Loc) : Prop := v = none ∧ Fr n0 L ∧ Keep h0 h [a1] ∧ Fld Z h a1 "com/example/graph_as_objects/graphasobjects/session/Pagination" "pageNumber" "I" (.int p2) ∧ Fld Z h a1 "com/example/graph_as_objects/graphasobjects/session/Pagination" "pageSize" "I" (.int p3)
set_option maxRecDepth 65536 in
set_option maxHeartbeats 40000000 in
theorem rm2 (l : Launch) (Z : State) (a0 : Array Value) (hw : ∀ d ∈ tables_1, d.before a0 Z = true) (ws : List Jvm.Cond) (a1 : Addr) (p2 : Int32) (p3 : Int32)  (h0 : Heap) (n0 : Nat) (Z0 : n0 ≤ h0.size) (E1 : Exa Z h0 a1 "com/example/graph_as_objects/graphasobjects/session/Pagination") (F1 : Fld Z h0 a1 "com/example/graph_as_objects/graphasobjects/session/Pagination" "pageNumber" "I" (.int (0 : Int32))) (F2 : Fld Z h0 a1 "com/example/graph_as_objects/graphasobjects/session/Pagination" "pageSize" "I" (.int (0 : Int32))) (g1 : n0 ≤ a1) (c1 : ¬ p2 < (0 : Int32)) (c2 : ¬ p3 < (1 : Int32)) :
    MetFree l (⟨"com/example/graph_as_objects/graphasobjects/session/Pagination", "<init>", "(II)V"⟩ : MethodName) (head1 (Jvm.Cond.code (⟨"com/example/graph_as_objects/graphasobjects/session/Pagination", "<init>", "(II)V"⟩ : MethodName) prog_35_method_1_code 3 none :: ws) ({ frames := 1, cells := 0, slots := 0, locals := 12 } : Room)) (fun a U => a = #[(.ref a1), (.int p2), (.int p3)] ∧ Z.Warmed39 U.vm ∧ U.heap = h0) (fun _ _ _ _ _ => True) (fun _ U o U' => ∃ v L, o = .returned v ∧ Q_rm2 Z a1 p2 p3  h0 n0 v U'.heap L ∧ FrameEnd U o U' L ({ frames := 1, cells := 0, slots := 0, locals := 12 } : Room).cells ({ frames := 1, cells := 0, slots := 0, locals := 12 } : Room).slots) := by
  refine MetFree.of_bodySF (plainFor_of_name pn_2) hisR ?_
  intro p e s m args below meth c s₁ Bd hml0 hP hK
  obtain ⟨rfl, hZ, hh⟩ := hP
  have hx := Bd.exec
  have hby := Bd.bytes
  have hml : c.maxLocals = 3 := hml0
  have hown : s.vm.findClass "com/example/graph_as_objects/graphasobjects/session/Pagination" = some m.cls := findClass_of_methodNamed Bd.named
  have hnm := (name_of_methodNamed Bd.named Bd.method).1
  have X0 : Stand p l e ({ frames := 1, cells := 0, slots := 0, locals := 12 } : Room) s m #[(.ref a1), (.int p2), (.int p3)] below meth c s₁ [] 0 0 := Stand.of_body Bd
  have e0 : s₁.heap = h0 := by rw [← hh, Bd.state]; rfl
  have N0 := Fr.nil n0
  refine own_in ?_
  refine own_of (s₁.setTop (mkF m 0 #[.val (.ref a1), .val (.int p2), .val (.int p3)] [])) (fun t k => castTop (ef_rm2 m a1 p2 p3) k) ?_
  refine own_of (s₁.setTop (mkF m 1 #[.val (.ref a1), .val (.int p2), .val (.int p3)] [(.ref a1)])) (fun t k => XS.aloadN X0.here hx rfl (hb hby d2_0) rfl rfl k) ?_
  obtain ⟨T2, X2, e2, st2⟩ := initO X0 hx hZ hown (hw _ (List.mem_of_getElem? (i := 11) rfl)) (hw _ (List.mem_of_getElem? (i := 12) rfl)) (hw _ (List.mem_of_getElem? (i := 13) rfl)) e0 (g := (mkF m 1 #[.val (.ref a1), .val (.int p2), .val (.int p3)] [(.ref a1)])) rfl (by rw [hml]; rfl) rfl (hb hby d2_1) (by decide) (W := 0) (by show 2 * 0 + _ ≤ _; exact Nat.le_of_eq rfl) (by decide)
  refine own_of (T2.setTop (mkF m 4 #[.val (.ref a1), .val (.int p2), .val (.int p3)] [])) (fun t q => st2 t q) ?_
  refine own_of (T2.setTop (mkF m 5 #[.val (.ref a1), .val (.int p2), .val (.int p3)] [(.int p2)])) (fun t k => XS.iloadN X2.here hx rfl (hb hby d2_4) rfl k) ?_
  refine own_of (T2.setTop (mkF m 8 #[.val (.ref a1), .val (.int p2), .val (.int p3)] [])) (fun t k => XS.ifNo X2.here hx rfl (hb hby d2_5) rfl ((if0 _ _).trans (flt c1).1) k) ?_
  refine own_of (T2.setTop (mkF m 9 #[.val (.ref a1), .val (.int p2), .val (.int p3)] [(.int p3)])) (fun t k => XS.iloadN X2.here hx rfl (hb hby d2_8) rfl k) ?_
  refine own_of (T2.setTop (mkF m 10 #[.val (.ref a1), .val (.int p2), .val (.int p3)] [(.int (1 : Int32)), (.int p3)])) (fun t k => XS.iconst X2.here hx rfl (hb hby d2_9) k) ?_
  refine own_of (T2.setTop (mkF m 28 #[.val (.ref a1), .val (.int p2), .val (.int p3)] [])) (fun t k => XS.icmpYes X2.here hx rfl (pc0 := 10) (pc' := 28) rfl (hb hby d2_10) rfl (flt c2).2.1 (by decide) (by decide) k) ?_
  refine own_of (T2.setTop (mkF m 29 #[.val (.ref a1), .val (.int p2), .val (.int p3)] [(.ref a1)])) (fun t k => XS.aloadN X2.here hx rfl (hb hby d2_28) rfl rfl k) ?_
  refine own_of (T2.setTop (mkF m 30 #[.val (.ref a1), .val (.int p2), .val (.int p3)] [(.int p2), (.ref a1)])) (fun t k => XS.iloadN X2.here hx rfl (hb hby d2_29) rfl k) ?_
  obtain ⟨T3, h3, X3, e3, W3, st3⟩ := putF X2 hx hZ hown (host := "") (Or.inl (hw _ (List.mem_of_getElem? (i := 14) rfl))) Via.refl e2 F1 E1 (Or.inr ⟨(hw _ (List.mem_of_getElem? (i := 15) rfl)), rfl, hnm⟩) (hw _ (List.mem_of_getElem? (i := 6) rfl)) (ty := .int) (by decide) rfl rfl (g := (mkF m 30 #[.val (.ref a1), .val (.int p2), .val (.int p3)] [(.int p2), (.ref a1)])) rfl rfl (hb hby d2_30)
  have N3 := Fr.snoc X3 N0 g1
  have f3_0 := E1.wr W3
  have f3_1 := F1.same W3
  have f3_2 := F2.other W3 (Or.inr (slot_ne (Or.inr (hw _ (List.mem_of_getElem? (i := 17) rfl))) (Or.inr (hw _ (List.mem_of_getElem? (i := 15) rfl))) (by decide) (t := .int) (t' := .int) (by decide) (by decide)))
  have K3 := (Keep.refl h0 [a1]).wr W3 (Or.inl (List.mem_of_getElem? (i := 0) rfl))
  have Z3 : n0 ≤ h3.size := Nat.le_trans Z0 (Nat.le_of_eq W3.size.symm)
  refine own_of (T3.setTop (mkF m 33 #[.val (.ref a1), .val (.int p2), .val (.int p3)] [])) (fun t q => st3 t q) ?_
  refine own_of (T3.setTop (mkF m 34 #[.val (.ref a1), .val (.int p2), .val (.int p3)] [(.ref a1)])) (fun t k => XS.aloadN X3.here hx rfl (hb hby d2_33) rfl rfl k) ?_
  refine own_of (T3.setTop (mkF m 35 #[.val (.ref a1), .val (.int p2), .val (.int p3)] [(.int p3), (.ref a1)])) (fun t k => XS.iloadN X3.here hx rfl (hb hby d2_34) rfl k) ?_
  obtain ⟨T4, h4, X4, e4, W4, st4⟩ := putF X3 hx hZ hown (host := "") (Or.inl (hw _ (List.mem_of_getElem? (i := 16) rfl))) Via.refl e3 f3_2 f3_0 (Or.inr ⟨(hw _ (List.mem_of_getElem? (i := 17) rfl)), rfl, hnm⟩) (hw _ (List.mem_of_getElem? (i := 6) rfl)) (ty := .int) (by decide) rfl rfl (g := (mkF m 35 #[.val (.ref a1), .val (.int p2), .val (.int p3)] [(.int p3), (.ref a1)])) rfl rfl (hb hby d2_35)
  have N4 := Fr.snoc X4 N3 g1
  have f4_0 := f3_0.wr W4
  have f4_1 := f3_1.other W4 (Or.inr (slot_ne (Or.inr (hw _ (List.mem_of_getElem? (i := 15) rfl))) (Or.inr (hw _ (List.mem_of_getElem? (i := 17) rfl))) (by decide) (t := .int) (t' := .int) (by decide) (by decide)))
  have f4_2 := f3_2.same W4
  have K4 := K3.wr W4 (Or.inl (List.mem_of_getElem? (i := 0) rfl))
  have Z4 : n0 ≤ h4.size := Nat.le_trans Z3 (Nat.le_of_eq W4.size.symm)
  refine own_of (T4.setTop (mkF m 38 #[.val (.ref a1), .val (.int p2), .val (.int p3)] [])) (fun t q => st4 t q) ?_
  obtain ⟨fs, hr, hrun, hended, hW, hsame⟩ := X4.leave (v := none) (fun _ => rfl)
  refine ⟨_, _, X4.returnOut hx Bd.returns (hb hby d2_38) hr, hrun, hended, _, _, rfl, ?_, ⟨_, rfl⟩, hW, hsame.mono (by decide) (by decide)⟩
  show Q_rm2 Z a1 p2 p3  h0 n0 _ T4.heap _
  rw [e4]
  exact ⟨rfl, N4, K4, f4_1, f4_2⟩
theorem d4_0 : decode prog_35_method_2_code 0 = .ok (.aload_n 0, 1) := by decide +kernel
theorem d4_1 : decode prog_35_method_2_code 1 = .ok (.getfield 16, 3) := by decide +kernel
theorem d4_4 : decode prog_35_method_2_code 4 = .ok (.i2l, 1) := by decide +kernel
theorem d4_5 : decode prog_35_method_2_code 5 = .ok (.aload_n 0, 1) := by decide +kernel
theorem d4_6 : decode prog_35_method_2_code 6 = .ok (.getfield 22, 3) := by decide +kernel
theorem d4_9 : decode prog_35_method_2_code 9 = .ok (.i2l, 1) := by decide +kernel
theorem d4_10 : decode prog_35_method_2_code 10 = .ok (.lmul, 1) := by decide +kernel
theorem d4_11 : decode prog_35_method_2_code 11 = .ok (.lreturn, 1) := by decide +kernel
theorem pn_4 : plainName "com/example/graph_as_objects/graphasobjects/session/Pagination" = true := by first | (simp [plainName, overriddenIn]; done) | decide +kernel
theorem ef_rm4 (m : MethodId) (x0 : Addr) : entryFrame m #[(.ref x0)] 1 = mkF m 0 #[.val (.ref x0)] [] := by first | (simp [entryFrame, mkF, argsToLocals, Value.category]; done) | rfl
def Q_rm4 (Z : State) (a1 : Addr) (n : Int32) (sz : Int32) (h0 : Heap) (n0 : Nat) (v : Option Value) (h : Heap) (L : List Loc) : Prop := v = some (.long (n.toInt64 * sz.toInt64)) ∧ Fr n0 L ∧ h = h0
set_option maxRecDepth 65536 in
set_option maxHeartbeats 40000000 in
theorem rm4 (l : Launch) (Z : State) (a0 : Array Value) (hw : ∀ d ∈ tables_1, d.before a0 Z = true) (ws : List Jvm.Cond) (a1 : Addr) (n : Int32) (sz : Int32) (h0 : Heap) (n0 : Nat) (Z0 : n0 ≤ h0.size) (F1 : Fld Z h0 a1 "com/example/graph_as_objects/graphasobjects/session/Pagination" "pageNumber" "I" (.int n)) (F2 : Fld Z h0 a1 "com/example/graph_as_objects/graphasobjects/session/Pagination" "pageSize" "I" (.int sz)) :
    MetFree l (⟨"com/example/graph_as_objects/graphasobjects/session/Pagination", "skip", "()J"⟩ : MethodName) (head1 (Jvm.Cond.code (⟨"com/example/graph_as_objects/graphasobjects/session/Pagination", "skip", "()J"⟩ : MethodName) prog_35_method_2_code 1 (some .long) :: ws) ({ frames := 0, cells := 0, slots := 0, locals := 0 } : Room)) (fun a U => a = #[(.ref a1)] ∧ Z.Warmed39 U.vm ∧ U.heap = h0) (fun _ _ _ _ _ => True) (fun _ U o U' => ∃ v L, o = .returned v ∧ Q_rm4 Z a1 n sz h0 n0 v U'.heap L ∧ FrameEnd U o U' L ({ frames := 0, cells := 0, slots := 0, locals := 0 } : Room).cells ({ frames := 0, cells := 0, slots := 0, locals := 0 } : Room).slots) := by
  refine MetFree.of_bodySF (plainFor_of_name pn_4) hisR ?_
  intro p e s m args below meth c s₁ Bd hml0 hP hK
  obtain ⟨rfl, hZ, hh⟩ := hP
  have hx := Bd.exec
  have hby := Bd.bytes
  have hml : c.maxLocals = 1 := hml0
  have hown : s.vm.findClass "com/example/graph_as_objects/graphasobjects/session/Pagination" = some m.cls := findClass_of_methodNamed Bd.named
  have hnm := (name_of_methodNamed Bd.named Bd.method).1
  have X0 : Stand p l e ({ frames := 0, cells := 0, slots := 0, locals := 0 } : Room) s m #[(.ref a1)] below meth c s₁ [] 0 0 := Stand.of_body Bd
  have e0 : s₁.heap = h0 := by rw [← hh, Bd.state]; rfl
  have N0 := Fr.nil n0
  refine own_in ?_
  refine own_of (s₁.setTop (mkF m 0 #[.val (.ref a1)] [])) (fun t k => castTop (ef_rm4 m a1) k) ?_
  refine own_of (s₁.setTop (mkF m 1 #[.val (.ref a1)] [(.ref a1)])) (fun t k => XS.aloadN X0.here hx rfl (hb hby d4_0) rfl rfl k) ?_
  obtain ⟨T5, X5, e5, st5⟩ := getF X0 hx hZ hown (host := "") (Or.inl (hw _ (List.mem_of_getElem? (i := 14) rfl))) Via.refl e0 F1 (g := (mkF m 1 #[.val (.ref a1)] [(.ref a1)])) rfl rfl (hb hby d4_1)
  refine own_of (T5.setTop (mkF m 4 #[.val (.ref a1)] [(.int n)])) (fun t q => st5 t q) ?_
  refine own_of (T5.setTop (mkF m 5 #[.val (.ref a1)] [(.long (n.toInt64))])) (fun t k => XS.i2l X5.here hx rfl (hb hby d4_4) rfl k) ?_
  refine own_of (T5.setTop (mkF m 6 #[.val (.ref a1)] [(.ref a1), (.long (n.toInt64))])) (fun t k => XS.aloadN X5.here hx rfl (hb hby d4_5) rfl rfl k) ?_
  obtain ⟨T6, X6, e6, st6⟩ := getF X5 hx hZ hown (host := "") (Or.inl (hw _ (List.mem_of_getElem? (i := 16) rfl))) Via.refl e5 F2 (g := (mkF m 6 #[.val (.ref a1)] [(.ref a1), (.long (n.toInt64))])) rfl rfl (hb hby d4_6)
  refine own_of (T6.setTop (mkF m 9 #[.val (.ref a1)] [(.int sz), (.long (n.toInt64))])) (fun t q => st6 t q) ?_
  refine own_of (T6.setTop (mkF m 10 #[.val (.ref a1)] [(.long (sz.toInt64)), (.long (n.toInt64))])) (fun t k => XS.i2l X6.here hx rfl (hb hby d4_9) rfl k) ?_
  refine own_of (T6.setTop (mkF m 11 #[.val (.ref a1)] [(.long ((n.toInt64) * (sz.toInt64)))])) (fun t k => XS.lmul X6.here hx rfl (hb hby d4_10) rfl k) ?_
  obtain ⟨fs, hr, hrun, hended, hW, hsame⟩ := X6.leave (v := some (.long ((n.toInt64) * (sz.toInt64)))) (fun h => by rw [Bd.returns] at h; cases h)
  refine ⟨_, _, X6.lreturnOut hx Bd.returns (hb hby d4_11) hr, hrun, hended, _, _, rfl, ?_, ⟨_, rfl⟩, hW, hsame.mono (by decide) (by decide)⟩
  show Q_rm4 Z a1 n sz h0 n0 _ T6.heap _
  rw [e6]
  exact ⟨rfl, N0, rfl⟩
theorem d5_0 : decode prog_35_method_3_code 0 = .ok (.aload_n 0, 1) := by decide +kernel
theorem d5_1 : decode prog_35_method_3_code 1 = .ok (.getfield 22, 3) := by decide +kernel
theorem d5_4 : decode prog_35_method_3_code 4 = .ok (.ireturn, 1) := by decide +kernel
theorem pn_5 : plainName "com/example/graph_as_objects/graphasobjects/session/Pagination" = true := by first | (simp [plainName, overriddenIn]; done) | decide +kernel
theorem ef_rm5 (m : MethodId) (x0 : Addr) : entryFrame m #[(.ref x0)] 1 = mkF m 0 #[.val (.ref x0)] [] := by first | (simp [entryFrame, mkF, argsToLocals, Value.category]; done) | rfl
def Q_rm5 (Z : State) (a1 : Addr) (n : Int32) (sz : Int32) (h0 : Heap) (n0 : Nat) (v : Option Value) (h : Heap) (L : List Loc) : Prop := v = some (.int sz) ∧ Fr n0 L ∧ h = h0
set_option maxRecDepth 65536 in
set_option maxHeartbeats 40000000 in
theorem rm5 (l : Launch) (Z : State) (a0 : Array Value) (hw : ∀ d ∈ tables_1, d.before a0 Z = true) (ws : List Jvm.Cond) (a1 : Addr) (n : Int32) (sz : Int32) (h0 : Heap) (n0 : Nat) (Z0 : n0 ≤ h0.size) (F1 : Fld Z h0 a1 "com/example/graph_as_objects/graphasobjects/session/Pagination" "pageNumber" "I" (.int n)) (F2 : Fld Z h0 a1 "com/example/graph_as_objects/graphasobjects/session/Pagination" "pageSize" "I" (.int sz)) :
    MetFree l (⟨"com/example/graph_as_objects/graphasobjects/session/Pagination", "limit", "()I"⟩ : MethodName) (head1 (Jvm.Cond.code (⟨"com/example/graph_as_objects/graphasobjects/session/Pagination", "limit", "()I"⟩ : MethodName) prog_35_method_3_code 1 (some .int) :: ws) ({ frames := 0, cells := 0, slots := 0, locals := 0 } : Room)) (fun a U => a = #[(.ref a1)] ∧ Z.Warmed39 U.vm ∧ U.heap = h0) (fun _ _ _ _ _ => True) (fun _ U o U' => ∃ v L, o = .returned v ∧ Q_rm5 Z a1 n sz h0 n0 v U'.heap L ∧ FrameEnd U o U' L ({ frames := 0, cells := 0, slots := 0, locals := 0 } : Room).cells ({ frames := 0, cells := 0, slots := 0, locals := 0 } : Room).slots) := by
  refine MetFree.of_bodySF (plainFor_of_name pn_5) hisR ?_
  intro p e s m args below meth c s₁ Bd hml0 hP hK
  obtain ⟨rfl, hZ, hh⟩ := hP
  have hx := Bd.exec
  have hby := Bd.bytes
  have hml : c.maxLocals = 1 := hml0
  have hown : s.vm.findClass "com/example/graph_as_objects/graphasobjects/session/Pagination" = some m.cls := findClass_of_methodNamed Bd.named
  have hnm := (name_of_methodNamed Bd.named Bd.method).1
  have X0 : Stand p l e ({ frames := 0, cells := 0, slots := 0, locals := 0 } : Room) s m #[(.ref a1)] below meth c s₁ [] 0 0 := Stand.of_body Bd
  have e0 : s₁.heap = h0 := by rw [← hh, Bd.state]; rfl
  have N0 := Fr.nil n0
  refine own_in ?_
  refine own_of (s₁.setTop (mkF m 0 #[.val (.ref a1)] [])) (fun t k => castTop (ef_rm5 m a1) k) ?_
  refine own_of (s₁.setTop (mkF m 1 #[.val (.ref a1)] [(.ref a1)])) (fun t k => XS.aloadN X0.here hx rfl (hb hby d5_0) rfl rfl k) ?_
  obtain ⟨T7, X7, e7, st7⟩ := getF X0 hx hZ hown (host := "") (Or.inl (hw _ (List.mem_of_getElem? (i := 16) rfl))) Via.refl e0 F2 (g := (mkF m 1 #[.val (.ref a1)] [(.ref a1)])) rfl rfl (hb hby d5_1)
  refine own_of (T7.setTop (mkF m 4 #[.val (.ref a1)] [(.int sz)])) (fun t q => st7 t q) ?_
  obtain ⟨fs, hr, hrun, hended, hW, hsame⟩ := X7.leave (v := some (.int sz)) (fun h => by rw [Bd.returns] at h; cases h)
  refine ⟨_, _, retI X7 hx Bd.returns (hb hby d5_4) hr, hrun, hended, _, _, rfl, ?_, ⟨_, rfl⟩, hW, hsame.mono (by decide) (by decide)⟩
  show Q_rm5 Z a1 n sz h0 n0 _ T7.heap _
  rw [e7]
  exact ⟨rfl, N0, rfl⟩
theorem pn_0 : plainName "com/example/graph_as_objects/graphasobjects/session/PaginationSkipPinLaw" = true := by first | (simp [plainName, overriddenIn]; done) | decide +kernel
theorem ef_rm0 (m : MethodId) (x0 : Int32) (x1 : Int32) : entryFrame m #[(.int x0), (.int x1)] maxLocals = mkF m 0 #[.val (.int x0), .val (.int x1), .unset, .unset, .unset, .unset, .unset, .unset, .unset, .unset, .unset, .unset, .unset, .unset, .unset] [] := by first | (simp [entryFrame, mkF, argsToLocals, Value.category, maxLocals]; done) | rfl
def Q_rm0 (Z : State) (p1 : Int32) (p2 : Int32)  (h0 : Heap) (n0 : Nat) (v : Option Value) (h : Heap) (L : List Loc) : Prop := v = some (.int 1) ∧ Fr n0 L
set_option maxRecDepth 65536 in
set_option maxHeartbeats 40000000 in
theorem rm0 (l : Launch) (Z : State) (a0 : Array Value) (hw : ∀ d ∈ tables_1, d.before a0 Z = true) (ws : List Jvm.Cond) (p1 : Int32) (p2 : Int32)  (h0 : Heap) (n0 : Nat) (Z0 : n0 ≤ h0.size) :
    MetFree l x (head1 (Jvm.Cond.code x code maxLocals ret :: ws) room_1) (fun a U => a = #[(.int p1), (.int p2)] ∧ Z.Warmed39 U.vm ∧ U.heap = h0) (fun _ _ _ _ _ => True) (fun _ U o U' => ∃ v L, o = .returned v ∧ Q_rm0 Z p1 p2  h0 n0 v U'.heap L ∧ FrameEnd U o U' L 16 128) := by
  refine MetFree.of_bodySF (plainFor_of_name pn_0) hisR ?_
  intro p e s m args below meth c s₁ Bd hml0 hP hK
  obtain ⟨rfl, hZ, hh⟩ := hP
  have hx := Bd.exec
  have hby := Bd.bytes
  have hml : c.maxLocals = 15 := hml0
  have hown : s.vm.findClass "com/example/graph_as_objects/graphasobjects/session/PaginationSkipPinLaw" = some m.cls := findClass_of_methodNamed Bd.named
  have hnm := (name_of_methodNamed Bd.named Bd.method).1
  have X0 : Stand p l e room_1 s m #[(.int p1), (.int p2)] below meth c s₁ [] 0 0 := Stand.of_body Bd
  have e0 : s₁.heap = h0 := by rw [← hh, Bd.state]; rfl
  have N0 := Fr.nil n0
  refine own_in ?_
  refine own_of (s₁.setTop (mkF m 0 #[.val (.int p1), .val (.int p2), .unset, .unset, .unset, .unset, .unset, .unset, .unset, .unset, .unset, .unset, .unset, .unset, .unset] [])) (fun t k => castTop (ef_rm0 m p1 p2) k) ?_
  refine own_of (s₁.setTop (mkF m 1 #[.val (.int p1), .val (.int p2), .unset, .unset, .unset, .unset, .unset, .unset, .unset, .unset, .unset, .unset, .unset, .unset, .unset] [(.int p1)])) (fun t k => XS.iloadN X0.here hx rfl (hb hby at_0) rfl k) ?_
  refine own_of (s₁.setTop (mkF m 3 #[.val (.int p1), .val (.int p2), .unset, .unset, .unset, .unset, .unset, .unset, .unset, .unset, .unset, .unset, .unset, .unset, .unset] [(.int (2147483647 : Int32)), (.int p1)])) (fun t k => X0.ldcInt hx hown (mvT hZ (hw _ (List.mem_of_getElem? (i := 0) rfl))) (g := (mkF m 1 #[.val (.int p1), .val (.int p2), .unset, .unset, .unset, .unset, .unset, .unset, .unset, .unset, .unset, .unset, .unset, .unset, .unset] [(.int p1)])) rfl (hb hby at_1) t k) ?_
  refine own_of (s₁.setTop (mkF m 4 #[.val (.int p1), .val (.int p2), .unset, .unset, .unset, .unset, .unset, .unset, .unset, .unset, .unset, .unset, .unset, .unset, .unset] [(.int (p1 &&& (2147483647 : Int32)))])) (fun t k => XS.iand X0.here hx rfl (hb hby at_3) rfl k) ?_
  refine own_of (s₁.setTop (mkF m 5 #[.val (.int p1), .val (.int p2), .val (.int (p1 &&& (2147483647 : Int32))), .unset, .unset, .unset, .unset, .unset, .unset, .unset, .unset, .unset, .unset, .unset, .unset] [])) (fun t k => XS.istoreN X0.here hx rfl (hb hby at_4) rfl (l' := #[.val (.int p1), .val (.int p2), .val (.int (p1 &&& (2147483647 : Int32))), .unset, .unset, .unset, .unset, .unset, .unset, .unset, .unset, .unset, .unset, .unset, .unset]) rfl k) ?_
  have J : ∀ n : Int32, 0 ≤ n.toInt → n.toInt < 2147483647 → own_Dn p e below (fun o U' => ∃ v L, o = .returned v ∧ Q_rm0 Z p1 p2  h0 n0 v U'.heap L ∧ FrameEnd s o U' L 16 128) (s₁.setTop (mkF m 15 #[.val (.int p1), .val (.int p2), .val (.int n), .unset, .unset, .unset, .unset, .unset, .unset, .unset, .unset, .unset, .unset, .unset, .unset] [])) := by
    intro n hn0 hn1
    refine own_of (s₁.setTop (mkF m 16 #[.val (.int p1), .val (.int p2), .val (.int n), .unset, .unset, .unset, .unset, .unset, .unset, .unset, .unset, .unset, .unset, .unset, .unset] [(.int (1 : Int32))])) (fun t k => XS.iconst X0.here hx rfl (hb hby at_15) k) ?_
    refine own_of (s₁.setTop (mkF m 17 #[.val (.int p1), .val (.int p2), .val (.int n), .unset, .unset, .unset, .unset, .unset, .unset, .unset, .unset, .unset, .unset, .unset, .unset] [(.int p2), (.int (1 : Int32))])) (fun t k => XS.iloadN X0.here hx rfl (hb hby at_16) rfl k) ?_
    refine own_of (s₁.setTop (mkF m 19 #[.val (.int p1), .val (.int p2), .val (.int n), .unset, .unset, .unset, .unset, .unset, .unset, .unset, .unset, .unset, .unset, .unset, .unset] [(.int (2147483647 : Int32)), (.int p2), (.int (1 : Int32))])) (fun t k => X0.ldcInt hx hown (mvT hZ (hw _ (List.mem_of_getElem? (i := 0) rfl))) (g := (mkF m 17 #[.val (.int p1), .val (.int p2), .val (.int n), .unset, .unset, .unset, .unset, .unset, .unset, .unset, .unset, .unset, .unset, .unset, .unset] [(.int p2), (.int (1 : Int32))])) rfl (hb hby at_17) t k) ?_
    refine own_of (s₁.setTop (mkF m 20 #[.val (.int p1), .val (.int p2), .val (.int n), .unset, .unset, .unset, .unset, .unset, .unset, .unset, .unset, .unset, .unset, .unset, .unset] [(.int (p2 &&& (2147483647 : Int32))), (.int (1 : Int32))])) (fun t k => XS.iand X0.here hx rfl (hb hby at_19) rfl k) ?_
    obtain ⟨_, _, ⟨T8, L8, k8, n8⟩, -, X8, ⟨Lc8, hQ8, l8, y8, z8⟩, st8⟩ := Jvm.LawKit.callS X0 hx (y := (⟨"java/lang/Math", "max", "(II)I"⟩ : MethodName)) hown (mvT hZ (hw _ (List.mem_of_getElem? (i := 1) rfl))) (mvT hZ (hw _ (List.mem_of_getElem? (i := 2) rfl))) (mvT hZ (hw _ (List.mem_of_getElem? (i := 3) rfl))) (mvT hZ (hw _ (List.mem_of_getElem? (i := 4) rfl))) (by decide) (backOf (W := 0) (rm1 l Z a0 hw [] (1 : Int32) (p2 &&& (2147483647 : Int32)) h0 n0 Z0) hZ (hw _ (List.mem_of_getElem? (i := 4) rfl)) (hw _ (List.mem_of_getElem? (i := 3) rfl)) (by decide) (by decide)) (g := (mkF m 20 #[.val (.int p1), .val (.int p2), .val (.int n), .unset, .unset, .unset, .unset, .unset, .unset, .unset, .unset, .unset, .unset, .unset, .unset] [(.int (p2 &&& (2147483647 : Int32))), (.int (1 : Int32))])) rfl (by rw [hml]; rfl) (argsL := [(.int (1 : Int32)), (.int (p2 &&& (2147483647 : Int32)))]) (rest := []) (lenOf (by decide +kernel : parseMethodDescriptor "(II)I" = some ⟨[.int, .int], some .int⟩) rfl) rfl (by show 2 * 0 + _ ≤ _; exact Nat.le_of_eq rfl) (hb hby at_20) (fun _ _ => ⟨rfl, e0, (by decide : 0 + 0 ≤ _), (by decide : 0 + 0 ≤ _)⟩)
    dsimp only [Pt.U, Pt.locs, Pt.cells, Pt.slots] at X8 l8 y8 z8 st8 hQ8
    subst l8 y8 z8
    obtain ⟨rfl, Nq8, eh8⟩ := hQ8
    have N8 := Fr.app N0 Nq8
    refine own_of (T8.setTop (mkF m 23 #[.val (.int p1), .val (.int p2), .val (.int n), .unset, .unset, .unset, .unset, .unset, .unset, .unset, .unset, .unset, .unset, .unset, .unset] [(.int (own_max (1 : Int32) (p2 &&& (2147483647 : Int32))))])) (fun t q => st8 t q) ?_
    have hs1 := own_max1 (p2 &&& (2147483647 : Int32))
    generalize own_max (1 : Int32) (p2 &&& (2147483647 : Int32)) = sz at *
    show own_Dn p e below _ (T8.setTop (mkF m 23 #[.val (.int p1), .val (.int p2), .val (.int n), .unset, .unset, .unset, .unset, .unset, .unset, .unset, .unset, .unset, .unset, .unset, .unset] [(.int sz)]))
    refine own_of (T8.setTop (mkF m 24 #[.val (.int p1), .val (.int p2), .val (.int n), .val (.int sz), .unset, .unset, .unset, .unset, .unset, .unset, .unset, .unset, .unset, .unset, .unset] [])) (fun t k => XS.istoreN X8.here hx rfl (hb hby at_23) rfl (l' := #[.val (.int p1), .val (.int p2), .val (.int n), .val (.int sz), .unset, .unset, .unset, .unset, .unset, .unset, .unset, .unset, .unset, .unset, .unset]) rfl k) ?_
    obtain ⟨T9, h9, X9, e9, E9, A9, D9, -, st9⟩ := newO X8 hx hZ hown (hw _ (List.mem_of_getElem? (i := 5) rfl)) (hw _ (List.mem_of_getElem? (i := 6) rfl)) (hw _ (List.mem_of_getElem? (i := 7) rfl)) eh8 (g := (mkF m 24 #[.val (.int p1), .val (.int p2), .val (.int n), .val (.int sz), .unset, .unset, .unset, .unset, .unset, .unset, .unset, .unset, .unset, .unset, .unset] [])) rfl (hb hby at_24) (by decide) (by decide)
    obtain ⟨a9, g9⟩ : ∃ z, z = h0.size := ⟨_, rfl⟩
    rw [← g9] at A9 D9 st9
    have fn9_0 : Fld Z h9 a9 "com/example/graph_as_objects/graphasobjects/session/Pagination" "pageNumber" "I" (.int (0 : Int32)) := D9 (Or.inr (hw _ (List.mem_of_getElem? (i := 15) rfl))) (ty := .int) (by decide)
    have fn9_1 : Fld Z h9 a9 "com/example/graph_as_objects/graphasobjects/session/Pagination" "pageSize" "I" (.int (0 : Int32)) := D9 (Or.inr (hw _ (List.mem_of_getElem? (i := 17) rfl))) (ty := .int) (by decide)
    have ge_a9 : n0 ≤ a9 := Nat.le_trans Z0 (Nat.le_of_eq g9.symm)
    have Z9 : n0 ≤ h9.size := Nat.le_trans Z0 E9.1
    refine own_of (T9.setTop (mkF m 27 #[.val (.int p1), .val (.int p2), .val (.int n), .val (.int sz), .unset, .unset, .unset, .unset, .unset, .unset, .unset, .unset, .unset, .unset, .unset] [(.ref a9)])) (fun t q => st9 t q) ?_
    refine own_of (T9.setTop (mkF m 28 #[.val (.int p1), .val (.int p2), .val (.int n), .val (.int sz), .unset, .unset, .unset, .unset, .unset, .unset, .unset, .unset, .unset, .unset, .unset] [(.ref a9), (.ref a9)])) (fun t k => XS.dup X9.here hx rfl (hb hby at_27) rfl rfl k) ?_
    refine own_of (T9.setTop (mkF m 29 #[.val (.int p1), .val (.int p2), .val (.int n), .val (.int sz), .unset, .unset, .unset, .unset, .unset, .unset, .unset, .unset, .unset, .unset, .unset] [(.int (0 : Int32)), (.ref a9), (.ref a9)])) (fun t k => XS.iconst X9.here hx rfl (hb hby at_28) k) ?_
    refine own_of (T9.setTop (mkF m 30 #[.val (.int p1), .val (.int p2), .val (.int n), .val (.int sz), .unset, .unset, .unset, .unset, .unset, .unset, .unset, .unset, .unset, .unset, .unset] [(.int sz), (.int (0 : Int32)), (.ref a9), (.ref a9)])) (fun t k => XS.iloadN X9.here hx rfl (hb hby at_29) rfl k) ?_
    have hcn0 : ¬ (0 : Int32) < (0 : Int32) := by decide
    obtain ⟨_, _, ⟨T10, L10, k10, n10⟩, -, X10, ⟨Lc10, hQ10, l10, y10, z10⟩, st10⟩ := X9.specialBack hx (y := (⟨"com/example/graph_as_objects/graphasobjects/session/Pagination", "<init>", "(II)V"⟩ : MethodName)) rfl hown (mvT hZ (hw _ (List.mem_of_getElem? (i := 8) rfl))) (mvT hZ (hw _ (List.mem_of_getElem? (i := 9) rfl))) (mvT hZ (hw _ (List.mem_of_getElem? (i := 10) rfl))) (by decide) (backOf (W := 1) (rm2 l Z a0 hw [] a9 (0 : Int32) sz h9 n0 Z9 A9 fn9_0 fn9_1 ge_a9 hcn0 hs1) hZ (hw _ (List.mem_of_getElem? (i := 10) rfl)) (hw _ (List.mem_of_getElem? (i := 7) rfl)) (by decide) (by decide)) (g := (mkF m 30 #[.val (.int p1), .val (.int p2), .val (.int n), .val (.int sz), .unset, .unset, .unset, .unset, .unset, .unset, .unset, .unset, .unset, .unset, .unset] [(.int sz), (.int (0 : Int32)), (.ref a9), (.ref a9)])) rfl (by rw [hml]; rfl) (Steps.refl _) (a := a9) (argsL := [(.int (0 : Int32)), (.int sz)]) (rest := [(.ref a9)]) (lenOf (by decide +kernel : parseMethodDescriptor "(II)V" = some ⟨[.int, .int], none⟩) rfl) rfl (by show 2 * 0 + _ ≤ _; exact Nat.le_of_eq rfl) (hb hby at_30) (fun _ _ => ⟨rfl, e9, (by decide : 1 + 0 ≤ _), (by decide : 2 + 0 ≤ _)⟩)
    dsimp only [Pt.U, Pt.locs, Pt.cells, Pt.slots] at X10 l10 y10 z10 st10 hQ10
    subst l10 y10 z10
    obtain ⟨rfl, Nq10, Kq10, fa10, fb10⟩ := hQ10
    have N10 := Fr.app N8 Nq10
    refine own_tr (T10.setTop (mkF m 33 #[.val (.int p1), .val (.int p2), .val (.int n), .val (.int sz), .unset, .unset, .unset, .unset, .unset, .unset, .unset, .unset, .unset, .unset, .unset] [(.ref a9)])) st10 ?_
    have f10_0 := A9.keep Kq10
    have Z10 : n0 ≤ T10.heap.size := Nat.le_trans Z9 Kq10.1
    refine own_of (T10.setTop (mkF m 35 #[.val (.int p1), .val (.int p2), .val (.int n), .val (.int sz), .val (.ref a9), .unset, .unset, .unset, .unset, .unset, .unset, .unset, .unset, .unset, .unset] [])) (fun t k => XS.astore X10.here hx rfl (hb hby at_33) rfl rfl (l' := #[.val (.int p1), .val (.int p2), .val (.int n), .val (.int sz), .val (.ref a9), .unset, .unset, .unset, .unset, .unset, .unset, .unset, .unset, .unset, .unset]) rfl k) ?_
    obtain ⟨T11, h11, X11, e11, E11, A11, D11, -, st11⟩ := newO X10 hx hZ hown (hw _ (List.mem_of_getElem? (i := 5) rfl)) (hw _ (List.mem_of_getElem? (i := 6) rfl)) (hw _ (List.mem_of_getElem? (i := 7) rfl)) rfl (g := (mkF m 35 #[.val (.int p1), .val (.int p2), .val (.int n), .val (.int sz), .val (.ref a9), .unset, .unset, .unset, .unset, .unset, .unset, .unset, .unset, .unset, .unset] [])) rfl (hb hby at_35) (by decide) (by decide)
    obtain ⟨a11, g11⟩ : ∃ z, z = T10.heap.size := ⟨_, rfl⟩
    rw [← g11] at A11 D11 st11
    have ne_a9_a11 : a9 ≠ a11 := by rw [g11]; exact Nat.ne_of_lt f10_0.lt
    have f11_0 := f10_0.ext E11
    have f11_1 := fa10.ext E11
    have f11_2 := fb10.ext E11
    have fn11_0 : Fld Z h11 a11 "com/example/graph_as_objects/graphasobjects/session/Pagination" "pageNumber" "I" (.int (0 : Int32)) := D11 (Or.inr (hw _ (List.mem_of_getElem? (i := 15) rfl))) (ty := .int) (by decide)
    have fn11_1 : Fld Z h11 a11 "com/example/graph_as_objects/graphasobjects/session/Pagination" "pageSize" "I" (.int (0 : Int32)) := D11 (Or.inr (hw _ (List.mem_of_getElem? (i := 17) rfl))) (ty := .int) (by decide)
    have ge_a11 : n0 ≤ a11 := Nat.le_trans Z10 (Nat.le_of_eq g11.symm)
    have Z11 : n0 ≤ h11.size := Nat.le_trans Z10 E11.1
    refine own_of (T11.setTop (mkF m 38 #[.val (.int p1), .val (.int p2), .val (.int n), .val (.int sz), .val (.ref a9), .unset, .unset, .unset, .unset, .unset, .unset, .unset, .unset, .unset, .unset] [(.ref a11)])) (fun t q => st11 t q) ?_
    refine own_of (T11.setTop (mkF m 39 #[.val (.int p1), .val (.int p2), .val (.int n), .val (.int sz), .val (.ref a9), .unset, .unset, .unset, .unset, .unset, .unset, .unset, .unset, .unset, .unset] [(.ref a11), (.ref a11)])) (fun t k => XS.dup X11.here hx rfl (hb hby at_38) rfl rfl k) ?_
    refine own_of (T11.setTop (mkF m 40 #[.val (.int p1), .val (.int p2), .val (.int n), .val (.int sz), .val (.ref a9), .unset, .unset, .unset, .unset, .unset, .unset, .unset, .unset, .unset, .unset] [(.int n), (.ref a11), (.ref a11)])) (fun t k => XS.iloadN X11.here hx rfl (hb hby at_39) rfl k) ?_
    refine own_of (T11.setTop (mkF m 41 #[.val (.int p1), .val (.int p2), .val (.int n), .val (.int sz), .val (.ref a9), .unset, .unset, .unset, .unset, .unset, .unset, .unset, .unset, .unset, .unset] [(.int sz), (.int n), (.ref a11), (.ref a11)])) (fun t k => XS.iloadN X11.here hx rfl (hb hby at_40) rfl k) ?_
    have hcn1 : ¬ n < (0 : Int32) := by rw [Int32.lt_iff_toInt_lt]; show ¬ n.toInt < 0; omega
    obtain ⟨_, _, ⟨T12, L12, k12, n12⟩, -, X12, ⟨Lc12, hQ12, l12, y12, z12⟩, st12⟩ := X11.specialBack hx (y := (⟨"com/example/graph_as_objects/graphasobjects/session/Pagination", "<init>", "(II)V"⟩ : MethodName)) rfl hown (mvT hZ (hw _ (List.mem_of_getElem? (i := 8) rfl))) (mvT hZ (hw _ (List.mem_of_getElem? (i := 9) rfl))) (mvT hZ (hw _ (List.mem_of_getElem? (i := 10) rfl))) (by decide) (backOf (W := 1) (rm2 l Z a0 hw [] a11 n sz h11 n0 Z11 A11 fn11_0 fn11_1 ge_a11 hcn1 hs1) hZ (hw _ (List.mem_of_getElem? (i := 10) rfl)) (hw _ (List.mem_of_getElem? (i := 7) rfl)) (by decide) (by decide)) (g := (mkF m 41 #[.val (.int p1), .val (.int p2), .val (.int n), .val (.int sz), .val (.ref a9), .unset, .unset, .unset, .unset, .unset, .unset, .unset, .unset, .unset, .unset] [(.int sz), (.int n), (.ref a11), (.ref a11)])) rfl (by rw [hml]; rfl) (Steps.refl _) (a := a11) (argsL := [(.int n), (.int sz)]) (rest := [(.ref a11)]) (lenOf (by decide +kernel : parseMethodDescriptor "(II)V" = some ⟨[.int, .int], none⟩) rfl) rfl (by show 2 * 0 + _ ≤ _; exact Nat.le_of_eq rfl) (hb hby at_41) (fun _ _ => ⟨rfl, e11, (by decide : 2 + 0 ≤ _), (by decide : 4 + 0 ≤ _)⟩)
    dsimp only [Pt.U, Pt.locs, Pt.cells, Pt.slots] at X12 l12 y12 z12 st12 hQ12
    subst l12 y12 z12
    obtain ⟨rfl, Nq12, Kq12, fa12, fb12⟩ := hQ12
    have N12 := Fr.app N10 Nq12
    refine own_tr (T12.setTop (mkF m 44 #[.val (.int p1), .val (.int p2), .val (.int n), .val (.int sz), .val (.ref a9), .unset, .unset, .unset, .unset, .unset, .unset, .unset, .unset, .unset, .unset] [(.ref a11)])) st12 ?_
    have f12_0 := f11_0.keep Kq12
    have f12_1 := f11_1.keep Kq12 (ninS ne_a9_a11 nin0)
    have f12_2 := f11_2.keep Kq12 (ninS ne_a9_a11 nin0)
    have f12_3 := A11.keep Kq12
    have Z12 : n0 ≤ T12.heap.size := Nat.le_trans Z11 Kq12.1
    refine own_of (T12.setTop (mkF m 46 #[.val (.int p1), .val (.int p2), .val (.int n), .val (.int sz), .val (.ref a9), .val (.ref a11), .unset, .unset, .unset, .unset, .unset, .unset, .unset, .unset, .unset] [])) (fun t k => XS.astore X12.here hx rfl (hb hby at_44) rfl rfl (l' := #[.val (.int p1), .val (.int p2), .val (.int n), .val (.int sz), .val (.ref a9), .val (.ref a11), .unset, .unset, .unset, .unset, .unset, .unset, .unset, .unset, .unset]) rfl k) ?_
    obtain ⟨T13, h13, X13, e13, E13, A13, D13, -, st13⟩ := newO X12 hx hZ hown (hw _ (List.mem_of_getElem? (i := 5) rfl)) (hw _ (List.mem_of_getElem? (i := 6) rfl)) (hw _ (List.mem_of_getElem? (i := 7) rfl)) rfl (g := (mkF m 46 #[.val (.int p1), .val (.int p2), .val (.int n), .val (.int sz), .val (.ref a9), .val (.ref a11), .unset, .unset, .unset, .unset, .unset, .unset, .unset, .unset, .unset] [])) rfl (hb hby at_46) (by decide) (by decide)
    obtain ⟨a13, g13⟩ : ∃ z, z = T12.heap.size := ⟨_, rfl⟩
    rw [← g13] at A13 D13 st13
    have ne_a9_a13 : a9 ≠ a13 := by rw [g13]; exact Nat.ne_of_lt f12_0.lt
    have ne_a11_a13 : a11 ≠ a13 := by rw [g13]; exact Nat.ne_of_lt f12_3.lt
    have f13_0 := f12_0.ext E13
    have f13_1 := f12_1.ext E13
    have f13_2 := f12_2.ext E13
    have f13_3 := f12_3.ext E13
    have f13_4 := fa12.ext E13
    have f13_5 := fb12.ext E13
    have fn13_0 : Fld Z h13 a13 "com/example/graph_as_objects/graphasobjects/session/Pagination" "pageNumber" "I" (.int (0 : Int32)) := D13 (Or.inr (hw _ (List.mem_of_getElem? (i := 15) rfl))) (ty := .int) (by decide)
    have fn13_1 : Fld Z h13 a13 "com/example/graph_as_objects/graphasobjects/session/Pagination" "pageSize" "I" (.int (0 : Int32)) := D13 (Or.inr (hw _ (List.mem_of_getElem? (i := 17) rfl))) (ty := .int) (by decide)
    have ge_a13 : n0 ≤ a13 := Nat.le_trans Z12 (Nat.le_of_eq g13.symm)
    have Z13 : n0 ≤ h13.size := Nat.le_trans Z12 E13.1
    refine own_of (T13.setTop (mkF m 49 #[.val (.int p1), .val (.int p2), .val (.int n), .val (.int sz), .val (.ref a9), .val (.ref a11), .unset, .unset, .unset, .unset, .unset, .unset, .unset, .unset, .unset] [(.ref a13)])) (fun t q => st13 t q) ?_
    refine own_of (T13.setTop (mkF m 50 #[.val (.int p1), .val (.int p2), .val (.int n), .val (.int sz), .val (.ref a9), .val (.ref a11), .unset, .unset, .unset, .unset, .unset, .unset, .unset, .unset, .unset] [(.ref a13), (.ref a13)])) (fun t k => XS.dup X13.here hx rfl (hb hby at_49) rfl rfl k) ?_
    refine own_of (T13.setTop (mkF m 51 #[.val (.int p1), .val (.int p2), .val (.int n), .val (.int sz), .val (.ref a9), .val (.ref a11), .unset, .unset, .unset, .unset, .unset, .unset, .unset, .unset, .unset] [(.int n), (.ref a13), (.ref a13)])) (fun t k => XS.iloadN X13.here hx rfl (hb hby at_50) rfl k) ?_
    refine own_of (T13.setTop (mkF m 52 #[.val (.int p1), .val (.int p2), .val (.int n), .val (.int sz), .val (.ref a9), .val (.ref a11), .unset, .unset, .unset, .unset, .unset, .unset, .unset, .unset, .unset] [(.int (1 : Int32)), (.int n), (.ref a13), (.ref a13)])) (fun t k => XS.iconst X13.here hx rfl (hb hby at_51) k) ?_
    refine own_of (T13.setTop (mkF m 53 #[.val (.int p1), .val (.int p2), .val (.int n), .val (.int sz), .val (.ref a9), .val (.ref a11), .unset, .unset, .unset, .unset, .unset, .unset, .unset, .unset, .unset] [(.int (n + (1 : Int32))), (.ref a13), (.ref a13)])) (fun t k => XS.iadd X13.here hx rfl (hb hby at_52) rfl k) ?_
    refine own_of (T13.setTop (mkF m 54 #[.val (.int p1), .val (.int p2), .val (.int n), .val (.int sz), .val (.ref a9), .val (.ref a11), .unset, .unset, .unset, .unset, .unset, .unset, .unset, .unset, .unset] [(.int sz), (.int (n + (1 : Int32))), (.ref a13), (.ref a13)])) (fun t k => XS.iloadN X13.here hx rfl (hb hby at_53) rfl k) ?_
    have hn2 : (n + (1 : Int32)).toInt = n.toInt + 1 := by have h := c_iadd n (1 : Int32); have r := rng32 (n + (1 : Int32)); have o : (1 : Int32).toInt = 1 := rfl; omega
    have hcn2 : ¬ (n + (1 : Int32)) < (0 : Int32) := by rw [Int32.lt_iff_toInt_lt, hn2]; show ¬ n.toInt + 1 < 0; omega
    obtain ⟨_, _, ⟨T14, L14, k14, n14⟩, -, X14, ⟨Lc14, hQ14, l14, y14, z14⟩, st14⟩ := X13.specialBack hx (y := (⟨"com/example/graph_as_objects/graphasobjects/session/Pagination", "<init>", "(II)V"⟩ : MethodName)) rfl hown (mvT hZ (hw _ (List.mem_of_getElem? (i := 8) rfl))) (mvT hZ (hw _ (List.mem_of_getElem? (i := 9) rfl))) (mvT hZ (hw _ (List.mem_of_getElem? (i := 10) rfl))) (by decide) (backOf (W := 1) (rm2 l Z a0 hw [] a13 (n + (1 : Int32)) sz h13 n0 Z13 A13 fn13_0 fn13_1 ge_a13 hcn2 hs1) hZ (hw _ (List.mem_of_getElem? (i := 10) rfl)) (hw _ (List.mem_of_getElem? (i := 7) rfl)) (by decide) (by decide)) (g := (mkF m 54 #[.val (.int p1), .val (.int p2), .val (.int n), .val (.int sz), .val (.ref a9), .val (.ref a11), .unset, .unset, .unset, .unset, .unset, .unset, .unset, .unset, .unset] [(.int sz), (.int (n + (1 : Int32))), (.ref a13), (.ref a13)])) rfl (by rw [hml]; rfl) (Steps.refl _) (a := a13) (argsL := [(.int (n + (1 : Int32))), (.int sz)]) (rest := [(.ref a13)]) (lenOf (by decide +kernel : parseMethodDescriptor "(II)V" = some ⟨[.int, .int], none⟩) rfl) rfl (by show 2 * 0 + _ ≤ _; exact Nat.le_of_eq rfl) (hb hby at_54) (fun _ _ => ⟨rfl, e13, (by decide : 3 + 0 ≤ _), (by decide : 6 + 0 ≤ _)⟩)
    dsimp only [Pt.U, Pt.locs, Pt.cells, Pt.slots] at X14 l14 y14 z14 st14 hQ14
    subst l14 y14 z14
    obtain ⟨rfl, Nq14, Kq14, fa14, fb14⟩ := hQ14
    have N14 := Fr.app N12 Nq14
    refine own_tr (T14.setTop (mkF m 57 #[.val (.int p1), .val (.int p2), .val (.int n), .val (.int sz), .val (.ref a9), .val (.ref a11), .unset, .unset, .unset, .unset, .unset, .unset, .unset, .unset, .unset] [(.ref a13)])) st14 ?_
    have f14_0 := f13_0.keep Kq14
    have f14_1 := f13_1.keep Kq14 (ninS ne_a9_a13 nin0)
    have f14_2 := f13_2.keep Kq14 (ninS ne_a9_a13 nin0)
    have f14_3 := f13_3.keep Kq14
    have f14_4 := f13_4.keep Kq14 (ninS ne_a11_a13 nin0)
    have f14_5 := f13_5.keep Kq14 (ninS ne_a11_a13 nin0)
    have f14_6 := A13.keep Kq14
    have Z14 : n0 ≤ T14.heap.size := Nat.le_trans Z13 Kq14.1
    refine own_of (T14.setTop (mkF m 59 #[.val (.int p1), .val (.int p2), .val (.int n), .val (.int sz), .val (.ref a9), .val (.ref a11), .val (.ref a13), .unset, .unset, .unset, .unset, .unset, .unset, .unset, .unset] [])) (fun t k => XS.astore X14.here hx rfl (hb hby at_57) rfl rfl (l' := #[.val (.int p1), .val (.int p2), .val (.int n), .val (.int sz), .val (.ref a9), .val (.ref a11), .val (.ref a13), .unset, .unset, .unset, .unset, .unset, .unset, .unset, .unset]) rfl k) ?_
    refine own_of (T14.setTop (mkF m 61 #[.val (.int p1), .val (.int p2), .val (.int n), .val (.int sz), .val (.ref a9), .val (.ref a11), .val (.ref a13), .unset, .unset, .unset, .unset, .unset, .unset, .unset, .unset] [(.ref a9)])) (fun t k => XS.aload X14.here hx rfl (hb hby at_59) rfl rfl k) ?_
    obtain ⟨cq15, kq15, qa15, qb15, qc15⟩ := isOf hZ rfl f14_0
    obtain ⟨_, _, ⟨T15, L15, k15, n15⟩, -, X15, ⟨Lc15, hQ15, l15, y15, z15⟩, st15⟩ := X14.virtualBack hx (y := (⟨"com/example/graph_as_objects/graphasobjects/session/Pagination", "skip", "()J"⟩ : MethodName)) (z := (⟨"com/example/graph_as_objects/graphasobjects/session/Pagination", "skip", "()J"⟩ : MethodName)) hown (mvT hZ (hw _ (List.mem_of_getElem? (i := 18) rfl))) (mvT hZ (hw _ (List.mem_of_getElem? (i := 19) rfl))) (notFace_of_selects (args := #[]) (mvT hZ (hw _ (List.mem_of_getElem? (i := 21) rfl)))) (mvT hZ (hw _ (List.mem_of_getElem? (i := 21) rfl))) (mvT hZ (hw _ (List.mem_of_getElem? (i := 20) rfl))) (by decide) (backOf (W := 0) (rm4 l Z a0 hw [] a9  (0 : Int32) sz T14.heap n0 Z14 f14_1 f14_2) hZ (hw _ (List.mem_of_getElem? (i := 22) rfl)) (hw _ (List.mem_of_getElem? (i := 7) rfl)) (by decide) (by decide)) qa15 qc15 (g := (mkF m 61 #[.val (.int p1), .val (.int p2), .val (.int n), .val (.int sz), .val (.ref a9), .val (.ref a11), .val (.ref a13), .unset, .unset, .unset, .unset, .unset, .unset, .unset, .unset] [(.ref a9)])) rfl (by rw [hml]; rfl) (Steps.refl _) (argsL := []) (rest := []) (lenOf (by decide +kernel : parseMethodDescriptor "()J" = some ⟨[], some .long⟩) rfl) rfl (by show 2 * 0 + _ ≤ _; exact Nat.le_of_eq rfl) (hb hby at_61) (fun _ _ => ⟨rfl, rfl, (by decide : 3 + 0 ≤ _), (by decide : 6 + 0 ≤ _)⟩)
    dsimp only [Pt.U, Pt.locs, Pt.cells, Pt.slots] at X15 l15 y15 z15 st15 hQ15
    subst l15 y15 z15
    obtain ⟨rfl, Nq15, eh15⟩ := hQ15
    have N15 := Fr.app N14 Nq15
    refine own_tr (T15.setTop (mkF m 64 #[.val (.int p1), .val (.int p2), .val (.int n), .val (.int sz), .val (.ref a9), .val (.ref a11), .val (.ref a13), .unset, .unset, .unset, .unset, .unset, .unset, .unset, .unset] [(.long ((0 : Int32).toInt64 * sz.toInt64))])) st15 ?_
    refine own_of (T15.setTop (mkF m 66 #[.val (.int p1), .val (.int p2), .val (.int n), .val (.int sz), .val (.ref a9), .val (.ref a11), .val (.ref a13), .val (.long ((0 : Int32).toInt64 * sz.toInt64)), .second, .unset, .unset, .unset, .unset, .unset, .unset] [])) (fun t k => XS.lstore X15.here hx rfl (hb hby at_64) rfl (l' := #[.val (.int p1), .val (.int p2), .val (.int n), .val (.int sz), .val (.ref a9), .val (.ref a11), .val (.ref a13), .val (.long ((0 : Int32).toInt64 * sz.toInt64)), .second, .unset, .unset, .unset, .unset, .unset, .unset]) rfl k) ?_
    refine own_of (T15.setTop (mkF m 68 #[.val (.int p1), .val (.int p2), .val (.int n), .val (.int sz), .val (.ref a9), .val (.ref a11), .val (.ref a13), .val (.long ((0 : Int32).toInt64 * sz.toInt64)), .second, .unset, .unset, .unset, .unset, .unset, .unset] [(.ref a11)])) (fun t k => XS.aload X15.here hx rfl (hb hby at_66) rfl rfl k) ?_
    obtain ⟨cq16, kq16, qa16, qb16, qc16⟩ := isOf hZ eh15 f14_3
    obtain ⟨_, _, ⟨T16, L16, k16, n16⟩, -, X16, ⟨Lc16, hQ16, l16, y16, z16⟩, st16⟩ := X15.virtualBack hx (y := (⟨"com/example/graph_as_objects/graphasobjects/session/Pagination", "skip", "()J"⟩ : MethodName)) (z := (⟨"com/example/graph_as_objects/graphasobjects/session/Pagination", "skip", "()J"⟩ : MethodName)) hown (mvT hZ (hw _ (List.mem_of_getElem? (i := 18) rfl))) (mvT hZ (hw _ (List.mem_of_getElem? (i := 19) rfl))) (notFace_of_selects (args := #[]) (mvT hZ (hw _ (List.mem_of_getElem? (i := 21) rfl)))) (mvT hZ (hw _ (List.mem_of_getElem? (i := 21) rfl))) (mvT hZ (hw _ (List.mem_of_getElem? (i := 20) rfl))) (by decide) (backOf (W := 0) (rm4 l Z a0 hw [] a11  n sz T14.heap n0 Z14 f14_4 f14_5) hZ (hw _ (List.mem_of_getElem? (i := 22) rfl)) (hw _ (List.mem_of_getElem? (i := 7) rfl)) (by decide) (by decide)) qa16 qc16 (g := (mkF m 68 #[.val (.int p1), .val (.int p2), .val (.int n), .val (.int sz), .val (.ref a9), .val (.ref a11), .val (.ref a13), .val (.long ((0 : Int32).toInt64 * sz.toInt64)), .second, .unset, .unset, .unset, .unset, .unset, .unset] [(.ref a11)])) rfl (by rw [hml]; rfl) (Steps.refl _) (argsL := []) (rest := []) (lenOf (by decide +kernel : parseMethodDescriptor "()J" = some ⟨[], some .long⟩) rfl) rfl (by show 2 * 0 + _ ≤ _; exact Nat.le_of_eq rfl) (hb hby at_68) (fun _ _ => ⟨rfl, eh15, (by decide : 3 + 0 ≤ _), (by decide : 6 + 0 ≤ _)⟩)
    dsimp only [Pt.U, Pt.locs, Pt.cells, Pt.slots] at X16 l16 y16 z16 st16 hQ16
    subst l16 y16 z16
    obtain ⟨rfl, Nq16, eh16⟩ := hQ16
    have N16 := Fr.app N15 Nq16
    refine own_tr (T16.setTop (mkF m 71 #[.val (.int p1), .val (.int p2), .val (.int n), .val (.int sz), .val (.ref a9), .val (.ref a11), .val (.ref a13), .val (.long ((0 : Int32).toInt64 * sz.toInt64)), .second, .unset, .unset, .unset, .unset, .unset, .unset] [(.long (n.toInt64 * sz.toInt64))])) st16 ?_
    refine own_of (T16.setTop (mkF m 73 #[.val (.int p1), .val (.int p2), .val (.int n), .val (.int sz), .val (.ref a9), .val (.ref a11), .val (.ref a13), .val (.long ((0 : Int32).toInt64 * sz.toInt64)), .second, .val (.long (n.toInt64 * sz.toInt64)), .second, .unset, .unset, .unset, .unset] [])) (fun t k => XS.lstore X16.here hx rfl (hb hby at_71) rfl (l' := #[.val (.int p1), .val (.int p2), .val (.int n), .val (.int sz), .val (.ref a9), .val (.ref a11), .val (.ref a13), .val (.long ((0 : Int32).toInt64 * sz.toInt64)), .second, .val (.long (n.toInt64 * sz.toInt64)), .second, .unset, .unset, .unset, .unset]) rfl k) ?_
    refine own_of (T16.setTop (mkF m 75 #[.val (.int p1), .val (.int p2), .val (.int n), .val (.int sz), .val (.ref a9), .val (.ref a11), .val (.ref a13), .val (.long ((0 : Int32).toInt64 * sz.toInt64)), .second, .val (.long (n.toInt64 * sz.toInt64)), .second, .unset, .unset, .unset, .unset] [(.ref a13)])) (fun t k => XS.aload X16.here hx rfl (hb hby at_73) rfl rfl k) ?_
    obtain ⟨cq17, kq17, qa17, qb17, qc17⟩ := isOf hZ eh16 f14_6
    obtain ⟨_, _, ⟨T17, L17, k17, n17⟩, -, X17, ⟨Lc17, hQ17, l17, y17, z17⟩, st17⟩ := X16.virtualBack hx (y := (⟨"com/example/graph_as_objects/graphasobjects/session/Pagination", "skip", "()J"⟩ : MethodName)) (z := (⟨"com/example/graph_as_objects/graphasobjects/session/Pagination", "skip", "()J"⟩ : MethodName)) hown (mvT hZ (hw _ (List.mem_of_getElem? (i := 18) rfl))) (mvT hZ (hw _ (List.mem_of_getElem? (i := 19) rfl))) (notFace_of_selects (args := #[]) (mvT hZ (hw _ (List.mem_of_getElem? (i := 21) rfl)))) (mvT hZ (hw _ (List.mem_of_getElem? (i := 21) rfl))) (mvT hZ (hw _ (List.mem_of_getElem? (i := 20) rfl))) (by decide) (backOf (W := 0) (rm4 l Z a0 hw [] a13  (n + (1 : Int32)) sz T14.heap n0 Z14 fa14 fb14) hZ (hw _ (List.mem_of_getElem? (i := 22) rfl)) (hw _ (List.mem_of_getElem? (i := 7) rfl)) (by decide) (by decide)) qa17 qc17 (g := (mkF m 75 #[.val (.int p1), .val (.int p2), .val (.int n), .val (.int sz), .val (.ref a9), .val (.ref a11), .val (.ref a13), .val (.long ((0 : Int32).toInt64 * sz.toInt64)), .second, .val (.long (n.toInt64 * sz.toInt64)), .second, .unset, .unset, .unset, .unset] [(.ref a13)])) rfl (by rw [hml]; rfl) (Steps.refl _) (argsL := []) (rest := []) (lenOf (by decide +kernel : parseMethodDescriptor "()J" = some ⟨[], some .long⟩) rfl) rfl (by show 2 * 0 + _ ≤ _; exact Nat.le_of_eq rfl) (hb hby at_75) (fun _ _ => ⟨rfl, eh16, (by decide : 3 + 0 ≤ _), (by decide : 6 + 0 ≤ _)⟩)
    dsimp only [Pt.U, Pt.locs, Pt.cells, Pt.slots] at X17 l17 y17 z17 st17 hQ17
    subst l17 y17 z17
    obtain ⟨rfl, Nq17, eh17⟩ := hQ17
    have N17 := Fr.app N16 Nq17
    refine own_tr (T17.setTop (mkF m 78 #[.val (.int p1), .val (.int p2), .val (.int n), .val (.int sz), .val (.ref a9), .val (.ref a11), .val (.ref a13), .val (.long ((0 : Int32).toInt64 * sz.toInt64)), .second, .val (.long (n.toInt64 * sz.toInt64)), .second, .unset, .unset, .unset, .unset] [(.long ((n + (1 : Int32)).toInt64 * sz.toInt64))])) st17 ?_
    refine own_of (T17.setTop (mkF m 80 #[.val (.int p1), .val (.int p2), .val (.int n), .val (.int sz), .val (.ref a9), .val (.ref a11), .val (.ref a13), .val (.long ((0 : Int32).toInt64 * sz.toInt64)), .second, .val (.long (n.toInt64 * sz.toInt64)), .second, .val (.long ((n + (1 : Int32)).toInt64 * sz.toInt64)), .second, .unset, .unset] [])) (fun t k => XS.lstore X17.here hx rfl (hb hby at_78) rfl (l' := #[.val (.int p1), .val (.int p2), .val (.int n), .val (.int sz), .val (.ref a9), .val (.ref a11), .val (.ref a13), .val (.long ((0 : Int32).toInt64 * sz.toInt64)), .second, .val (.long (n.toInt64 * sz.toInt64)), .second, .val (.long ((n + (1 : Int32)).toInt64 * sz.toInt64)), .second, .unset, .unset]) rfl k) ?_
    refine own_of (T17.setTop (mkF m 82 #[.val (.int p1), .val (.int p2), .val (.int n), .val (.int sz), .val (.ref a9), .val (.ref a11), .val (.ref a13), .val (.long ((0 : Int32).toInt64 * sz.toInt64)), .second, .val (.long (n.toInt64 * sz.toInt64)), .second, .val (.long ((n + (1 : Int32)).toInt64 * sz.toInt64)), .second, .unset, .unset] [(.long ((n + (1 : Int32)).toInt64 * sz.toInt64))])) (fun t k => XS.lload X17.here hx rfl (hb hby at_80) rfl k) ?_
    refine own_of (T17.setTop (mkF m 84 #[.val (.int p1), .val (.int p2), .val (.int n), .val (.int sz), .val (.ref a9), .val (.ref a11), .val (.ref a13), .val (.long ((0 : Int32).toInt64 * sz.toInt64)), .second, .val (.long (n.toInt64 * sz.toInt64)), .second, .val (.long ((n + (1 : Int32)).toInt64 * sz.toInt64)), .second, .unset, .unset] [(.long (n.toInt64 * sz.toInt64)), (.long ((n + (1 : Int32)).toInt64 * sz.toInt64))])) (fun t k => XS.lload X17.here hx rfl (hb hby at_82) rfl k) ?_
    refine own_of (T17.setTop (mkF m 85 #[.val (.int p1), .val (.int p2), .val (.int n), .val (.int sz), .val (.ref a9), .val (.ref a11), .val (.ref a13), .val (.long ((0 : Int32).toInt64 * sz.toInt64)), .second, .val (.long (n.toInt64 * sz.toInt64)), .second, .val (.long ((n + (1 : Int32)).toInt64 * sz.toInt64)), .second, .unset, .unset] [(.long (((n + (1 : Int32)).toInt64 * sz.toInt64) - (n.toInt64 * sz.toInt64)))])) (fun t k => XS.lsub X17.here hx rfl (hb hby at_84) rfl k) ?_
    refine own_of (T17.setTop (mkF m 87 #[.val (.int p1), .val (.int p2), .val (.int n), .val (.int sz), .val (.ref a9), .val (.ref a11), .val (.ref a13), .val (.long ((0 : Int32).toInt64 * sz.toInt64)), .second, .val (.long (n.toInt64 * sz.toInt64)), .second, .val (.long ((n + (1 : Int32)).toInt64 * sz.toInt64)), .second, .val (.long (((n + (1 : Int32)).toInt64 * sz.toInt64) - (n.toInt64 * sz.toInt64))), .second] [])) (fun t k => XS.lstore X17.here hx rfl (hb hby at_85) rfl (l' := #[.val (.int p1), .val (.int p2), .val (.int n), .val (.int sz), .val (.ref a9), .val (.ref a11), .val (.ref a13), .val (.long ((0 : Int32).toInt64 * sz.toInt64)), .second, .val (.long (n.toInt64 * sz.toInt64)), .second, .val (.long ((n + (1 : Int32)).toInt64 * sz.toInt64)), .second, .val (.long (((n + (1 : Int32)).toInt64 * sz.toInt64) - (n.toInt64 * sz.toInt64))), .second]) rfl k) ?_
    refine own_of (T17.setTop (mkF m 89 #[.val (.int p1), .val (.int p2), .val (.int n), .val (.int sz), .val (.ref a9), .val (.ref a11), .val (.ref a13), .val (.long ((0 : Int32).toInt64 * sz.toInt64)), .second, .val (.long (n.toInt64 * sz.toInt64)), .second, .val (.long ((n + (1 : Int32)).toInt64 * sz.toInt64)), .second, .val (.long (((n + (1 : Int32)).toInt64 * sz.toInt64) - (n.toInt64 * sz.toInt64))), .second] [(.long ((0 : Int32).toInt64 * sz.toInt64))])) (fun t k => XS.lload X17.here hx rfl (hb hby at_87) rfl k) ?_
    refine own_of (T17.setTop (mkF m 90 #[.val (.int p1), .val (.int p2), .val (.int n), .val (.int sz), .val (.ref a9), .val (.ref a11), .val (.ref a13), .val (.long ((0 : Int32).toInt64 * sz.toInt64)), .second, .val (.long (n.toInt64 * sz.toInt64)), .second, .val (.long ((n + (1 : Int32)).toInt64 * sz.toInt64)), .second, .val (.long (((n + (1 : Int32)).toInt64 * sz.toInt64) - (n.toInt64 * sz.toInt64))), .second] [(.long (0 : Int64)), (.long ((0 : Int32).toInt64 * sz.toInt64))])) (fun t k => XS.lconst X17.here hx rfl (hb hby at_89) k) ?_
    refine own_of (T17.setTop (mkF m 91 #[.val (.int p1), .val (.int p2), .val (.int n), .val (.int sz), .val (.ref a9), .val (.ref a11), .val (.ref a13), .val (.long ((0 : Int32).toInt64 * sz.toInt64)), .second, .val (.long (n.toInt64 * sz.toInt64)), .second, .val (.long ((n + (1 : Int32)).toInt64 * sz.toInt64)), .second, .val (.long (((n + (1 : Int32)).toInt64 * sz.toInt64) - (n.toInt64 * sz.toInt64))), .second] [(.int (lcmpW ((0 : Int32).toInt64 * sz.toInt64) (0 : Int64)))])) (fun t k => XS.lcmp X17.here hx rfl (hb hby at_90) rfl k) ?_
    have z1 : (0 : Int32).toInt64 * sz.toInt64 = (0 : Int64) := by apply Int64.toInt_inj.mp; rw [own_prod]; show (0 : Int) * _ = 0; exact Int.zero_mul _
    have hsz : 1 ≤ sz.toInt := by rw [Int32.lt_iff_toInt_lt] at hs1; have o : (1 : Int32).toInt = 1 := rfl; omega
    have z2 : ¬ lcmpW (n.toInt64 * sz.toInt64) (0 : Int64) < (0 : Int32) := by rw [lw_lt, Int64.lt_iff_toInt_lt, own_prod]; show ¬ n.toInt * sz.toInt < 0; have := Int.mul_nonneg hn0 (show 0 ≤ sz.toInt by omega); omega
    have z3 : (n + (1 : Int32)).toInt64 * sz.toInt64 - n.toInt64 * sz.toInt64 = sz.toInt64 := by
      apply Int64.toInt_inj.mp
      have h := c_lsub ((n + (1 : Int32)).toInt64 * sz.toInt64) (n.toInt64 * sz.toInt64)
      have r := rng64 ((n + (1 : Int32)).toInt64 * sz.toInt64 - n.toInt64 * sz.toInt64)
      have r2 := rng32 sz
      rw [own_prod, own_prod, hn2, Int.add_mul, Int.one_mul] at h
      rw [c_i2l]
      generalize n.toInt * sz.toInt = q at h
      omega
    refine own_of (T17.setTop (mkF m 94 #[.val (.int p1), .val (.int p2), .val (.int n), .val (.int sz), .val (.ref a9), .val (.ref a11), .val (.ref a13), .val (.long ((0 : Int32).toInt64 * sz.toInt64)), .second, .val (.long (n.toInt64 * sz.toInt64)), .second, .val (.long ((n + (1 : Int32)).toInt64 * sz.toInt64)), .second, .val (.long (((n + (1 : Int32)).toInt64 * sz.toInt64) - (n.toInt64 * sz.toInt64))), .second] [])) (fun t k => XS.ifNo X17.here hx rfl (hb hby at_91) rfl ((if0 _ _).trans (teq ((lw_eq _ _).mpr z1)).2) k) ?_
    refine own_of (T17.setTop (mkF m 96 #[.val (.int p1), .val (.int p2), .val (.int n), .val (.int sz), .val (.ref a9), .val (.ref a11), .val (.ref a13), .val (.long ((0 : Int32).toInt64 * sz.toInt64)), .second, .val (.long (n.toInt64 * sz.toInt64)), .second, .val (.long ((n + (1 : Int32)).toInt64 * sz.toInt64)), .second, .val (.long (((n + (1 : Int32)).toInt64 * sz.toInt64) - (n.toInt64 * sz.toInt64))), .second] [(.long (n.toInt64 * sz.toInt64))])) (fun t k => XS.lload X17.here hx rfl (hb hby at_94) rfl k) ?_
    refine own_of (T17.setTop (mkF m 97 #[.val (.int p1), .val (.int p2), .val (.int n), .val (.int sz), .val (.ref a9), .val (.ref a11), .val (.ref a13), .val (.long ((0 : Int32).toInt64 * sz.toInt64)), .second, .val (.long (n.toInt64 * sz.toInt64)), .second, .val (.long ((n + (1 : Int32)).toInt64 * sz.toInt64)), .second, .val (.long (((n + (1 : Int32)).toInt64 * sz.toInt64) - (n.toInt64 * sz.toInt64))), .second] [(.long (0 : Int64)), (.long (n.toInt64 * sz.toInt64))])) (fun t k => XS.lconst X17.here hx rfl (hb hby at_96) k) ?_
    refine own_of (T17.setTop (mkF m 98 #[.val (.int p1), .val (.int p2), .val (.int n), .val (.int sz), .val (.ref a9), .val (.ref a11), .val (.ref a13), .val (.long ((0 : Int32).toInt64 * sz.toInt64)), .second, .val (.long (n.toInt64 * sz.toInt64)), .second, .val (.long ((n + (1 : Int32)).toInt64 * sz.toInt64)), .second, .val (.long (((n + (1 : Int32)).toInt64 * sz.toInt64) - (n.toInt64 * sz.toInt64))), .second] [(.int (lcmpW (n.toInt64 * sz.toInt64) (0 : Int64)))])) (fun t k => XS.lcmp X17.here hx rfl (hb hby at_97) rfl k) ?_
    refine own_of (T17.setTop (mkF m 101 #[.val (.int p1), .val (.int p2), .val (.int n), .val (.int sz), .val (.ref a9), .val (.ref a11), .val (.ref a13), .val (.long ((0 : Int32).toInt64 * sz.toInt64)), .second, .val (.long (n.toInt64 * sz.toInt64)), .second, .val (.long ((n + (1 : Int32)).toInt64 * sz.toInt64)), .second, .val (.long (((n + (1 : Int32)).toInt64 * sz.toInt64) - (n.toInt64 * sz.toInt64))), .second] [])) (fun t k => XS.ifNo X17.here hx rfl (hb hby at_98) rfl ((if0 _ _).trans (flt z2).1) k) ?_
    refine own_of (T17.setTop (mkF m 103 #[.val (.int p1), .val (.int p2), .val (.int n), .val (.int sz), .val (.ref a9), .val (.ref a11), .val (.ref a13), .val (.long ((0 : Int32).toInt64 * sz.toInt64)), .second, .val (.long (n.toInt64 * sz.toInt64)), .second, .val (.long ((n + (1 : Int32)).toInt64 * sz.toInt64)), .second, .val (.long (((n + (1 : Int32)).toInt64 * sz.toInt64) - (n.toInt64 * sz.toInt64))), .second] [(.long (((n + (1 : Int32)).toInt64 * sz.toInt64) - (n.toInt64 * sz.toInt64)))])) (fun t k => XS.lload X17.here hx rfl (hb hby at_101) rfl k) ?_
    refine own_of (T17.setTop (mkF m 104 #[.val (.int p1), .val (.int p2), .val (.int n), .val (.int sz), .val (.ref a9), .val (.ref a11), .val (.ref a13), .val (.long ((0 : Int32).toInt64 * sz.toInt64)), .second, .val (.long (n.toInt64 * sz.toInt64)), .second, .val (.long ((n + (1 : Int32)).toInt64 * sz.toInt64)), .second, .val (.long (((n + (1 : Int32)).toInt64 * sz.toInt64) - (n.toInt64 * sz.toInt64))), .second] [(.int sz), (.long (((n + (1 : Int32)).toInt64 * sz.toInt64) - (n.toInt64 * sz.toInt64)))])) (fun t k => XS.iloadN X17.here hx rfl (hb hby at_103) rfl k) ?_
    refine own_of (T17.setTop (mkF m 105 #[.val (.int p1), .val (.int p2), .val (.int n), .val (.int sz), .val (.ref a9), .val (.ref a11), .val (.ref a13), .val (.long ((0 : Int32).toInt64 * sz.toInt64)), .second, .val (.long (n.toInt64 * sz.toInt64)), .second, .val (.long ((n + (1 : Int32)).toInt64 * sz.toInt64)), .second, .val (.long (((n + (1 : Int32)).toInt64 * sz.toInt64) - (n.toInt64 * sz.toInt64))), .second] [(.long (sz.toInt64)), (.long (((n + (1 : Int32)).toInt64 * sz.toInt64) - (n.toInt64 * sz.toInt64)))])) (fun t k => XS.i2l X17.here hx rfl (hb hby at_104) rfl k) ?_
    refine own_of (T17.setTop (mkF m 106 #[.val (.int p1), .val (.int p2), .val (.int n), .val (.int sz), .val (.ref a9), .val (.ref a11), .val (.ref a13), .val (.long ((0 : Int32).toInt64 * sz.toInt64)), .second, .val (.long (n.toInt64 * sz.toInt64)), .second, .val (.long ((n + (1 : Int32)).toInt64 * sz.toInt64)), .second, .val (.long (((n + (1 : Int32)).toInt64 * sz.toInt64) - (n.toInt64 * sz.toInt64))), .second] [(.int (lcmpW (((n + (1 : Int32)).toInt64 * sz.toInt64) - (n.toInt64 * sz.toInt64)) (sz.toInt64)))])) (fun t k => XS.lcmp X17.here hx rfl (hb hby at_105) rfl k) ?_
    refine own_of (T17.setTop (mkF m 109 #[.val (.int p1), .val (.int p2), .val (.int n), .val (.int sz), .val (.ref a9), .val (.ref a11), .val (.ref a13), .val (.long ((0 : Int32).toInt64 * sz.toInt64)), .second, .val (.long (n.toInt64 * sz.toInt64)), .second, .val (.long ((n + (1 : Int32)).toInt64 * sz.toInt64)), .second, .val (.long (((n + (1 : Int32)).toInt64 * sz.toInt64) - (n.toInt64 * sz.toInt64))), .second] [])) (fun t k => XS.ifNo X17.here hx rfl (hb hby at_106) rfl ((if0 _ _).trans (teq ((lw_eq _ _).mpr z3)).2) k) ?_
    refine own_of (T17.setTop (mkF m 111 #[.val (.int p1), .val (.int p2), .val (.int n), .val (.int sz), .val (.ref a9), .val (.ref a11), .val (.ref a13), .val (.long ((0 : Int32).toInt64 * sz.toInt64)), .second, .val (.long (n.toInt64 * sz.toInt64)), .second, .val (.long ((n + (1 : Int32)).toInt64 * sz.toInt64)), .second, .val (.long (((n + (1 : Int32)).toInt64 * sz.toInt64) - (n.toInt64 * sz.toInt64))), .second] [(.long (((n + (1 : Int32)).toInt64 * sz.toInt64) - (n.toInt64 * sz.toInt64)))])) (fun t k => XS.lload X17.here hx rfl (hb hby at_109) rfl k) ?_
    refine own_of (T17.setTop (mkF m 113 #[.val (.int p1), .val (.int p2), .val (.int n), .val (.int sz), .val (.ref a9), .val (.ref a11), .val (.ref a13), .val (.long ((0 : Int32).toInt64 * sz.toInt64)), .second, .val (.long (n.toInt64 * sz.toInt64)), .second, .val (.long ((n + (1 : Int32)).toInt64 * sz.toInt64)), .second, .val (.long (((n + (1 : Int32)).toInt64 * sz.toInt64) - (n.toInt64 * sz.toInt64))), .second] [(.ref a13), (.long (((n + (1 : Int32)).toInt64 * sz.toInt64) - (n.toInt64 * sz.toInt64)))])) (fun t k => XS.aload X17.here hx rfl (hb hby at_111) rfl rfl k) ?_
    obtain ⟨cq18, kq18, qa18, qb18, qc18⟩ := isOf hZ eh17 f14_6
    obtain ⟨_, _, ⟨T18, L18, k18, n18⟩, -, X18, ⟨Lc18, hQ18, l18, y18, z18⟩, st18⟩ := X17.virtualBack hx (y := (⟨"com/example/graph_as_objects/graphasobjects/session/Pagination", "limit", "()I"⟩ : MethodName)) (z := (⟨"com/example/graph_as_objects/graphasobjects/session/Pagination", "limit", "()I"⟩ : MethodName)) hown (mvT hZ (hw _ (List.mem_of_getElem? (i := 23) rfl))) (mvT hZ (hw _ (List.mem_of_getElem? (i := 24) rfl))) (notFace_of_selects (args := #[]) (mvT hZ (hw _ (List.mem_of_getElem? (i := 26) rfl)))) (mvT hZ (hw _ (List.mem_of_getElem? (i := 26) rfl))) (mvT hZ (hw _ (List.mem_of_getElem? (i := 25) rfl))) (by decide) (backOf (W := 2) (rm5 l Z a0 hw [] a13  (n + (1 : Int32)) sz T14.heap n0 Z14 fa14 fb14) hZ (hw _ (List.mem_of_getElem? (i := 27) rfl)) (hw _ (List.mem_of_getElem? (i := 7) rfl)) (by decide) (by decide)) qa18 qc18 (g := (mkF m 113 #[.val (.int p1), .val (.int p2), .val (.int n), .val (.int sz), .val (.ref a9), .val (.ref a11), .val (.ref a13), .val (.long ((0 : Int32).toInt64 * sz.toInt64)), .second, .val (.long (n.toInt64 * sz.toInt64)), .second, .val (.long ((n + (1 : Int32)).toInt64 * sz.toInt64)), .second, .val (.long (((n + (1 : Int32)).toInt64 * sz.toInt64) - (n.toInt64 * sz.toInt64))), .second] [(.ref a13), (.long (((n + (1 : Int32)).toInt64 * sz.toInt64) - (n.toInt64 * sz.toInt64)))])) rfl (by rw [hml]; rfl) (Steps.refl _) (argsL := []) (rest := [(.long (((n + (1 : Int32)).toInt64 * sz.toInt64) - (n.toInt64 * sz.toInt64)))]) (lenOf (by decide +kernel : parseMethodDescriptor "()I" = some ⟨[], some .int⟩) rfl) rfl (by show 2 * 0 + _ ≤ _; exact Nat.le_of_eq rfl) (hb hby at_113) (fun _ _ => ⟨rfl, eh17, (by decide : 3 + 0 ≤ _), (by decide : 6 + 0 ≤ _)⟩)
    dsimp only [Pt.U, Pt.locs, Pt.cells, Pt.slots] at X18 l18 y18 z18 st18 hQ18
    subst l18 y18 z18
    obtain ⟨rfl, Nq18, eh18⟩ := hQ18
    have N18 := Fr.app N17 Nq18
    refine own_tr (T18.setTop (mkF m 116 #[.val (.int p1), .val (.int p2), .val (.int n), .val (.int sz), .val (.ref a9), .val (.ref a11), .val (.ref a13), .val (.long ((0 : Int32).toInt64 * sz.toInt64)), .second, .val (.long (n.toInt64 * sz.toInt64)), .second, .val (.long ((n + (1 : Int32)).toInt64 * sz.toInt64)), .second, .val (.long (((n + (1 : Int32)).toInt64 * sz.toInt64) - (n.toInt64 * sz.toInt64))), .second] [(.int sz), (.long (((n + (1 : Int32)).toInt64 * sz.toInt64) - (n.toInt64 * sz.toInt64)))])) st18 ?_
    refine own_of (T18.setTop (mkF m 117 #[.val (.int p1), .val (.int p2), .val (.int n), .val (.int sz), .val (.ref a9), .val (.ref a11), .val (.ref a13), .val (.long ((0 : Int32).toInt64 * sz.toInt64)), .second, .val (.long (n.toInt64 * sz.toInt64)), .second, .val (.long ((n + (1 : Int32)).toInt64 * sz.toInt64)), .second, .val (.long (((n + (1 : Int32)).toInt64 * sz.toInt64) - (n.toInt64 * sz.toInt64))), .second] [(.long (sz.toInt64)), (.long (((n + (1 : Int32)).toInt64 * sz.toInt64) - (n.toInt64 * sz.toInt64)))])) (fun t k => XS.i2l X18.here hx rfl (hb hby at_116) rfl k) ?_
    refine own_of (T18.setTop (mkF m 118 #[.val (.int p1), .val (.int p2), .val (.int n), .val (.int sz), .val (.ref a9), .val (.ref a11), .val (.ref a13), .val (.long ((0 : Int32).toInt64 * sz.toInt64)), .second, .val (.long (n.toInt64 * sz.toInt64)), .second, .val (.long ((n + (1 : Int32)).toInt64 * sz.toInt64)), .second, .val (.long (((n + (1 : Int32)).toInt64 * sz.toInt64) - (n.toInt64 * sz.toInt64))), .second] [(.int (lcmpW (((n + (1 : Int32)).toInt64 * sz.toInt64) - (n.toInt64 * sz.toInt64)) (sz.toInt64)))])) (fun t k => XS.lcmp X18.here hx rfl (hb hby at_117) rfl k) ?_
    refine own_of (T18.setTop (mkF m 121 #[.val (.int p1), .val (.int p2), .val (.int n), .val (.int sz), .val (.ref a9), .val (.ref a11), .val (.ref a13), .val (.long ((0 : Int32).toInt64 * sz.toInt64)), .second, .val (.long (n.toInt64 * sz.toInt64)), .second, .val (.long ((n + (1 : Int32)).toInt64 * sz.toInt64)), .second, .val (.long (((n + (1 : Int32)).toInt64 * sz.toInt64) - (n.toInt64 * sz.toInt64))), .second] [])) (fun t k => XS.ifNo X18.here hx rfl (hb hby at_118) rfl ((if0 _ _).trans (teq ((lw_eq _ _).mpr z3)).2) k) ?_
    refine own_of (T18.setTop (mkF m 122 #[.val (.int p1), .val (.int p2), .val (.int n), .val (.int sz), .val (.ref a9), .val (.ref a11), .val (.ref a13), .val (.long ((0 : Int32).toInt64 * sz.toInt64)), .second, .val (.long (n.toInt64 * sz.toInt64)), .second, .val (.long ((n + (1 : Int32)).toInt64 * sz.toInt64)), .second, .val (.long (((n + (1 : Int32)).toInt64 * sz.toInt64) - (n.toInt64 * sz.toInt64))), .second] [(.int (1 : Int32))])) (fun t k => XS.iconst X18.here hx rfl (hb hby at_121) k) ?_
    refine own_of (T18.setTop (mkF m 126 #[.val (.int p1), .val (.int p2), .val (.int n), .val (.int sz), .val (.ref a9), .val (.ref a11), .val (.ref a13), .val (.long ((0 : Int32).toInt64 * sz.toInt64)), .second, .val (.long (n.toInt64 * sz.toInt64)), .second, .val (.long ((n + (1 : Int32)).toInt64 * sz.toInt64)), .second, .val (.long (((n + (1 : Int32)).toInt64 * sz.toInt64) - (n.toInt64 * sz.toInt64))), .second] [(.int (1 : Int32))])) (fun t k => XS.goto X18.here hx rfl (pc0 := 122) (pc' := 126) rfl (hb hby at_122) (by decide) (by decide) k) ?_
    obtain ⟨fs, hr, hrun, hended, hW, hsame⟩ := X18.leave (v := some (.int (1 : Int32))) (fun h => by rw [Bd.returns] at h; cases h)
    refine ⟨_, _, retN X18 hx (t := .boolean) Bd.returns (by simp) (hb hby at_126) hr, hrun, hended, _, _, rfl, ?_, ⟨_, rfl⟩, hW, hsame.mono (by decide) (by decide)⟩
    show Q_rm0 Z p1 p2  h0 n0 _ T18.heap _
    rw [eh18]
    exact ⟨rfl, N18⟩
  refine own_of (s₁.setTop (mkF m 6 #[.val (.int p1), .val (.int p2), .val (.int (p1 &&& (2147483647 : Int32))), .unset, .unset, .unset, .unset, .unset, .unset, .unset, .unset, .unset, .unset, .unset, .unset] [(.int (p1 &&& (2147483647 : Int32)))])) (fun t k => XS.iloadN X0.here hx rfl (hb hby at_5) rfl k) ?_
  refine own_of (s₁.setTop (mkF m 8 #[.val (.int p1), .val (.int p2), .val (.int (p1 &&& (2147483647 : Int32))), .unset, .unset, .unset, .unset, .unset, .unset, .unset, .unset, .unset, .unset, .unset, .unset] [(.int (2147483647 : Int32)), (.int (p1 &&& (2147483647 : Int32)))])) (fun t k => X0.ldcInt hx hown (mvT hZ (hw _ (List.mem_of_getElem? (i := 0) rfl))) (g := (mkF m 6 #[.val (.int p1), .val (.int p2), .val (.int (p1 &&& (2147483647 : Int32))), .unset, .unset, .unset, .unset, .unset, .unset, .unset, .unset, .unset, .unset, .unset, .unset] [(.int (p1 &&& (2147483647 : Int32)))])) rfl (hb hby at_6) t k) ?_
  have hm := c_mask p1 (2147483647 : Int32) 31 (by decide) (by decide)
  by_cases hc19 : (p1 &&& (2147483647 : Int32)) = (2147483647 : Int32)
  · refine own_of (s₁.setTop (mkF m 11 #[.val (.int p1), .val (.int p2), .val (.int (p1 &&& (2147483647 : Int32))), .unset, .unset, .unset, .unset, .unset, .unset, .unset, .unset, .unset, .unset, .unset, .unset] [])) (fun t k => XS.icmpNo X0.here hx rfl (hb hby at_8) rfl (teq hc19).2 k) ?_
    refine own_of (s₁.setTop (mkF m 12 #[.val (.int p1), .val (.int p2), .val (.int (p1 &&& (2147483647 : Int32))), .unset, .unset, .unset, .unset, .unset, .unset, .unset, .unset, .unset, .unset, .unset, .unset] [(.int (p1 &&& (2147483647 : Int32)))])) (fun t k => XS.iloadN X0.here hx rfl (hb hby at_11) rfl k) ?_
    refine own_of (s₁.setTop (mkF m 13 #[.val (.int p1), .val (.int p2), .val (.int (p1 &&& (2147483647 : Int32))), .unset, .unset, .unset, .unset, .unset, .unset, .unset, .unset, .unset, .unset, .unset, .unset] [(.int (1 : Int32)), (.int (p1 &&& (2147483647 : Int32)))])) (fun t k => XS.iconst X0.here hx rfl (hb hby at_12) k) ?_
    refine own_of (s₁.setTop (mkF m 14 #[.val (.int p1), .val (.int p2), .val (.int (p1 &&& (2147483647 : Int32))), .unset, .unset, .unset, .unset, .unset, .unset, .unset, .unset, .unset, .unset, .unset, .unset] [(.int ((p1 &&& (2147483647 : Int32)) - (1 : Int32)))])) (fun t k => XS.isub X0.here hx rfl (hb hby at_13) rfl k) ?_
    refine own_of (s₁.setTop (mkF m 15 #[.val (.int p1), .val (.int p2), .val (.int ((p1 &&& (2147483647 : Int32)) - (1 : Int32))), .unset, .unset, .unset, .unset, .unset, .unset, .unset, .unset, .unset, .unset, .unset, .unset] [])) (fun t k => XS.istoreN X0.here hx rfl (hb hby at_14) rfl (l' := #[.val (.int p1), .val (.int p2), .val (.int ((p1 &&& (2147483647 : Int32)) - (1 : Int32))), .unset, .unset, .unset, .unset, .unset, .unset, .unset, .unset, .unset, .unset, .unset, .unset]) rfl k) ?_
    exact J _ (by rw [hc19]; decide) (by rw [hc19]; decide)
  · refine own_of (s₁.setTop (mkF m 15 #[.val (.int p1), .val (.int p2), .val (.int (p1 &&& (2147483647 : Int32))), .unset, .unset, .unset, .unset, .unset, .unset, .unset, .unset, .unset, .unset, .unset, .unset] [])) (fun t k => XS.icmpYes X0.here hx rfl (pc0 := 8) (pc' := 15) rfl (hb hby at_8) rfl (feq hc19).2 (by decide) (by decide) k) ?_
    have hne : (p1 &&& (2147483647 : Int32)).toInt ≠ 2147483647 := fun q => hc19 (Int32.toInt_inj.mp q)
    exact J _ (by omega) (by omega)
set_option maxRecDepth 65536 in
set_option maxHeartbeats 40000000 in
theorem comes_1 {Post : Tables → Env → Array Value → State → Outcome → State → Prop} (hpost : ∀ tb e args s v u, (limb_1_1.after args s (.returned v) u = true ∧ limb_1_2.after args s (.returned v) u = true ∧ True) → FrameEnd s (.returned v) u (Jvm.fieldLocs frame_1_writes args s ++ Jvm.arrayLocs frame_1_arrays args s ++ Jvm.staticLocs frame_1_statics s) 16 128 → Post tb e args s (.returned v) u) :
    ArmFor flags0 classFile x code maxLocals ret World_1 tables_1 room_1 Calls_1 rest_1 Pre_1 Post := by
  intro l hfl _ _ p e ha hc hk s m args below hf hA hF happ hP
  obtain ⟨hcalls, hrest, hpre⟩ := hP
  obtain ⟨-, -, -, hnamed, -, -, -, hat⟩ := (Spec.applies_iff hf).mp happ
  obtain ⟨hg, hn⟩ := and_e (Cond.before_iff.mp (show (Jvm.Cond.and given_1 narrow_1).before args s = true from hpre))
  obtain ⟨h1, g0⟩ := and_e hg
  obtain ⟨w0, w1, rfl⟩ : ∃ w0 w1 : Value, args = #[w0, w1] := by
    have hs : args.size = 2 := by simpa [Cond.value, given_1] using h1
    obtain ⟨L⟩ := args
    match L, hs with
    | [w0, w1], _ => exact ⟨w0, w1, rfl⟩
  have hw := fun d (hd : d ∈ tables_1) => atoms_spec (ws := Jvm.Cond.code x code maxLocals ret :: tables_1) hat d (List.mem_cons_of_mem _ hd)
  obtain ⟨c0, g1⟩ := and_e g0
  obtain ⟨i0, e0⟩ := is_v c0
  obtain rfl : w0 = (.int i0) := Option.some.inj e0
  obtain ⟨i1, e1⟩ := is_v g1
  obtain rfl : w1 = (.int i1) := Option.some.inj e1
  obtain ⟨n, o, h1, h2, h3, _, L, rfl, ⟨rfl, N⟩, hq⟩ := rm0 l s _ hw tables_1 i0 i1 s.heap s.heap.size (Nat.le_refl _) p e ha hc hk s m _ below hf ((Spec.applies_iff_loose hf).mp happ).1 ⟨rfl, State.Warmed39.refl s, rfl⟩ trivial
  refine ⟨n, _, h1, h2, h3, hpost _ _ _ _ _ _ ⟨Cond.after_iff.mpr rfl, Cond.after_iff.mpr (eq_i res_at (Term.int_eval (1)) rfl), trivial⟩ ⟨hq.1, hq.2.1, (hq.2.2.sift fun y hy => Or.inr (N y hy)).mono (by decide) (by decide)⟩⟩
theorem main_1_1 : Claimed_1_1 := comes_1 fun _ _ _ _ _ _ h hF => ⟨h.1, hF⟩
theorem main_1_2 : Claimed_1_2 := comes_1 fun _ _ _ _ _ _ h hF => ⟨h.2.1, hF⟩
end Jvm.Pilot.@@N@@
namespace Jvm.Pilot.@@N@@
open Jvm Jvm.ClassFile Sem Op Lib Jvm.Free Jvm.Stand Jvm.Pilot.@@N@@.Jvm.D
/-! MADE BY PROGRAM (witnessworld.py) out of the Statement's table words and the real class files: 10 classes; the members and pool entries that the words name. The judged class is class 1, her method 1. -/
namespace start1
open Jvm.ClassFile
def u (s : String) : CpInfo := .utf8 (stringToUtf16 s)
/-- a pool by its gaps: so many unusable entries, then the entry; so many at the end -/
def gap : Nat → List CpInfo → List CpInfo
  | 0, r => r
  | n + 1, r => .unusable :: gap n r
def poolList (es : List (Nat × CpInfo)) (last : Nat) : List CpInfo := es.foldr (fun e r => gap e.1 (e.2 :: r)) (gap last [])
def pool (es : List (Nat × CpInfo)) (last : Nat) : Array CpInfo := ⟨poolList es last⟩
def fileOf (pool : Array CpInfo) (this : Nat) (attrs : Array Attribute := #[]) (ms : Array MethodInfo := #[]) (fl : Nat := 33) (sup : Nat := 0) (ifs : Array Nat := #[]) (fds : Array FieldInfo := #[]) : ClassFile where
  minorVersion := 0
  majorVersion := 65
  constantPool := pool
  accessFlags := fl
  thisClass := this
  superClass := sup
  interfaces := ifs
  fields := fds
  methods := ms
  attributes := attrs
def plain (name : String) (sup : Option ClassId) : Class where
  name := name
  kind := .ordinary
  loader := none
  accessFlags := 33
  super := sup
  interfaces := #[]
  cf := none
  fields := #[]
  methods := #[]
  instanceTypes := #[]
  staticTypes := #[]
  resolved := #[]
  callSites := []
  init := .initialized
  statics := none
  mirror := none

def pool0 : Array CpInfo := pool [(5, u "<init>"), (0, u "()V"), (1, .class_ 10), (1, u "java/lang/Object")] 113

def k0c0 : Code := { maxStack := 0, maxLocals := 1, code := object_method_1_code, exceptionTable := #[], attributes := #[] }
def k0m0 : Method := { name := "<init>", desc := "()V", sig := { parameters := [], returnType := none }, accessFlags := 1, code := some k0c0 }
/-- java/lang/Object -/
def k0 : Class := { plain "java/lang/Object" none with
  accessFlags := 33
  interfaces := #[]
  cf := some (fileOf pool0 8 #[] #[{ accessFlags := 1, nameIndex := 5, descriptorIndex := 6, attributes := #[] }] 33 0 #[] #[])
  fields := #[]
  methods := #[k0m0]
  instanceTypes := #[]
  staticTypes := #[]
  resolved := Array.replicate 124 none
  statics := none }

def pool1 : Array CpInfo := pool [(2, .class_ 4), (1, u "java/lang/Object"), (0, u "<init>"), (0, u "()V"), (0, .integer 2147483647), (2, .methodref 11 12), (0, .class_ 13), (0, .nameAndType 14 15), (0, u "java/lang/Math"), (0, u "max"), (0, u "(II)I"), (0, .class_ 17), (0, u "com/example/graph_as_objects/graphasobjects/session/Pagination"), (0, .methodref 16 19), (0, .nameAndType 5 20), (0, u "(II)V"), (0, .methodref 16 22), (0, .nameAndType 23 24), (0, u "skip"), (0, u "()J"), (0, .methodref 16 26), (0, .nameAndType 27 28), (0, u "limit"), (0, u "()I"), (0, .class_ 30), (0, u "com/example/graph_as_objects/graphasobjects/session/PaginationSkipPinLaw"), (2, u "law"), (0, u "(II)Z")] 3

def k1m0 : Method := { name := "<init>", desc := "()V", sig := { parameters := [], returnType := none }, accessFlags := 1, code := none }
def k1c1 : Code := { maxStack := 4, maxLocals := 15, code := code, exceptionTable := #[], attributes := #[] }
def k1m1 : Method := { name := "law", desc := "(II)Z", sig := { parameters := [.int, .int], returnType := some .boolean }, accessFlags := 9, code := some k1c1 }
/-- com/example/graph_as_objects/graphasobjects/session/PaginationSkipPinLaw -/
def k1 : Class := { plain "com/example/graph_as_objects/graphasobjects/session/PaginationSkipPinLaw" (some 0) with
  accessFlags := 49
  interfaces := #[]
  cf := some (fileOf pool1 29 #[] #[{ accessFlags := 1, nameIndex := 5, descriptorIndex := 6, attributes := #[] }, { accessFlags := 9, nameIndex := 33, descriptorIndex := 34, attributes := #[] }] 49 2 #[] #[])
  fields := #[]
  methods := #[k1m0, k1m1]
  instanceTypes := #[]
  staticTypes := #[]
  resolved := Array.replicate 38 none
  statics := none }

def pool2 : Array CpInfo := pool [(1, .class_ 2), (0, u "java/lang/Math"), (1, .class_ 6), (1, u "java/lang/Object"), (0, u "<init>"), (0, u "()V"), (89, .class_ 100), (1, u "java/lang/Math$RandomNumberGeneratorHolder"), (71, u "negativeZeroFloatBits"), (0, u "J"), (2, u "negativeZeroDoubleBits"), (21, u "max"), (46, u "$assertionsDisabled"), (0, u "Z"), (88, u "(II)I"), (2, u "twoToTheDoubleScaleDown"), (0, u "D"), (4, u "twoToTheDoubleScaleUp"), (9, u "E"), (3, u "PI"), (2, u "TAU"), (2, u "DEGREES_TO_RADIANS"), (0, u "RADIANS_TO_DEGREES")] 94

def k2m0 : Method := { name := "<init>", desc := "()V", sig := { parameters := [], returnType := none }, accessFlags := 2, code := none }
def k2c1 : Code := { maxStack := 2, maxLocals := 2, code := jdk_29_method_65_code, exceptionTable := #[], attributes := #[] }
def k2m1 : Method := { name := "max", desc := "(II)I", sig := { parameters := [.int, .int], returnType := some .int }, accessFlags := 9, code := some k2c1 }
/-- java/lang/Math -/
def k2 : Class := { plain "java/lang/Math" (some 0) with
  accessFlags := 49
  interfaces := #[]
  cf := some (fileOf pool2 1 #[.nestMembers #[98]] #[{ accessFlags := 2, nameIndex := 7, descriptorIndex := 8, attributes := #[] }, { accessFlags := 9, nameIndex := 198, descriptorIndex := 335, attributes := #[] }] 49 4 #[] #[{ accessFlags := 25, nameIndex := 354, descriptorIndex := 339, attributes := #[] }, { accessFlags := 25, nameIndex := 358, descriptorIndex := 339, attributes := #[] }, { accessFlags := 25, nameIndex := 361, descriptorIndex := 339, attributes := #[] }, { accessFlags := 26, nameIndex := 364, descriptorIndex := 339, attributes := #[] }, { accessFlags := 26, nameIndex := 365, descriptorIndex := 339, attributes := #[] }, { accessFlags := 26, nameIndex := 172, descriptorIndex := 173, attributes := #[] }, { accessFlags := 26, nameIndex := 176, descriptorIndex := 173, attributes := #[] }, { accessFlags := 8, nameIndex := 344, descriptorIndex := 339, attributes := #[] }, { accessFlags := 8, nameIndex := 338, descriptorIndex := 339, attributes := #[] }, { accessFlags := 4120, nameIndex := 245, descriptorIndex := 246, attributes := #[] }])
  fields := #[{ name := "E", type := .double, accessFlags := 25, slot := 0, constantValue := 0 }, { name := "PI", type := .double, accessFlags := 25, slot := 1, constantValue := 0 }, { name := "TAU", type := .double, accessFlags := 25, slot := 2, constantValue := 0 }, { name := "DEGREES_TO_RADIANS", type := .double, accessFlags := 26, slot := 3, constantValue := 0 }, { name := "RADIANS_TO_DEGREES", type := .double, accessFlags := 26, slot := 4, constantValue := 0 }, { name := "negativeZeroFloatBits", type := .long, accessFlags := 26, slot := 5, constantValue := 0 }, { name := "negativeZeroDoubleBits", type := .long, accessFlags := 26, slot := 6, constantValue := 0 }, { name := "twoToTheDoubleScaleUp", type := .double, accessFlags := 8, slot := 7, constantValue := 0 }, { name := "twoToTheDoubleScaleDown", type := .double, accessFlags := 8, slot := 8, constantValue := 0 }, { name := "$assertionsDisabled", type := .boolean, accessFlags := 4120, slot := 9, constantValue := 0 }]
  methods := #[k2m0, k2m1]
  instanceTypes := #[]
  staticTypes := #[.double, .double, .double, .double, .double, .long, .long, .double, .double, .boolean]
  resolved := Array.replicate 460 none
  statics := none }

def pool3 : Array CpInfo := pool [(1, .methodref 2 3), (0, .class_ 4), (0, .nameAndType 5 6), (0, u "java/lang/Object"), (0, u "<init>"), (0, u "()V"), (9, .fieldref 17 18), (0, .class_ 19), (0, .nameAndType 20 21), (0, u "com/example/graph_as_objects/graphasobjects/session/Pagination"), (0, u "pageNumber"), (0, u "I"), (0, .fieldref 17 23), (0, .nameAndType 24 21), (0, u "pageSize"), (1, u "(II)V"), (3, u "skip"), (0, u "()J"), (0, u "limit"), (0, u "()I")] 21

def k3c0 : Code := { maxStack := 4, maxLocals := 3, code := prog_35_method_1_code, exceptionTable := #[], attributes := #[] }
def k3m0 : Method := { name := "<init>", desc := "(II)V", sig := { parameters := [.int, .int], returnType := none }, accessFlags := 1, code := some k3c0 }
def k3c1 : Code := { maxStack := 4, maxLocals := 1, code := prog_35_method_2_code, exceptionTable := #[], attributes := #[] }
def k3m1 : Method := { name := "skip", desc := "()J", sig := { parameters := [], returnType := some .long }, accessFlags := 0, code := some k3c1 }
def k3c2 : Code := { maxStack := 1, maxLocals := 1, code := prog_35_method_3_code, exceptionTable := #[], attributes := #[] }
def k3m2 : Method := { name := "limit", desc := "()I", sig := { parameters := [], returnType := some .int }, accessFlags := 0, code := some k3c2 }
/-- com/example/graph_as_objects/graphasobjects/session/Pagination -/
def k3 : Class := { plain "com/example/graph_as_objects/graphasobjects/session/Pagination" (some 0) with
  accessFlags := 33
  interfaces := #[]
  cf := some (fileOf pool3 17 #[] #[{ accessFlags := 1, nameIndex := 5, descriptorIndex := 26, attributes := #[] }, { accessFlags := 0, nameIndex := 30, descriptorIndex := 31, attributes := #[] }, { accessFlags := 0, nameIndex := 32, descriptorIndex := 33, attributes := #[] }] 33 2 #[] #[{ accessFlags := 18, nameIndex := 20, descriptorIndex := 21, attributes := #[] }, { accessFlags := 18, nameIndex := 24, descriptorIndex := 21, attributes := #[] }])
  fields := #[{ name := "pageNumber", type := .int, accessFlags := 18, slot := 0, constantValue := 0 }, { name := "pageSize", type := .int, accessFlags := 18, slot := 1, constantValue := 0 }]
  methods := #[k3m0, k3m1, k3m2]
  instanceTypes := #[.int, .int]
  staticTypes := #[]
  resolved := Array.replicate 55 none
  statics := none }

def pool4 : Array CpInfo := pool [(1, u "java/lang/Cloneable"), (0, .class_ 1), (0, u "java/lang/Object"), (0, .class_ 3)] 3

/-- java/lang/Cloneable -/
def k4 : Class := { plain "java/lang/Cloneable" (some 0) with
  accessFlags := 1537
  interfaces := #[]
  cf := some (fileOf pool4 2 #[] #[] 1537 4 #[] #[])
  fields := #[]
  methods := #[]
  instanceTypes := #[]
  staticTypes := #[]
  resolved := Array.replicate 8 none
  statics := none }

def pool5 : Array CpInfo := pool [(1, u "java/io/Serializable"), (0, .class_ 1), (0, u "java/lang/Object"), (0, .class_ 3)] 3

/-- java/io/Serializable -/
def k5 : Class := { plain "java/io/Serializable" (some 0) with
  accessFlags := 1537
  interfaces := #[]
  cf := some (fileOf pool5 2 #[] #[] 1537 4 #[] #[])
  fields := #[]
  methods := #[]
  instanceTypes := #[]
  staticTypes := #[]
  resolved := Array.replicate 8 none
  statics := none }

/-- the primitive byte -/
def k6 : Class := { plain "byte" none with kind := .primitive 'B', accessFlags := 0x411 }
/-- [B -/
def k7 : Class := { plain "[B" (some 0) with kind := .array 6 .byte, interfaces := #[4, 5], accessFlags := 1041 }

/-- the primitive int -/
def k8 : Class := { plain "int" none with kind := .primitive 'I', accessFlags := 0x411 }
/-- [I -/
def k9 : Class := { plain "[I" (some 0) with kind := .array 8 .int, interfaces := #[4, 5], accessFlags := 1041 }

def heap : Heap := #[]
def classes : Array Class := #[k0, k1, k2, k3, k4, k5, k6, k7, k8, k9]
def interned : List (Array UInt16 × Addr) := []
def slotsUsed : Nat := 0
def theMethod : MethodId := ⟨1, 1⟩
def args0 : Array Value := #[.int 5, .int 7]
def aboutOver (below : List Frame) : State where
  vm := { classes := classes, interned := interned.toArray }
  heap := heap
  slotsUsed := slotsUsed
  threads := #[{ frames := .invoking theMethod args0 :: below }]
def below0 : List Frame := [.native { method := ⟨0, 0⟩, args := #[] }]
def about1 : State := aboutOver below0
def p0 : Program := .bare "" "" ""
def e0 : Env := launch0.env 0 0 0
theorem w_frames : about1.frames = Frame.invoking theMethod args0 :: below0 := rfl
set_option maxRecDepth 65536 in
theorem w_args : argsFit about1.vm theMethod args0 = true := by decide +kernel
set_option maxRecDepth 65536 in
theorem w_heap : heapFits about1 = true := by decide +kernel
set_option maxRecDepth 65536 in
theorem w_runnable : about1.curStatus? = some .runnable := by decide +kernel
set_option maxRecDepth 65536 in
theorem w_alone : about1.alone = true := by decide +kernel
set_option maxRecDepth 65536 in
theorem w_named : about1.methodNamed? x = some theMethod := by decide +kernel
set_option maxRecDepth 65536 in
theorem w_hears : about1.hears theMethod below0 = true := by decide +kernel
set_option maxRecDepth 65536 in
theorem w_ripe : about1.ripe theMethod args0 below0 = true := by decide +kernel
theorem w_running : about1.status = .running := rfl
set_option maxRecDepth 65536 in
theorem w_room : about1.hasRoom e0.platform room_1 = true :=
  launch0.hasRoom_least _ room_1 (by decide +kernel) (by decide +kernel) (by decide +kernel) (by decide +kernel) (by decide +kernel) (by decide +kernel)
theorem allAtoms_all (ts : List Jvm.Cond) (a : Array Jvm.Value) (st : Jvm.State) : (allAtoms ts).before a st = ts.all (fun c => c.before a st) := by
  induction ts with
  | nil => rfl
  | cons c t ih =>
    show (Jvm.Cond.and c (allAtoms t)).before a st = _
    rw [Jvm.Cond.before_and, ih, List.all_cons]
def words1 : List Jvm.Cond := Jvm.Cond.code x code maxLocals ret :: tables_1
/-- a 'code' word, met by the world's own term for the bytes: nothing is compared byte by byte -/
theorem code_word {y : MethodName} {bytes : ByteArray} {mx : Nat} {rt : Option FieldType} {a : Array Value} {s : State} {m : MethodId} {meth : Method} {c : Code} (h1 : s.methodNamed? y = some m) (h2 : s.vm.method? m = some meth) (h3 : meth.code = some c) (h4 : c.code = bytes)
    (h5 : (c.maxLocals == mx && c.exceptionTable.isEmpty && decide (c.maxStack ≤ mostOperands) && decide (meth.sig.returnType = rt) && !meth.locks && decide (parseMethodDescriptor y.desc = some meth.sig)) = true) : (Jvm.Cond.code y bytes mx rt).before a s = true := by
  simp only [Bool.and_eq_true, beq_iff_eq, Bool.not_eq_true', decide_eq_true_eq] at h5
  obtain ⟨⟨⟨⟨⟨g1, g2⟩, g3⟩, g4⟩, g5⟩, g6⟩ := h5
  simp [Cond.before, Cond.holds, Cond.value, h1, h2, h3, h4, g1, g2, g3, g4, g5, g6]
def isCode : Jvm.Cond → Bool
  | .code _ _ _ _ => true
  | _ => false
theorem all_split {L : List Jvm.Cond} {P : Jvm.Cond → Bool} (h1 : L.all (fun c => isCode c || P c) = true) (h2 : ∀ c ∈ L.filter isCode, P c = true) : L.all P = true := by
  refine List.all_eq_true.mpr fun c hc => ?_
  have h := List.all_eq_true.mp h1 c hc
  rcases Bool.eq_false_or_eq_true (isCode c) with hi | hi
  · exact h2 c (List.mem_filter.mpr ⟨hc, hi⟩)
  · simpa [hi] using h
set_option maxRecDepth 65536 in
theorem w_c0 : (Jvm.Cond.code x code maxLocals ret).before args0 about1 = true := code_word (m := ⟨1, 1⟩) (meth := k1m1) (c := k1c1) (by decide +kernel) rfl rfl rfl (by decide +kernel)
set_option maxRecDepth 65536 in
theorem w_c1 : (Jvm.Cond.code ({ cls := "java/lang/Math", name := "max", desc := "(II)I" } : Jvm.MethodName) jdk_29_method_65_code (2 : Nat) (Option.some Jvm.ClassFile.FieldType.int)).before args0 about1 = true := code_word (m := ⟨2, 1⟩) (meth := k2m1) (c := k2c1) (by decide +kernel) rfl rfl rfl (by decide +kernel)
set_option maxRecDepth 65536 in
theorem w_c2 : (Jvm.Cond.code ({ cls := "com/example/graph_as_objects/graphasobjects/session/Pagination", name := "<init>", desc := "(II)V" } : Jvm.MethodName) prog_35_method_1_code (3 : Nat) (Option.none : Option Jvm.ClassFile.FieldType)).before args0 about1 = true := code_word (m := ⟨3, 0⟩) (meth := k3m0) (c := k3c0) (by decide +kernel) rfl rfl rfl (by decide +kernel)
set_option maxRecDepth 65536 in
theorem w_c3 : (Jvm.Cond.code ({ cls := "java/lang/Object", name := "<init>", desc := "()V" } : Jvm.MethodName) object_method_1_code (1 : Nat) (Option.none : Option Jvm.ClassFile.FieldType)).before args0 about1 = true := code_word (m := ⟨0, 0⟩) (meth := k0m0) (c := k0c0) (by decide +kernel) rfl rfl rfl (by decide +kernel)
set_option maxRecDepth 65536 in
theorem w_c4 : (Jvm.Cond.code ({ cls := "com/example/graph_as_objects/graphasobjects/session/Pagination", name := "skip", desc := "()J" } : Jvm.MethodName) prog_35_method_2_code (1 : Nat) (Option.some Jvm.ClassFile.FieldType.long)).before args0 about1 = true := code_word (m := ⟨3, 1⟩) (meth := k3m1) (c := k3c1) (by decide +kernel) rfl rfl rfl (by decide +kernel)
set_option maxRecDepth 65536 in
theorem w_c5 : (Jvm.Cond.code ({ cls := "com/example/graph_as_objects/graphasobjects/session/Pagination", name := "limit", desc := "()I" } : Jvm.MethodName) prog_35_method_3_code (1 : Nat) (Option.some Jvm.ClassFile.FieldType.int)).before args0 about1 = true := code_word (m := ⟨3, 2⟩) (meth := k3m2) (c := k3c2) (by decide +kernel) rfl rfl rfl (by decide +kernel)
def codes1 : List Jvm.Cond := [Jvm.Cond.code x code maxLocals ret, Jvm.Cond.code ({ cls := "java/lang/Math", name := "max", desc := "(II)I" } : Jvm.MethodName) jdk_29_method_65_code (2 : Nat) (Option.some Jvm.ClassFile.FieldType.int), Jvm.Cond.code ({ cls := "com/example/graph_as_objects/graphasobjects/session/Pagination", name := "<init>", desc := "(II)V" } : Jvm.MethodName) prog_35_method_1_code (3 : Nat) (Option.none : Option Jvm.ClassFile.FieldType), Jvm.Cond.code ({ cls := "java/lang/Object", name := "<init>", desc := "()V" } : Jvm.MethodName) object_method_1_code (1 : Nat) (Option.none : Option Jvm.ClassFile.FieldType), Jvm.Cond.code ({ cls := "com/example/graph_as_objects/graphasobjects/session/Pagination", name := "skip", desc := "()J" } : Jvm.MethodName) prog_35_method_2_code (1 : Nat) (Option.some Jvm.ClassFile.FieldType.long), Jvm.Cond.code ({ cls := "com/example/graph_as_objects/graphasobjects/session/Pagination", name := "limit", desc := "()I" } : Jvm.MethodName) prog_35_method_3_code (1 : Nat) (Option.some Jvm.ClassFile.FieldType.int)]
set_option maxRecDepth 65536 in
theorem codes_eq : words1.filter isCode = codes1 := rfl
theorem w_codes : ∀ c ∈ words1.filter isCode, c.before args0 about1 = true := by
  rw [codes_eq]
  intro c hc
  simp only [codes1, List.mem_cons, List.not_mem_nil, or_false] at hc
  rcases hc with rfl | rfl | rfl | rfl | rfl | rfl
  · exact w_c0
  · exact w_c1
  · exact w_c2
  · exact w_c3
  · exact w_c4
  · exact w_c5
set_option maxRecDepth 65536 in
theorem w_t1 : (words1.take 24).all (fun c => isCode c || c.before args0 about1) = true := by decide +kernel
set_option maxRecDepth 65536 in
theorem w_t2 : (words1.drop 24).all (fun c => isCode c || c.before args0 about1) = true := by decide +kernel
theorem w_tables : (allAtoms (Jvm.Cond.code x code maxLocals ret :: tables_1)).before args0 about1 = true := by
  rw [allAtoms_all]
  show words1.all (fun c => c.before args0 about1) = true
  refine all_split ?_ w_codes
  rw [← List.take_append_drop 24 words1, List.all_append, w_t1, w_t2]
  rfl
set_option maxRecDepth 65536 in
theorem w_case : (Jvm.Cond.and given_1 narrow_1).before args0 about1 = true := by decide +kernel
theorem w_applies : (headSpec (Jvm.Cond.code x code maxLocals ret :: tables_1) room_1).applies x e0.platform about1 = true :=
  (Spec.applies_iff w_frames).mpr ⟨w_running, w_runnable, w_alone, w_named, w_hears, w_ripe, w_room, w_tables⟩
theorem atStart : AtStart classFile x code maxLocals ret World_1 tables_1 room_1 Calls_1 rest_1 Pre_1 launch0 p0 e0 about1 theMethod args0 below0 :=
  ⟨lists_1, trivial, launch0.admits_env _ _ _, launch0.least_env, fairChoices_fair.cas, fairChoices_fair.clock, w_frames, w_args, w_heap, w_applies, trivial, trivial, w_case⟩
end start1
theorem witness_1 : WitnessClaimed_1 := ⟨start1.p0, start1.e0, start1.about1, start1.theMethod, start1.args0, start1.below0, start1.atStart⟩
end Jvm.Pilot.@@N@@
