import JvmDerived
import JvmDerived.Pilot.@@N@@Statement
import JvmDerived.Pilot.@@N@@Code
set_option linter.unusedVariables false
set_option linter.unusedSimpArgs false
namespace Jvm.RoadKit
open Sem ClassFile Op Lib Jvm.Stand Jvm.Free Jvm.LawKit
section New
variable {p : Program} {l : Launch} {e : Env} {R : Room} {s : State} {m : MethodId} {args : Array Value} {below : List Frame} {meth : Method} {c : Code} {T : State} {locs : List Loc} {cells slots : Nat}
theorem retI (X : Stand p l e R s m args below meth c T locs cells slots) (hx : p.tables.exec = Jvm.exec) {pc : Nat} {Ls : Array Slot} {z : Int32} {rest : List Value} (hret : meth.sig.returnType = some .int) (hd : decode c.code pc = .ok (.ireturn, 1)) {fs : List Frame}
    (hl : ∀ (f : JFrame) (acts : List Action), f.method = m → f.locked = none → f.entered = [] → (doReturn e (T.setTop f) acts (some (.int z))).1 = T.setFrames fs) : Steps p.tables e below (T.setTop (mkF m pc Ls (.int z :: rest))) (T.setFrames fs) := by
  have hm' : T.vm.method? m = some meth := X.method'
  have hn : narrow .int (.int z) = .int z := rfl
  show Steps p.tables e below (T.setTop { method := m, pc := pc, locals := Ls, stack := _ :: rest, locked := none }) _
  jvm_step X.here [X.here.top, hx, hd, hm', hret, hn]
  first | (intro acts; rw [hl _ acts rfl rfl rfl]) | rw [hl _ _ rfl rfl rfl]
  exact Steps.refl _
end New
end Jvm.RoadKit
namespace Jvm.Pilot.@@N@@
open Jvm Jvm.ClassFile Sem Op Lib Jvm.Free Jvm.Stand Jvm.LawKit Jvm.RoadKit Bundle Jvm.Pilot.@@N@@.Jvm.D
theorem d2_0 : decode prog_21_method_1_code 0 = .ok (.aload_n 0, 1) := by decide +kernel
theorem d2_1 : decode prog_21_method_1_code 1 = .ok (.invokespecial 1, 3) := by decide +kernel
theorem d2_4 : decode prog_21_method_1_code 4 = .ok (.aload_n 0, 1) := by decide +kernel
theorem d2_5 : decode prog_21_method_1_code 5 = .ok (.iload_n 1, 1) := by decide +kernel
theorem d2_6 : decode prog_21_method_1_code 6 = .ok (.putfield 7, 3) := by decide +kernel
theorem d2_9 : decode prog_21_method_1_code 9 = .ok (.return_, 1) := by decide +kernel
theorem pn_2 : plainName "com/example/vestwright/vestwright/core/YearsAndMonths" = true := by first | (simp [plainName, overriddenIn]; done) | decide +kernel
theorem ef_2 (m : MethodId) (x0 : Addr) (x1 : Int32) : entryFrame m #[(.ref x0), (.int x1)] 2 = mkF m 0 #[.val (.ref x0), .val (.int x1)] [] := by first | (simp [entryFrame, mkF, argsToLocals, Value.category]; done) | rfl
def Q2 (Z : State) (a1 : Addr) (p2 : Int32) (u_totalMonths_a1 : Value) (h0 : Heap) (n0 : Nat) (v : Option Value) (h : Heap) (L : List Loc) : Prop := v = none ∧ Fr n0 L ∧ Keep h0 h [a1] ∧ Exa Z h a1 "com/example/vestwright/vestwright/core/YearsAndMonths" ∧ Fld Z h a1 "com/example/vestwright/vestwright/core/YearsAndMonths" "totalMonths" "I" (.int p2)
set_option maxRecDepth 65536 in
set_option maxHeartbeats 40000000 in
theorem rm2 (l : Launch) (Z : State) (a0 : Array Value) (hw : ∀ d ∈ tables_1, d.before a0 Z = true) (ws : List Jvm.Cond) (a1 : Addr) (p2 : Int32) (u_totalMonths_a1 : Value) (h0 : Heap) (n0 : Nat) (Z0 : n0 ≤ h0.size) (E_a1 : Exa Z h0 a1 "com/example/vestwright/vestwright/core/YearsAndMonths") (F_totalMonths_a1 : Fld Z h0 a1 "com/example/vestwright/vestwright/core/YearsAndMonths" "totalMonths" "I" u_totalMonths_a1) (g_a1 : n0 ≤ a1) :
    MetFree l (⟨"com/example/vestwright/vestwright/core/YearsAndMonths", "<init>", "(I)V"⟩ : MethodName) (head1 (Jvm.Cond.code (⟨"com/example/vestwright/vestwright/core/YearsAndMonths", "<init>", "(I)V"⟩ : MethodName) prog_21_method_1_code 2 none :: ws) ({ frames := 1, cells := 0, slots := 0, locals := 12 } : Room)) (fun a U => a = #[(.ref a1), (.int p2)] ∧ Z.Warmed39 U.vm ∧ U.heap = h0) (fun _ _ _ _ _ => True) (fun _ U o U' => ∃ v L, o = .returned v ∧ Q2 Z a1 p2 u_totalMonths_a1 h0 n0 v U'.heap L ∧ FrameEnd U o U' L ({ frames := 1, cells := 0, slots := 0, locals := 12 } : Room).cells ({ frames := 1, cells := 0, slots := 0, locals := 12 } : Room).slots) := by
  refine MetFree.of_bodySF (plainFor_of_name pn_2) hisR ?_
  intro p e s m args below meth c s₁ Bd hml0 hP hK
  obtain ⟨rfl, hZ, hh⟩ := hP
  have hx := Bd.exec
  have hby := Bd.bytes
  have hml : c.maxLocals = 2 := hml0
  have hown : s.vm.findClass "com/example/vestwright/vestwright/core/YearsAndMonths" = some m.cls := findClass_of_methodNamed Bd.named
  have hnm := (name_of_methodNamed Bd.named Bd.method).1
  have X0 : Stand p l e ({ frames := 1, cells := 0, slots := 0, locals := 12 } : Room) s m #[(.ref a1), (.int p2)] below meth c s₁ [] 0 0 := Stand.of_body Bd
  have e0 : s₁.heap = h0 := by rw [← hh, Bd.state]; rfl
  have N0 := Fr.nil n0
  have pre0 : ∀ t, Steps p.tables e below (s₁.setTop (mkF m 0 #[.val (.ref a1), .val (.int p2)] [])) t → Steps p.tables e below (s₁.setTop (entryFrame m #[(.ref a1), (.int p2)] 2)) t := fun t k => castTop (ef_2 m a1 p2) k
  obtain ⟨T3, X3, e3, st3⟩ := initO X0 hx hZ hown (hw _ (List.mem_of_getElem? (i := 10) rfl)) (hw _ (List.mem_of_getElem? (i := 11) rfl)) (hw _ (List.mem_of_getElem? (i := 12) rfl)) e0 (g := (mkF m 1 #[.val (.ref a1), .val (.int p2)] [(.ref a1)])) rfl (by rw [hml]; rfl) rfl (hb hby d2_1) (by decide) (W := 0) (by show 2 * 0 + _ ≤ _; exact Nat.le_of_eq rfl) (by decide)
  obtain ⟨T4, h4, X4, e4, W4, st4⟩ := putF X3 hx hZ hown (host := "") (Or.inl (hw _ (List.mem_of_getElem? (i := 13) rfl))) Via.refl e3 F_totalMonths_a1 E_a1 (Or.inr ⟨(hw _ (List.mem_of_getElem? (i := 14) rfl)), rfl, hnm⟩) (hw _ (List.mem_of_getElem? (i := 6) rfl)) (ty := .int) (by decide) rfl rfl (g := (mkF m 6 #[.val (.ref a1), .val (.int p2)] [(.int p2), (.ref a1)])) rfl rfl (hb hby d2_6)
  have Fw4 := F_totalMonths_a1.same W4
  have K4 : Keep h0 h4 [a1] := (Keep.refl h0 [a1]).wr W4 (Or.inl (List.mem_of_getElem? (i := 0) rfl))
  have N4 := Fr.snoc X4 N0 g_a1
  obtain ⟨fs, hr, hrun, hended, hW, hsame⟩ := X4.leave (v := none) (fun _ => rfl)
  refine ⟨_, _, pre0 _ ?_, hrun, hended, _, _, rfl, ?_, ⟨_, rfl⟩, hW, hsame.mono (by decide) (by decide)⟩
  · show Steps p.tables e below (s₁.setTop (mkF m 0 #[.val (.ref a1), .val (.int p2)] [])) _
    refine XS.aloadN X0.here hx rfl (hb hby d2_0) rfl rfl ?_
    show Steps p.tables e below (s₁.setTop (mkF m 1 #[.val (.ref a1), .val (.int p2)] [(.ref a1)])) _
    refine st3 _ ?_
    show Steps p.tables e below (T3.setTop (mkF m 4 #[.val (.ref a1), .val (.int p2)] [])) _
    refine XS.aloadN X3.here hx rfl (hb hby d2_4) rfl rfl ?_
    show Steps p.tables e below (T3.setTop (mkF m 5 #[.val (.ref a1), .val (.int p2)] [(.ref a1)])) _
    refine XS.iloadN X3.here hx rfl (hb hby d2_5) rfl ?_
    show Steps p.tables e below (T3.setTop (mkF m 6 #[.val (.ref a1), .val (.int p2)] [(.int p2), (.ref a1)])) _
    refine st4 _ ?_
    show Steps p.tables e below (T4.setTop (mkF m 9 #[.val (.ref a1), .val (.int p2)] [])) _
    exact X4.returnOut hx Bd.returns (hb hby d2_9) hr
  · show Q2 Z a1 p2 u_totalMonths_a1 h0 n0 _ T4.heap _
    rw [e4]
    exact ⟨rfl, N4, K4, (E_a1.wr W4), Fw4⟩

theorem d1_0 : decode prog_21_method_4_code 0 = .ok (.iload_n 0, 1) := by decide +kernel
theorem d1_1 : decode prog_21_method_4_code 1 = .ok (.ifCond .ge 17, 3) := by decide +kernel
theorem d1_18 : decode prog_21_method_4_code 18 = .ok (.new 8, 3) := by decide +kernel
theorem d1_21 : decode prog_21_method_4_code 21 = .ok (.dup, 1) := by decide +kernel
theorem d1_22 : decode prog_21_method_4_code 22 = .ok (.iload_n 0, 1) := by decide +kernel
theorem d1_23 : decode prog_21_method_4_code 23 = .ok (.invokespecial 29, 3) := by decide +kernel
theorem d1_26 : decode prog_21_method_4_code 26 = .ok (.areturn, 1) := by decide +kernel
theorem pn_1 : plainName "com/example/vestwright/vestwright/core/YearsAndMonths" = true := by first | (simp [plainName, overriddenIn]; done) | decide +kernel
theorem pd_1_1 : parseMethodDescriptor "(I)V" = some ⟨[.int], none⟩ := by decide +kernel
theorem ef_1 (m : MethodId) (x0 : Int32) : entryFrame m #[(.int x0)] 1 = mkF m 0 #[.val (.int x0)] [] := by first | (simp [entryFrame, mkF, argsToLocals, Value.category]; done) | rfl
def Q1 (Z : State) (p1 : Int32) (h0 : Heap) (n0 : Nat) (v : Option Value) (h : Heap) (L : List Loc) : Prop := ∃ b : Addr, v = some (.ref b) ∧ Fr n0 L ∧ n0 ≤ b ∧ Keep h0 h [] ∧ Exa Z h b "com/example/vestwright/vestwright/core/YearsAndMonths" ∧ Fld Z h b "com/example/vestwright/vestwright/core/YearsAndMonths" "totalMonths" "I" (.int p1)
set_option maxRecDepth 65536 in
set_option maxHeartbeats 40000000 in
theorem rm1 (l : Launch) (Z : State) (a0 : Array Value) (hw : ∀ d ∈ tables_1, d.before a0 Z = true) (ws : List Jvm.Cond) (p1 : Int32) (h0 : Heap) (n0 : Nat) (Z0 : n0 ≤ h0.size) (hc1 : ¬ (p1 < (0 : Int32))) :
    MetFree l (⟨"com/example/vestwright/vestwright/core/YearsAndMonths", "ofMonths", "(I)Lcom/example/vestwright/vestwright/core/YearsAndMonths;"⟩ : MethodName) (head1 (Jvm.Cond.code (⟨"com/example/vestwright/vestwright/core/YearsAndMonths", "ofMonths", "(I)Lcom/example/vestwright/vestwright/core/YearsAndMonths;"⟩ : MethodName) prog_21_method_4_code 1 (some (.object "com/example/vestwright/vestwright/core/YearsAndMonths")) :: ws) ({ frames := 2, cells := 1, slots := 1, locals := 26 } : Room)) (fun a U => a = #[(.int p1)] ∧ Z.Warmed39 U.vm ∧ U.heap = h0) (fun _ _ _ _ _ => True) (fun _ U o U' => ∃ v L, o = .returned v ∧ Q1 Z p1 h0 n0 v U'.heap L ∧ FrameEnd U o U' L ({ frames := 2, cells := 1, slots := 1, locals := 26 } : Room).cells ({ frames := 2, cells := 1, slots := 1, locals := 26 } : Room).slots) := by
  refine MetFree.of_bodySF (plainFor_of_name pn_1) hisR ?_
  intro p e s m args below meth c s₁ Bd hml0 hP hK
  obtain ⟨rfl, hZ, hh⟩ := hP
  have hx := Bd.exec
  have hby := Bd.bytes
  have hml : c.maxLocals = 1 := hml0
  have hown : s.vm.findClass "com/example/vestwright/vestwright/core/YearsAndMonths" = some m.cls := findClass_of_methodNamed Bd.named
  have hnm := (name_of_methodNamed Bd.named Bd.method).1
  have X0 : Stand p l e ({ frames := 2, cells := 1, slots := 1, locals := 26 } : Room) s m #[(.int p1)] below meth c s₁ [] 0 0 := Stand.of_body Bd
  have e0 : s₁.heap = h0 := by rw [← hh, Bd.state]; rfl
  have N0 := Fr.nil n0
  have pre0 : ∀ t, Steps p.tables e below (s₁.setTop (mkF m 0 #[.val (.int p1)] [])) t → Steps p.tables e below (s₁.setTop (entryFrame m #[(.int p1)] 1)) t := fun t k => castTop (ef_1 m p1) k
  obtain ⟨T2, h2, X2, e2, E2, A2, D2, -, st2⟩ := newO X0 hx hZ hown (hw _ (List.mem_of_getElem? (i := 5) rfl)) (hw _ (List.mem_of_getElem? (i := 6) rfl)) (hw _ (List.mem_of_getElem? (i := 3) rfl)) e0 (g := (mkF m 18 #[.val (.int p1)] [])) rfl (hb hby d1_18) (by decide) (by decide)
  obtain ⟨b2, g2⟩ : ∃ z, z = h0.size := ⟨_, rfl⟩
  rw [← g2] at A2 D2 st2
  have F_totalMonths_b2 : Fld Z h2 b2 "com/example/vestwright/vestwright/core/YearsAndMonths" "totalMonths" "I" (.int (0 : Int32)) := D2 (Or.inr (hw _ (List.mem_of_getElem? (i := 14) rfl))) (ty := .int) (by decide)
  have E_b2 := A2
  have g_b2 : n0 ≤ b2 := Nat.le_trans Z0 (Nat.le_of_eq g2.symm)
  have sz_b2 : h0.size ≤ b2 := (Nat.le_trans (Keep.refl h0 []).1 (Nat.le_of_eq g2.symm))
  have K2 : Keep h0 h2 [] := (Keep.refl h0 []).ext E2
  obtain ⟨_, _, ⟨T3, L3, k3, n3⟩, -, X3, ⟨Lc3, hQ3, l3, y3, z3⟩, st3⟩ := X2.specialBack hx (y := (⟨"com/example/vestwright/vestwright/core/YearsAndMonths", "<init>", "(I)V"⟩ : MethodName)) rfl hown (mvT hZ (hw _ (List.mem_of_getElem? (i := 7) rfl))) (mvT hZ (hw _ (List.mem_of_getElem? (i := 8) rfl))) (mvT hZ (hw _ (List.mem_of_getElem? (i := 9) rfl))) (by decide) (backOf (W := 1) (rm2 l Z a0 hw [] b2 p1 (.int (0 : Int32)) h2 n0 (Nat.le_trans Z0 E2.1) E_b2 F_totalMonths_b2 g_b2) hZ (hw _ (List.mem_of_getElem? (i := 9) rfl)) (hw _ (List.mem_of_getElem? (i := 3) rfl)) (by decide) (by decide)) (g := (mkF m 23 #[.val (.int p1)] [(.int p1), (.ref b2), (.ref b2)])) rfl (by rw [hml]; rfl) (Steps.refl _) (a := b2) (argsL := [(.int p1)]) (rest := [(.ref b2)]) (lenOf pd_1_1 rfl) rfl (by show 2 * 0 + _ ≤ _; exact Nat.le_of_eq rfl) (hb hby d1_23) (fun _ _ => ⟨rfl, e2, (by decide : 1 + 0 ≤ _), (by decide : 1 + 0 ≤ _)⟩)
  dsimp only [Pt.U, Pt.locs, Pt.cells, Pt.slots] at X3 l3 y3 z3 st3 hQ3
  subst l3 y3 z3
  obtain ⟨rfl, N3q, K3, Ex3, Fl3⟩ := hQ3
  have N3 := Fr.app N0 N3q
  obtain ⟨fs, hr, hrun, hended, hW, hsame⟩ := X3.leave (v := some (.ref b2)) (fun h => by rw [Bd.returns] at h; cases h)
  refine ⟨_, _, pre0 _ ?_, hrun, hended, _, _, rfl, ?_, ⟨_, rfl⟩, hW, hsame.mono (by decide) (by decide)⟩
  · show Steps p.tables e below (s₁.setTop (mkF m 0 #[.val (.int p1)] [])) _
    refine XS.iloadN X0.here hx rfl (hb hby d1_0) rfl ?_
    show Steps p.tables e below (s₁.setTop (mkF m 1 #[.val (.int p1)] [(.int p1)])) _
    refine XS.ifYes X0.here hx rfl (pc0 := 1) (pc' := 18) rfl (hb hby d1_1) rfl ((if0 _ _).trans (flt hc1).2.1) (by decide) (by decide) ?_
    show Steps p.tables e below (s₁.setTop (mkF m 18 #[.val (.int p1)] [])) _
    refine st2 _ ?_
    show Steps p.tables e below (T2.setTop (mkF m 21 #[.val (.int p1)] [(.ref b2)])) _
    refine XS.dup X2.here hx rfl (hb hby d1_21) rfl rfl ?_
    show Steps p.tables e below (T2.setTop (mkF m 22 #[.val (.int p1)] [(.ref b2), (.ref b2)])) _
    refine XS.iloadN X2.here hx rfl (hb hby d1_22) rfl ?_
    show Steps p.tables e below (T2.setTop (mkF m 23 #[.val (.int p1)] [(.int p1), (.ref b2), (.ref b2)])) _
    refine st3.trans ?_
    show Steps p.tables e below (T3.setTop (mkF m 26 #[.val (.int p1)] [(.ref b2)])) _
    jvm_step X3.here [X3.here.top, hx, (hb hby d1_26), X3.method', Bd.returns, Value.isRef, FieldType.isReference]
    first | (intro acts; rw [hr _ acts rfl rfl rfl]) | rw [hr _ _ rfl rfl rfl]
    exact Steps.refl _
  · show Q1 Z p1 h0 n0 _ T3.heap _
    exact ⟨b2, rfl, N3, g_b2, K2.trans K3 (fun x hx => by cases List.mem_singleton.mp hx; exact Or.inr sz_b2), Ex3, Fl3⟩

theorem d4_0 : decode prog_21_method_13_code 0 = .ok (.aload_n 0, 1) := by decide +kernel
theorem d4_1 : decode prog_21_method_13_code 1 = .ok (.getfield 7, 3) := by decide +kernel
theorem d4_4 : decode prog_21_method_13_code 4 = .ok (.ireturn, 1) := by decide +kernel
theorem pn_4 : plainName "com/example/vestwright/vestwright/core/YearsAndMonths" = true := by first | (simp [plainName, overriddenIn]; done) | decide +kernel
theorem ef_4 (m : MethodId) (x0 : Addr) : entryFrame m #[(.ref x0)] 1 = mkF m 0 #[.val (.ref x0)] [] := by first | (simp [entryFrame, mkF, argsToLocals, Value.category]; done) | rfl
def F4 (w : Int32) : Int32 :=
  w
def Q4 (Z : State) (a1 : Addr) (w : Int32) (h0 : Heap) (n0 : Nat) (v : Option Value) (h : Heap) (L : List Loc) : Prop := v = some (.int (F4 w)) ∧ L = [] ∧ h = h0
set_option maxRecDepth 65536 in
set_option maxHeartbeats 40000000 in
theorem rm4 (l : Launch) (Z : State) (a0 : Array Value) (hw : ∀ d ∈ tables_1, d.before a0 Z = true) (ws : List Jvm.Cond) (a1 : Addr) (w : Int32) (h0 : Heap) (n0 : Nat) (Z0 : n0 ≤ h0.size) (G1 : Fld Z h0 a1 "com/example/vestwright/vestwright/core/YearsAndMonths" "totalMonths" "I" (.int w)) :
    MetFree l (⟨"com/example/vestwright/vestwright/core/YearsAndMonths", "totalMonths", "()I"⟩ : MethodName) (head1 (Jvm.Cond.code (⟨"com/example/vestwright/vestwright/core/YearsAndMonths", "totalMonths", "()I"⟩ : MethodName) prog_21_method_13_code 1 (some .int) :: ws) ({ frames := 0, cells := 0, slots := 0, locals := 0 } : Room)) (fun a U => a = #[(.ref a1)] ∧ Z.Warmed39 U.vm ∧ U.heap = h0) (fun _ _ _ _ _ => True) (fun _ U o U' => ∃ v L, o = .returned v ∧ Q4 Z a1 w h0 n0 v U'.heap L ∧ FrameEnd U o U' L ({ frames := 0, cells := 0, slots := 0, locals := 0 } : Room).cells ({ frames := 0, cells := 0, slots := 0, locals := 0 } : Room).slots) := by
  refine MetFree.of_bodySF (plainFor_of_name pn_4) hisR ?_
  intro p e s m args below meth c s₁ Bd hml0 hP hK
  obtain ⟨rfl, hZ, hh⟩ := hP
  have hx := Bd.exec
  have hby := Bd.bytes
  have hml : c.maxLocals = 1 := hml0
  have hown : s.vm.findClass "com/example/vestwright/vestwright/core/YearsAndMonths" = some m.cls := findClass_of_methodNamed Bd.named
  have hnm := (name_of_methodNamed Bd.named Bd.method).1
  have X0 : Stand p l e ({ frames := 0, cells := 0, slots := 0, locals := 0 } : Room) s m #[(.ref a1)] below meth c s₁ [] 0 0 := Stand.of_body Bd
  have e0 : s₁.heap = h0 := by rw [← hh, Bd.state]; rfl
  have N0 := Fr.nil n0
  have pre0 : ∀ t, Steps p.tables e below (s₁.setTop (mkF m 0 #[.val (.ref a1)] [])) t → Steps p.tables e below (s₁.setTop (entryFrame m #[(.ref a1)] 1)) t := fun t k => castTop (ef_4 m a1) k
  obtain ⟨T1, X1, e1, st1⟩ := getF X0 hx hZ hown (host := "") (Or.inl (hw _ (List.mem_of_getElem? (i := 13) rfl))) Via.refl e0 G1 (g := (mkF m 1 #[.val (.ref a1)] [(.ref a1)])) rfl rfl (hb hby d4_1)
  have R2 : ∀ t, Steps p.tables e below (T1.setTop (mkF m 4 #[.val (.ref a1)] [(.int w)])) t → Steps p.tables e below (s₁.setTop (entryFrame m #[(.ref a1)] 1)) t := by
    intro t kt
    refine pre0 _ ?_
    show Steps p.tables e below (s₁.setTop (mkF m 0 #[.val (.ref a1)] [])) _
    refine XS.aloadN X0.here hx rfl (hb hby d4_0) rfl rfl ?_
    show Steps p.tables e below (s₁.setTop (mkF m 1 #[.val (.ref a1)] [(.ref a1)])) _
    refine st1 _ ?_
    exact kt
  obtain ⟨fs, hr, hrun, hended, hW, hsame⟩ := X1.leave (v := some (.int w)) (fun h => by rw [Bd.returns] at h; cases h)
  refine ⟨_, _, R2 _ ?_, hrun, hended, _, _, rfl, ?_, ⟨_, rfl⟩, hW, hsame.mono (by decide) (by decide)⟩
  · show Steps p.tables e below (T1.setTop (mkF m 4 #[.val (.ref a1)] [(.int w)])) _
    exact retI X1 hx Bd.returns (hb hby d4_4) hr
  · show Q4 Z a1 w h0 n0 _ T1.heap _
    rw [e1]
    refine ⟨?_, rfl, rfl⟩
    rfl
theorem d5_0 : decode prog_21_method_11_code 0 = .ok (.aload_n 0, 1) := by decide +kernel
theorem d5_1 : decode prog_21_method_11_code 1 = .ok (.getfield 7, 3) := by decide +kernel
theorem d5_4 : decode prog_21_method_11_code 4 = .ok (.bipush 12, 2) := by decide +kernel
theorem d5_6 : decode prog_21_method_11_code 6 = .ok (.idiv, 1) := by decide +kernel
theorem d5_7 : decode prog_21_method_11_code 7 = .ok (.ireturn, 1) := by decide +kernel
theorem pn_5 : plainName "com/example/vestwright/vestwright/core/YearsAndMonths" = true := by first | (simp [plainName, overriddenIn]; done) | decide +kernel
theorem ef_5 (m : MethodId) (x0 : Addr) : entryFrame m #[(.ref x0)] 1 = mkF m 0 #[.val (.ref x0)] [] := by first | (simp [entryFrame, mkF, argsToLocals, Value.category]; done) | rfl
def F5 (w : Int32) : Int32 :=
  (w / (12 : Int32))
def Q5 (Z : State) (a1 : Addr) (w : Int32) (h0 : Heap) (n0 : Nat) (v : Option Value) (h : Heap) (L : List Loc) : Prop := v = some (.int (F5 w)) ∧ L = [] ∧ h = h0
set_option maxRecDepth 65536 in
set_option maxHeartbeats 40000000 in
theorem rm5 (l : Launch) (Z : State) (a0 : Array Value) (hw : ∀ d ∈ tables_1, d.before a0 Z = true) (ws : List Jvm.Cond) (a1 : Addr) (w : Int32) (h0 : Heap) (n0 : Nat) (Z0 : n0 ≤ h0.size) (G1 : Fld Z h0 a1 "com/example/vestwright/vestwright/core/YearsAndMonths" "totalMonths" "I" (.int w)) :
    MetFree l (⟨"com/example/vestwright/vestwright/core/YearsAndMonths", "years", "()I"⟩ : MethodName) (head1 (Jvm.Cond.code (⟨"com/example/vestwright/vestwright/core/YearsAndMonths", "years", "()I"⟩ : MethodName) prog_21_method_11_code 1 (some .int) :: ws) ({ frames := 0, cells := 0, slots := 0, locals := 0 } : Room)) (fun a U => a = #[(.ref a1)] ∧ Z.Warmed39 U.vm ∧ U.heap = h0) (fun _ _ _ _ _ => True) (fun _ U o U' => ∃ v L, o = .returned v ∧ Q5 Z a1 w h0 n0 v U'.heap L ∧ FrameEnd U o U' L ({ frames := 0, cells := 0, slots := 0, locals := 0 } : Room).cells ({ frames := 0, cells := 0, slots := 0, locals := 0 } : Room).slots) := by
  refine MetFree.of_bodySF (plainFor_of_name pn_5) hisR ?_
  intro p e s m args below meth c s₁ Bd hml0 hP hK
  obtain ⟨rfl, hZ, hh⟩ := hP
  have hx := Bd.exec
  have hby := Bd.bytes
  have hml : c.maxLocals = 1 := hml0
  have hown : s.vm.findClass "com/example/vestwright/vestwright/core/YearsAndMonths" = some m.cls := findClass_of_methodNamed Bd.named
  have hnm := (name_of_methodNamed Bd.named Bd.method).1
  have X0 : Stand p l e ({ frames := 0, cells := 0, slots := 0, locals := 0 } : Room) s m #[(.ref a1)] below meth c s₁ [] 0 0 := Stand.of_body Bd
  have e0 : s₁.heap = h0 := by rw [← hh, Bd.state]; rfl
  have N0 := Fr.nil n0
  have pre0 : ∀ t, Steps p.tables e below (s₁.setTop (mkF m 0 #[.val (.ref a1)] [])) t → Steps p.tables e below (s₁.setTop (entryFrame m #[(.ref a1)] 1)) t := fun t k => castTop (ef_5 m a1) k
  obtain ⟨T1, X1, e1, st1⟩ := getF X0 hx hZ hown (host := "") (Or.inl (hw _ (List.mem_of_getElem? (i := 13) rfl))) Via.refl e0 G1 (g := (mkF m 1 #[.val (.ref a1)] [(.ref a1)])) rfl rfl (hb hby d5_1)
  have R2 : ∀ t, Steps p.tables e below (T1.setTop (mkF m 7 #[.val (.ref a1)] [(.int (w / (12 : Int32)))])) t → Steps p.tables e below (s₁.setTop (entryFrame m #[(.ref a1)] 1)) t := by
    intro t kt
    refine pre0 _ ?_
    show Steps p.tables e below (s₁.setTop (mkF m 0 #[.val (.ref a1)] [])) _
    refine XS.aloadN X0.here hx rfl (hb hby d5_0) rfl rfl ?_
    show Steps p.tables e below (s₁.setTop (mkF m 1 #[.val (.ref a1)] [(.ref a1)])) _
    refine st1 _ ?_
    show Steps p.tables e below (T1.setTop (mkF m 4 #[.val (.ref a1)] [(.int w)])) _
    refine XS.bipush X1.here hx rfl (hb hby d5_4) ?_
    show Steps p.tables e below (T1.setTop (mkF m 6 #[.val (.ref a1)] [(.int (12 : Int32)), (.int w)])) _
    refine XS.idiv X1.here hx rfl (hb hby d5_6) rfl (by decide) ?_
    exact kt
  obtain ⟨fs, hr, hrun, hended, hW, hsame⟩ := X1.leave (v := some (.int (w / (12 : Int32)))) (fun h => by rw [Bd.returns] at h; cases h)
  refine ⟨_, _, R2 _ ?_, hrun, hended, _, _, rfl, ?_, ⟨_, rfl⟩, hW, hsame.mono (by decide) (by decide)⟩
  · show Steps p.tables e below (T1.setTop (mkF m 7 #[.val (.ref a1)] [(.int (w / (12 : Int32)))])) _
    exact retI X1 hx Bd.returns (hb hby d5_7) hr
  · show Q5 Z a1 w h0 n0 _ T1.heap _
    rw [e1]
    refine ⟨?_, rfl, rfl⟩
    rfl
theorem d6_0 : decode prog_21_method_12_code 0 = .ok (.aload_n 0, 1) := by decide +kernel
theorem d6_1 : decode prog_21_method_12_code 1 = .ok (.getfield 7, 3) := by decide +kernel
theorem d6_4 : decode prog_21_method_12_code 4 = .ok (.bipush 12, 2) := by decide +kernel
theorem d6_6 : decode prog_21_method_12_code 6 = .ok (.irem, 1) := by decide +kernel
theorem d6_7 : decode prog_21_method_12_code 7 = .ok (.ireturn, 1) := by decide +kernel
theorem pn_6 : plainName "com/example/vestwright/vestwright/core/YearsAndMonths" = true := by first | (simp [plainName, overriddenIn]; done) | decide +kernel
theorem ef_6 (m : MethodId) (x0 : Addr) : entryFrame m #[(.ref x0)] 1 = mkF m 0 #[.val (.ref x0)] [] := by first | (simp [entryFrame, mkF, argsToLocals, Value.category]; done) | rfl
def F6 (w : Int32) : Int32 :=
  (w % (12 : Int32))
def Q6 (Z : State) (a1 : Addr) (w : Int32) (h0 : Heap) (n0 : Nat) (v : Option Value) (h : Heap) (L : List Loc) : Prop := v = some (.int (F6 w)) ∧ L = [] ∧ h = h0
set_option maxRecDepth 65536 in
set_option maxHeartbeats 40000000 in
theorem rm6 (l : Launch) (Z : State) (a0 : Array Value) (hw : ∀ d ∈ tables_1, d.before a0 Z = true) (ws : List Jvm.Cond) (a1 : Addr) (w : Int32) (h0 : Heap) (n0 : Nat) (Z0 : n0 ≤ h0.size) (G1 : Fld Z h0 a1 "com/example/vestwright/vestwright/core/YearsAndMonths" "totalMonths" "I" (.int w)) :
    MetFree l (⟨"com/example/vestwright/vestwright/core/YearsAndMonths", "months", "()I"⟩ : MethodName) (head1 (Jvm.Cond.code (⟨"com/example/vestwright/vestwright/core/YearsAndMonths", "months", "()I"⟩ : MethodName) prog_21_method_12_code 1 (some .int) :: ws) ({ frames := 0, cells := 0, slots := 0, locals := 0 } : Room)) (fun a U => a = #[(.ref a1)] ∧ Z.Warmed39 U.vm ∧ U.heap = h0) (fun _ _ _ _ _ => True) (fun _ U o U' => ∃ v L, o = .returned v ∧ Q6 Z a1 w h0 n0 v U'.heap L ∧ FrameEnd U o U' L ({ frames := 0, cells := 0, slots := 0, locals := 0 } : Room).cells ({ frames := 0, cells := 0, slots := 0, locals := 0 } : Room).slots) := by
  refine MetFree.of_bodySF (plainFor_of_name pn_6) hisR ?_
  intro p e s m args below meth c s₁ Bd hml0 hP hK
  obtain ⟨rfl, hZ, hh⟩ := hP
  have hx := Bd.exec
  have hby := Bd.bytes
  have hml : c.maxLocals = 1 := hml0
  have hown : s.vm.findClass "com/example/vestwright/vestwright/core/YearsAndMonths" = some m.cls := findClass_of_methodNamed Bd.named
  have hnm := (name_of_methodNamed Bd.named Bd.method).1
  have X0 : Stand p l e ({ frames := 0, cells := 0, slots := 0, locals := 0 } : Room) s m #[(.ref a1)] below meth c s₁ [] 0 0 := Stand.of_body Bd
  have e0 : s₁.heap = h0 := by rw [← hh, Bd.state]; rfl
  have N0 := Fr.nil n0
  have pre0 : ∀ t, Steps p.tables e below (s₁.setTop (mkF m 0 #[.val (.ref a1)] [])) t → Steps p.tables e below (s₁.setTop (entryFrame m #[(.ref a1)] 1)) t := fun t k => castTop (ef_6 m a1) k
  obtain ⟨T1, X1, e1, st1⟩ := getF X0 hx hZ hown (host := "") (Or.inl (hw _ (List.mem_of_getElem? (i := 13) rfl))) Via.refl e0 G1 (g := (mkF m 1 #[.val (.ref a1)] [(.ref a1)])) rfl rfl (hb hby d6_1)
  have R2 : ∀ t, Steps p.tables e below (T1.setTop (mkF m 7 #[.val (.ref a1)] [(.int (w % (12 : Int32)))])) t → Steps p.tables e below (s₁.setTop (entryFrame m #[(.ref a1)] 1)) t := by
    intro t kt
    refine pre0 _ ?_
    show Steps p.tables e below (s₁.setTop (mkF m 0 #[.val (.ref a1)] [])) _
    refine XS.aloadN X0.here hx rfl (hb hby d6_0) rfl rfl ?_
    show Steps p.tables e below (s₁.setTop (mkF m 1 #[.val (.ref a1)] [(.ref a1)])) _
    refine st1 _ ?_
    show Steps p.tables e below (T1.setTop (mkF m 4 #[.val (.ref a1)] [(.int w)])) _
    refine XS.bipush X1.here hx rfl (hb hby d6_4) ?_
    show Steps p.tables e below (T1.setTop (mkF m 6 #[.val (.ref a1)] [(.int (12 : Int32)), (.int w)])) _
    refine iremM X1 hx rfl (hb hby d6_6) rfl (by decide) ?_
    exact kt
  obtain ⟨fs, hr, hrun, hended, hW, hsame⟩ := X1.leave (v := some (.int (w % (12 : Int32)))) (fun h => by rw [Bd.returns] at h; cases h)
  refine ⟨_, _, R2 _ ?_, hrun, hended, _, _, rfl, ?_, ⟨_, rfl⟩, hW, hsame.mono (by decide) (by decide)⟩
  · show Steps p.tables e below (T1.setTop (mkF m 7 #[.val (.ref a1)] [(.int (w % (12 : Int32)))])) _
    exact retI X1 hx Bd.returns (hb hby d6_7) hr
  · show Q6 Z a1 w h0 n0 _ T1.heap _
    rw [e1]
    refine ⟨?_, rfl, rfl⟩
    rfl
theorem own_x (p1 : Int32) : 0 ≤ (p1 &&& (2147483647 : Int32)).toInt := by
  rw [c_mask p1 2147483647 31 (by decide) (by decide)]; exact Int.emod_nonneg _ (by decide)
theorem own_nn (p1 : Int32) : ¬ (p1 &&& (2147483647 : Int32)) < (0 : Int32) := by
  have := own_x p1
  rw [Int32.lt_iff_toInt_lt, show (0 : Int32).toInt = 0 from rfl]; omega
theorem pn_0 : plainName "com/example/vestwright/vestwright/core/YearsAndMonthsOfMonthsPinLaw" = true := by first | (simp [plainName, overriddenIn]; done) | decide +kernel
theorem pd_0_1 : parseMethodDescriptor "(I)Lcom/example/vestwright/vestwright/core/YearsAndMonths;" = some ⟨[.int], some (.object "com/example/vestwright/vestwright/core/YearsAndMonths")⟩ := by decide +kernel
theorem pd_0_4 : parseMethodDescriptor "()I" = some ⟨[], some .int⟩ := by decide +kernel
theorem pd_0_5 : parseMethodDescriptor "()I" = some ⟨[], some .int⟩ := by decide +kernel
theorem pd_0_6 : parseMethodDescriptor "()I" = some ⟨[], some .int⟩ := by decide +kernel
theorem ef_0 (m : MethodId) (x0 : Int32) : entryFrame m #[(.int x0)] maxLocals = mkF m 0 #[.val (.int x0), .unset, .unset, .unset, .unset, .unset, .unset, .unset, .unset, .unset] [] := by first | (simp [entryFrame, mkF, argsToLocals, Value.category, maxLocals]; done) | rfl
def F0 (p1 : Int32) : Int32 :=
  let v9 : Int32 := (if (F4 (p1 &&& (2147483647 : Int32))) = (p1 &&& (2147483647 : Int32)) then (1 : Int32) else (0 : Int32))
  let v19 : Int32 := (if (F6 (p1 &&& (2147483647 : Int32))) < (0 : Int32) then (0 : Int32) else (if (F6 (p1 &&& (2147483647 : Int32))) < (12 : Int32) then (1 : Int32) else (0 : Int32)))
  let v26 : Int32 := (if (F5 (p1 &&& (2147483647 : Int32))) < (0 : Int32) then (0 : Int32) else (1 : Int32))
  let v33 : Int32 := (if ((((F5 (p1 &&& (2147483647 : Int32))).toInt64) * (12 : Int64)) + ((F6 (p1 &&& (2147483647 : Int32))).toInt64)) = ((p1 &&& (2147483647 : Int32)).toInt64) then (1 : Int32) else (0 : Int32))
  let v49 : Int32 := (if v9 = (0 : Int32) then (0 : Int32) else (if v19 = (0 : Int32) then (0 : Int32) else (if v26 = (0 : Int32) then (0 : Int32) else (if v33 = (0 : Int32) then (0 : Int32) else (1 : Int32)))))
  (nar .boolean v49)
def Q0 (Z : State) (p1 : Int32) (h0 : Heap) (n0 : Nat) (v : Option Value) (h : Heap) (L : List Loc) : Prop := v = some (.int (F0 p1)) ∧ Fr n0 L
set_option maxRecDepth 65536 in
set_option maxHeartbeats 40000000 in
theorem rm0 (l : Launch) (Z : State) (a0 : Array Value) (hw : ∀ d ∈ tables_1, d.before a0 Z = true) (ws : List Jvm.Cond) (p1 : Int32) (h0 : Heap) (n0 : Nat) (Z0 : n0 ≤ h0.size) :
    MetFree l x (head1 (Jvm.Cond.code x code maxLocals ret :: ws) room_1) (fun a U => a = #[(.int p1)] ∧ Z.Warmed39 U.vm ∧ U.heap = h0) (fun _ _ _ _ _ => True) (fun _ U o U' => ∃ v L, o = .returned v ∧ Q0 Z p1 h0 n0 v U'.heap L ∧ FrameEnd U o U' L room_1.cells room_1.slots) := by
  refine MetFree.of_bodySF (plainFor_of_name pn_0) hisR ?_
  intro p e s m args below meth c s₁ Bd hml0 hP hK
  obtain ⟨rfl, hZ, hh⟩ := hP
  have hx := Bd.exec
  have hby := Bd.bytes
  have hml : c.maxLocals = 10 := hml0
  have hown : s.vm.findClass "com/example/vestwright/vestwright/core/YearsAndMonthsOfMonthsPinLaw" = some m.cls := findClass_of_methodNamed Bd.named
  have hnm := (name_of_methodNamed Bd.named Bd.method).1
  have X0 : Stand p l e room_1 s m #[(.int p1)] below meth c s₁ [] 0 0 := Stand.of_body Bd
  have e0 : s₁.heap = h0 := by rw [← hh, Bd.state]; rfl
  have N0 := Fr.nil n0
  have pre0 : ∀ t, Steps p.tables e below (s₁.setTop (mkF m 0 #[.val (.int p1), .unset, .unset, .unset, .unset, .unset, .unset, .unset, .unset, .unset] [])) t → Steps p.tables e below (s₁.setTop (entryFrame m #[(.int p1)] maxLocals)) t := fun t k => castTop (ef_0 m p1) k
  obtain ⟨_, _, ⟨T1, L1, k1, n1⟩, -, X1, ⟨Lc1, hQ1, l1, y1, z1⟩, st1⟩ := Jvm.LawKit.callS X0 hx (y := (⟨"com/example/vestwright/vestwright/core/YearsAndMonths", "ofMonths", "(I)Lcom/example/vestwright/vestwright/core/YearsAndMonths;"⟩ : MethodName)) hown (mvT hZ (hw _ (List.mem_of_getElem? (i := 1) rfl))) (mvT hZ (hw _ (List.mem_of_getElem? (i := 2) rfl))) (mvT hZ (hw _ (List.mem_of_getElem? (i := 3) rfl))) (mvT hZ (hw _ (List.mem_of_getElem? (i := 4) rfl))) (by decide) (backOf (W := 0) (rm1 l Z a0 hw [] (p1 &&& (2147483647 : Int32)) h0 n0 Z0 (own_nn p1)) hZ (hw _ (List.mem_of_getElem? (i := 4) rfl)) (hw _ (List.mem_of_getElem? (i := 3) rfl)) (by decide) (by decide)) (g := (mkF m 6 #[.val (.int p1), .val (.int (p1 &&& (2147483647 : Int32))), .unset, .unset, .unset, .unset, .unset, .unset, .unset, .unset] [(.int (p1 &&& (2147483647 : Int32)))])) rfl (by rw [hml]; rfl) (argsL := [(.int (p1 &&& (2147483647 : Int32)))]) (rest := []) (lenOf pd_0_1 rfl) rfl (by show 2 * 0 + _ ≤ _; exact Nat.le_of_eq rfl) (hb hby at_6) (fun _ _ => ⟨rfl, e0, (by decide : 0 + 1 ≤ _), (by decide : 0 + 1 ≤ _)⟩)
  dsimp only [Pt.U, Pt.locs, Pt.cells, Pt.slots] at X1 l1 y1 z1 st1 hQ1
  subst l1 y1 z1
  obtain ⟨rb1, rfl, N1q, gr1, K1, Ex1, Fl1⟩ := hQ1
  have N1 := Fr.app (Fr.nil n0) N1q
  have KK1 : Keep h0 T1.heap [] := (Keep.refl h0 []).trans K1 (fun _ q => nomatch q)
  have Z1 : n0 ≤ T1.heap.size := Nat.le_trans Z0 K1.1
  replace X1 : Stand p l e room_1 s m #[(.int p1)] below meth c T1 L1 1 1 := X1
  obtain ⟨cq2, kq2, q2a, q2b, q2c⟩ := isOf hZ rfl Ex1
  obtain ⟨_, _, ⟨T2, L2, k2, n2⟩, -, X2, ⟨Lc2, hQ2, l2, y2, z2⟩, st2⟩ := X1.virtualBack hx (y := (⟨"com/example/vestwright/vestwright/core/YearsAndMonths", "totalMonths", "()I"⟩ : MethodName)) (z := (⟨"com/example/vestwright/vestwright/core/YearsAndMonths", "totalMonths", "()I"⟩ : MethodName)) hown (mvT hZ (hw _ (List.mem_of_getElem? (i := 15) rfl))) (mvT hZ (hw _ (List.mem_of_getElem? (i := 16) rfl))) (notFace_of_selects (args := #[]) (mvT hZ (hw _ (List.mem_of_getElem? (i := 18) rfl)))) (mvT hZ (hw _ (List.mem_of_getElem? (i := 18) rfl))) (mvT hZ (hw _ (List.mem_of_getElem? (i := 17) rfl))) (by decide) (backOf (W := 0) (rm4 l Z a0 hw [] rb1 (p1 &&& (2147483647 : Int32)) T1.heap n0 Z1 Fl1) hZ (hw _ (List.mem_of_getElem? (i := 19) rfl)) (hw _ (List.mem_of_getElem? (i := 3) rfl)) (by decide) (by decide)) q2a q2c (g := (mkF m 17 #[.val (.int p1), .val (.int (p1 &&& (2147483647 : Int32))), .val (.ref rb1), .unset, .unset, .unset, .unset, .unset, .unset, .unset] [(.ref rb1)])) rfl (by rw [hml]; rfl) (Steps.refl _) (argsL := []) (rest := []) (lenOf pd_0_4 rfl) rfl (by show 2 * 0 + _ ≤ _; exact Nat.le_of_eq rfl) (hb hby at_17) (fun _ _ => ⟨rfl, rfl, (by decide : 1 + 0 ≤ _), (by decide : 1 + 0 ≤ _)⟩)
  dsimp only [Pt.U, Pt.locs, Pt.cells, Pt.slots] at X2 l2 y2 z2 st2 hQ2
  subst l2 y2 z2
  obtain ⟨rfl, rfl, e2⟩ := hQ2
  rw [List.append_nil] at X2
  replace X2 : Stand p l e room_1 s m #[(.int p1)] below meth c T2 L1 1 1 := X2
  obtain ⟨cq3, kq3, q3a, q3b, q3c⟩ := isOf hZ e2 Ex1
  obtain ⟨_, _, ⟨T3, L3, k3, n3⟩, -, X3, ⟨Lc3, hQ3, l3, y3, z3⟩, st3⟩ := X2.virtualBack hx (y := (⟨"com/example/vestwright/vestwright/core/YearsAndMonths", "years", "()I"⟩ : MethodName)) (z := (⟨"com/example/vestwright/vestwright/core/YearsAndMonths", "years", "()I"⟩ : MethodName)) hown (mvT hZ (hw _ (List.mem_of_getElem? (i := 20) rfl))) (mvT hZ (hw _ (List.mem_of_getElem? (i := 21) rfl))) (notFace_of_selects (args := #[]) (mvT hZ (hw _ (List.mem_of_getElem? (i := 23) rfl)))) (mvT hZ (hw _ (List.mem_of_getElem? (i := 23) rfl))) (mvT hZ (hw _ (List.mem_of_getElem? (i := 22) rfl))) (by decide) (backOf (W := 0) (rm5 l Z a0 hw [] rb1 (p1 &&& (2147483647 : Int32)) T1.heap n0 Z1 Fl1) hZ (hw _ (List.mem_of_getElem? (i := 24) rfl)) (hw _ (List.mem_of_getElem? (i := 3) rfl)) (by decide) (by decide)) q3a q3c (g := (mkF m 22 #[.val (.int p1), .val (.int (p1 &&& (2147483647 : Int32))), .val (.ref rb1), .val (.int (F4 (p1 &&& (2147483647 : Int32)))), .unset, .unset, .unset, .unset, .unset, .unset] [(.ref rb1)])) rfl (by rw [hml]; rfl) (Steps.refl _) (argsL := []) (rest := []) (lenOf pd_0_5 rfl) rfl (by show 2 * 0 + _ ≤ _; exact Nat.le_of_eq rfl) (hb hby at_22) (fun _ _ => ⟨rfl, e2, (by decide : 1 + 0 ≤ _), (by decide : 1 + 0 ≤ _)⟩)
  dsimp only [Pt.U, Pt.locs, Pt.cells, Pt.slots] at X3 l3 y3 z3 st3 hQ3
  subst l3 y3 z3
  obtain ⟨rfl, rfl, e3⟩ := hQ3
  rw [List.append_nil] at X3
  replace X3 : Stand p l e room_1 s m #[(.int p1)] below meth c T3 L1 1 1 := X3
  obtain ⟨cq4, kq4, q4a, q4b, q4c⟩ := isOf hZ e3 Ex1
  obtain ⟨_, _, ⟨T4, L4, k4, n4⟩, -, X4, ⟨Lc4, hQ4, l4, y4, z4⟩, st4⟩ := X3.virtualBack hx (y := (⟨"com/example/vestwright/vestwright/core/YearsAndMonths", "months", "()I"⟩ : MethodName)) (z := (⟨"com/example/vestwright/vestwright/core/YearsAndMonths", "months", "()I"⟩ : MethodName)) hown (mvT hZ (hw _ (List.mem_of_getElem? (i := 25) rfl))) (mvT hZ (hw _ (List.mem_of_getElem? (i := 26) rfl))) (notFace_of_selects (args := #[]) (mvT hZ (hw _ (List.mem_of_getElem? (i := 28) rfl)))) (mvT hZ (hw _ (List.mem_of_getElem? (i := 28) rfl))) (mvT hZ (hw _ (List.mem_of_getElem? (i := 27) rfl))) (by decide) (backOf (W := 0) (rm6 l Z a0 hw [] rb1 (p1 &&& (2147483647 : Int32)) T1.heap n0 Z1 Fl1) hZ (hw _ (List.mem_of_getElem? (i := 29) rfl)) (hw _ (List.mem_of_getElem? (i := 3) rfl)) (by decide) (by decide)) q4a q4c (g := (mkF m 28 #[.val (.int p1), .val (.int (p1 &&& (2147483647 : Int32))), .val (.ref rb1), .val (.int (F4 (p1 &&& (2147483647 : Int32)))), .val (.int (F5 (p1 &&& (2147483647 : Int32)))), .unset, .unset, .unset, .unset, .unset] [(.ref rb1)])) rfl (by rw [hml]; rfl) (Steps.refl _) (argsL := []) (rest := []) (lenOf pd_0_6 rfl) rfl (by show 2 * 0 + _ ≤ _; exact Nat.le_of_eq rfl) (hb hby at_28) (fun _ _ => ⟨rfl, e3, (by decide : 1 + 0 ≤ _), (by decide : 1 + 0 ≤ _)⟩)
  dsimp only [Pt.U, Pt.locs, Pt.cells, Pt.slots] at X4 l4 y4 z4 st4 hQ4
  subst l4 y4 z4
  obtain ⟨rfl, rfl, e4⟩ := hQ4
  rw [List.append_nil] at X4
  replace X4 : Stand p l e room_1 s m #[(.int p1)] below meth c T4 L1 1 1 := X4
  have R6 : ∀ t, Steps p.tables e below (T4.setTop (mkF m 35 #[.val (.int p1), .val (.int (p1 &&& (2147483647 : Int32))), .val (.ref rb1), .val (.int (F4 (p1 &&& (2147483647 : Int32)))), .val (.int (F5 (p1 &&& (2147483647 : Int32)))), .val (.int (F6 (p1 &&& (2147483647 : Int32)))), .unset, .unset, .unset, .unset] [(.int (p1 &&& (2147483647 : Int32))), (.int (F4 (p1 &&& (2147483647 : Int32))))])) t → Steps p.tables e below (s₁.setTop (entryFrame m #[(.int p1)] maxLocals)) t := by
    intro t kt
    refine pre0 _ ?_
    show Steps p.tables e below (s₁.setTop (mkF m 0 #[.val (.int p1), .unset, .unset, .unset, .unset, .unset, .unset, .unset, .unset, .unset] [])) _
    refine XS.iloadN X0.here hx rfl (hb hby at_0) rfl ?_
    show Steps p.tables e below (s₁.setTop (mkF m 1 #[.val (.int p1), .unset, .unset, .unset, .unset, .unset, .unset, .unset, .unset, .unset] [(.int p1)])) _
    refine X0.ldcInt hx hown (mvT hZ (hw _ (List.mem_of_getElem? (i := 0) rfl))) (g := (mkF m 1 #[.val (.int p1), .unset, .unset, .unset, .unset, .unset, .unset, .unset, .unset, .unset] [(.int p1)])) rfl (hb hby at_1) _ ?_
    show Steps p.tables e below (s₁.setTop (mkF m 3 #[.val (.int p1), .unset, .unset, .unset, .unset, .unset, .unset, .unset, .unset, .unset] [(.int (2147483647 : Int32)), (.int p1)])) _
    refine XS.iand X0.here hx rfl (hb hby at_3) rfl ?_
    show Steps p.tables e below (s₁.setTop (mkF m 4 #[.val (.int p1), .unset, .unset, .unset, .unset, .unset, .unset, .unset, .unset, .unset] [(.int (p1 &&& (2147483647 : Int32)))])) _
    refine XS.istoreN X0.here hx rfl (hb hby at_4) rfl (l' := #[.val (.int p1), .val (.int (p1 &&& (2147483647 : Int32))), .unset, .unset, .unset, .unset, .unset, .unset, .unset, .unset]) rfl ?_
    show Steps p.tables e below (s₁.setTop (mkF m 5 #[.val (.int p1), .val (.int (p1 &&& (2147483647 : Int32))), .unset, .unset, .unset, .unset, .unset, .unset, .unset, .unset] [])) _
    refine XS.iloadN X0.here hx rfl (hb hby at_5) rfl ?_
    show Steps p.tables e below (s₁.setTop (mkF m 6 #[.val (.int p1), .val (.int (p1 &&& (2147483647 : Int32))), .unset, .unset, .unset, .unset, .unset, .unset, .unset, .unset] [(.int (p1 &&& (2147483647 : Int32)))])) _
    refine st1 _ ?_
    show Steps p.tables e below (T1.setTop (mkF m 9 #[.val (.int p1), .val (.int (p1 &&& (2147483647 : Int32))), .unset, .unset, .unset, .unset, .unset, .unset, .unset, .unset] [(.ref rb1)])) _
    refine XS.astoreN X1.here hx rfl (hb hby at_9) rfl rfl (l' := #[.val (.int p1), .val (.int (p1 &&& (2147483647 : Int32))), .val (.ref rb1), .unset, .unset, .unset, .unset, .unset, .unset, .unset]) rfl ?_
    show Steps p.tables e below (T1.setTop (mkF m 10 #[.val (.int p1), .val (.int (p1 &&& (2147483647 : Int32))), .val (.ref rb1), .unset, .unset, .unset, .unset, .unset, .unset, .unset] [])) _
    refine XS.aloadN X1.here hx rfl (hb hby at_10) rfl rfl ?_
    show Steps p.tables e below (T1.setTop (mkF m 11 #[.val (.int p1), .val (.int (p1 &&& (2147483647 : Int32))), .val (.ref rb1), .unset, .unset, .unset, .unset, .unset, .unset, .unset] [(.ref rb1)])) _
    refine XS.ifnonnullYes X1.here hx rfl (pc0 := 11) (pc' := 16) rfl (hb hby at_11) rfl (by decide) (by decide) ?_
    show Steps p.tables e below (T1.setTop (mkF m 16 #[.val (.int p1), .val (.int (p1 &&& (2147483647 : Int32))), .val (.ref rb1), .unset, .unset, .unset, .unset, .unset, .unset, .unset] [])) _
    refine XS.aloadN X1.here hx rfl (hb hby at_16) rfl rfl ?_
    show Steps p.tables e below (T1.setTop (mkF m 17 #[.val (.int p1), .val (.int (p1 &&& (2147483647 : Int32))), .val (.ref rb1), .unset, .unset, .unset, .unset, .unset, .unset, .unset] [(.ref rb1)])) _
    refine st2.trans ?_
    show Steps p.tables e below (T2.setTop (mkF m 20 #[.val (.int p1), .val (.int (p1 &&& (2147483647 : Int32))), .val (.ref rb1), .unset, .unset, .unset, .unset, .unset, .unset, .unset] [(.int (F4 (p1 &&& (2147483647 : Int32))))])) _
    refine XS.istoreN X2.here hx rfl (hb hby at_20) rfl (l' := #[.val (.int p1), .val (.int (p1 &&& (2147483647 : Int32))), .val (.ref rb1), .val (.int (F4 (p1 &&& (2147483647 : Int32)))), .unset, .unset, .unset, .unset, .unset, .unset]) rfl ?_
    show Steps p.tables e below (T2.setTop (mkF m 21 #[.val (.int p1), .val (.int (p1 &&& (2147483647 : Int32))), .val (.ref rb1), .val (.int (F4 (p1 &&& (2147483647 : Int32)))), .unset, .unset, .unset, .unset, .unset, .unset] [])) _
    refine XS.aloadN X2.here hx rfl (hb hby at_21) rfl rfl ?_
    show Steps p.tables e below (T2.setTop (mkF m 22 #[.val (.int p1), .val (.int (p1 &&& (2147483647 : Int32))), .val (.ref rb1), .val (.int (F4 (p1 &&& (2147483647 : Int32)))), .unset, .unset, .unset, .unset, .unset, .unset] [(.ref rb1)])) _
    refine st3.trans ?_
    show Steps p.tables e below (T3.setTop (mkF m 25 #[.val (.int p1), .val (.int (p1 &&& (2147483647 : Int32))), .val (.ref rb1), .val (.int (F4 (p1 &&& (2147483647 : Int32)))), .unset, .unset, .unset, .unset, .unset, .unset] [(.int (F5 (p1 &&& (2147483647 : Int32))))])) _
    refine XS.istore X3.here hx rfl (hb hby at_25) rfl (l' := #[.val (.int p1), .val (.int (p1 &&& (2147483647 : Int32))), .val (.ref rb1), .val (.int (F4 (p1 &&& (2147483647 : Int32)))), .val (.int (F5 (p1 &&& (2147483647 : Int32)))), .unset, .unset, .unset, .unset, .unset]) rfl ?_
    show Steps p.tables e below (T3.setTop (mkF m 27 #[.val (.int p1), .val (.int (p1 &&& (2147483647 : Int32))), .val (.ref rb1), .val (.int (F4 (p1 &&& (2147483647 : Int32)))), .val (.int (F5 (p1 &&& (2147483647 : Int32)))), .unset, .unset, .unset, .unset, .unset] [])) _
    refine XS.aloadN X3.here hx rfl (hb hby at_27) rfl rfl ?_
    show Steps p.tables e below (T3.setTop (mkF m 28 #[.val (.int p1), .val (.int (p1 &&& (2147483647 : Int32))), .val (.ref rb1), .val (.int (F4 (p1 &&& (2147483647 : Int32)))), .val (.int (F5 (p1 &&& (2147483647 : Int32)))), .unset, .unset, .unset, .unset, .unset] [(.ref rb1)])) _
    refine st4.trans ?_
    show Steps p.tables e below (T4.setTop (mkF m 31 #[.val (.int p1), .val (.int (p1 &&& (2147483647 : Int32))), .val (.ref rb1), .val (.int (F4 (p1 &&& (2147483647 : Int32)))), .val (.int (F5 (p1 &&& (2147483647 : Int32)))), .unset, .unset, .unset, .unset, .unset] [(.int (F6 (p1 &&& (2147483647 : Int32))))])) _
    refine XS.istore X4.here hx rfl (hb hby at_31) rfl (l' := #[.val (.int p1), .val (.int (p1 &&& (2147483647 : Int32))), .val (.ref rb1), .val (.int (F4 (p1 &&& (2147483647 : Int32)))), .val (.int (F5 (p1 &&& (2147483647 : Int32)))), .val (.int (F6 (p1 &&& (2147483647 : Int32)))), .unset, .unset, .unset, .unset]) rfl ?_
    show Steps p.tables e below (T4.setTop (mkF m 33 #[.val (.int p1), .val (.int (p1 &&& (2147483647 : Int32))), .val (.ref rb1), .val (.int (F4 (p1 &&& (2147483647 : Int32)))), .val (.int (F5 (p1 &&& (2147483647 : Int32)))), .val (.int (F6 (p1 &&& (2147483647 : Int32)))), .unset, .unset, .unset, .unset] [])) _
    refine XS.iloadN X4.here hx rfl (hb hby at_33) rfl ?_
    show Steps p.tables e below (T4.setTop (mkF m 34 #[.val (.int p1), .val (.int (p1 &&& (2147483647 : Int32))), .val (.ref rb1), .val (.int (F4 (p1 &&& (2147483647 : Int32)))), .val (.int (F5 (p1 &&& (2147483647 : Int32)))), .val (.int (F6 (p1 &&& (2147483647 : Int32)))), .unset, .unset, .unset, .unset] [(.int (F4 (p1 &&& (2147483647 : Int32))))])) _
    refine XS.iloadN X4.here hx rfl (hb hby at_34) rfl ?_
    exact kt
  have J11 : ∃ (v9 : Int32), v9 = (if (F4 (p1 &&& (2147483647 : Int32))) = (p1 &&& (2147483647 : Int32)) then (1 : Int32) else (0 : Int32)) ∧ ∀ t, Steps p.tables e below (T4.setTop (mkF m 43 #[.val (.int p1), .val (.int (p1 &&& (2147483647 : Int32))), .val (.ref rb1), .val (.int (F4 (p1 &&& (2147483647 : Int32)))), .val (.int (F5 (p1 &&& (2147483647 : Int32)))), .val (.int (F6 (p1 &&& (2147483647 : Int32)))), .unset, .unset, .unset, .unset] [(.int v9)])) t → Steps p.tables e below (s₁.setTop (entryFrame m #[(.int p1)] maxLocals)) t := by
    by_cases hc5 : (F4 (p1 &&& (2147483647 : Int32))) = (p1 &&& (2147483647 : Int32))
    · have R7 : ∀ t, Steps p.tables e below (T4.setTop (mkF m 43 #[.val (.int p1), .val (.int (p1 &&& (2147483647 : Int32))), .val (.ref rb1), .val (.int (F4 (p1 &&& (2147483647 : Int32)))), .val (.int (F5 (p1 &&& (2147483647 : Int32)))), .val (.int (F6 (p1 &&& (2147483647 : Int32)))), .unset, .unset, .unset, .unset] [(.int (1 : Int32))])) t → Steps p.tables e below (s₁.setTop (entryFrame m #[(.int p1)] maxLocals)) t := by
        intro t kt
        refine R6 _ ?_
        show Steps p.tables e below (T4.setTop (mkF m 35 #[.val (.int p1), .val (.int (p1 &&& (2147483647 : Int32))), .val (.ref rb1), .val (.int (F4 (p1 &&& (2147483647 : Int32)))), .val (.int (F5 (p1 &&& (2147483647 : Int32)))), .val (.int (F6 (p1 &&& (2147483647 : Int32)))), .unset, .unset, .unset, .unset] [(.int (p1 &&& (2147483647 : Int32))), (.int (F4 (p1 &&& (2147483647 : Int32))))])) _
        refine XS.icmpNo X4.here hx rfl (hb hby at_35) rfl (teq hc5).2 ?_
        show Steps p.tables e below (T4.setTop (mkF m 38 #[.val (.int p1), .val (.int (p1 &&& (2147483647 : Int32))), .val (.ref rb1), .val (.int (F4 (p1 &&& (2147483647 : Int32)))), .val (.int (F5 (p1 &&& (2147483647 : Int32)))), .val (.int (F6 (p1 &&& (2147483647 : Int32)))), .unset, .unset, .unset, .unset] [])) _
        refine XS.iconst X4.here hx rfl (hb hby at_38) ?_
        show Steps p.tables e below (T4.setTop (mkF m 39 #[.val (.int p1), .val (.int (p1 &&& (2147483647 : Int32))), .val (.ref rb1), .val (.int (F4 (p1 &&& (2147483647 : Int32)))), .val (.int (F5 (p1 &&& (2147483647 : Int32)))), .val (.int (F6 (p1 &&& (2147483647 : Int32)))), .unset, .unset, .unset, .unset] [(.int (1 : Int32))])) _
        refine XS.goto X4.here hx rfl (pc0 := 39) (pc' := 43) rfl (hb hby at_39) (by decide) (by decide) ?_
        exact kt
      exact ⟨(1 : Int32), (by rw [if_pos hc5]), R7⟩
    · have R8 : ∀ t, Steps p.tables e below (T4.setTop (mkF m 43 #[.val (.int p1), .val (.int (p1 &&& (2147483647 : Int32))), .val (.ref rb1), .val (.int (F4 (p1 &&& (2147483647 : Int32)))), .val (.int (F5 (p1 &&& (2147483647 : Int32)))), .val (.int (F6 (p1 &&& (2147483647 : Int32)))), .unset, .unset, .unset, .unset] [(.int (0 : Int32))])) t → Steps p.tables e below (s₁.setTop (entryFrame m #[(.int p1)] maxLocals)) t := by
        intro t kt
        refine R6 _ ?_
        show Steps p.tables e below (T4.setTop (mkF m 35 #[.val (.int p1), .val (.int (p1 &&& (2147483647 : Int32))), .val (.ref rb1), .val (.int (F4 (p1 &&& (2147483647 : Int32)))), .val (.int (F5 (p1 &&& (2147483647 : Int32)))), .val (.int (F6 (p1 &&& (2147483647 : Int32)))), .unset, .unset, .unset, .unset] [(.int (p1 &&& (2147483647 : Int32))), (.int (F4 (p1 &&& (2147483647 : Int32))))])) _
        refine XS.icmpYes X4.here hx rfl (pc0 := 35) (pc' := 42) rfl (hb hby at_35) rfl (feq hc5).2 (by decide) (by decide) ?_
        show Steps p.tables e below (T4.setTop (mkF m 42 #[.val (.int p1), .val (.int (p1 &&& (2147483647 : Int32))), .val (.ref rb1), .val (.int (F4 (p1 &&& (2147483647 : Int32)))), .val (.int (F5 (p1 &&& (2147483647 : Int32)))), .val (.int (F6 (p1 &&& (2147483647 : Int32)))), .unset, .unset, .unset, .unset] [])) _
        refine XS.iconst X4.here hx rfl (hb hby at_42) ?_
        exact kt
      exact ⟨(0 : Int32), (by rw [if_neg hc5]), R8⟩
  obtain ⟨v9, hv9, R10⟩ := J11
  have R13 : ∀ t, Steps p.tables e below (T4.setTop (mkF m 47 #[.val (.int p1), .val (.int (p1 &&& (2147483647 : Int32))), .val (.ref rb1), .val (.int (F4 (p1 &&& (2147483647 : Int32)))), .val (.int (F5 (p1 &&& (2147483647 : Int32)))), .val (.int (F6 (p1 &&& (2147483647 : Int32)))), .val (.int v9), .unset, .unset, .unset] [(.int (F6 (p1 &&& (2147483647 : Int32))))])) t → Steps p.tables e below (s₁.setTop (entryFrame m #[(.int p1)] maxLocals)) t := by
    intro t kt
    refine R10 _ ?_
    show Steps p.tables e below (T4.setTop (mkF m 43 #[.val (.int p1), .val (.int (p1 &&& (2147483647 : Int32))), .val (.ref rb1), .val (.int (F4 (p1 &&& (2147483647 : Int32)))), .val (.int (F5 (p1 &&& (2147483647 : Int32)))), .val (.int (F6 (p1 &&& (2147483647 : Int32)))), .unset, .unset, .unset, .unset] [(.int v9)])) _
    refine XS.istore X4.here hx rfl (hb hby at_43) rfl (l' := #[.val (.int p1), .val (.int (p1 &&& (2147483647 : Int32))), .val (.ref rb1), .val (.int (F4 (p1 &&& (2147483647 : Int32)))), .val (.int (F5 (p1 &&& (2147483647 : Int32)))), .val (.int (F6 (p1 &&& (2147483647 : Int32)))), .val (.int v9), .unset, .unset, .unset]) rfl ?_
    show Steps p.tables e below (T4.setTop (mkF m 45 #[.val (.int p1), .val (.int (p1 &&& (2147483647 : Int32))), .val (.ref rb1), .val (.int (F4 (p1 &&& (2147483647 : Int32)))), .val (.int (F5 (p1 &&& (2147483647 : Int32)))), .val (.int (F6 (p1 &&& (2147483647 : Int32)))), .val (.int v9), .unset, .unset, .unset] [])) _
    refine XS.iload X4.here hx rfl (hb hby at_45) rfl ?_
    exact kt
  have J21 : ∃ (v19 : Int32), v19 = (if (F6 (p1 &&& (2147483647 : Int32))) < (0 : Int32) then (0 : Int32) else (if (F6 (p1 &&& (2147483647 : Int32))) < (12 : Int32) then (1 : Int32) else (0 : Int32))) ∧ ∀ t, Steps p.tables e below (T4.setTop (mkF m 62 #[.val (.int p1), .val (.int (p1 &&& (2147483647 : Int32))), .val (.ref rb1), .val (.int (F4 (p1 &&& (2147483647 : Int32)))), .val (.int (F5 (p1 &&& (2147483647 : Int32)))), .val (.int (F6 (p1 &&& (2147483647 : Int32)))), .val (.int v9), .unset, .unset, .unset] [(.int v19)])) t → Steps p.tables e below (s₁.setTop (entryFrame m #[(.int p1)] maxLocals)) t := by
    by_cases hc12 : (F6 (p1 &&& (2147483647 : Int32))) < (0 : Int32)
    · have R14 : ∀ t, Steps p.tables e below (T4.setTop (mkF m 62 #[.val (.int p1), .val (.int (p1 &&& (2147483647 : Int32))), .val (.ref rb1), .val (.int (F4 (p1 &&& (2147483647 : Int32)))), .val (.int (F5 (p1 &&& (2147483647 : Int32)))), .val (.int (F6 (p1 &&& (2147483647 : Int32)))), .val (.int v9), .unset, .unset, .unset] [(.int (0 : Int32))])) t → Steps p.tables e below (s₁.setTop (entryFrame m #[(.int p1)] maxLocals)) t := by
        intro t kt
        refine R13 _ ?_
        show Steps p.tables e below (T4.setTop (mkF m 47 #[.val (.int p1), .val (.int (p1 &&& (2147483647 : Int32))), .val (.ref rb1), .val (.int (F4 (p1 &&& (2147483647 : Int32)))), .val (.int (F5 (p1 &&& (2147483647 : Int32)))), .val (.int (F6 (p1 &&& (2147483647 : Int32)))), .val (.int v9), .unset, .unset, .unset] [(.int (F6 (p1 &&& (2147483647 : Int32))))])) _
        refine XS.ifYes X4.here hx rfl (pc0 := 47) (pc' := 61) rfl (hb hby at_47) rfl ((if0 _ _).trans (tlt hc12).1) (by decide) (by decide) ?_
        show Steps p.tables e below (T4.setTop (mkF m 61 #[.val (.int p1), .val (.int (p1 &&& (2147483647 : Int32))), .val (.ref rb1), .val (.int (F4 (p1 &&& (2147483647 : Int32)))), .val (.int (F5 (p1 &&& (2147483647 : Int32)))), .val (.int (F6 (p1 &&& (2147483647 : Int32)))), .val (.int v9), .unset, .unset, .unset] [])) _
        refine XS.iconst X4.here hx rfl (hb hby at_61) ?_
        exact kt
      exact ⟨(0 : Int32), (by rw [if_pos hc12]), R14⟩
    · have R16 : ∀ t, Steps p.tables e below (T4.setTop (mkF m 54 #[.val (.int p1), .val (.int (p1 &&& (2147483647 : Int32))), .val (.ref rb1), .val (.int (F4 (p1 &&& (2147483647 : Int32)))), .val (.int (F5 (p1 &&& (2147483647 : Int32)))), .val (.int (F6 (p1 &&& (2147483647 : Int32)))), .val (.int v9), .unset, .unset, .unset] [(.int (12 : Int32)), (.int (F6 (p1 &&& (2147483647 : Int32))))])) t → Steps p.tables e below (s₁.setTop (entryFrame m #[(.int p1)] maxLocals)) t := by
        intro t kt
        refine R13 _ ?_
        show Steps p.tables e below (T4.setTop (mkF m 47 #[.val (.int p1), .val (.int (p1 &&& (2147483647 : Int32))), .val (.ref rb1), .val (.int (F4 (p1 &&& (2147483647 : Int32)))), .val (.int (F5 (p1 &&& (2147483647 : Int32)))), .val (.int (F6 (p1 &&& (2147483647 : Int32)))), .val (.int v9), .unset, .unset, .unset] [(.int (F6 (p1 &&& (2147483647 : Int32))))])) _
        refine XS.ifNo X4.here hx rfl (hb hby at_47) rfl ((if0 _ _).trans (flt hc12).1) ?_
        show Steps p.tables e below (T4.setTop (mkF m 50 #[.val (.int p1), .val (.int (p1 &&& (2147483647 : Int32))), .val (.ref rb1), .val (.int (F4 (p1 &&& (2147483647 : Int32)))), .val (.int (F5 (p1 &&& (2147483647 : Int32)))), .val (.int (F6 (p1 &&& (2147483647 : Int32)))), .val (.int v9), .unset, .unset, .unset] [])) _
        refine XS.iload X4.here hx rfl (hb hby at_50) rfl ?_
        show Steps p.tables e below (T4.setTop (mkF m 52 #[.val (.int p1), .val (.int (p1 &&& (2147483647 : Int32))), .val (.ref rb1), .val (.int (F4 (p1 &&& (2147483647 : Int32)))), .val (.int (F5 (p1 &&& (2147483647 : Int32)))), .val (.int (F6 (p1 &&& (2147483647 : Int32)))), .val (.int v9), .unset, .unset, .unset] [(.int (F6 (p1 &&& (2147483647 : Int32))))])) _
        refine XS.bipush X4.here hx rfl (hb hby at_52) ?_
        exact kt
      by_cases hc15 : (F6 (p1 &&& (2147483647 : Int32))) < (12 : Int32)
      · have R17 : ∀ t, Steps p.tables e below (T4.setTop (mkF m 62 #[.val (.int p1), .val (.int (p1 &&& (2147483647 : Int32))), .val (.ref rb1), .val (.int (F4 (p1 &&& (2147483647 : Int32)))), .val (.int (F5 (p1 &&& (2147483647 : Int32)))), .val (.int (F6 (p1 &&& (2147483647 : Int32)))), .val (.int v9), .unset, .unset, .unset] [(.int (1 : Int32))])) t → Steps p.tables e below (s₁.setTop (entryFrame m #[(.int p1)] maxLocals)) t := by
          intro t kt
          refine R16 _ ?_
          show Steps p.tables e below (T4.setTop (mkF m 54 #[.val (.int p1), .val (.int (p1 &&& (2147483647 : Int32))), .val (.ref rb1), .val (.int (F4 (p1 &&& (2147483647 : Int32)))), .val (.int (F5 (p1 &&& (2147483647 : Int32)))), .val (.int (F6 (p1 &&& (2147483647 : Int32)))), .val (.int v9), .unset, .unset, .unset] [(.int (12 : Int32)), (.int (F6 (p1 &&& (2147483647 : Int32))))])) _
          refine XS.icmpNo X4.here hx rfl (hb hby at_54) rfl (tlt hc15).2.1 ?_
          show Steps p.tables e below (T4.setTop (mkF m 57 #[.val (.int p1), .val (.int (p1 &&& (2147483647 : Int32))), .val (.ref rb1), .val (.int (F4 (p1 &&& (2147483647 : Int32)))), .val (.int (F5 (p1 &&& (2147483647 : Int32)))), .val (.int (F6 (p1 &&& (2147483647 : Int32)))), .val (.int v9), .unset, .unset, .unset] [])) _
          refine XS.iconst X4.here hx rfl (hb hby at_57) ?_
          show Steps p.tables e below (T4.setTop (mkF m 58 #[.val (.int p1), .val (.int (p1 &&& (2147483647 : Int32))), .val (.ref rb1), .val (.int (F4 (p1 &&& (2147483647 : Int32)))), .val (.int (F5 (p1 &&& (2147483647 : Int32)))), .val (.int (F6 (p1 &&& (2147483647 : Int32)))), .val (.int v9), .unset, .unset, .unset] [(.int (1 : Int32))])) _
          refine XS.goto X4.here hx rfl (pc0 := 58) (pc' := 62) rfl (hb hby at_58) (by decide) (by decide) ?_
          exact kt
        exact ⟨(1 : Int32), (by rw [if_neg hc12, if_pos hc15]), R17⟩
      · have R18 : ∀ t, Steps p.tables e below (T4.setTop (mkF m 62 #[.val (.int p1), .val (.int (p1 &&& (2147483647 : Int32))), .val (.ref rb1), .val (.int (F4 (p1 &&& (2147483647 : Int32)))), .val (.int (F5 (p1 &&& (2147483647 : Int32)))), .val (.int (F6 (p1 &&& (2147483647 : Int32)))), .val (.int v9), .unset, .unset, .unset] [(.int (0 : Int32))])) t → Steps p.tables e below (s₁.setTop (entryFrame m #[(.int p1)] maxLocals)) t := by
          intro t kt
          refine R16 _ ?_
          show Steps p.tables e below (T4.setTop (mkF m 54 #[.val (.int p1), .val (.int (p1 &&& (2147483647 : Int32))), .val (.ref rb1), .val (.int (F4 (p1 &&& (2147483647 : Int32)))), .val (.int (F5 (p1 &&& (2147483647 : Int32)))), .val (.int (F6 (p1 &&& (2147483647 : Int32)))), .val (.int v9), .unset, .unset, .unset] [(.int (12 : Int32)), (.int (F6 (p1 &&& (2147483647 : Int32))))])) _
          refine XS.icmpYes X4.here hx rfl (pc0 := 54) (pc' := 61) rfl (hb hby at_54) rfl (flt hc15).2.1 (by decide) (by decide) ?_
          show Steps p.tables e below (T4.setTop (mkF m 61 #[.val (.int p1), .val (.int (p1 &&& (2147483647 : Int32))), .val (.ref rb1), .val (.int (F4 (p1 &&& (2147483647 : Int32)))), .val (.int (F5 (p1 &&& (2147483647 : Int32)))), .val (.int (F6 (p1 &&& (2147483647 : Int32)))), .val (.int v9), .unset, .unset, .unset] [])) _
          refine XS.iconst X4.here hx rfl (hb hby at_61) ?_
          exact kt
        exact ⟨(0 : Int32), (by rw [if_neg hc12, if_neg hc15]), R18⟩
  obtain ⟨v19, hv19, R20⟩ := J21
  have R23 : ∀ t, Steps p.tables e below (T4.setTop (mkF m 66 #[.val (.int p1), .val (.int (p1 &&& (2147483647 : Int32))), .val (.ref rb1), .val (.int (F4 (p1 &&& (2147483647 : Int32)))), .val (.int (F5 (p1 &&& (2147483647 : Int32)))), .val (.int (F6 (p1 &&& (2147483647 : Int32)))), .val (.int v9), .val (.int v19), .unset, .unset] [(.int (F5 (p1 &&& (2147483647 : Int32))))])) t → Steps p.tables e below (s₁.setTop (entryFrame m #[(.int p1)] maxLocals)) t := by
    intro t kt
    refine R20 _ ?_
    show Steps p.tables e below (T4.setTop (mkF m 62 #[.val (.int p1), .val (.int (p1 &&& (2147483647 : Int32))), .val (.ref rb1), .val (.int (F4 (p1 &&& (2147483647 : Int32)))), .val (.int (F5 (p1 &&& (2147483647 : Int32)))), .val (.int (F6 (p1 &&& (2147483647 : Int32)))), .val (.int v9), .unset, .unset, .unset] [(.int v19)])) _
    refine XS.istore X4.here hx rfl (hb hby at_62) rfl (l' := #[.val (.int p1), .val (.int (p1 &&& (2147483647 : Int32))), .val (.ref rb1), .val (.int (F4 (p1 &&& (2147483647 : Int32)))), .val (.int (F5 (p1 &&& (2147483647 : Int32)))), .val (.int (F6 (p1 &&& (2147483647 : Int32)))), .val (.int v9), .val (.int v19), .unset, .unset]) rfl ?_
    show Steps p.tables e below (T4.setTop (mkF m 64 #[.val (.int p1), .val (.int (p1 &&& (2147483647 : Int32))), .val (.ref rb1), .val (.int (F4 (p1 &&& (2147483647 : Int32)))), .val (.int (F5 (p1 &&& (2147483647 : Int32)))), .val (.int (F6 (p1 &&& (2147483647 : Int32)))), .val (.int v9), .val (.int v19), .unset, .unset] [])) _
    refine XS.iload X4.here hx rfl (hb hby at_64) rfl ?_
    exact kt
  have J28 : ∃ (v26 : Int32), v26 = (if (F5 (p1 &&& (2147483647 : Int32))) < (0 : Int32) then (0 : Int32) else (1 : Int32)) ∧ ∀ t, Steps p.tables e below (T4.setTop (mkF m 74 #[.val (.int p1), .val (.int (p1 &&& (2147483647 : Int32))), .val (.ref rb1), .val (.int (F4 (p1 &&& (2147483647 : Int32)))), .val (.int (F5 (p1 &&& (2147483647 : Int32)))), .val (.int (F6 (p1 &&& (2147483647 : Int32)))), .val (.int v9), .val (.int v19), .unset, .unset] [(.int v26)])) t → Steps p.tables e below (s₁.setTop (entryFrame m #[(.int p1)] maxLocals)) t := by
    by_cases hc22 : (F5 (p1 &&& (2147483647 : Int32))) < (0 : Int32)
    · have R24 : ∀ t, Steps p.tables e below (T4.setTop (mkF m 74 #[.val (.int p1), .val (.int (p1 &&& (2147483647 : Int32))), .val (.ref rb1), .val (.int (F4 (p1 &&& (2147483647 : Int32)))), .val (.int (F5 (p1 &&& (2147483647 : Int32)))), .val (.int (F6 (p1 &&& (2147483647 : Int32)))), .val (.int v9), .val (.int v19), .unset, .unset] [(.int (0 : Int32))])) t → Steps p.tables e below (s₁.setTop (entryFrame m #[(.int p1)] maxLocals)) t := by
        intro t kt
        refine R23 _ ?_
        show Steps p.tables e below (T4.setTop (mkF m 66 #[.val (.int p1), .val (.int (p1 &&& (2147483647 : Int32))), .val (.ref rb1), .val (.int (F4 (p1 &&& (2147483647 : Int32)))), .val (.int (F5 (p1 &&& (2147483647 : Int32)))), .val (.int (F6 (p1 &&& (2147483647 : Int32)))), .val (.int v9), .val (.int v19), .unset, .unset] [(.int (F5 (p1 &&& (2147483647 : Int32))))])) _
        refine XS.ifYes X4.here hx rfl (pc0 := 66) (pc' := 73) rfl (hb hby at_66) rfl ((if0 _ _).trans (tlt hc22).1) (by decide) (by decide) ?_
        show Steps p.tables e below (T4.setTop (mkF m 73 #[.val (.int p1), .val (.int (p1 &&& (2147483647 : Int32))), .val (.ref rb1), .val (.int (F4 (p1 &&& (2147483647 : Int32)))), .val (.int (F5 (p1 &&& (2147483647 : Int32)))), .val (.int (F6 (p1 &&& (2147483647 : Int32)))), .val (.int v9), .val (.int v19), .unset, .unset] [])) _
        refine XS.iconst X4.here hx rfl (hb hby at_73) ?_
        exact kt
      exact ⟨(0 : Int32), (by rw [if_pos hc22]), R24⟩
    · have R25 : ∀ t, Steps p.tables e below (T4.setTop (mkF m 74 #[.val (.int p1), .val (.int (p1 &&& (2147483647 : Int32))), .val (.ref rb1), .val (.int (F4 (p1 &&& (2147483647 : Int32)))), .val (.int (F5 (p1 &&& (2147483647 : Int32)))), .val (.int (F6 (p1 &&& (2147483647 : Int32)))), .val (.int v9), .val (.int v19), .unset, .unset] [(.int (1 : Int32))])) t → Steps p.tables e below (s₁.setTop (entryFrame m #[(.int p1)] maxLocals)) t := by
        intro t kt
        refine R23 _ ?_
        show Steps p.tables e below (T4.setTop (mkF m 66 #[.val (.int p1), .val (.int (p1 &&& (2147483647 : Int32))), .val (.ref rb1), .val (.int (F4 (p1 &&& (2147483647 : Int32)))), .val (.int (F5 (p1 &&& (2147483647 : Int32)))), .val (.int (F6 (p1 &&& (2147483647 : Int32)))), .val (.int v9), .val (.int v19), .unset, .unset] [(.int (F5 (p1 &&& (2147483647 : Int32))))])) _
        refine XS.ifNo X4.here hx rfl (hb hby at_66) rfl ((if0 _ _).trans (flt hc22).1) ?_
        show Steps p.tables e below (T4.setTop (mkF m 69 #[.val (.int p1), .val (.int (p1 &&& (2147483647 : Int32))), .val (.ref rb1), .val (.int (F4 (p1 &&& (2147483647 : Int32)))), .val (.int (F5 (p1 &&& (2147483647 : Int32)))), .val (.int (F6 (p1 &&& (2147483647 : Int32)))), .val (.int v9), .val (.int v19), .unset, .unset] [])) _
        refine XS.iconst X4.here hx rfl (hb hby at_69) ?_
        show Steps p.tables e below (T4.setTop (mkF m 70 #[.val (.int p1), .val (.int (p1 &&& (2147483647 : Int32))), .val (.ref rb1), .val (.int (F4 (p1 &&& (2147483647 : Int32)))), .val (.int (F5 (p1 &&& (2147483647 : Int32)))), .val (.int (F6 (p1 &&& (2147483647 : Int32)))), .val (.int v9), .val (.int v19), .unset, .unset] [(.int (1 : Int32))])) _
        refine XS.goto X4.here hx rfl (pc0 := 70) (pc' := 74) rfl (hb hby at_70) (by decide) (by decide) ?_
        exact kt
      exact ⟨(1 : Int32), (by rw [if_neg hc22]), R25⟩
  obtain ⟨v26, hv26, R27⟩ := J28
  have R30 : ∀ t, Steps p.tables e below (T4.setTop (mkF m 90 #[.val (.int p1), .val (.int (p1 &&& (2147483647 : Int32))), .val (.ref rb1), .val (.int (F4 (p1 &&& (2147483647 : Int32)))), .val (.int (F5 (p1 &&& (2147483647 : Int32)))), .val (.int (F6 (p1 &&& (2147483647 : Int32)))), .val (.int v9), .val (.int v19), .val (.int v26), .unset] [(.int (lcmpW ((((F5 (p1 &&& (2147483647 : Int32))).toInt64) * (12 : Int64)) + ((F6 (p1 &&& (2147483647 : Int32))).toInt64)) ((p1 &&& (2147483647 : Int32)).toInt64)))])) t → Steps p.tables e below (s₁.setTop (entryFrame m #[(.int p1)] maxLocals)) t := by
    intro t kt
    refine R27 _ ?_
    show Steps p.tables e below (T4.setTop (mkF m 74 #[.val (.int p1), .val (.int (p1 &&& (2147483647 : Int32))), .val (.ref rb1), .val (.int (F4 (p1 &&& (2147483647 : Int32)))), .val (.int (F5 (p1 &&& (2147483647 : Int32)))), .val (.int (F6 (p1 &&& (2147483647 : Int32)))), .val (.int v9), .val (.int v19), .unset, .unset] [(.int v26)])) _
    refine XS.istore X4.here hx rfl (hb hby at_74) rfl (l' := #[.val (.int p1), .val (.int (p1 &&& (2147483647 : Int32))), .val (.ref rb1), .val (.int (F4 (p1 &&& (2147483647 : Int32)))), .val (.int (F5 (p1 &&& (2147483647 : Int32)))), .val (.int (F6 (p1 &&& (2147483647 : Int32)))), .val (.int v9), .val (.int v19), .val (.int v26), .unset]) rfl ?_
    show Steps p.tables e below (T4.setTop (mkF m 76 #[.val (.int p1), .val (.int (p1 &&& (2147483647 : Int32))), .val (.ref rb1), .val (.int (F4 (p1 &&& (2147483647 : Int32)))), .val (.int (F5 (p1 &&& (2147483647 : Int32)))), .val (.int (F6 (p1 &&& (2147483647 : Int32)))), .val (.int v9), .val (.int v19), .val (.int v26), .unset] [])) _
    refine XS.iload X4.here hx rfl (hb hby at_76) rfl ?_
    show Steps p.tables e below (T4.setTop (mkF m 78 #[.val (.int p1), .val (.int (p1 &&& (2147483647 : Int32))), .val (.ref rb1), .val (.int (F4 (p1 &&& (2147483647 : Int32)))), .val (.int (F5 (p1 &&& (2147483647 : Int32)))), .val (.int (F6 (p1 &&& (2147483647 : Int32)))), .val (.int v9), .val (.int v19), .val (.int v26), .unset] [(.int (F5 (p1 &&& (2147483647 : Int32))))])) _
    refine XS.i2l X4.here hx rfl (hb hby at_78) rfl ?_
    show Steps p.tables e below (T4.setTop (mkF m 79 #[.val (.int p1), .val (.int (p1 &&& (2147483647 : Int32))), .val (.ref rb1), .val (.int (F4 (p1 &&& (2147483647 : Int32)))), .val (.int (F5 (p1 &&& (2147483647 : Int32)))), .val (.int (F6 (p1 &&& (2147483647 : Int32)))), .val (.int v9), .val (.int v19), .val (.int v26), .unset] [(.long ((F5 (p1 &&& (2147483647 : Int32))).toInt64))])) _
    refine X4.ldc2Long hx hown (mvT hZ (hw _ (List.mem_of_getElem? (i := 30) rfl))) (g := (mkF m 79 #[.val (.int p1), .val (.int (p1 &&& (2147483647 : Int32))), .val (.ref rb1), .val (.int (F4 (p1 &&& (2147483647 : Int32)))), .val (.int (F5 (p1 &&& (2147483647 : Int32)))), .val (.int (F6 (p1 &&& (2147483647 : Int32)))), .val (.int v9), .val (.int v19), .val (.int v26), .unset] [(.long ((F5 (p1 &&& (2147483647 : Int32))).toInt64))])) rfl (hb hby at_79) _ ?_
    show Steps p.tables e below (T4.setTop (mkF m 82 #[.val (.int p1), .val (.int (p1 &&& (2147483647 : Int32))), .val (.ref rb1), .val (.int (F4 (p1 &&& (2147483647 : Int32)))), .val (.int (F5 (p1 &&& (2147483647 : Int32)))), .val (.int (F6 (p1 &&& (2147483647 : Int32)))), .val (.int v9), .val (.int v19), .val (.int v26), .unset] [(.long (12 : Int64)), (.long ((F5 (p1 &&& (2147483647 : Int32))).toInt64))])) _
    refine XS.lmul X4.here hx rfl (hb hby at_82) rfl ?_
    show Steps p.tables e below (T4.setTop (mkF m 83 #[.val (.int p1), .val (.int (p1 &&& (2147483647 : Int32))), .val (.ref rb1), .val (.int (F4 (p1 &&& (2147483647 : Int32)))), .val (.int (F5 (p1 &&& (2147483647 : Int32)))), .val (.int (F6 (p1 &&& (2147483647 : Int32)))), .val (.int v9), .val (.int v19), .val (.int v26), .unset] [(.long (((F5 (p1 &&& (2147483647 : Int32))).toInt64) * (12 : Int64)))])) _
    refine XS.iload X4.here hx rfl (hb hby at_83) rfl ?_
    show Steps p.tables e below (T4.setTop (mkF m 85 #[.val (.int p1), .val (.int (p1 &&& (2147483647 : Int32))), .val (.ref rb1), .val (.int (F4 (p1 &&& (2147483647 : Int32)))), .val (.int (F5 (p1 &&& (2147483647 : Int32)))), .val (.int (F6 (p1 &&& (2147483647 : Int32)))), .val (.int v9), .val (.int v19), .val (.int v26), .unset] [(.int (F6 (p1 &&& (2147483647 : Int32)))), (.long (((F5 (p1 &&& (2147483647 : Int32))).toInt64) * (12 : Int64)))])) _
    refine XS.i2l X4.here hx rfl (hb hby at_85) rfl ?_
    show Steps p.tables e below (T4.setTop (mkF m 86 #[.val (.int p1), .val (.int (p1 &&& (2147483647 : Int32))), .val (.ref rb1), .val (.int (F4 (p1 &&& (2147483647 : Int32)))), .val (.int (F5 (p1 &&& (2147483647 : Int32)))), .val (.int (F6 (p1 &&& (2147483647 : Int32)))), .val (.int v9), .val (.int v19), .val (.int v26), .unset] [(.long ((F6 (p1 &&& (2147483647 : Int32))).toInt64)), (.long (((F5 (p1 &&& (2147483647 : Int32))).toInt64) * (12 : Int64)))])) _
    refine XS.ladd X4.here hx rfl (hb hby at_86) rfl ?_
    show Steps p.tables e below (T4.setTop (mkF m 87 #[.val (.int p1), .val (.int (p1 &&& (2147483647 : Int32))), .val (.ref rb1), .val (.int (F4 (p1 &&& (2147483647 : Int32)))), .val (.int (F5 (p1 &&& (2147483647 : Int32)))), .val (.int (F6 (p1 &&& (2147483647 : Int32)))), .val (.int v9), .val (.int v19), .val (.int v26), .unset] [(.long ((((F5 (p1 &&& (2147483647 : Int32))).toInt64) * (12 : Int64)) + ((F6 (p1 &&& (2147483647 : Int32))).toInt64)))])) _
    refine XS.iloadN X4.here hx rfl (hb hby at_87) rfl ?_
    show Steps p.tables e below (T4.setTop (mkF m 88 #[.val (.int p1), .val (.int (p1 &&& (2147483647 : Int32))), .val (.ref rb1), .val (.int (F4 (p1 &&& (2147483647 : Int32)))), .val (.int (F5 (p1 &&& (2147483647 : Int32)))), .val (.int (F6 (p1 &&& (2147483647 : Int32)))), .val (.int v9), .val (.int v19), .val (.int v26), .unset] [(.int (p1 &&& (2147483647 : Int32))), (.long ((((F5 (p1 &&& (2147483647 : Int32))).toInt64) * (12 : Int64)) + ((F6 (p1 &&& (2147483647 : Int32))).toInt64)))])) _
    refine XS.i2l X4.here hx rfl (hb hby at_88) rfl ?_
    show Steps p.tables e below (T4.setTop (mkF m 89 #[.val (.int p1), .val (.int (p1 &&& (2147483647 : Int32))), .val (.ref rb1), .val (.int (F4 (p1 &&& (2147483647 : Int32)))), .val (.int (F5 (p1 &&& (2147483647 : Int32)))), .val (.int (F6 (p1 &&& (2147483647 : Int32)))), .val (.int v9), .val (.int v19), .val (.int v26), .unset] [(.long ((p1 &&& (2147483647 : Int32)).toInt64)), (.long ((((F5 (p1 &&& (2147483647 : Int32))).toInt64) * (12 : Int64)) + ((F6 (p1 &&& (2147483647 : Int32))).toInt64)))])) _
    refine XS.lcmp X4.here hx rfl (hb hby at_89) rfl ?_
    exact kt
  have J35 : ∃ (v33 : Int32), v33 = (if ((((F5 (p1 &&& (2147483647 : Int32))).toInt64) * (12 : Int64)) + ((F6 (p1 &&& (2147483647 : Int32))).toInt64)) = ((p1 &&& (2147483647 : Int32)).toInt64) then (1 : Int32) else (0 : Int32)) ∧ ∀ t, Steps p.tables e below (T4.setTop (mkF m 98 #[.val (.int p1), .val (.int (p1 &&& (2147483647 : Int32))), .val (.ref rb1), .val (.int (F4 (p1 &&& (2147483647 : Int32)))), .val (.int (F5 (p1 &&& (2147483647 : Int32)))), .val (.int (F6 (p1 &&& (2147483647 : Int32)))), .val (.int v9), .val (.int v19), .val (.int v26), .unset] [(.int v33)])) t → Steps p.tables e below (s₁.setTop (entryFrame m #[(.int p1)] maxLocals)) t := by
    by_cases hc29 : ((((F5 (p1 &&& (2147483647 : Int32))).toInt64) * (12 : Int64)) + ((F6 (p1 &&& (2147483647 : Int32))).toInt64)) = ((p1 &&& (2147483647 : Int32)).toInt64)
    · have R31 : ∀ t, Steps p.tables e below (T4.setTop (mkF m 98 #[.val (.int p1), .val (.int (p1 &&& (2147483647 : Int32))), .val (.ref rb1), .val (.int (F4 (p1 &&& (2147483647 : Int32)))), .val (.int (F5 (p1 &&& (2147483647 : Int32)))), .val (.int (F6 (p1 &&& (2147483647 : Int32)))), .val (.int v9), .val (.int v19), .val (.int v26), .unset] [(.int (1 : Int32))])) t → Steps p.tables e below (s₁.setTop (entryFrame m #[(.int p1)] maxLocals)) t := by
        intro t kt
        refine R30 _ ?_
        show Steps p.tables e below (T4.setTop (mkF m 90 #[.val (.int p1), .val (.int (p1 &&& (2147483647 : Int32))), .val (.ref rb1), .val (.int (F4 (p1 &&& (2147483647 : Int32)))), .val (.int (F5 (p1 &&& (2147483647 : Int32)))), .val (.int (F6 (p1 &&& (2147483647 : Int32)))), .val (.int v9), .val (.int v19), .val (.int v26), .unset] [(.int (lcmpW ((((F5 (p1 &&& (2147483647 : Int32))).toInt64) * (12 : Int64)) + ((F6 (p1 &&& (2147483647 : Int32))).toInt64)) ((p1 &&& (2147483647 : Int32)).toInt64)))])) _
        refine XS.ifNo X4.here hx rfl (hb hby at_90) rfl ((if0 _ _).trans (teq ((lw_eq _ _).mpr hc29)).2) ?_
        show Steps p.tables e below (T4.setTop (mkF m 93 #[.val (.int p1), .val (.int (p1 &&& (2147483647 : Int32))), .val (.ref rb1), .val (.int (F4 (p1 &&& (2147483647 : Int32)))), .val (.int (F5 (p1 &&& (2147483647 : Int32)))), .val (.int (F6 (p1 &&& (2147483647 : Int32)))), .val (.int v9), .val (.int v19), .val (.int v26), .unset] [])) _
        refine XS.iconst X4.here hx rfl (hb hby at_93) ?_
        show Steps p.tables e below (T4.setTop (mkF m 94 #[.val (.int p1), .val (.int (p1 &&& (2147483647 : Int32))), .val (.ref rb1), .val (.int (F4 (p1 &&& (2147483647 : Int32)))), .val (.int (F5 (p1 &&& (2147483647 : Int32)))), .val (.int (F6 (p1 &&& (2147483647 : Int32)))), .val (.int v9), .val (.int v19), .val (.int v26), .unset] [(.int (1 : Int32))])) _
        refine XS.goto X4.here hx rfl (pc0 := 94) (pc' := 98) rfl (hb hby at_94) (by decide) (by decide) ?_
        exact kt
      exact ⟨(1 : Int32), (by rw [if_pos hc29]), R31⟩
    · have R32 : ∀ t, Steps p.tables e below (T4.setTop (mkF m 98 #[.val (.int p1), .val (.int (p1 &&& (2147483647 : Int32))), .val (.ref rb1), .val (.int (F4 (p1 &&& (2147483647 : Int32)))), .val (.int (F5 (p1 &&& (2147483647 : Int32)))), .val (.int (F6 (p1 &&& (2147483647 : Int32)))), .val (.int v9), .val (.int v19), .val (.int v26), .unset] [(.int (0 : Int32))])) t → Steps p.tables e below (s₁.setTop (entryFrame m #[(.int p1)] maxLocals)) t := by
        intro t kt
        refine R30 _ ?_
        show Steps p.tables e below (T4.setTop (mkF m 90 #[.val (.int p1), .val (.int (p1 &&& (2147483647 : Int32))), .val (.ref rb1), .val (.int (F4 (p1 &&& (2147483647 : Int32)))), .val (.int (F5 (p1 &&& (2147483647 : Int32)))), .val (.int (F6 (p1 &&& (2147483647 : Int32)))), .val (.int v9), .val (.int v19), .val (.int v26), .unset] [(.int (lcmpW ((((F5 (p1 &&& (2147483647 : Int32))).toInt64) * (12 : Int64)) + ((F6 (p1 &&& (2147483647 : Int32))).toInt64)) ((p1 &&& (2147483647 : Int32)).toInt64)))])) _
        refine XS.ifYes X4.here hx rfl (pc0 := 90) (pc' := 97) rfl (hb hby at_90) rfl ((if0 _ _).trans (feq (fun q => hc29 ((lw_eq _ _).mp q))).2) (by decide) (by decide) ?_
        show Steps p.tables e below (T4.setTop (mkF m 97 #[.val (.int p1), .val (.int (p1 &&& (2147483647 : Int32))), .val (.ref rb1), .val (.int (F4 (p1 &&& (2147483647 : Int32)))), .val (.int (F5 (p1 &&& (2147483647 : Int32)))), .val (.int (F6 (p1 &&& (2147483647 : Int32)))), .val (.int v9), .val (.int v19), .val (.int v26), .unset] [])) _
        refine XS.iconst X4.here hx rfl (hb hby at_97) ?_
        exact kt
      exact ⟨(0 : Int32), (by rw [if_neg hc29]), R32⟩
  obtain ⟨v33, hv33, R34⟩ := J35
  have R37 : ∀ t, Steps p.tables e below (T4.setTop (mkF m 102 #[.val (.int p1), .val (.int (p1 &&& (2147483647 : Int32))), .val (.ref rb1), .val (.int (F4 (p1 &&& (2147483647 : Int32)))), .val (.int (F5 (p1 &&& (2147483647 : Int32)))), .val (.int (F6 (p1 &&& (2147483647 : Int32)))), .val (.int v9), .val (.int v19), .val (.int v26), .val (.int v33)] [(.int v9)])) t → Steps p.tables e below (s₁.setTop (entryFrame m #[(.int p1)] maxLocals)) t := by
    intro t kt
    refine R34 _ ?_
    show Steps p.tables e below (T4.setTop (mkF m 98 #[.val (.int p1), .val (.int (p1 &&& (2147483647 : Int32))), .val (.ref rb1), .val (.int (F4 (p1 &&& (2147483647 : Int32)))), .val (.int (F5 (p1 &&& (2147483647 : Int32)))), .val (.int (F6 (p1 &&& (2147483647 : Int32)))), .val (.int v9), .val (.int v19), .val (.int v26), .unset] [(.int v33)])) _
    refine XS.istore X4.here hx rfl (hb hby at_98) rfl (l' := #[.val (.int p1), .val (.int (p1 &&& (2147483647 : Int32))), .val (.ref rb1), .val (.int (F4 (p1 &&& (2147483647 : Int32)))), .val (.int (F5 (p1 &&& (2147483647 : Int32)))), .val (.int (F6 (p1 &&& (2147483647 : Int32)))), .val (.int v9), .val (.int v19), .val (.int v26), .val (.int v33)]) rfl ?_
    show Steps p.tables e below (T4.setTop (mkF m 100 #[.val (.int p1), .val (.int (p1 &&& (2147483647 : Int32))), .val (.ref rb1), .val (.int (F4 (p1 &&& (2147483647 : Int32)))), .val (.int (F5 (p1 &&& (2147483647 : Int32)))), .val (.int (F6 (p1 &&& (2147483647 : Int32)))), .val (.int v9), .val (.int v19), .val (.int v26), .val (.int v33)] [])) _
    refine XS.iload X4.here hx rfl (hb hby at_100) rfl ?_
    exact kt
  have J51 : ∃ (v49 : Int32), v49 = (if v9 = (0 : Int32) then (0 : Int32) else (if v19 = (0 : Int32) then (0 : Int32) else (if v26 = (0 : Int32) then (0 : Int32) else (if v33 = (0 : Int32) then (0 : Int32) else (1 : Int32))))) ∧ ∀ t, Steps p.tables e below (T4.setTop (mkF m 125 #[.val (.int p1), .val (.int (p1 &&& (2147483647 : Int32))), .val (.ref rb1), .val (.int (F4 (p1 &&& (2147483647 : Int32)))), .val (.int (F5 (p1 &&& (2147483647 : Int32)))), .val (.int (F6 (p1 &&& (2147483647 : Int32)))), .val (.int v9), .val (.int v19), .val (.int v26), .val (.int v33)] [(.int v49)])) t → Steps p.tables e below (s₁.setTop (entryFrame m #[(.int p1)] maxLocals)) t := by
    by_cases hc36 : v9 = (0 : Int32)
    · have R38 : ∀ t, Steps p.tables e below (T4.setTop (mkF m 125 #[.val (.int p1), .val (.int (p1 &&& (2147483647 : Int32))), .val (.ref rb1), .val (.int (F4 (p1 &&& (2147483647 : Int32)))), .val (.int (F5 (p1 &&& (2147483647 : Int32)))), .val (.int (F6 (p1 &&& (2147483647 : Int32)))), .val (.int v9), .val (.int v19), .val (.int v26), .val (.int v33)] [(.int (0 : Int32))])) t → Steps p.tables e below (s₁.setTop (entryFrame m #[(.int p1)] maxLocals)) t := by
        intro t kt
        refine R37 _ ?_
        show Steps p.tables e below (T4.setTop (mkF m 102 #[.val (.int p1), .val (.int (p1 &&& (2147483647 : Int32))), .val (.ref rb1), .val (.int (F4 (p1 &&& (2147483647 : Int32)))), .val (.int (F5 (p1 &&& (2147483647 : Int32)))), .val (.int (F6 (p1 &&& (2147483647 : Int32)))), .val (.int v9), .val (.int v19), .val (.int v26), .val (.int v33)] [(.int v9)])) _
        refine XS.ifYes X4.here hx rfl (pc0 := 102) (pc' := 124) rfl (hb hby at_102) rfl ((if0 _ _).trans (teq hc36).1) (by decide) (by decide) ?_
        show Steps p.tables e below (T4.setTop (mkF m 124 #[.val (.int p1), .val (.int (p1 &&& (2147483647 : Int32))), .val (.ref rb1), .val (.int (F4 (p1 &&& (2147483647 : Int32)))), .val (.int (F5 (p1 &&& (2147483647 : Int32)))), .val (.int (F6 (p1 &&& (2147483647 : Int32)))), .val (.int v9), .val (.int v19), .val (.int v26), .val (.int v33)] [])) _
        refine XS.iconst X4.here hx rfl (hb hby at_124) ?_
        exact kt
      exact ⟨(0 : Int32), (by rw [if_pos hc36]), R38⟩
    · have R40 : ∀ t, Steps p.tables e below (T4.setTop (mkF m 107 #[.val (.int p1), .val (.int (p1 &&& (2147483647 : Int32))), .val (.ref rb1), .val (.int (F4 (p1 &&& (2147483647 : Int32)))), .val (.int (F5 (p1 &&& (2147483647 : Int32)))), .val (.int (F6 (p1 &&& (2147483647 : Int32)))), .val (.int v9), .val (.int v19), .val (.int v26), .val (.int v33)] [(.int v19)])) t → Steps p.tables e below (s₁.setTop (entryFrame m #[(.int p1)] maxLocals)) t := by
        intro t kt
        refine R37 _ ?_
        show Steps p.tables e below (T4.setTop (mkF m 102 #[.val (.int p1), .val (.int (p1 &&& (2147483647 : Int32))), .val (.ref rb1), .val (.int (F4 (p1 &&& (2147483647 : Int32)))), .val (.int (F5 (p1 &&& (2147483647 : Int32)))), .val (.int (F6 (p1 &&& (2147483647 : Int32)))), .val (.int v9), .val (.int v19), .val (.int v26), .val (.int v33)] [(.int v9)])) _
        refine XS.ifNo X4.here hx rfl (hb hby at_102) rfl ((if0 _ _).trans (feq hc36).1) ?_
        show Steps p.tables e below (T4.setTop (mkF m 105 #[.val (.int p1), .val (.int (p1 &&& (2147483647 : Int32))), .val (.ref rb1), .val (.int (F4 (p1 &&& (2147483647 : Int32)))), .val (.int (F5 (p1 &&& (2147483647 : Int32)))), .val (.int (F6 (p1 &&& (2147483647 : Int32)))), .val (.int v9), .val (.int v19), .val (.int v26), .val (.int v33)] [])) _
        refine XS.iload X4.here hx rfl (hb hby at_105) rfl ?_
        exact kt
      by_cases hc39 : v19 = (0 : Int32)
      · have R41 : ∀ t, Steps p.tables e below (T4.setTop (mkF m 125 #[.val (.int p1), .val (.int (p1 &&& (2147483647 : Int32))), .val (.ref rb1), .val (.int (F4 (p1 &&& (2147483647 : Int32)))), .val (.int (F5 (p1 &&& (2147483647 : Int32)))), .val (.int (F6 (p1 &&& (2147483647 : Int32)))), .val (.int v9), .val (.int v19), .val (.int v26), .val (.int v33)] [(.int (0 : Int32))])) t → Steps p.tables e below (s₁.setTop (entryFrame m #[(.int p1)] maxLocals)) t := by
          intro t kt
          refine R40 _ ?_
          show Steps p.tables e below (T4.setTop (mkF m 107 #[.val (.int p1), .val (.int (p1 &&& (2147483647 : Int32))), .val (.ref rb1), .val (.int (F4 (p1 &&& (2147483647 : Int32)))), .val (.int (F5 (p1 &&& (2147483647 : Int32)))), .val (.int (F6 (p1 &&& (2147483647 : Int32)))), .val (.int v9), .val (.int v19), .val (.int v26), .val (.int v33)] [(.int v19)])) _
          refine XS.ifYes X4.here hx rfl (pc0 := 107) (pc' := 124) rfl (hb hby at_107) rfl ((if0 _ _).trans (teq hc39).1) (by decide) (by decide) ?_
          show Steps p.tables e below (T4.setTop (mkF m 124 #[.val (.int p1), .val (.int (p1 &&& (2147483647 : Int32))), .val (.ref rb1), .val (.int (F4 (p1 &&& (2147483647 : Int32)))), .val (.int (F5 (p1 &&& (2147483647 : Int32)))), .val (.int (F6 (p1 &&& (2147483647 : Int32)))), .val (.int v9), .val (.int v19), .val (.int v26), .val (.int v33)] [])) _
          refine XS.iconst X4.here hx rfl (hb hby at_124) ?_
          exact kt
        exact ⟨(0 : Int32), (by rw [if_neg hc36, if_pos hc39]), R41⟩
      · have R43 : ∀ t, Steps p.tables e below (T4.setTop (mkF m 112 #[.val (.int p1), .val (.int (p1 &&& (2147483647 : Int32))), .val (.ref rb1), .val (.int (F4 (p1 &&& (2147483647 : Int32)))), .val (.int (F5 (p1 &&& (2147483647 : Int32)))), .val (.int (F6 (p1 &&& (2147483647 : Int32)))), .val (.int v9), .val (.int v19), .val (.int v26), .val (.int v33)] [(.int v26)])) t → Steps p.tables e below (s₁.setTop (entryFrame m #[(.int p1)] maxLocals)) t := by
          intro t kt
          refine R40 _ ?_
          show Steps p.tables e below (T4.setTop (mkF m 107 #[.val (.int p1), .val (.int (p1 &&& (2147483647 : Int32))), .val (.ref rb1), .val (.int (F4 (p1 &&& (2147483647 : Int32)))), .val (.int (F5 (p1 &&& (2147483647 : Int32)))), .val (.int (F6 (p1 &&& (2147483647 : Int32)))), .val (.int v9), .val (.int v19), .val (.int v26), .val (.int v33)] [(.int v19)])) _
          refine XS.ifNo X4.here hx rfl (hb hby at_107) rfl ((if0 _ _).trans (feq hc39).1) ?_
          show Steps p.tables e below (T4.setTop (mkF m 110 #[.val (.int p1), .val (.int (p1 &&& (2147483647 : Int32))), .val (.ref rb1), .val (.int (F4 (p1 &&& (2147483647 : Int32)))), .val (.int (F5 (p1 &&& (2147483647 : Int32)))), .val (.int (F6 (p1 &&& (2147483647 : Int32)))), .val (.int v9), .val (.int v19), .val (.int v26), .val (.int v33)] [])) _
          refine XS.iload X4.here hx rfl (hb hby at_110) rfl ?_
          exact kt
        by_cases hc42 : v26 = (0 : Int32)
        · have R44 : ∀ t, Steps p.tables e below (T4.setTop (mkF m 125 #[.val (.int p1), .val (.int (p1 &&& (2147483647 : Int32))), .val (.ref rb1), .val (.int (F4 (p1 &&& (2147483647 : Int32)))), .val (.int (F5 (p1 &&& (2147483647 : Int32)))), .val (.int (F6 (p1 &&& (2147483647 : Int32)))), .val (.int v9), .val (.int v19), .val (.int v26), .val (.int v33)] [(.int (0 : Int32))])) t → Steps p.tables e below (s₁.setTop (entryFrame m #[(.int p1)] maxLocals)) t := by
            intro t kt
            refine R43 _ ?_
            show Steps p.tables e below (T4.setTop (mkF m 112 #[.val (.int p1), .val (.int (p1 &&& (2147483647 : Int32))), .val (.ref rb1), .val (.int (F4 (p1 &&& (2147483647 : Int32)))), .val (.int (F5 (p1 &&& (2147483647 : Int32)))), .val (.int (F6 (p1 &&& (2147483647 : Int32)))), .val (.int v9), .val (.int v19), .val (.int v26), .val (.int v33)] [(.int v26)])) _
            refine XS.ifYes X4.here hx rfl (pc0 := 112) (pc' := 124) rfl (hb hby at_112) rfl ((if0 _ _).trans (teq hc42).1) (by decide) (by decide) ?_
            show Steps p.tables e below (T4.setTop (mkF m 124 #[.val (.int p1), .val (.int (p1 &&& (2147483647 : Int32))), .val (.ref rb1), .val (.int (F4 (p1 &&& (2147483647 : Int32)))), .val (.int (F5 (p1 &&& (2147483647 : Int32)))), .val (.int (F6 (p1 &&& (2147483647 : Int32)))), .val (.int v9), .val (.int v19), .val (.int v26), .val (.int v33)] [])) _
            refine XS.iconst X4.here hx rfl (hb hby at_124) ?_
            exact kt
          exact ⟨(0 : Int32), (by rw [if_neg hc36, if_neg hc39, if_pos hc42]), R44⟩
        · have R46 : ∀ t, Steps p.tables e below (T4.setTop (mkF m 117 #[.val (.int p1), .val (.int (p1 &&& (2147483647 : Int32))), .val (.ref rb1), .val (.int (F4 (p1 &&& (2147483647 : Int32)))), .val (.int (F5 (p1 &&& (2147483647 : Int32)))), .val (.int (F6 (p1 &&& (2147483647 : Int32)))), .val (.int v9), .val (.int v19), .val (.int v26), .val (.int v33)] [(.int v33)])) t → Steps p.tables e below (s₁.setTop (entryFrame m #[(.int p1)] maxLocals)) t := by
            intro t kt
            refine R43 _ ?_
            show Steps p.tables e below (T4.setTop (mkF m 112 #[.val (.int p1), .val (.int (p1 &&& (2147483647 : Int32))), .val (.ref rb1), .val (.int (F4 (p1 &&& (2147483647 : Int32)))), .val (.int (F5 (p1 &&& (2147483647 : Int32)))), .val (.int (F6 (p1 &&& (2147483647 : Int32)))), .val (.int v9), .val (.int v19), .val (.int v26), .val (.int v33)] [(.int v26)])) _
            refine XS.ifNo X4.here hx rfl (hb hby at_112) rfl ((if0 _ _).trans (feq hc42).1) ?_
            show Steps p.tables e below (T4.setTop (mkF m 115 #[.val (.int p1), .val (.int (p1 &&& (2147483647 : Int32))), .val (.ref rb1), .val (.int (F4 (p1 &&& (2147483647 : Int32)))), .val (.int (F5 (p1 &&& (2147483647 : Int32)))), .val (.int (F6 (p1 &&& (2147483647 : Int32)))), .val (.int v9), .val (.int v19), .val (.int v26), .val (.int v33)] [])) _
            refine XS.iload X4.here hx rfl (hb hby at_115) rfl ?_
            exact kt
          by_cases hc45 : v33 = (0 : Int32)
          · have R47 : ∀ t, Steps p.tables e below (T4.setTop (mkF m 125 #[.val (.int p1), .val (.int (p1 &&& (2147483647 : Int32))), .val (.ref rb1), .val (.int (F4 (p1 &&& (2147483647 : Int32)))), .val (.int (F5 (p1 &&& (2147483647 : Int32)))), .val (.int (F6 (p1 &&& (2147483647 : Int32)))), .val (.int v9), .val (.int v19), .val (.int v26), .val (.int v33)] [(.int (0 : Int32))])) t → Steps p.tables e below (s₁.setTop (entryFrame m #[(.int p1)] maxLocals)) t := by
              intro t kt
              refine R46 _ ?_
              show Steps p.tables e below (T4.setTop (mkF m 117 #[.val (.int p1), .val (.int (p1 &&& (2147483647 : Int32))), .val (.ref rb1), .val (.int (F4 (p1 &&& (2147483647 : Int32)))), .val (.int (F5 (p1 &&& (2147483647 : Int32)))), .val (.int (F6 (p1 &&& (2147483647 : Int32)))), .val (.int v9), .val (.int v19), .val (.int v26), .val (.int v33)] [(.int v33)])) _
              refine XS.ifYes X4.here hx rfl (pc0 := 117) (pc' := 124) rfl (hb hby at_117) rfl ((if0 _ _).trans (teq hc45).1) (by decide) (by decide) ?_
              show Steps p.tables e below (T4.setTop (mkF m 124 #[.val (.int p1), .val (.int (p1 &&& (2147483647 : Int32))), .val (.ref rb1), .val (.int (F4 (p1 &&& (2147483647 : Int32)))), .val (.int (F5 (p1 &&& (2147483647 : Int32)))), .val (.int (F6 (p1 &&& (2147483647 : Int32)))), .val (.int v9), .val (.int v19), .val (.int v26), .val (.int v33)] [])) _
              refine XS.iconst X4.here hx rfl (hb hby at_124) ?_
              exact kt
            exact ⟨(0 : Int32), (by rw [if_neg hc36, if_neg hc39, if_neg hc42, if_pos hc45]), R47⟩
          · have R48 : ∀ t, Steps p.tables e below (T4.setTop (mkF m 125 #[.val (.int p1), .val (.int (p1 &&& (2147483647 : Int32))), .val (.ref rb1), .val (.int (F4 (p1 &&& (2147483647 : Int32)))), .val (.int (F5 (p1 &&& (2147483647 : Int32)))), .val (.int (F6 (p1 &&& (2147483647 : Int32)))), .val (.int v9), .val (.int v19), .val (.int v26), .val (.int v33)] [(.int (1 : Int32))])) t → Steps p.tables e below (s₁.setTop (entryFrame m #[(.int p1)] maxLocals)) t := by
              intro t kt
              refine R46 _ ?_
              show Steps p.tables e below (T4.setTop (mkF m 117 #[.val (.int p1), .val (.int (p1 &&& (2147483647 : Int32))), .val (.ref rb1), .val (.int (F4 (p1 &&& (2147483647 : Int32)))), .val (.int (F5 (p1 &&& (2147483647 : Int32)))), .val (.int (F6 (p1 &&& (2147483647 : Int32)))), .val (.int v9), .val (.int v19), .val (.int v26), .val (.int v33)] [(.int v33)])) _
              refine XS.ifNo X4.here hx rfl (hb hby at_117) rfl ((if0 _ _).trans (feq hc45).1) ?_
              show Steps p.tables e below (T4.setTop (mkF m 120 #[.val (.int p1), .val (.int (p1 &&& (2147483647 : Int32))), .val (.ref rb1), .val (.int (F4 (p1 &&& (2147483647 : Int32)))), .val (.int (F5 (p1 &&& (2147483647 : Int32)))), .val (.int (F6 (p1 &&& (2147483647 : Int32)))), .val (.int v9), .val (.int v19), .val (.int v26), .val (.int v33)] [])) _
              refine XS.iconst X4.here hx rfl (hb hby at_120) ?_
              show Steps p.tables e below (T4.setTop (mkF m 121 #[.val (.int p1), .val (.int (p1 &&& (2147483647 : Int32))), .val (.ref rb1), .val (.int (F4 (p1 &&& (2147483647 : Int32)))), .val (.int (F5 (p1 &&& (2147483647 : Int32)))), .val (.int (F6 (p1 &&& (2147483647 : Int32)))), .val (.int v9), .val (.int v19), .val (.int v26), .val (.int v33)] [(.int (1 : Int32))])) _
              refine XS.goto X4.here hx rfl (pc0 := 121) (pc' := 125) rfl (hb hby at_121) (by decide) (by decide) ?_
              exact kt
            exact ⟨(1 : Int32), (by rw [if_neg hc36, if_neg hc39, if_neg hc42, if_neg hc45]), R48⟩
  obtain ⟨v49, hv49, R50⟩ := J51
  obtain ⟨fs, hr, hrun, hended, hW, hsame⟩ := X4.leave (v := some (.int (nar .boolean v49))) (fun h => by rw [Bd.returns] at h; cases h)
  refine ⟨_, _, R50 _ ?_, hrun, hended, _, _, rfl, ?_, ⟨_, rfl⟩, hW, hsame.mono (by decide) (by decide)⟩
  · show Steps p.tables e below (T4.setTop (mkF m 125 #[.val (.int p1), .val (.int (p1 &&& (2147483647 : Int32))), .val (.ref rb1), .val (.int (F4 (p1 &&& (2147483647 : Int32)))), .val (.int (F5 (p1 &&& (2147483647 : Int32)))), .val (.int (F6 (p1 &&& (2147483647 : Int32)))), .val (.int v9), .val (.int v19), .val (.int v26), .val (.int v33)] [(.int v49)])) _
    exact retN X4 hx (t := .boolean) Bd.returns (by simp) (hb hby at_125) hr
  · show Q0 Z p1 h0 n0 _ T4.heap _
    rw [e4]
    refine ⟨?_, N1⟩
    subst hv9 hv19 hv26 hv33 hv49; rfl
theorem own_end (a b c d : Int32) (ha : a = 1) (hb : b = 1) (hc : c = 1) (hd : d = 1) : nar .boolean (if a = (0 : Int32) then (0 : Int32) else (if b = (0 : Int32) then (0 : Int32) else (if c = (0 : Int32) then (0 : Int32) else (if d = (0 : Int32) then (0 : Int32) else (1 : Int32))))) = 1 := by subst ha hb hc hd; decide
theorem own_d (x : Int32) (h : 0 ≤ x.toInt) : (F5 x).toInt = x.toInt / 12 := (c_idiv x 12 12 rfl (by decide)).1 h
theorem own_m (x : Int32) (h : 0 ≤ x.toInt) : (F6 x).toInt = x.toInt % 12 := (c_irem x 12 12 rfl).1 h
theorem own_b (x : Int32) (h : 0 ≤ x.toInt) : (if (F6 x) < (0 : Int32) then (0 : Int32) else (if (F6 x) < (12 : Int32) then (1 : Int32) else (0 : Int32))) = 1 := by
  have m := own_m x h
  simp only [Int32.lt_iff_toInt_lt, show (0 : Int32).toInt = 0 from rfl, show (12 : Int32).toInt = 12 from rfl, m]
  rw [if_neg (by omega), if_pos (by omega)]
theorem own_c (x : Int32) (h : 0 ≤ x.toInt) : (if (F5 x) < (0 : Int32) then (0 : Int32) else (1 : Int32)) = 1 := by
  have m := own_d x h
  simp only [Int32.lt_iff_toInt_lt, show (0 : Int32).toInt = 0 from rfl, m]
  rw [if_neg (by omega)]
theorem own_r (x : Int32) (h : 0 ≤ x.toInt) : ((((F5 x).toInt64) * (12 : Int64)) + ((F6 x).toInt64)) = (x.toInt64) := by
  apply Int64.toInt_inj.mp
  have d := own_d x h
  have m := own_m x h
  have q := rng32 x
  have a := c_lmul ((F5 x).toInt64) 12
  have b := c_ladd (((F5 x).toInt64) * (12 : Int64)) ((F6 x).toInt64)
  have r1 := rng64 (((F5 x).toInt64) * (12 : Int64))
  have r2 := rng64 ((((F5 x).toInt64) * (12 : Int64)) + ((F6 x).toInt64))
  rw [c_i2l, show (12 : Int64).toInt = 12 from rfl] at a
  rw [c_i2l] at b
  rw [c_i2l]
  omega
theorem own_plain (p1 : Int32) : F0 p1 = 1 := own_end _ _ _ _ (if_pos rfl) (own_b _ (own_x p1)) (own_c _ (own_x p1)) (if_pos (own_r _ (own_x p1)))
theorem own_fin {Z : State} (p1 : Int32) (h0 : Heap) (n0 : Nat) (h : Heap) (L : List Loc) {v : Option Value} (q : Q0 Z p1 h0 n0 v h L) : v = some (.int (1 : Int32)) ∧ Fr n0 L := by
  obtain ⟨rfl, N⟩ := q
  exact ⟨by rw [own_plain], N⟩
set_option maxRecDepth 65536 in
set_option maxHeartbeats 40000000 in
theorem comes_1 {Post : Tables → Env → Array Value → State → Outcome → State → Prop} (hpost : ∀ tb e args s v u, (limb_1_1.after args s (.returned v) u = true ∧ limb_1_2.after args s (.returned v) u = true ∧ True) → FrameEnd s (.returned v) u (Jvm.fieldLocs frame_1_writes args s ++ Jvm.arrayLocs frame_1_arrays args s ++ Jvm.staticLocs frame_1_statics s) 16 128 → Post tb e args s (.returned v) u) :
    ArmFor flags0 classFile x code maxLocals ret World_1 tables_1 room_1 Calls_1 rest_1 Pre_1 Post := by
  intro l hfl _ _ p e ha hc hk s m args below hf hA hF happ hP
  obtain ⟨hcalls, hrest, hpre⟩ := hP
  obtain ⟨-, -, -, hnamed, -, -, -, hat⟩ := (Spec.applies_iff hf).mp happ
  obtain ⟨hg, hn⟩ := and_e (Cond.before_iff.mp (show (Jvm.Cond.and given_1 narrow_1).before args s = true from hpre))
  obtain ⟨ga0, gb0⟩ := and_e hg
  obtain ⟨w0, rfl⟩ : ∃ w0 : Value, args = #[w0] := by
    have hs : args.size = 1 := by simpa [Cond.value, given_1] using ga0
    obtain ⟨L⟩ := args
    match L, hs with
    | [w0], _ => exact ⟨w0, rfl⟩
  have hw := fun d (hd : d ∈ tables_1) => atoms_spec (ws := Jvm.Cond.code x code maxLocals ret :: tables_1) hat d (List.mem_cons_of_mem _ hd)
  have hfit : Fit s := fun {y c} hc i hi => by
    obtain ⟨ha, rfl⟩ := Array.getElem?_eq_some_iff.mp hc
    have q := List.all_eq_true.mp ((Array.all_eq_true_iff_forall_mem.mp hF) _ (Array.getElem_mem ha)) i (List.mem_range.mpr hi)
    simpa [Array.getElem?_eq_getElem hi] using q
  obtain ⟨i0, ei0⟩ := is_v gb0
  obtain rfl : w0 = (.int i0) := Option.some.inj ei0
  obtain ⟨n, o, h1, h2, h3, v, L, rfl, hQ, hq⟩ := rm0 l s _ hw tables_1 i0 s.heap s.heap.size (Nat.le_refl _) p e ha hc hk s m _ below hf ((Spec.applies_iff_loose hf).mp happ).1 ⟨rfl, State.Warmed39.refl s, rfl⟩ trivial
  obtain ⟨rfl, N⟩ := own_fin i0 _ _ _ _ hQ
  refine ⟨n, _, h1, h2, h3, hpost _ _ _ _ _ _ ⟨Cond.after_iff.mpr rfl, Cond.after_iff.mpr (eq_i res_at (Term.int_eval (1)) rfl), trivial⟩ ⟨hq.1, hq.2.1, (hq.2.2.sift fun y hy => Or.inr (N y hy)).mono (by decide) (by decide)⟩⟩
theorem main_1_1 : Claimed_1_1 := comes_1 fun _ _ _ _ _ _ h hF => ⟨h.1, hF⟩
theorem main_1_2 : Claimed_1_2 := comes_1 fun _ _ _ _ _ _ h hF => ⟨h.2.1, hF⟩
end Jvm.Pilot.@@N@@
namespace Jvm.Pilot.@@N@@
open Jvm Jvm.ClassFile Sem Op Lib Jvm.Free Jvm.Stand Jvm.Pilot.@@N@@.Jvm.D
/-! MADE BY PROGRAM (witnessworld.py) out of the Statement's table words and the real class files: 10 classes; the members and pool entries that the words name. The judged class is class 1, her method 1. -/
namespace start1
open Jvm.ClassFile
def u (s : String) : CpInfo := .utf8 (stringToUtf16 s)
/-- a pool by its gaps: so many unusable entries, then the entry; so many at the end -/
def gap : Nat → List CpInfo → List CpInfo
  | 0, r => r
  | n + 1, r => .unusable :: gap n r
def poolList (es : List (Nat × CpInfo)) (last : Nat) : List CpInfo := es.foldr (fun e r => gap e.1 (e.2 :: r)) (gap last [])
def pool (es : List (Nat × CpInfo)) (last : Nat) : Array CpInfo := ⟨poolList es last⟩
def fileOf (pool : Array CpInfo) (this : Nat) (attrs : Array Attribute := #[]) (ms : Array MethodInfo := #[]) (fl : Nat := 33) (sup : Nat := 0) (ifs : Array Nat := #[]) (fds : Array FieldInfo := #[]) : ClassFile where
  minorVersion := 0
  majorVersion := 65
  constantPool := pool
  accessFlags := fl
  thisClass := this
  superClass := sup
  interfaces := ifs
  fields := fds
  methods := ms
  attributes := attrs
def plain (name : String) (sup : Option ClassId) : Class where
  name := name
  kind := .ordinary
  loader := none
  accessFlags := 33
  super := sup
  interfaces := #[]
  cf := none
  fields := #[]
  methods := #[]
  instanceTypes := #[]
  staticTypes := #[]
  resolved := #[]
  callSites := []
  init := .initialized
  statics := none
  mirror := none

def pool0 : Array CpInfo := pool [(5, u "<init>"), (0, u "()V"), (1, .class_ 10), (1, u "java/lang/Object")] 113

def k0c0 : Code := { maxStack := 0, maxLocals := 1, code := object_method_1_code, exceptionTable := #[], attributes := #[] }
def k0m0 : Method := { name := "<init>", desc := "()V", sig := { parameters := [], returnType := none }, accessFlags := 1, code := some k0c0 }
/-- java/lang/Object -/
def k0 : Class := { plain "java/lang/Object" none with
  accessFlags := 33
  interfaces := #[]
  cf := some (fileOf pool0 8 #[] #[{ accessFlags := 1, nameIndex := 5, descriptorIndex := 6, attributes := #[] }] 33 0 #[] #[])
  fields := #[]
  methods := #[k0m0]
  instanceTypes := #[]
  staticTypes := #[]
  resolved := Array.replicate 124 none
  statics := none }

def pool1 : Array CpInfo := pool [(2, .class_ 4), (1, u "java/lang/Object"), (0, u "<init>"), (0, u "()V"), (0, .integer 2147483647), (0, .methodref 9 10), (0, .class_ 11), (0, .nameAndType 12 13), (0, u "com/example/vestwright/vestwright/core/YearsAndMonths"), (0, u "ofMonths"), (0, u "(I)Lcom/example/vestwright/vestwright/core/YearsAndMonths;"), (0, .methodref 9 15), (0, .nameAndType 16 17), (0, u "totalMonths"), (0, u "()I"), (0, .methodref 9 19), (0, .nameAndType 20 17), (0, u "years"), (0, .methodref 9 22), (0, .nameAndType 23 17), (0, u "months"), (0, .long 12), (1, .class_ 27), (0, u "com/example/vestwright/vestwright/core/YearsAndMonthsOfMonthsPinLaw"), (2, u "law"), (0, u "(I)Z")] 3

def k1m0 : Method := { name := "<init>", desc := "()V", sig := { parameters := [], returnType := none }, accessFlags := 1, code := none }
def k1c1 : Code := { maxStack := 4, maxLocals := 10, code := code, exceptionTable := #[], attributes := #[] }
def k1m1 : Method := { name := "law", desc := "(I)Z", sig := { parameters := [.int], returnType := some .boolean }, accessFlags := 9, code := some k1c1 }
/-- com/example/vestwright/vestwright/core/YearsAndMonthsOfMonthsPinLaw -/
def k1 : Class := { plain "com/example/vestwright/vestwright/core/YearsAndMonthsOfMonthsPinLaw" (some 0) with
  accessFlags := 49
  interfaces := #[]
  cf := some (fileOf pool1 26 #[] #[{ accessFlags := 1, nameIndex := 5, descriptorIndex := 6, attributes := #[] }, { accessFlags := 9, nameIndex := 30, descriptorIndex := 31, attributes := #[] }] 49 2 #[] #[])
  fields := #[]
  methods := #[k1m0, k1m1]
  instanceTypes := #[]
  staticTypes := #[]
  resolved := Array.replicate 35 none
  statics := none }

def pool2 : Array CpInfo := pool [(1, .class_ 2), (0, u "java/lang/Comparable"), (0, .class_ 4), (0, u "java/lang/Object")] 7

/-- java/lang/Comparable -/
def k2 : Class := { plain "java/lang/Comparable" (some 0) with
  accessFlags := 1537
  interfaces := #[]
  cf := some (fileOf pool2 1 #[] #[] 1537 3 #[] #[])
  fields := #[]
  methods := #[]
  instanceTypes := #[]
  staticTypes := #[]
  resolved := Array.replicate 12 none
  statics := none }

def pool3 : Array CpInfo := pool [(1, .methodref 2 3), (0, .class_ 4), (0, .nameAndType 5 6), (0, u "java/lang/Object"), (0, u "<init>"), (0, u "()V"), (0, .fieldref 8 9), (0, .class_ 10), (0, .nameAndType 11 12), (0, u "com/example/vestwright/vestwright/core/YearsAndMonths"), (0, u "totalMonths"), (0, u "I"), (16, .methodref 8 30), (0, .nameAndType 5 31), (0, u "(I)V"), (2, u "LONGEST"), (0, u "Lcom/example/vestwright/vestwright/core/YearsAndMonths;"), (73, u "years"), (0, u "()I"), (8, u "months"), (16, u "ZERO"), (1, .class_ 139), (0, u "java/lang/Comparable"), (0, u "MONTHS_PER_YEAR"), (7, u "ofMonths"), (0, u "(I)Lcom/example/vestwright/vestwright/core/YearsAndMonths;")] 43

def k3c0 : Code := { maxStack := 2, maxLocals := 2, code := prog_21_method_1_code, exceptionTable := #[], attributes := #[] }
def k3m0 : Method := { name := "<init>", desc := "(I)V", sig := { parameters := [.int], returnType := none }, accessFlags := 2, code := some k3c0 }
def k3c1 : Code := { maxStack := 3, maxLocals := 1, code := prog_21_method_4_code, exceptionTable := #[], attributes := #[] }
def k3m1 : Method := { name := "ofMonths", desc := "(I)Lcom/example/vestwright/vestwright/core/YearsAndMonths;", sig := { parameters := [.int], returnType := some (.object "com/example/vestwright/vestwright/core/YearsAndMonths") }, accessFlags := 9, code := some k3c1 }
def k3c2 : Code := { maxStack := 2, maxLocals := 1, code := prog_21_method_11_code, exceptionTable := #[], attributes := #[] }
def k3m2 : Method := { name := "years", desc := "()I", sig := { parameters := [], returnType := some .int }, accessFlags := 1, code := some k3c2 }
def k3c3 : Code := { maxStack := 2, maxLocals := 1, code := prog_21_method_12_code, exceptionTable := #[], attributes := #[] }
def k3m3 : Method := { name := "months", desc := "()I", sig := { parameters := [], returnType := some .int }, accessFlags := 1, code := some k3c3 }
def k3c4 : Code := { maxStack := 1, maxLocals := 1, code := prog_21_method_13_code, exceptionTable := #[], attributes := #[] }
def k3m4 : Method := { name := "totalMonths", desc := "()I", sig := { parameters := [], returnType := some .int }, accessFlags := 1, code := some k3c4 }
/-- com/example/vestwright/vestwright/core/YearsAndMonths -/
def k3 : Class := { plain "com/example/vestwright/vestwright/core/YearsAndMonths" (some 0) with
  accessFlags := 33
  interfaces := #[2]
  cf := some (fileOf pool3 8 #[] #[{ accessFlags := 2, nameIndex := 5, descriptorIndex := 31, attributes := #[] }, { accessFlags := 9, nameIndex := 148, descriptorIndex := 149, attributes := #[] }, { accessFlags := 1, nameIndex := 109, descriptorIndex := 110, attributes := #[] }, { accessFlags := 1, nameIndex := 119, descriptorIndex := 110, attributes := #[] }, { accessFlags := 1, nameIndex := 11, descriptorIndex := 110, attributes := #[] }] 33 2 #[138] #[{ accessFlags := 25, nameIndex := 136, descriptorIndex := 35, attributes := #[] }, { accessFlags := 25, nameIndex := 140, descriptorIndex := 12, attributes := #[] }, { accessFlags := 26, nameIndex := 34, descriptorIndex := 35, attributes := #[] }, { accessFlags := 18, nameIndex := 11, descriptorIndex := 12, attributes := #[] }])
  fields := #[{ name := "ZERO", type := (.object "com/example/vestwright/vestwright/core/YearsAndMonths"), accessFlags := 25, slot := 0, constantValue := 0 }, { name := "MONTHS_PER_YEAR", type := .int, accessFlags := 25, slot := 1, constantValue := 0 }, { name := "LONGEST", type := (.object "com/example/vestwright/vestwright/core/YearsAndMonths"), accessFlags := 26, slot := 2, constantValue := 0 }, { name := "totalMonths", type := .int, accessFlags := 18, slot := 0, constantValue := 0 }]
  methods := #[k3m0, k3m1, k3m2, k3m3, k3m4]
  instanceTypes := #[.int]
  staticTypes := #[(.object "com/example/vestwright/vestwright/core/YearsAndMonths"), .int, (.object "com/example/vestwright/vestwright/core/YearsAndMonths")]
  resolved := Array.replicate 193 none
  statics := none }

def pool4 : Array CpInfo := pool [(1, u "java/lang/Cloneable"), (0, .class_ 1), (0, u "java/lang/Object"), (0, .class_ 3)] 3

/-- java/lang/Cloneable -/
def k4 : Class := { plain "java/lang/Cloneable" (some 0) with
  accessFlags := 1537
  interfaces := #[]
  cf := some (fileOf pool4 2 #[] #[] 1537 4 #[] #[])
  fields := #[]
  methods := #[]
  instanceTypes := #[]
  staticTypes := #[]
  resolved := Array.replicate 8 none
  statics := none }

def pool5 : Array CpInfo := pool [(1, u "java/io/Serializable"), (0, .class_ 1), (0, u "java/lang/Object"), (0, .class_ 3)] 3

/-- java/io/Serializable -/
def k5 : Class := { plain "java/io/Serializable" (some 0) with
  accessFlags := 1537
  interfaces := #[]
  cf := some (fileOf pool5 2 #[] #[] 1537 4 #[] #[])
  fields := #[]
  methods := #[]
  instanceTypes := #[]
  staticTypes := #[]
  resolved := Array.replicate 8 none
  statics := none }

/-- the primitive byte -/
def k6 : Class := { plain "byte" none with kind := .primitive 'B', accessFlags := 0x411 }
/-- [B -/
def k7 : Class := { plain "[B" (some 0) with kind := .array 6 .byte, interfaces := #[4, 5], accessFlags := 1041 }

/-- the primitive int -/
def k8 : Class := { plain "int" none with kind := .primitive 'I', accessFlags := 0x411 }
/-- [I -/
def k9 : Class := { plain "[I" (some 0) with kind := .array 8 .int, interfaces := #[4, 5], accessFlags := 1041 }

def heap : Heap := #[]
def classes : Array Class := #[k0, k1, k2, k3, k4, k5, k6, k7, k8, k9]
def interned : List (Array UInt16 × Addr) := []
def slotsUsed : Nat := 0
def theMethod : MethodId := ⟨1, 1⟩
def args0 : Array Value := #[.int 25]
def aboutOver (below : List Frame) : State where
  vm := { classes := classes, interned := interned.toArray }
  heap := heap
  slotsUsed := slotsUsed
  threads := #[{ frames := .invoking theMethod args0 :: below }]
def below0 : List Frame := [.native { method := ⟨0, 0⟩, args := #[] }]
def about1 : State := aboutOver below0
def p0 : Program := .bare "" "" ""
def e0 : Env := launch0.env 0 0 0
theorem w_frames : about1.frames = Frame.invoking theMethod args0 :: below0 := rfl
set_option maxRecDepth 65536 in
theorem w_args : argsFit about1.vm theMethod args0 = true := by decide +kernel
set_option maxRecDepth 65536 in
theorem w_heap : heapFits about1 = true := by decide +kernel
set_option maxRecDepth 65536 in
theorem w_runnable : about1.curStatus? = some .runnable := by decide +kernel
set_option maxRecDepth 65536 in
theorem w_alone : about1.alone = true := by decide +kernel
set_option maxRecDepth 65536 in
theorem w_named : about1.methodNamed? x = some theMethod := by decide +kernel
set_option maxRecDepth 65536 in
theorem w_hears : about1.hears theMethod below0 = true := by decide +kernel
set_option maxRecDepth 65536 in
theorem w_ripe : about1.ripe theMethod args0 below0 = true := by decide +kernel
theorem w_running : about1.status = .running := rfl
set_option maxRecDepth 65536 in
theorem w_room : about1.hasRoom e0.platform room_1 = true :=
  launch0.hasRoom_least _ room_1 (by decide +kernel) (by decide +kernel) (by decide +kernel) (by decide +kernel) (by decide +kernel) (by decide +kernel)
theorem allAtoms_all (ts : List Jvm.Cond) (a : Array Jvm.Value) (st : Jvm.State) : (allAtoms ts).before a st = ts.all (fun c => c.before a st) := by
  induction ts with
  | nil => rfl
  | cons c t ih =>
    show (Jvm.Cond.and c (allAtoms t)).before a st = _
    rw [Jvm.Cond.before_and, ih, List.all_cons]
def words1 : List Jvm.Cond := Jvm.Cond.code x code maxLocals ret :: tables_1
/-- a 'code' word, met by the world's own term for the bytes: nothing is compared byte by byte -/
theorem code_word {y : MethodName} {bytes : ByteArray} {mx : Nat} {rt : Option FieldType} {a : Array Value} {s : State} {m : MethodId} {meth : Method} {c : Code} (h1 : s.methodNamed? y = some m) (h2 : s.vm.method? m = some meth) (h3 : meth.code = some c) (h4 : c.code = bytes)
    (h5 : (c.maxLocals == mx && c.exceptionTable.isEmpty && decide (c.maxStack ≤ mostOperands) && decide (meth.sig.returnType = rt) && !meth.locks && decide (parseMethodDescriptor y.desc = some meth.sig)) = true) : (Jvm.Cond.code y bytes mx rt).before a s = true := by
  simp only [Bool.and_eq_true, beq_iff_eq, Bool.not_eq_true', decide_eq_true_eq] at h5
  obtain ⟨⟨⟨⟨⟨g1, g2⟩, g3⟩, g4⟩, g5⟩, g6⟩ := h5
  simp [Cond.before, Cond.holds, Cond.value, h1, h2, h3, h4, g1, g2, g3, g4, g5, g6]
def isCode : Jvm.Cond → Bool
  | .code _ _ _ _ => true
  | _ => false
theorem all_split {L : List Jvm.Cond} {P : Jvm.Cond → Bool} (h1 : L.all (fun c => isCode c || P c) = true) (h2 : ∀ c ∈ L.filter isCode, P c = true) : L.all P = true := by
  refine List.all_eq_true.mpr fun c hc => ?_
  have h := List.all_eq_true.mp h1 c hc
  rcases Bool.eq_false_or_eq_true (isCode c) with hi | hi
  · exact h2 c (List.mem_filter.mpr ⟨hc, hi⟩)
  · simpa [hi] using h
set_option maxRecDepth 65536 in
theorem w_c0 : (Jvm.Cond.code x code maxLocals ret).before args0 about1 = true := code_word (m := ⟨1, 1⟩) (meth := k1m1) (c := k1c1) (by decide +kernel) rfl rfl rfl (by decide +kernel)
set_option maxRecDepth 65536 in
theorem w_c1 : (Jvm.Cond.code ({ cls := "com/example/vestwright/vestwright/core/YearsAndMonths", name := "ofMonths", desc := "(I)Lcom/example/vestwright/vestwright/core/YearsAndMonths;" } : Jvm.MethodName) prog_21_method_4_code (1 : Nat) (Option.some (Jvm.ClassFile.FieldType.object "com/example/vestwright/vestwright/core/YearsAndMonths"))).before args0 about1 = true := code_word (m := ⟨3, 1⟩) (meth := k3m1) (c := k3c1) (by decide +kernel) rfl rfl rfl (by decide +kernel)
set_option maxRecDepth 65536 in
theorem w_c2 : (Jvm.Cond.code ({ cls := "com/example/vestwright/vestwright/core/YearsAndMonths", name := "<init>", desc := "(I)V" } : Jvm.MethodName) prog_21_method_1_code (2 : Nat) (Option.none : Option Jvm.ClassFile.FieldType)).before args0 about1 = true := code_word (m := ⟨3, 0⟩) (meth := k3m0) (c := k3c0) (by decide +kernel) rfl rfl rfl (by decide +kernel)
set_option maxRecDepth 65536 in
theorem w_c3 : (Jvm.Cond.code ({ cls := "java/lang/Object", name := "<init>", desc := "()V" } : Jvm.MethodName) object_method_1_code (1 : Nat) (Option.none : Option Jvm.ClassFile.FieldType)).before args0 about1 = true := code_word (m := ⟨0, 0⟩) (meth := k0m0) (c := k0c0) (by decide +kernel) rfl rfl rfl (by decide +kernel)
set_option maxRecDepth 65536 in
theorem w_c4 : (Jvm.Cond.code ({ cls := "com/example/vestwright/vestwright/core/YearsAndMonths", name := "totalMonths", desc := "()I" } : Jvm.MethodName) prog_21_method_13_code (1 : Nat) (Option.some Jvm.ClassFile.FieldType.int)).before args0 about1 = true := code_word (m := ⟨3, 4⟩) (meth := k3m4) (c := k3c4) (by decide +kernel) rfl rfl rfl (by decide +kernel)
set_option maxRecDepth 65536 in
theorem w_c5 : (Jvm.Cond.code ({ cls := "com/example/vestwright/vestwright/core/YearsAndMonths", name := "years", desc := "()I" } : Jvm.MethodName) prog_21_method_11_code (1 : Nat) (Option.some Jvm.ClassFile.FieldType.int)).before args0 about1 = true := code_word (m := ⟨3, 2⟩) (meth := k3m2) (c := k3c2) (by decide +kernel) rfl rfl rfl (by decide +kernel)
set_option maxRecDepth 65536 in
theorem w_c6 : (Jvm.Cond.code ({ cls := "com/example/vestwright/vestwright/core/YearsAndMonths", name := "months", desc := "()I" } : Jvm.MethodName) prog_21_method_12_code (1 : Nat) (Option.some Jvm.ClassFile.FieldType.int)).before args0 about1 = true := code_word (m := ⟨3, 3⟩) (meth := k3m3) (c := k3c3) (by decide +kernel) rfl rfl rfl (by decide +kernel)
def codes1 : List Jvm.Cond := [Jvm.Cond.code x code maxLocals ret, Jvm.Cond.code ({ cls := "com/example/vestwright/vestwright/core/YearsAndMonths", name := "ofMonths", desc := "(I)Lcom/example/vestwright/vestwright/core/YearsAndMonths;" } : Jvm.MethodName) prog_21_method_4_code (1 : Nat) (Option.some (Jvm.ClassFile.FieldType.object "com/example/vestwright/vestwright/core/YearsAndMonths")), Jvm.Cond.code ({ cls := "com/example/vestwright/vestwright/core/YearsAndMonths", name := "<init>", desc := "(I)V" } : Jvm.MethodName) prog_21_method_1_code (2 : Nat) (Option.none : Option Jvm.ClassFile.FieldType), Jvm.Cond.code ({ cls := "java/lang/Object", name := "<init>", desc := "()V" } : Jvm.MethodName) object_method_1_code (1 : Nat) (Option.none : Option Jvm.ClassFile.FieldType), Jvm.Cond.code ({ cls := "com/example/vestwright/vestwright/core/YearsAndMonths", name := "totalMonths", desc := "()I" } : Jvm.MethodName) prog_21_method_13_code (1 : Nat) (Option.some Jvm.ClassFile.FieldType.int), Jvm.Cond.code ({ cls := "com/example/vestwright/vestwright/core/YearsAndMonths", name := "years", desc := "()I" } : Jvm.MethodName) prog_21_method_11_code (1 : Nat) (Option.some Jvm.ClassFile.FieldType.int), Jvm.Cond.code ({ cls := "com/example/vestwright/vestwright/core/YearsAndMonths", name := "months", desc := "()I" } : Jvm.MethodName) prog_21_method_12_code (1 : Nat) (Option.some Jvm.ClassFile.FieldType.int)]
set_option maxRecDepth 65536 in
theorem codes_eq : words1.filter isCode = codes1 := rfl
theorem w_codes : ∀ c ∈ words1.filter isCode, c.before args0 about1 = true := by
  rw [codes_eq]
  intro c hc
  simp only [codes1, List.mem_cons, List.not_mem_nil, or_false] at hc
  rcases hc with rfl | rfl | rfl | rfl | rfl | rfl | rfl
  · exact w_c0
  · exact w_c1
  · exact w_c2
  · exact w_c3
  · exact w_c4
  · exact w_c5
  · exact w_c6
set_option maxRecDepth 65536 in
theorem w_t1 : (words1.take 24).all (fun c => isCode c || c.before args0 about1) = true := by decide +kernel
set_option maxRecDepth 65536 in
theorem w_t2 : (words1.drop 24).all (fun c => isCode c || c.before args0 about1) = true := by decide +kernel
theorem w_tables : (allAtoms (Jvm.Cond.code x code maxLocals ret :: tables_1)).before args0 about1 = true := by
  rw [allAtoms_all]
  show words1.all (fun c => c.before args0 about1) = true
  refine all_split ?_ w_codes
  rw [← List.take_append_drop 24 words1, List.all_append, w_t1, w_t2]
  rfl
set_option maxRecDepth 65536 in
theorem w_case : (Jvm.Cond.and given_1 narrow_1).before args0 about1 = true := by decide +kernel
theorem w_applies : (headSpec (Jvm.Cond.code x code maxLocals ret :: tables_1) room_1).applies x e0.platform about1 = true :=
  (Spec.applies_iff w_frames).mpr ⟨w_running, w_runnable, w_alone, w_named, w_hears, w_ripe, w_room, w_tables⟩
theorem atStart : AtStart classFile x code maxLocals ret World_1 tables_1 room_1 Calls_1 rest_1 Pre_1 launch0 p0 e0 about1 theMethod args0 below0 :=
  ⟨lists_1, trivial, launch0.admits_env _ _ _, launch0.least_env, fairChoices_fair.cas, fairChoices_fair.clock, w_frames, w_args, w_heap, w_applies, trivial, trivial, w_case⟩
end start1
theorem witness_1 : WitnessClaimed_1 := ⟨start1.p0, start1.e0, start1.about1, start1.theMethod, start1.args0, start1.below0, start1.atStart⟩
end Jvm.Pilot.@@N@@
