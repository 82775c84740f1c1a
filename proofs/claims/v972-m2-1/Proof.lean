import JvmDerived
import JvmDerived.Pilot.@@N@@Statement
import JvmDerived.Pilot.@@N@@Code
set_option linter.unusedVariables false
set_option linter.unusedSimpArgs false
namespace Jvm.RoadKit
open Sem ClassFile Op Lib Jvm.Stand Jvm.Free Jvm.LawKit
section New
variable {p : Program} {l : Launch} {e : Env} {R : Room} {s : State} {m : MethodId} {args : Array Value} {below : List Frame} {meth : Method} {c : Code} {T : State} {locs : List Loc} {cells slots : Nat}
theorem retI (X : Stand p l e R s m args below meth c T locs cells slots) (hx : p.tables.exec = Jvm.exec) {pc : Nat} {Ls : Array Slot} {z : Int32} {rest : List Value} (hret : meth.sig.returnType = some .int) (hd : decode c.code pc = .ok (.ireturn, 1)) {fs : List Frame}
    (hl : ∀ (f : JFrame) (acts : List Action), f.method = m → f.locked = none → f.entered = [] → (doReturn e (T.setTop f) acts (some (.int z))).1 = T.setFrames fs) : Steps p.tables e below (T.setTop (mkF m pc Ls (.int z :: rest))) (T.setFrames fs) := by
  have hm' : T.vm.method? m = some meth := X.method'
  have hn : narrow .int (.int z) = .int z := rfl
  show Steps p.tables e below (T.setTop { method := m, pc := pc, locals := Ls, stack := _ :: rest, locked := none }) _
  jvm_step X.here [X.here.top, hx, hd, hm', hret, hn]
  first | (intro acts; rw [hl _ acts rfl rfl rfl]) | rw [hl _ _ rfl rfl rfl]
  exact Steps.refl _
end New
end Jvm.RoadKit
namespace Jvm.Pilot.@@N@@
open Jvm Jvm.ClassFile Sem Op Lib Jvm.Free Jvm.Stand Jvm.LawKit Jvm.RoadKit Bundle Jvm.Pilot.@@N@@.Jvm.D
theorem d1_0 : decode prog_21_method_3_code 0 = .ok (.getstatic 32, 3) := by decide +kernel
theorem d1_3 : decode prog_21_method_3_code 3 = .ok (.getfield 7, 3) := by decide +kernel
theorem d1_6 : decode prog_21_method_3_code 6 = .ok (.iload_n 0, 1) := by decide +kernel
theorem d1_7 : decode prog_21_method_3_code 7 = .ok (.isub, 1) := by decide +kernel
theorem d1_8 : decode prog_21_method_3_code 8 = .ok (.bipush 12, 2) := by decide +kernel
theorem d1_10 : decode prog_21_method_3_code 10 = .ok (.idiv, 1) := by decide +kernel
theorem d1_11 : decode prog_21_method_3_code 11 = .ok (.ireturn, 1) := by decide +kernel
theorem pn_1 : plainName "com/example/vestwright/vestwright/core/YearsAndMonths" = true := by first | (simp [plainName, overriddenIn]; done) | decide +kernel
theorem ef_1 (m : MethodId) (x0 : Int32) : entryFrame m #[(.int x0)] 1 = mkF m 0 #[.val (.int x0)] [] := by first | (simp [entryFrame, mkF, argsToLocals, Value.category]; done) | rfl
def F1 (p1 : Int32) : Int32 :=
  (((2147483647 : Int32) - p1) / (12 : Int32))
def Q1 (Z : State) (p1 : Int32) (w : Addr) (h0 : Heap) (n0 : Nat) (v : Option Value) (h : Heap) (L : List Loc) : Prop := v = some (.int (F1 p1)) ∧ L = [] ∧ h = h0
set_option maxRecDepth 65536 in
set_option maxHeartbeats 40000000 in
theorem rm1 (l : Launch) (Z : State) (a0 : Array Value) (hw : ∀ d ∈ tables_1, d.before a0 Z = true) (ws : List Jvm.Cond) (p1 : Int32) (w : Addr) (h0 : Heap) (n0 : Nat) (Z0 : n0 ≤ h0.size) (S1 : Sta Z h0 "com/example/vestwright/vestwright/core/YearsAndMonths" "LONGEST" "Lcom/example/vestwright/vestwright/core/YearsAndMonths;" (.ref w)) (G1 : Fld Z h0 w "com/example/vestwright/vestwright/core/YearsAndMonths" "totalMonths" "I" (.int (2147483647 : Int32))) :
    MetFree l (⟨"com/example/vestwright/vestwright/core/YearsAndMonths", "maxYears", "(I)I"⟩ : MethodName) (head1 (Jvm.Cond.code (⟨"com/example/vestwright/vestwright/core/YearsAndMonths", "maxYears", "(I)I"⟩ : MethodName) prog_21_method_3_code 1 (some .int) :: ws) ({ frames := 0, cells := 0, slots := 0, locals := 0 } : Room)) (fun a U => a = #[(.int p1)] ∧ Z.Warmed39 U.vm ∧ U.heap = h0) (fun _ _ _ _ _ => True) (fun _ U o U' => ∃ v L, o = .returned v ∧ Q1 Z p1 w h0 n0 v U'.heap L ∧ FrameEnd U o U' L ({ frames := 0, cells := 0, slots := 0, locals := 0 } : Room).cells ({ frames := 0, cells := 0, slots := 0, locals := 0 } : Room).slots) := by
  refine MetFree.of_bodySF (plainFor_of_name pn_1) hisR ?_
  intro p e s m args below meth c s₁ Bd hml0 hP hK
  obtain ⟨rfl, hZ, hh⟩ := hP
  have hx := Bd.exec
  have hby := Bd.bytes
  have hml : c.maxLocals = 1 := hml0
  have hown : s.vm.findClass "com/example/vestwright/vestwright/core/YearsAndMonths" = some m.cls := findClass_of_methodNamed Bd.named
  have hnm := (name_of_methodNamed Bd.named Bd.method).1
  have X0 : Stand p l e ({ frames := 0, cells := 0, slots := 0, locals := 0 } : Room) s m #[(.int p1)] below meth c s₁ [] 0 0 := Stand.of_body Bd
  have e0 : s₁.heap = h0 := by rw [← hh, Bd.state]; rfl
  have N0 := Fr.nil n0
  have pre0 : ∀ t, Steps p.tables e below (s₁.setTop (mkF m 0 #[.val (.int p1)] [])) t → Steps p.tables e below (s₁.setTop (entryFrame m #[(.int p1)] 1)) t := fun t k => castTop (ef_1 m p1) k
  obtain ⟨T1, X1, e1, st1⟩ := getS2 X0 hx hZ hown (host := "") (Or.inl (hw _ (List.mem_of_getElem? (i := 5) rfl))) Via.refl e0 S1 (g := (mkF m 0 #[.val (.int p1)] [])) rfl (hb hby d1_0)
  obtain ⟨T2, X2, e2, st2⟩ := getF X1 hx hZ hown (host := "") (Or.inl (hw _ (List.mem_of_getElem? (i := 7) rfl))) Via.refl e1 G1 (g := (mkF m 3 #[.val (.int p1)] [(.ref w)])) rfl rfl (hb hby d1_3)
  have R3 : ∀ t, Steps p.tables e below (T2.setTop (mkF m 11 #[.val (.int p1)] [(.int (((2147483647 : Int32) - p1) / (12 : Int32)))])) t → Steps p.tables e below (s₁.setTop (entryFrame m #[(.int p1)] 1)) t := by
    intro t kt
    refine pre0 _ ?_
    show Steps p.tables e below (s₁.setTop (mkF m 0 #[.val (.int p1)] [])) _
    refine st1 _ ?_
    show Steps p.tables e below (T1.setTop (mkF m 3 #[.val (.int p1)] [(.ref w)])) _
    refine st2 _ ?_
    show Steps p.tables e below (T2.setTop (mkF m 6 #[.val (.int p1)] [(.int (2147483647 : Int32))])) _
    refine XS.iloadN X2.here hx rfl (hb hby d1_6) rfl ?_
    show Steps p.tables e below (T2.setTop (mkF m 7 #[.val (.int p1)] [(.int p1), (.int (2147483647 : Int32))])) _
    refine XS.isub X2.here hx rfl (hb hby d1_7) rfl ?_
    show Steps p.tables e below (T2.setTop (mkF m 8 #[.val (.int p1)] [(.int ((2147483647 : Int32) - p1))])) _
    refine XS.bipush X2.here hx rfl (hb hby d1_8) ?_
    show Steps p.tables e below (T2.setTop (mkF m 10 #[.val (.int p1)] [(.int (12 : Int32)), (.int ((2147483647 : Int32) - p1))])) _
    refine XS.idiv X2.here hx rfl (hb hby d1_10) rfl (by decide) ?_
    exact kt
  obtain ⟨fs, hr, hrun, hended, hW, hsame⟩ := X2.leave (v := some (.int (((2147483647 : Int32) - p1) / (12 : Int32)))) (fun h => by rw [Bd.returns] at h; cases h)
  refine ⟨_, _, R3 _ ?_, hrun, hended, _, _, rfl, ?_, ⟨_, rfl⟩, hW, hsame.mono (by decide) (by decide)⟩
  · show Steps p.tables e below (T2.setTop (mkF m 11 #[.val (.int p1)] [(.int (((2147483647 : Int32) - p1) / (12 : Int32)))])) _
    exact retI X2 hx Bd.returns (hb hby d1_11) hr
  · show Q1 Z p1 w h0 n0 _ T2.heap _
    rw [e2]
    refine ⟨?_, rfl, rfl⟩
    rfl
theorem pn_0 : plainName "com/example/vestwright/vestwright/core/YearsAndMonthsMaxYearsPinLaw" = true := by first | (simp [plainName, overriddenIn]; done) | decide +kernel
theorem pd_0_1 : parseMethodDescriptor "(I)I" = some ⟨[.int], some .int⟩ := by decide +kernel
theorem ef_0 (m : MethodId) (x0 : Int32) : entryFrame m #[(.int x0)] maxLocals = mkF m 0 #[.val (.int x0), .unset, .unset, .unset, .unset, .unset, .unset, .unset] [] := by first | (simp [entryFrame, mkF, argsToLocals, Value.category, maxLocals]; done) | rfl
def F0 (p1 : Int32) : Int32 :=
  let v2 : Int32 := ((p1 &&& (2147483647 : Int32)) % (12 : Int32))
  let v8 : Int32 := (if (7 : Int32) < v2 then (178956969 : Int32) else (178956970 : Int32))
  let v12 : Int64 := ((((F1 v2).toInt64) * (12 : Int64)) + (v2.toInt64))
  let v17 : Int32 := (if (2147483647 : Int64) < v12 then (0 : Int32) else (1 : Int32))
  let v24 : Int32 := (if (2147483647 : Int64) < (v12 + (12 : Int64)) then (1 : Int32) else (0 : Int32))
  let v37 : Int32 := (if (F1 v2) = v8 then (if v17 = (0 : Int32) then (0 : Int32) else (if v24 = (0 : Int32) then (0 : Int32) else (1 : Int32))) else (0 : Int32))
  (nar .boolean v37)
def Q0 (Z : State) (p1 : Int32) (w : Addr) (h0 : Heap) (n0 : Nat) (v : Option Value) (h : Heap) (L : List Loc) : Prop := v = some (.int (F0 p1)) ∧ L = [] ∧ h = h0
set_option maxRecDepth 65536 in
set_option maxHeartbeats 40000000 in
theorem rm0 (l : Launch) (Z : State) (a0 : Array Value) (hw : ∀ d ∈ tables_1, d.before a0 Z = true) (ws : List Jvm.Cond) (p1 : Int32) (w : Addr) (h0 : Heap) (n0 : Nat) (Z0 : n0 ≤ h0.size) (S1 : Sta Z h0 "com/example/vestwright/vestwright/core/YearsAndMonths" "LONGEST" "Lcom/example/vestwright/vestwright/core/YearsAndMonths;" (.ref w)) (G1 : Fld Z h0 w "com/example/vestwright/vestwright/core/YearsAndMonths" "totalMonths" "I" (.int (2147483647 : Int32))) :
    MetFree l x (head1 (Jvm.Cond.code x code maxLocals ret :: ws) room_1) (fun a U => a = #[(.int p1)] ∧ Z.Warmed39 U.vm ∧ U.heap = h0) (fun _ _ _ _ _ => True) (fun _ U o U' => ∃ v L, o = .returned v ∧ Q0 Z p1 w h0 n0 v U'.heap L ∧ FrameEnd U o U' L room_1.cells room_1.slots) := by
  refine MetFree.of_bodySF (plainFor_of_name pn_0) hisR ?_
  intro p e s m args below meth c s₁ Bd hml0 hP hK
  obtain ⟨rfl, hZ, hh⟩ := hP
  have hx := Bd.exec
  have hby := Bd.bytes
  have hml : c.maxLocals = 8 := hml0
  have hown : s.vm.findClass "com/example/vestwright/vestwright/core/YearsAndMonthsMaxYearsPinLaw" = some m.cls := findClass_of_methodNamed Bd.named
  have hnm := (name_of_methodNamed Bd.named Bd.method).1
  have X0 : Stand p l e room_1 s m #[(.int p1)] below meth c s₁ [] 0 0 := Stand.of_body Bd
  have e0 : s₁.heap = h0 := by rw [← hh, Bd.state]; rfl
  have N0 := Fr.nil n0
  have pre0 : ∀ t, Steps p.tables e below (s₁.setTop (mkF m 0 #[.val (.int p1), .unset, .unset, .unset, .unset, .unset, .unset, .unset] [])) t → Steps p.tables e below (s₁.setTop (entryFrame m #[(.int p1)] maxLocals)) t := fun t k => castTop (ef_0 m p1) k
  have R1 : ∀ t, Steps p.tables e below (s₁.setTop (mkF m 7 #[.val (.int p1), .unset, .unset, .unset, .unset, .unset, .unset, .unset] [(.int ((p1 &&& (2147483647 : Int32)) % (12 : Int32)))])) t → Steps p.tables e below (s₁.setTop (entryFrame m #[(.int p1)] maxLocals)) t := by
    intro t kt
    refine pre0 _ ?_
    show Steps p.tables e below (s₁.setTop (mkF m 0 #[.val (.int p1), .unset, .unset, .unset, .unset, .unset, .unset, .unset] [])) _
    refine XS.iloadN X0.here hx rfl (hb hby at_0) rfl ?_
    show Steps p.tables e below (s₁.setTop (mkF m 1 #[.val (.int p1), .unset, .unset, .unset, .unset, .unset, .unset, .unset] [(.int p1)])) _
    refine X0.ldcInt hx hown (mvT hZ (hw _ (List.mem_of_getElem? (i := 0) rfl))) (g := (mkF m 1 #[.val (.int p1), .unset, .unset, .unset, .unset, .unset, .unset, .unset] [(.int p1)])) rfl (hb hby at_1) _ ?_
    show Steps p.tables e below (s₁.setTop (mkF m 3 #[.val (.int p1), .unset, .unset, .unset, .unset, .unset, .unset, .unset] [(.int (2147483647 : Int32)), (.int p1)])) _
    refine XS.iand X0.here hx rfl (hb hby at_3) rfl ?_
    show Steps p.tables e below (s₁.setTop (mkF m 4 #[.val (.int p1), .unset, .unset, .unset, .unset, .unset, .unset, .unset] [(.int (p1 &&& (2147483647 : Int32)))])) _
    refine XS.bipush X0.here hx rfl (hb hby at_4) ?_
    show Steps p.tables e below (s₁.setTop (mkF m 6 #[.val (.int p1), .unset, .unset, .unset, .unset, .unset, .unset, .unset] [(.int (12 : Int32)), (.int (p1 &&& (2147483647 : Int32)))])) _
    refine iremM X0 hx rfl (hb hby at_6) rfl (by decide) ?_
    exact kt
  obtain ⟨v2, hv2⟩ : ∃ z : Int32, z = ((p1 &&& (2147483647 : Int32)) % (12 : Int32)) := ⟨_, rfl⟩
  rw [← hv2] at R1
  obtain ⟨_, _, ⟨T3, L3, k3, n3⟩, -, X3, ⟨Lc3, hQ3, l3, y3, z3⟩, st3⟩ := Jvm.LawKit.callS X0 hx (y := (⟨"com/example/vestwright/vestwright/core/YearsAndMonths", "maxYears", "(I)I"⟩ : MethodName)) hown (mvT hZ (hw _ (List.mem_of_getElem? (i := 1) rfl))) (mvT hZ (hw _ (List.mem_of_getElem? (i := 2) rfl))) (mvT hZ (hw _ (List.mem_of_getElem? (i := 3) rfl))) (mvT hZ (hw _ (List.mem_of_getElem? (i := 4) rfl))) (by decide) (backOf (W := 0) (rm1 l Z a0 hw [] v2 w h0 n0 Z0 S1 G1) hZ (hw _ (List.mem_of_getElem? (i := 4) rfl)) (hw _ (List.mem_of_getElem? (i := 3) rfl)) (by decide) (by decide)) (g := (mkF m 9 #[.val (.int p1), .val (.int v2), .unset, .unset, .unset, .unset, .unset, .unset] [(.int v2)])) rfl (by rw [hml]; rfl) (argsL := [(.int v2)]) (rest := []) (lenOf pd_0_1 rfl) rfl (by show 2 * 0 + _ ≤ _; exact Nat.le_of_eq rfl) (hb hby at_9) (fun _ _ => ⟨rfl, e0, (by decide : 0 + 0 ≤ _), (by decide : 0 + 0 ≤ _)⟩)
  dsimp only [Pt.U, Pt.locs, Pt.cells, Pt.slots] at X3 l3 y3 z3 st3 hQ3
  subst l3 y3 z3
  obtain ⟨rfl, rfl, e3⟩ := hQ3
  replace X3 : Stand p l e room_1 s m #[(.int p1)] below meth c T3 [] 0 0 := X3
  have R5 : ∀ t, Steps p.tables e below (T3.setTop (mkF m 16 #[.val (.int p1), .val (.int v2), .val (.int (F1 v2)), .unset, .unset, .unset, .unset, .unset] [(.int (7 : Int32)), (.int v2)])) t → Steps p.tables e below (s₁.setTop (entryFrame m #[(.int p1)] maxLocals)) t := by
    intro t kt
    refine R1 _ ?_
    show Steps p.tables e below (s₁.setTop (mkF m 7 #[.val (.int p1), .unset, .unset, .unset, .unset, .unset, .unset, .unset] [(.int v2)])) _
    refine XS.istoreN X0.here hx rfl (hb hby at_7) rfl (l' := #[.val (.int p1), .val (.int v2), .unset, .unset, .unset, .unset, .unset, .unset]) rfl ?_
    show Steps p.tables e below (s₁.setTop (mkF m 8 #[.val (.int p1), .val (.int v2), .unset, .unset, .unset, .unset, .unset, .unset] [])) _
    refine XS.iloadN X0.here hx rfl (hb hby at_8) rfl ?_
    show Steps p.tables e below (s₁.setTop (mkF m 9 #[.val (.int p1), .val (.int v2), .unset, .unset, .unset, .unset, .unset, .unset] [(.int v2)])) _
    refine st3 _ ?_
    show Steps p.tables e below (T3.setTop (mkF m 12 #[.val (.int p1), .val (.int v2), .unset, .unset, .unset, .unset, .unset, .unset] [(.int (F1 v2))])) _
    refine XS.istoreN X3.here hx rfl (hb hby at_12) rfl (l' := #[.val (.int p1), .val (.int v2), .val (.int (F1 v2)), .unset, .unset, .unset, .unset, .unset]) rfl ?_
    show Steps p.tables e below (T3.setTop (mkF m 13 #[.val (.int p1), .val (.int v2), .val (.int (F1 v2)), .unset, .unset, .unset, .unset, .unset] [])) _
    refine XS.iloadN X3.here hx rfl (hb hby at_13) rfl ?_
    show Steps p.tables e below (T3.setTop (mkF m 14 #[.val (.int p1), .val (.int v2), .val (.int (F1 v2)), .unset, .unset, .unset, .unset, .unset] [(.int v2)])) _
    refine XS.bipush X3.here hx rfl (hb hby at_14) ?_
    exact kt
  have J10 : ∃ (v8 : Int32), v8 = (if (7 : Int32) < v2 then (178956969 : Int32) else (178956970 : Int32)) ∧ ∀ t, Steps p.tables e below (T3.setTop (mkF m 28 #[.val (.int p1), .val (.int v2), .val (.int (F1 v2)), .val (.int v8), .unset, .unset, .unset, .unset] [])) t → Steps p.tables e below (s₁.setTop (entryFrame m #[(.int p1)] maxLocals)) t := by
    by_cases hc4 : (7 : Int32) < v2
    · have R6 : ∀ t, Steps p.tables e below (T3.setTop (mkF m 28 #[.val (.int p1), .val (.int v2), .val (.int (F1 v2)), .val (.int (178956969 : Int32)), .unset, .unset, .unset, .unset] [])) t → Steps p.tables e below (s₁.setTop (entryFrame m #[(.int p1)] maxLocals)) t := by
        intro t kt
        refine R5 _ ?_
        show Steps p.tables e below (T3.setTop (mkF m 16 #[.val (.int p1), .val (.int v2), .val (.int (F1 v2)), .unset, .unset, .unset, .unset, .unset] [(.int (7 : Int32)), (.int v2)])) _
        refine XS.icmpYes X3.here hx rfl (pc0 := 16) (pc' := 25) rfl (hb hby at_16) rfl (tlt hc4).2.2.1 (by decide) (by decide) ?_
        show Steps p.tables e below (T3.setTop (mkF m 25 #[.val (.int p1), .val (.int v2), .val (.int (F1 v2)), .unset, .unset, .unset, .unset, .unset] [])) _
        refine X3.ldcInt hx hown (mvT hZ (hw _ (List.mem_of_getElem? (i := 12) rfl))) (g := (mkF m 25 #[.val (.int p1), .val (.int v2), .val (.int (F1 v2)), .unset, .unset, .unset, .unset, .unset] [])) rfl (hb hby at_25) _ ?_
        show Steps p.tables e below (T3.setTop (mkF m 27 #[.val (.int p1), .val (.int v2), .val (.int (F1 v2)), .unset, .unset, .unset, .unset, .unset] [(.int (178956969 : Int32))])) _
        refine XS.istoreN X3.here hx rfl (hb hby at_27) rfl (l' := #[.val (.int p1), .val (.int v2), .val (.int (F1 v2)), .val (.int (178956969 : Int32)), .unset, .unset, .unset, .unset]) rfl ?_
        exact kt
      exact ⟨(178956969 : Int32), (by rw [if_pos hc4]), R6⟩
    · have R7 : ∀ t, Steps p.tables e below (T3.setTop (mkF m 28 #[.val (.int p1), .val (.int v2), .val (.int (F1 v2)), .val (.int (178956970 : Int32)), .unset, .unset, .unset, .unset] [])) t → Steps p.tables e below (s₁.setTop (entryFrame m #[(.int p1)] maxLocals)) t := by
        intro t kt
        refine R5 _ ?_
        show Steps p.tables e below (T3.setTop (mkF m 16 #[.val (.int p1), .val (.int v2), .val (.int (F1 v2)), .unset, .unset, .unset, .unset, .unset] [(.int (7 : Int32)), (.int v2)])) _
        refine XS.icmpNo X3.here hx rfl (hb hby at_16) rfl (flt hc4).2.2.1 ?_
        show Steps p.tables e below (T3.setTop (mkF m 19 #[.val (.int p1), .val (.int v2), .val (.int (F1 v2)), .unset, .unset, .unset, .unset, .unset] [])) _
        refine X3.ldcInt hx hown (mvT hZ (hw _ (List.mem_of_getElem? (i := 9) rfl))) (g := (mkF m 19 #[.val (.int p1), .val (.int v2), .val (.int (F1 v2)), .unset, .unset, .unset, .unset, .unset] [])) rfl (hb hby at_19) _ ?_
        show Steps p.tables e below (T3.setTop (mkF m 21 #[.val (.int p1), .val (.int v2), .val (.int (F1 v2)), .unset, .unset, .unset, .unset, .unset] [(.int (178956970 : Int32))])) _
        refine XS.istoreN X3.here hx rfl (hb hby at_21) rfl (l' := #[.val (.int p1), .val (.int v2), .val (.int (F1 v2)), .val (.int (178956970 : Int32)), .unset, .unset, .unset, .unset]) rfl ?_
        show Steps p.tables e below (T3.setTop (mkF m 22 #[.val (.int p1), .val (.int v2), .val (.int (F1 v2)), .val (.int (178956970 : Int32)), .unset, .unset, .unset, .unset] [])) _
        refine XS.goto X3.here hx rfl (pc0 := 22) (pc' := 28) rfl (hb hby at_22) (by decide) (by decide) ?_
        exact kt
      exact ⟨(178956970 : Int32), (by rw [if_neg hc4]), R7⟩
  obtain ⟨v8, hv8, R9⟩ := J10
  have R11 : ∀ t, Steps p.tables e below (T3.setTop (mkF m 37 #[.val (.int p1), .val (.int v2), .val (.int (F1 v2)), .val (.int v8), .unset, .unset, .unset, .unset] [(.long ((((F1 v2).toInt64) * (12 : Int64)) + (v2.toInt64)))])) t → Steps p.tables e below (s₁.setTop (entryFrame m #[(.int p1)] maxLocals)) t := by
    intro t kt
    refine R9 _ ?_
    show Steps p.tables e below (T3.setTop (mkF m 28 #[.val (.int p1), .val (.int v2), .val (.int (F1 v2)), .val (.int v8), .unset, .unset, .unset, .unset] [])) _
    refine XS.iloadN X3.here hx rfl (hb hby at_28) rfl ?_
    show Steps p.tables e below (T3.setTop (mkF m 29 #[.val (.int p1), .val (.int v2), .val (.int (F1 v2)), .val (.int v8), .unset, .unset, .unset, .unset] [(.int (F1 v2))])) _
    refine XS.i2l X3.here hx rfl (hb hby at_29) rfl ?_
    show Steps p.tables e below (T3.setTop (mkF m 30 #[.val (.int p1), .val (.int v2), .val (.int (F1 v2)), .val (.int v8), .unset, .unset, .unset, .unset] [(.long ((F1 v2).toInt64))])) _
    refine X3.ldc2Long hx hown (mvT hZ (hw _ (List.mem_of_getElem? (i := 10) rfl))) (g := (mkF m 30 #[.val (.int p1), .val (.int v2), .val (.int (F1 v2)), .val (.int v8), .unset, .unset, .unset, .unset] [(.long ((F1 v2).toInt64))])) rfl (hb hby at_30) _ ?_
    show Steps p.tables e below (T3.setTop (mkF m 33 #[.val (.int p1), .val (.int v2), .val (.int (F1 v2)), .val (.int v8), .unset, .unset, .unset, .unset] [(.long (12 : Int64)), (.long ((F1 v2).toInt64))])) _
    refine XS.lmul X3.here hx rfl (hb hby at_33) rfl ?_
    show Steps p.tables e below (T3.setTop (mkF m 34 #[.val (.int p1), .val (.int v2), .val (.int (F1 v2)), .val (.int v8), .unset, .unset, .unset, .unset] [(.long (((F1 v2).toInt64) * (12 : Int64)))])) _
    refine XS.iloadN X3.here hx rfl (hb hby at_34) rfl ?_
    show Steps p.tables e below (T3.setTop (mkF m 35 #[.val (.int p1), .val (.int v2), .val (.int (F1 v2)), .val (.int v8), .unset, .unset, .unset, .unset] [(.int v2), (.long (((F1 v2).toInt64) * (12 : Int64)))])) _
    refine XS.i2l X3.here hx rfl (hb hby at_35) rfl ?_
    show Steps p.tables e below (T3.setTop (mkF m 36 #[.val (.int p1), .val (.int v2), .val (.int (F1 v2)), .val (.int v8), .unset, .unset, .unset, .unset] [(.long (v2.toInt64)), (.long (((F1 v2).toInt64) * (12 : Int64)))])) _
    refine XS.ladd X3.here hx rfl (hb hby at_36) rfl ?_
    exact kt
  obtain ⟨v12, hv12⟩ : ∃ z : Int64, z = ((((F1 v2).toInt64) * (12 : Int64)) + (v2.toInt64)) := ⟨_, rfl⟩
  rw [← hv12] at R11
  have R14 : ∀ t, Steps p.tables e below (T3.setTop (mkF m 45 #[.val (.int p1), .val (.int v2), .val (.int (F1 v2)), .val (.int v8), .val (.long v12), .second, .unset, .unset] [(.int (lcmpW v12 (2147483647 : Int64)))])) t → Steps p.tables e below (s₁.setTop (entryFrame m #[(.int p1)] maxLocals)) t := by
    intro t kt
    refine R11 _ ?_
    show Steps p.tables e below (T3.setTop (mkF m 37 #[.val (.int p1), .val (.int v2), .val (.int (F1 v2)), .val (.int v8), .unset, .unset, .unset, .unset] [(.long v12)])) _
    refine XS.lstore X3.here hx rfl (hb hby at_37) rfl (l' := #[.val (.int p1), .val (.int v2), .val (.int (F1 v2)), .val (.int v8), .val (.long v12), .second, .unset, .unset]) rfl ?_
    show Steps p.tables e below (T3.setTop (mkF m 39 #[.val (.int p1), .val (.int v2), .val (.int (F1 v2)), .val (.int v8), .val (.long v12), .second, .unset, .unset] [])) _
    refine XS.lload X3.here hx rfl (hb hby at_39) rfl ?_
    show Steps p.tables e below (T3.setTop (mkF m 41 #[.val (.int p1), .val (.int v2), .val (.int (F1 v2)), .val (.int v8), .val (.long v12), .second, .unset, .unset] [(.long v12)])) _
    refine X3.ldc2Long hx hown (mvT hZ (hw _ (List.mem_of_getElem? (i := 11) rfl))) (g := (mkF m 41 #[.val (.int p1), .val (.int v2), .val (.int (F1 v2)), .val (.int v8), .val (.long v12), .second, .unset, .unset] [(.long v12)])) rfl (hb hby at_41) _ ?_
    show Steps p.tables e below (T3.setTop (mkF m 44 #[.val (.int p1), .val (.int v2), .val (.int (F1 v2)), .val (.int v8), .val (.long v12), .second, .unset, .unset] [(.long (2147483647 : Int64)), (.long v12)])) _
    refine XS.lcmp X3.here hx rfl (hb hby at_44) rfl ?_
    exact kt
  have J19 : ∃ (v17 : Int32), v17 = (if (2147483647 : Int64) < v12 then (0 : Int32) else (1 : Int32)) ∧ ∀ t, Steps p.tables e below (T3.setTop (mkF m 53 #[.val (.int p1), .val (.int v2), .val (.int (F1 v2)), .val (.int v8), .val (.long v12), .second, .unset, .unset] [(.int v17)])) t → Steps p.tables e below (s₁.setTop (entryFrame m #[(.int p1)] maxLocals)) t := by
    by_cases hc13 : (2147483647 : Int64) < v12
    · have R15 : ∀ t, Steps p.tables e below (T3.setTop (mkF m 53 #[.val (.int p1), .val (.int v2), .val (.int (F1 v2)), .val (.int v8), .val (.long v12), .second, .unset, .unset] [(.int (0 : Int32))])) t → Steps p.tables e below (s₁.setTop (entryFrame m #[(.int p1)] maxLocals)) t := by
        intro t kt
        refine R14 _ ?_
        show Steps p.tables e below (T3.setTop (mkF m 45 #[.val (.int p1), .val (.int v2), .val (.int (F1 v2)), .val (.int v8), .val (.long v12), .second, .unset, .unset] [(.int (lcmpW v12 (2147483647 : Int64)))])) _
        refine XS.ifYes X3.here hx rfl (pc0 := 45) (pc' := 52) rfl (hb hby at_45) rfl ((if0 _ _).trans (tlt ((lw_gt _ _).mpr hc13)).2.2.1) (by decide) (by decide) ?_
        show Steps p.tables e below (T3.setTop (mkF m 52 #[.val (.int p1), .val (.int v2), .val (.int (F1 v2)), .val (.int v8), .val (.long v12), .second, .unset, .unset] [])) _
        refine XS.iconst X3.here hx rfl (hb hby at_52) ?_
        exact kt
      exact ⟨(0 : Int32), (by rw [if_pos hc13]), R15⟩
    · have R16 : ∀ t, Steps p.tables e below (T3.setTop (mkF m 53 #[.val (.int p1), .val (.int v2), .val (.int (F1 v2)), .val (.int v8), .val (.long v12), .second, .unset, .unset] [(.int (1 : Int32))])) t → Steps p.tables e below (s₁.setTop (entryFrame m #[(.int p1)] maxLocals)) t := by
        intro t kt
        refine R14 _ ?_
        show Steps p.tables e below (T3.setTop (mkF m 45 #[.val (.int p1), .val (.int v2), .val (.int (F1 v2)), .val (.int v8), .val (.long v12), .second, .unset, .unset] [(.int (lcmpW v12 (2147483647 : Int64)))])) _
        refine XS.ifNo X3.here hx rfl (hb hby at_45) rfl ((if0 _ _).trans (flt (fun q => hc13 ((lw_gt _ _).mp q))).2.2.1) ?_
        show Steps p.tables e below (T3.setTop (mkF m 48 #[.val (.int p1), .val (.int v2), .val (.int (F1 v2)), .val (.int v8), .val (.long v12), .second, .unset, .unset] [])) _
        refine XS.iconst X3.here hx rfl (hb hby at_48) ?_
        show Steps p.tables e below (T3.setTop (mkF m 49 #[.val (.int p1), .val (.int v2), .val (.int (F1 v2)), .val (.int v8), .val (.long v12), .second, .unset, .unset] [(.int (1 : Int32))])) _
        refine XS.goto X3.here hx rfl (pc0 := 49) (pc' := 53) rfl (hb hby at_49) (by decide) (by decide) ?_
        exact kt
      exact ⟨(1 : Int32), (by rw [if_neg hc13]), R16⟩
  obtain ⟨v17, hv17, R18⟩ := J19
  have R21 : ∀ t, Steps p.tables e below (T3.setTop (mkF m 65 #[.val (.int p1), .val (.int v2), .val (.int (F1 v2)), .val (.int v8), .val (.long v12), .second, .val (.int v17), .unset] [(.int (lcmpW (v12 + (12 : Int64)) (2147483647 : Int64)))])) t → Steps p.tables e below (s₁.setTop (entryFrame m #[(.int p1)] maxLocals)) t := by
    intro t kt
    refine R18 _ ?_
    show Steps p.tables e below (T3.setTop (mkF m 53 #[.val (.int p1), .val (.int v2), .val (.int (F1 v2)), .val (.int v8), .val (.long v12), .second, .unset, .unset] [(.int v17)])) _
    refine XS.istore X3.here hx rfl (hb hby at_53) rfl (l' := #[.val (.int p1), .val (.int v2), .val (.int (F1 v2)), .val (.int v8), .val (.long v12), .second, .val (.int v17), .unset]) rfl ?_
    show Steps p.tables e below (T3.setTop (mkF m 55 #[.val (.int p1), .val (.int v2), .val (.int (F1 v2)), .val (.int v8), .val (.long v12), .second, .val (.int v17), .unset] [])) _
    refine XS.lload X3.here hx rfl (hb hby at_55) rfl ?_
    show Steps p.tables e below (T3.setTop (mkF m 57 #[.val (.int p1), .val (.int v2), .val (.int (F1 v2)), .val (.int v8), .val (.long v12), .second, .val (.int v17), .unset] [(.long v12)])) _
    refine X3.ldc2Long hx hown (mvT hZ (hw _ (List.mem_of_getElem? (i := 10) rfl))) (g := (mkF m 57 #[.val (.int p1), .val (.int v2), .val (.int (F1 v2)), .val (.int v8), .val (.long v12), .second, .val (.int v17), .unset] [(.long v12)])) rfl (hb hby at_57) _ ?_
    show Steps p.tables e below (T3.setTop (mkF m 60 #[.val (.int p1), .val (.int v2), .val (.int (F1 v2)), .val (.int v8), .val (.long v12), .second, .val (.int v17), .unset] [(.long (12 : Int64)), (.long v12)])) _
    refine XS.ladd X3.here hx rfl (hb hby at_60) rfl ?_
    show Steps p.tables e below (T3.setTop (mkF m 61 #[.val (.int p1), .val (.int v2), .val (.int (F1 v2)), .val (.int v8), .val (.long v12), .second, .val (.int v17), .unset] [(.long (v12 + (12 : Int64)))])) _
    refine X3.ldc2Long hx hown (mvT hZ (hw _ (List.mem_of_getElem? (i := 11) rfl))) (g := (mkF m 61 #[.val (.int p1), .val (.int v2), .val (.int (F1 v2)), .val (.int v8), .val (.long v12), .second, .val (.int v17), .unset] [(.long (v12 + (12 : Int64)))])) rfl (hb hby at_61) _ ?_
    show Steps p.tables e below (T3.setTop (mkF m 64 #[.val (.int p1), .val (.int v2), .val (.int (F1 v2)), .val (.int v8), .val (.long v12), .second, .val (.int v17), .unset] [(.long (2147483647 : Int64)), (.long (v12 + (12 : Int64)))])) _
    refine XS.lcmp X3.here hx rfl (hb hby at_64) rfl ?_
    exact kt
  have J26 : ∃ (v24 : Int32), v24 = (if (2147483647 : Int64) < (v12 + (12 : Int64)) then (1 : Int32) else (0 : Int32)) ∧ ∀ t, Steps p.tables e below (T3.setTop (mkF m 73 #[.val (.int p1), .val (.int v2), .val (.int (F1 v2)), .val (.int v8), .val (.long v12), .second, .val (.int v17), .unset] [(.int v24)])) t → Steps p.tables e below (s₁.setTop (entryFrame m #[(.int p1)] maxLocals)) t := by
    by_cases hc20 : (2147483647 : Int64) < (v12 + (12 : Int64))
    · have R22 : ∀ t, Steps p.tables e below (T3.setTop (mkF m 73 #[.val (.int p1), .val (.int v2), .val (.int (F1 v2)), .val (.int v8), .val (.long v12), .second, .val (.int v17), .unset] [(.int (1 : Int32))])) t → Steps p.tables e below (s₁.setTop (entryFrame m #[(.int p1)] maxLocals)) t := by
        intro t kt
        refine R21 _ ?_
        show Steps p.tables e below (T3.setTop (mkF m 65 #[.val (.int p1), .val (.int v2), .val (.int (F1 v2)), .val (.int v8), .val (.long v12), .second, .val (.int v17), .unset] [(.int (lcmpW (v12 + (12 : Int64)) (2147483647 : Int64)))])) _
        refine XS.ifNo X3.here hx rfl (hb hby at_65) rfl ((if0 _ _).trans (tlt ((lw_gt _ _).mpr hc20)).2.2.2) ?_
        show Steps p.tables e below (T3.setTop (mkF m 68 #[.val (.int p1), .val (.int v2), .val (.int (F1 v2)), .val (.int v8), .val (.long v12), .second, .val (.int v17), .unset] [])) _
        refine XS.iconst X3.here hx rfl (hb hby at_68) ?_
        show Steps p.tables e below (T3.setTop (mkF m 69 #[.val (.int p1), .val (.int v2), .val (.int (F1 v2)), .val (.int v8), .val (.long v12), .second, .val (.int v17), .unset] [(.int (1 : Int32))])) _
        refine XS.goto X3.here hx rfl (pc0 := 69) (pc' := 73) rfl (hb hby at_69) (by decide) (by decide) ?_
        exact kt
      exact ⟨(1 : Int32), (by rw [if_pos hc20]), R22⟩
    · have R23 : ∀ t, Steps p.tables e below (T3.setTop (mkF m 73 #[.val (.int p1), .val (.int v2), .val (.int (F1 v2)), .val (.int v8), .val (.long v12), .second, .val (.int v17), .unset] [(.int (0 : Int32))])) t → Steps p.tables e below (s₁.setTop (entryFrame m #[(.int p1)] maxLocals)) t := by
        intro t kt
        refine R21 _ ?_
        show Steps p.tables e below (T3.setTop (mkF m 65 #[.val (.int p1), .val (.int v2), .val (.int (F1 v2)), .val (.int v8), .val (.long v12), .second, .val (.int v17), .unset] [(.int (lcmpW (v12 + (12 : Int64)) (2147483647 : Int64)))])) _
        refine XS.ifYes X3.here hx rfl (pc0 := 65) (pc' := 72) rfl (hb hby at_65) rfl ((if0 _ _).trans (flt (fun q => hc20 ((lw_gt _ _).mp q))).2.2.2) (by decide) (by decide) ?_
        show Steps p.tables e below (T3.setTop (mkF m 72 #[.val (.int p1), .val (.int v2), .val (.int (F1 v2)), .val (.int v8), .val (.long v12), .second, .val (.int v17), .unset] [])) _
        refine XS.iconst X3.here hx rfl (hb hby at_72) ?_
        exact kt
      exact ⟨(0 : Int32), (by rw [if_neg hc20]), R23⟩
  obtain ⟨v24, hv24, R25⟩ := J26
  have R28 : ∀ t, Steps p.tables e below (T3.setTop (mkF m 77 #[.val (.int p1), .val (.int v2), .val (.int (F1 v2)), .val (.int v8), .val (.long v12), .second, .val (.int v17), .val (.int v24)] [(.int v8), (.int (F1 v2))])) t → Steps p.tables e below (s₁.setTop (entryFrame m #[(.int p1)] maxLocals)) t := by
    intro t kt
    refine R25 _ ?_
    show Steps p.tables e below (T3.setTop (mkF m 73 #[.val (.int p1), .val (.int v2), .val (.int (F1 v2)), .val (.int v8), .val (.long v12), .second, .val (.int v17), .unset] [(.int v24)])) _
    refine XS.istore X3.here hx rfl (hb hby at_73) rfl (l' := #[.val (.int p1), .val (.int v2), .val (.int (F1 v2)), .val (.int v8), .val (.long v12), .second, .val (.int v17), .val (.int v24)]) rfl ?_
    show Steps p.tables e below (T3.setTop (mkF m 75 #[.val (.int p1), .val (.int v2), .val (.int (F1 v2)), .val (.int v8), .val (.long v12), .second, .val (.int v17), .val (.int v24)] [])) _
    refine XS.iloadN X3.here hx rfl (hb hby at_75) rfl ?_
    show Steps p.tables e below (T3.setTop (mkF m 76 #[.val (.int p1), .val (.int v2), .val (.int (F1 v2)), .val (.int v8), .val (.long v12), .second, .val (.int v17), .val (.int v24)] [(.int (F1 v2))])) _
    refine XS.iloadN X3.here hx rfl (hb hby at_76) rfl ?_
    exact kt
  have J39 : ∃ (v37 : Int32), v37 = (if (F1 v2) = v8 then (if v17 = (0 : Int32) then (0 : Int32) else (if v24 = (0 : Int32) then (0 : Int32) else (1 : Int32))) else (0 : Int32)) ∧ ∀ t, Steps p.tables e below (T3.setTop (mkF m 95 #[.val (.int p1), .val (.int v2), .val (.int (F1 v2)), .val (.int v8), .val (.long v12), .second, .val (.int v17), .val (.int v24)] [(.int v37)])) t → Steps p.tables e below (s₁.setTop (entryFrame m #[(.int p1)] maxLocals)) t := by
    by_cases hc27 : (F1 v2) = v8
    · have R30 : ∀ t, Steps p.tables e below (T3.setTop (mkF m 82 #[.val (.int p1), .val (.int v2), .val (.int (F1 v2)), .val (.int v8), .val (.long v12), .second, .val (.int v17), .val (.int v24)] [(.int v17)])) t → Steps p.tables e below (s₁.setTop (entryFrame m #[(.int p1)] maxLocals)) t := by
        intro t kt
        refine R28 _ ?_
        show Steps p.tables e below (T3.setTop (mkF m 77 #[.val (.int p1), .val (.int v2), .val (.int (F1 v2)), .val (.int v8), .val (.long v12), .second, .val (.int v17), .val (.int v24)] [(.int v8), (.int (F1 v2))])) _
        refine XS.icmpNo X3.here hx rfl (hb hby at_77) rfl (teq hc27).2 ?_
        show Steps p.tables e below (T3.setTop (mkF m 80 #[.val (.int p1), .val (.int v2), .val (.int (F1 v2)), .val (.int v8), .val (.long v12), .second, .val (.int v17), .val (.int v24)] [])) _
        refine XS.iload X3.here hx rfl (hb hby at_80) rfl ?_
        exact kt
      by_cases hc29 : v17 = (0 : Int32)
      · have R31 : ∀ t, Steps p.tables e below (T3.setTop (mkF m 95 #[.val (.int p1), .val (.int v2), .val (.int (F1 v2)), .val (.int v8), .val (.long v12), .second, .val (.int v17), .val (.int v24)] [(.int (0 : Int32))])) t → Steps p.tables e below (s₁.setTop (entryFrame m #[(.int p1)] maxLocals)) t := by
          intro t kt
          refine R30 _ ?_
          show Steps p.tables e below (T3.setTop (mkF m 82 #[.val (.int p1), .val (.int v2), .val (.int (F1 v2)), .val (.int v8), .val (.long v12), .second, .val (.int v17), .val (.int v24)] [(.int v17)])) _
          refine XS.ifYes X3.here hx rfl (pc0 := 82) (pc' := 94) rfl (hb hby at_82) rfl ((if0 _ _).trans (teq hc29).1) (by decide) (by decide) ?_
          show Steps p.tables e below (T3.setTop (mkF m 94 #[.val (.int p1), .val (.int v2), .val (.int (F1 v2)), .val (.int v8), .val (.long v12), .second, .val (.int v17), .val (.int v24)] [])) _
          refine XS.iconst X3.here hx rfl (hb hby at_94) ?_
          exact kt
        exact ⟨(0 : Int32), (by rw [if_pos hc27, if_pos hc29]), R31⟩
      · have R33 : ∀ t, Steps p.tables e below (T3.setTop (mkF m 87 #[.val (.int p1), .val (.int v2), .val (.int (F1 v2)), .val (.int v8), .val (.long v12), .second, .val (.int v17), .val (.int v24)] [(.int v24)])) t → Steps p.tables e below (s₁.setTop (entryFrame m #[(.int p1)] maxLocals)) t := by
          intro t kt
          refine R30 _ ?_
          show Steps p.tables e below (T3.setTop (mkF m 82 #[.val (.int p1), .val (.int v2), .val (.int (F1 v2)), .val (.int v8), .val (.long v12), .second, .val (.int v17), .val (.int v24)] [(.int v17)])) _
          refine XS.ifNo X3.here hx rfl (hb hby at_82) rfl ((if0 _ _).trans (feq hc29).1) ?_
          show Steps p.tables e below (T3.setTop (mkF m 85 #[.val (.int p1), .val (.int v2), .val (.int (F1 v2)), .val (.int v8), .val (.long v12), .second, .val (.int v17), .val (.int v24)] [])) _
          refine XS.iload X3.here hx rfl (hb hby at_85) rfl ?_
          exact kt
        by_cases hc32 : v24 = (0 : Int32)
        · have R34 : ∀ t, Steps p.tables e below (T3.setTop (mkF m 95 #[.val (.int p1), .val (.int v2), .val (.int (F1 v2)), .val (.int v8), .val (.long v12), .second, .val (.int v17), .val (.int v24)] [(.int (0 : Int32))])) t → Steps p.tables e below (s₁.setTop (entryFrame m #[(.int p1)] maxLocals)) t := by
            intro t kt
            refine R33 _ ?_
            show Steps p.tables e below (T3.setTop (mkF m 87 #[.val (.int p1), .val (.int v2), .val (.int (F1 v2)), .val (.int v8), .val (.long v12), .second, .val (.int v17), .val (.int v24)] [(.int v24)])) _
            refine XS.ifYes X3.here hx rfl (pc0 := 87) (pc' := 94) rfl (hb hby at_87) rfl ((if0 _ _).trans (teq hc32).1) (by decide) (by decide) ?_
            show Steps p.tables e below (T3.setTop (mkF m 94 #[.val (.int p1), .val (.int v2), .val (.int (F1 v2)), .val (.int v8), .val (.long v12), .second, .val (.int v17), .val (.int v24)] [])) _
            refine XS.iconst X3.here hx rfl (hb hby at_94) ?_
            exact kt
          exact ⟨(0 : Int32), (by rw [if_pos hc27, if_neg hc29, if_pos hc32]), R34⟩
        · have R35 : ∀ t, Steps p.tables e below (T3.setTop (mkF m 95 #[.val (.int p1), .val (.int v2), .val (.int (F1 v2)), .val (.int v8), .val (.long v12), .second, .val (.int v17), .val (.int v24)] [(.int (1 : Int32))])) t → Steps p.tables e below (s₁.setTop (entryFrame m #[(.int p1)] maxLocals)) t := by
            intro t kt
            refine R33 _ ?_
            show Steps p.tables e below (T3.setTop (mkF m 87 #[.val (.int p1), .val (.int v2), .val (.int (F1 v2)), .val (.int v8), .val (.long v12), .second, .val (.int v17), .val (.int v24)] [(.int v24)])) _
            refine XS.ifNo X3.here hx rfl (hb hby at_87) rfl ((if0 _ _).trans (feq hc32).1) ?_
            show Steps p.tables e below (T3.setTop (mkF m 90 #[.val (.int p1), .val (.int v2), .val (.int (F1 v2)), .val (.int v8), .val (.long v12), .second, .val (.int v17), .val (.int v24)] [])) _
            refine XS.iconst X3.here hx rfl (hb hby at_90) ?_
            show Steps p.tables e below (T3.setTop (mkF m 91 #[.val (.int p1), .val (.int v2), .val (.int (F1 v2)), .val (.int v8), .val (.long v12), .second, .val (.int v17), .val (.int v24)] [(.int (1 : Int32))])) _
            refine XS.goto X3.here hx rfl (pc0 := 91) (pc' := 95) rfl (hb hby at_91) (by decide) (by decide) ?_
            exact kt
          exact ⟨(1 : Int32), (by rw [if_pos hc27, if_neg hc29, if_neg hc32]), R35⟩
    · have R36 : ∀ t, Steps p.tables e below (T3.setTop (mkF m 95 #[.val (.int p1), .val (.int v2), .val (.int (F1 v2)), .val (.int v8), .val (.long v12), .second, .val (.int v17), .val (.int v24)] [(.int (0 : Int32))])) t → Steps p.tables e below (s₁.setTop (entryFrame m #[(.int p1)] maxLocals)) t := by
        intro t kt
        refine R28 _ ?_
        show Steps p.tables e below (T3.setTop (mkF m 77 #[.val (.int p1), .val (.int v2), .val (.int (F1 v2)), .val (.int v8), .val (.long v12), .second, .val (.int v17), .val (.int v24)] [(.int v8), (.int (F1 v2))])) _
        refine XS.icmpYes X3.here hx rfl (pc0 := 77) (pc' := 94) rfl (hb hby at_77) rfl (feq hc27).2 (by decide) (by decide) ?_
        show Steps p.tables e below (T3.setTop (mkF m 94 #[.val (.int p1), .val (.int v2), .val (.int (F1 v2)), .val (.int v8), .val (.long v12), .second, .val (.int v17), .val (.int v24)] [])) _
        refine XS.iconst X3.here hx rfl (hb hby at_94) ?_
        exact kt
      exact ⟨(0 : Int32), (by rw [if_neg hc27]), R36⟩
  obtain ⟨v37, hv37, R38⟩ := J39
  obtain ⟨fs, hr, hrun, hended, hW, hsame⟩ := X3.leave (v := some (.int (nar .boolean v37))) (fun h => by rw [Bd.returns] at h; cases h)
  refine ⟨_, _, R38 _ ?_, hrun, hended, _, _, rfl, ?_, ⟨_, rfl⟩, hW, hsame.mono (by decide) (by decide)⟩
  · show Steps p.tables e below (T3.setTop (mkF m 95 #[.val (.int p1), .val (.int v2), .val (.int (F1 v2)), .val (.int v8), .val (.long v12), .second, .val (.int v17), .val (.int v24)] [(.int v37)])) _
    exact retN X3 hx (t := .boolean) Bd.returns (by simp) (hb hby at_95) hr
  · show Q0 Z p1 w h0 n0 _ T3.heap _
    rw [e3]
    refine ⟨?_, rfl, rfl⟩
    subst hv2 hv8 hv12 hv17 hv24 hv37; rfl
def own_G (v2 : Int32) : Int32 :=
  let v8 : Int32 := (if (7 : Int32) < v2 then (178956969 : Int32) else (178956970 : Int32))
  let v12 : Int64 := ((((F1 v2).toInt64) * (12 : Int64)) + (v2.toInt64))
  let v17 : Int32 := (if (2147483647 : Int64) < v12 then (0 : Int32) else (1 : Int32))
  let v24 : Int32 := (if (2147483647 : Int64) < (v12 + (12 : Int64)) then (1 : Int32) else (0 : Int32))
  let v37 : Int32 := (if (F1 v2) = v8 then (if v17 = (0 : Int32) then (0 : Int32) else (if v24 = (0 : Int32) then (0 : Int32) else (1 : Int32))) else (0 : Int32))
  (nar .boolean v37)
theorem own_enum (c : Int32) (lo : Int) (n : Nat) (h1 : lo ≤ c.toInt) (h2 : c.toInt < lo + n) : ∃ k : Fin n, c = Int32.ofInt (lo + k.val) :=
  ⟨⟨(c.toInt - lo).toNat, by omega⟩, by
    show c = Int32.ofInt (lo + ((c.toInt - lo).toNat : Int))
    rw [show lo + ((c.toInt - lo).toNat : Int) = c.toInt by omega, Int32.ofInt_toInt]⟩
theorem own_tail (m : Int32) (h1 : 0 ≤ m.toInt) (h2 : m.toInt < 12) : own_G m = 1 := by
  have a : ∀ k : Fin 12, own_G (Int32.ofInt (0 + k.val)) = 1 := by decide +kernel
  obtain ⟨k, rfl⟩ := own_enum m 0 12 (by omega) (by omega)
  exact a k
theorem own_plain (p1 : Int32) : F0 p1 = 1 := by
  have h := c_mask p1 2147483647 31 (by decide) (by decide)
  have n : 0 ≤ (p1 &&& (2147483647 : Int32)).toInt := by rw [h]; exact Int.emod_nonneg _ (by decide)
  have r := (c_irem (p1 &&& (2147483647 : Int32)) 12 12 rfl).1 n
  exact own_tail ((p1 &&& (2147483647 : Int32)) % (12 : Int32)) (by omega) (by omega)
theorem own_fin {Z : State} (p1 : Int32) (w : Addr) (h0 : Heap) (n0 : Nat) (h : Heap) (L : List Loc) {v : Option Value} (q : Q0 Z p1 w h0 n0 v h L) : v = some (.int (1 : Int32)) ∧ Fr n0 L := by
  obtain ⟨rfl, rfl, rfl⟩ := q
  exact ⟨by rw [own_plain], Fr.nil _⟩
set_option maxRecDepth 65536 in
set_option maxHeartbeats 40000000 in
theorem comes_1 {Post : Tables → Env → Array Value → State → Outcome → State → Prop} (hpost : ∀ tb e args s v u, (limb_1_1.after args s (.returned v) u = true ∧ limb_1_2.after args s (.returned v) u = true ∧ True) → FrameEnd s (.returned v) u (Jvm.fieldLocs frame_1_writes args s ++ Jvm.arrayLocs frame_1_arrays args s ++ Jvm.staticLocs frame_1_statics s) 0 0 → Post tb e args s (.returned v) u) :
    ArmFor flags0 classFile x code maxLocals ret World_1 tables_1 room_1 Calls_1 rest_1 Pre_1 Post := by
  intro l hfl _ _ p e ha hc hk s m args below hf hA hF happ hP
  obtain ⟨hcalls, hrest, hpre⟩ := hP
  obtain ⟨-, -, -, hnamed, -, -, -, hat⟩ := (Spec.applies_iff hf).mp happ
  obtain ⟨hg, hn⟩ := and_e (Cond.before_iff.mp (show (Jvm.Cond.and given_1 narrow_1).before args s = true from hpre))
  obtain ⟨ga0, gb0⟩ := and_e hg
  obtain ⟨w0, rfl⟩ : ∃ w0 : Value, args = #[w0] := by
    have hs : args.size = 1 := by simpa [Cond.value, given_1] using ga0
    obtain ⟨L⟩ := args
    match L, hs with
    | [w0], _ => exact ⟨w0, rfl⟩
  have hw := fun d (hd : d ∈ tables_1) => atoms_spec (ws := Jvm.Cond.code x code maxLocals ret :: tables_1) hat d (List.mem_cons_of_mem _ hd)
  have hfit : Fit s := fun {y c} hc i hi => by
    obtain ⟨ha, rfl⟩ := Array.getElem?_eq_some_iff.mp hc
    have q := List.all_eq_true.mp ((Array.all_eq_true_iff_forall_mem.mp hF) _ (Array.getElem_mem ha)) i (List.mem_range.mpr hi)
    simpa [Array.getElem?_eq_getElem hi] using q
  obtain ⟨i0, ei0⟩ := is_v gb0
  obtain rfl : w0 = (.int i0) := Option.some.inj ei0
  obtain ⟨hn1, hn2⟩ := and_e hn
  obtain ⟨wL, evL⟩ := exa_v hn1
  have SL : Sta s s.heap "com/example/vestwright/vestwright/core/YearsAndMonths" "LONGEST" "Lcom/example/vestwright/vestwright/core/YearsAndMonths;" (.ref wL) := Sta.start evL (Or.inr ⟨hw _ (List.mem_of_getElem? (i := 3) rfl), hw _ (List.mem_of_getElem? (i := 6) rfl)⟩)
  have evF := Cond.eq_int (beq_iff_eq.mpr hn2) rfl
  have FL : Fld s s.heap wL "com/example/vestwright/vestwright/core/YearsAndMonths" "totalMonths" "I" (.int (2147483647 : Int32)) := Fld.start (by rw [← fld_at evL]; exact evF)
  obtain ⟨n, o, h1, h2, h3, v, L, rfl, hQ, hq⟩ := rm0 l s _ hw tables_1 i0 wL s.heap s.heap.size (Nat.le_refl _) SL FL p e ha hc hk s m _ below hf ((Spec.applies_iff_loose hf).mp happ).1 ⟨rfl, State.Warmed39.refl s, rfl⟩ trivial
  obtain ⟨rfl, N⟩ := own_fin i0 wL _ _ _ _ hQ
  refine ⟨n, _, h1, h2, h3, hpost _ _ _ _ _ _ ⟨Cond.after_iff.mpr rfl, Cond.after_iff.mpr (eq_i res_at (Term.int_eval (1)) rfl), trivial⟩ ⟨hq.1, hq.2.1, (hq.2.2.sift fun y hy => Or.inr (N y hy)).mono (by decide) (by decide)⟩⟩
theorem main_1_1 : Claimed_1_1 := comes_1 fun _ _ _ _ _ _ h hF => ⟨h.1, hF⟩
theorem main_1_2 : Claimed_1_2 := comes_1 fun _ _ _ _ _ _ h hF => ⟨h.2.1, hF⟩
end Jvm.Pilot.@@N@@
namespace Jvm.Pilot.@@N@@
open Jvm Jvm.ClassFile Sem Op Lib Jvm.Free Jvm.Stand Jvm.Pilot.@@N@@.Jvm.D
/-! MADE BY PROGRAM (witnessworld.py) out of the Statement's table words and the real class files: 10 classes; the members and pool entries that the words name. The judged class is class 1, her method 1. -/
namespace start1
open Jvm.ClassFile
def u (s : String) : CpInfo := .utf8 (stringToUtf16 s)
/-- a pool by its gaps: so many unusable entries, then the entry; so many at the end -/
def gap : Nat → List CpInfo → List CpInfo
  | 0, r => r
  | n + 1, r => .unusable :: gap n r
def poolList (es : List (Nat × CpInfo)) (last : Nat) : List CpInfo := es.foldr (fun e r => gap e.1 (e.2 :: r)) (gap last [])
def pool (es : List (Nat × CpInfo)) (last : Nat) : Array CpInfo := ⟨poolList es last⟩
def fileOf (pool : Array CpInfo) (this : Nat) (attrs : Array Attribute := #[]) (ms : Array MethodInfo := #[]) (fl : Nat := 33) (sup : Nat := 0) (ifs : Array Nat := #[]) (fds : Array FieldInfo := #[]) : ClassFile where
  minorVersion := 0
  majorVersion := 65
  constantPool := pool
  accessFlags := fl
  thisClass := this
  superClass := sup
  interfaces := ifs
  fields := fds
  methods := ms
  attributes := attrs
def plain (name : String) (sup : Option ClassId) : Class where
  name := name
  kind := .ordinary
  loader := none
  accessFlags := 33
  super := sup
  interfaces := #[]
  cf := none
  fields := #[]
  methods := #[]
  instanceTypes := #[]
  staticTypes := #[]
  resolved := #[]
  callSites := []
  init := .initialized
  statics := none
  mirror := none

def pool0 : Array CpInfo := pool [(5, u "<init>"), (0, u "()V"), (1, .class_ 10), (1, u "java/lang/Object")] 113

def k0m0 : Method := { name := "<init>", desc := "()V", sig := { parameters := [], returnType := none }, accessFlags := 1, code := none }
/-- java/lang/Object -/
def k0 : Class := { plain "java/lang/Object" none with
  accessFlags := 33
  interfaces := #[]
  cf := some (fileOf pool0 8 #[] #[{ accessFlags := 1, nameIndex := 5, descriptorIndex := 6, attributes := #[] }] 33 0 #[] #[])
  fields := #[]
  methods := #[k0m0]
  instanceTypes := #[]
  staticTypes := #[]
  resolved := Array.replicate 124 none
  statics := none }

def pool1 : Array CpInfo := pool [(2, .class_ 4), (1, u "java/lang/Object"), (0, u "<init>"), (0, u "()V"), (0, .integer 2147483647), (0, .methodref 9 10), (0, .class_ 11), (0, .nameAndType 12 13), (0, u "com/example/vestwright/vestwright/core/YearsAndMonths"), (0, u "maxYears"), (0, u "(I)I"), (0, .integer 178956970), (0, .integer 178956969), (0, .long 12), (1, .long 2147483647), (1, .class_ 21), (0, u "com/example/vestwright/vestwright/core/YearsAndMonthsMaxYearsPinLaw"), (2, u "law"), (0, u "(I)Z")] 3

def k1m0 : Method := { name := "<init>", desc := "()V", sig := { parameters := [], returnType := none }, accessFlags := 1, code := none }
def k1c1 : Code := { maxStack := 4, maxLocals := 8, code := code, exceptionTable := #[], attributes := #[] }
def k1m1 : Method := { name := "law", desc := "(I)Z", sig := { parameters := [.int], returnType := some .boolean }, accessFlags := 9, code := some k1c1 }
/-- com/example/vestwright/vestwright/core/YearsAndMonthsMaxYearsPinLaw -/
def k1 : Class := { plain "com/example/vestwright/vestwright/core/YearsAndMonthsMaxYearsPinLaw" (some 0) with
  accessFlags := 49
  interfaces := #[]
  cf := some (fileOf pool1 20 #[] #[{ accessFlags := 1, nameIndex := 5, descriptorIndex := 6, attributes := #[] }, { accessFlags := 9, nameIndex := 24, descriptorIndex := 25, attributes := #[] }] 49 2 #[] #[])
  fields := #[]
  methods := #[k1m0, k1m1]
  instanceTypes := #[]
  staticTypes := #[]
  resolved := Array.replicate 29 none
  statics := none }

def pool2 : Array CpInfo := pool [(1, .class_ 2), (0, u "java/lang/Comparable"), (0, .class_ 4), (0, u "java/lang/Object")] 7

/-- java/lang/Comparable -/
def k2 : Class := { plain "java/lang/Comparable" (some 0) with
  accessFlags := 1537
  interfaces := #[]
  cf := some (fileOf pool2 1 #[] #[] 1537 3 #[] #[])
  fields := #[]
  methods := #[]
  instanceTypes := #[]
  staticTypes := #[]
  resolved := Array.replicate 12 none
  statics := none }

def pool3 : Array CpInfo := pool [(2, .class_ 4), (1, u "java/lang/Object"), (2, .fieldref 8 9), (0, .class_ 10), (0, .nameAndType 11 12), (0, u "com/example/vestwright/vestwright/core/YearsAndMonths"), (0, u "totalMonths"), (0, u "I"), (11, u "maxYears"), (0, u "(I)I"), (6, .fieldref 8 33), (0, .nameAndType 34 35), (0, u "LONGEST"), (0, u "Lcom/example/vestwright/vestwright/core/YearsAndMonths;"), (100, u "ZERO"), (1, .class_ 139), (0, u "java/lang/Comparable"), (0, u "MONTHS_PER_YEAR")] 52

def k3c0 : Code := { maxStack := 2, maxLocals := 1, code := prog_21_method_3_code, exceptionTable := #[], attributes := #[] }
def k3m0 : Method := { name := "maxYears", desc := "(I)I", sig := { parameters := [.int], returnType := some .int }, accessFlags := 9, code := some k3c0 }
/-- com/example/vestwright/vestwright/core/YearsAndMonths -/
def k3 : Class := { plain "com/example/vestwright/vestwright/core/YearsAndMonths" (some 0) with
  accessFlags := 33
  interfaces := #[2]
  cf := some (fileOf pool3 8 #[] #[{ accessFlags := 9, nameIndex := 24, descriptorIndex := 25, attributes := #[] }] 33 2 #[138] #[{ accessFlags := 25, nameIndex := 136, descriptorIndex := 35, attributes := #[] }, { accessFlags := 25, nameIndex := 140, descriptorIndex := 12, attributes := #[] }, { accessFlags := 26, nameIndex := 34, descriptorIndex := 35, attributes := #[] }, { accessFlags := 18, nameIndex := 11, descriptorIndex := 12, attributes := #[] }])
  fields := #[{ name := "ZERO", type := (.object "com/example/vestwright/vestwright/core/YearsAndMonths"), accessFlags := 25, slot := 0, constantValue := 0 }, { name := "MONTHS_PER_YEAR", type := .int, accessFlags := 25, slot := 1, constantValue := 0 }, { name := "LONGEST", type := (.object "com/example/vestwright/vestwright/core/YearsAndMonths"), accessFlags := 26, slot := 2, constantValue := 0 }, { name := "totalMonths", type := .int, accessFlags := 18, slot := 0, constantValue := 0 }]
  methods := #[k3m0]
  instanceTypes := #[.int]
  staticTypes := #[(.object "com/example/vestwright/vestwright/core/YearsAndMonths"), .int, (.object "com/example/vestwright/vestwright/core/YearsAndMonths")]
  resolved := Array.replicate 193 none
  statics := some 0 }

def pool4 : Array CpInfo := pool [(1, u "java/lang/Cloneable"), (0, .class_ 1), (0, u "java/lang/Object"), (0, .class_ 3)] 3

/-- java/lang/Cloneable -/
def k4 : Class := { plain "java/lang/Cloneable" (some 0) with
  accessFlags := 1537
  interfaces := #[]
  cf := some (fileOf pool4 2 #[] #[] 1537 4 #[] #[])
  fields := #[]
  methods := #[]
  instanceTypes := #[]
  staticTypes := #[]
  resolved := Array.replicate 8 none
  statics := none }

def pool5 : Array CpInfo := pool [(1, u "java/io/Serializable"), (0, .class_ 1), (0, u "java/lang/Object"), (0, .class_ 3)] 3

/-- java/io/Serializable -/
def k5 : Class := { plain "java/io/Serializable" (some 0) with
  accessFlags := 1537
  interfaces := #[]
  cf := some (fileOf pool5 2 #[] #[] 1537 4 #[] #[])
  fields := #[]
  methods := #[]
  instanceTypes := #[]
  staticTypes := #[]
  resolved := Array.replicate 8 none
  statics := none }

/-- the primitive byte -/
def k6 : Class := { plain "byte" none with kind := .primitive 'B', accessFlags := 0x411 }
/-- [B -/
def k7 : Class := { plain "[B" (some 0) with kind := .array 6 .byte, interfaces := #[4, 5], accessFlags := 1041 }

/-- the primitive int -/
def k8 : Class := { plain "int" none with kind := .primitive 'I', accessFlags := 0x411 }
/-- [I -/
def k9 : Class := { plain "[I" (some 0) with kind := .array 8 .int, interfaces := #[4, 5], accessFlags := 1041 }

def heap : Heap := #[{ cls := 3, slots := #[.null, .int 0, .ref 1], vm := .statics 3 },
  { cls := 3, slots := #[.int 2147483647], vm := .none }]
def classes : Array Class := #[k0, k1, k2, k3, k4, k5, k6, k7, k8, k9]
def interned : List (Array UInt16 × Addr) := []
def slotsUsed : Nat := 4
def theMethod : MethodId := ⟨1, 1⟩
def args0 : Array Value := #[.int 5]
def aboutOver (below : List Frame) : State where
  vm := { classes := classes, interned := interned.toArray }
  heap := heap
  slotsUsed := slotsUsed
  threads := #[{ frames := .invoking theMethod args0 :: below }]
def below0 : List Frame := [.native { method := ⟨0, 0⟩, args := #[] }]
def about1 : State := aboutOver below0
def p0 : Program := .bare "" "" ""
def e0 : Env := launch0.env 0 0 0
theorem w_frames : about1.frames = Frame.invoking theMethod args0 :: below0 := rfl
set_option maxRecDepth 65536 in
theorem w_args : argsFit about1.vm theMethod args0 = true := by decide +kernel
set_option maxRecDepth 65536 in
theorem w_heap : heapFits about1 = true := by decide +kernel
set_option maxRecDepth 65536 in
theorem w_runnable : about1.curStatus? = some .runnable := by decide +kernel
set_option maxRecDepth 65536 in
theorem w_alone : about1.alone = true := by decide +kernel
set_option maxRecDepth 65536 in
theorem w_named : about1.methodNamed? x = some theMethod := by decide +kernel
set_option maxRecDepth 65536 in
theorem w_hears : about1.hears theMethod below0 = true := by decide +kernel
set_option maxRecDepth 65536 in
theorem w_ripe : about1.ripe theMethod args0 below0 = true := by decide +kernel
theorem w_running : about1.status = .running := rfl
set_option maxRecDepth 65536 in
theorem w_room : about1.hasRoom e0.platform room_1 = true :=
  launch0.hasRoom_least _ room_1 (by decide +kernel) (by decide +kernel) (by decide +kernel) (by decide +kernel) (by decide +kernel) (by decide +kernel)
theorem allAtoms_all (ts : List Jvm.Cond) (a : Array Jvm.Value) (st : Jvm.State) : (allAtoms ts).before a st = ts.all (fun c => c.before a st) := by
  induction ts with
  | nil => rfl
  | cons c t ih =>
    show (Jvm.Cond.and c (allAtoms t)).before a st = _
    rw [Jvm.Cond.before_and, ih, List.all_cons]
def words1 : List Jvm.Cond := Jvm.Cond.code x code maxLocals ret :: tables_1
/-- a 'code' word, met by the world's own term for the bytes: nothing is compared byte by byte -/
theorem code_word {y : MethodName} {bytes : ByteArray} {mx : Nat} {rt : Option FieldType} {a : Array Value} {s : State} {m : MethodId} {meth : Method} {c : Code} (h1 : s.methodNamed? y = some m) (h2 : s.vm.method? m = some meth) (h3 : meth.code = some c) (h4 : c.code = bytes)
    (h5 : (c.maxLocals == mx && c.exceptionTable.isEmpty && decide (c.maxStack ≤ mostOperands) && decide (meth.sig.returnType = rt) && !meth.locks && decide (parseMethodDescriptor y.desc = some meth.sig)) = true) : (Jvm.Cond.code y bytes mx rt).before a s = true := by
  simp only [Bool.and_eq_true, beq_iff_eq, Bool.not_eq_true', decide_eq_true_eq] at h5
  obtain ⟨⟨⟨⟨⟨g1, g2⟩, g3⟩, g4⟩, g5⟩, g6⟩ := h5
  simp [Cond.before, Cond.holds, Cond.value, h1, h2, h3, h4, g1, g2, g3, g4, g5, g6]
def isCode : Jvm.Cond → Bool
  | .code _ _ _ _ => true
  | _ => false
theorem all_split {L : List Jvm.Cond} {P : Jvm.Cond → Bool} (h1 : L.all (fun c => isCode c || P c) = true) (h2 : ∀ c ∈ L.filter isCode, P c = true) : L.all P = true := by
  refine List.all_eq_true.mpr fun c hc => ?_
  have h := List.all_eq_true.mp h1 c hc
  rcases Bool.eq_false_or_eq_true (isCode c) with hi | hi
  · exact h2 c (List.mem_filter.mpr ⟨hc, hi⟩)
  · simpa [hi] using h
set_option maxRecDepth 65536 in
theorem w_c0 : (Jvm.Cond.code x code maxLocals ret).before args0 about1 = true := code_word (m := ⟨1, 1⟩) (meth := k1m1) (c := k1c1) (by decide +kernel) rfl rfl rfl (by decide +kernel)
set_option maxRecDepth 65536 in
theorem w_c1 : (Jvm.Cond.code ({ cls := "com/example/vestwright/vestwright/core/YearsAndMonths", name := "maxYears", desc := "(I)I" } : Jvm.MethodName) prog_21_method_3_code (1 : Nat) (Option.some Jvm.ClassFile.FieldType.int)).before args0 about1 = true := code_word (m := ⟨3, 0⟩) (meth := k3m0) (c := k3c0) (by decide +kernel) rfl rfl rfl (by decide +kernel)
def codes1 : List Jvm.Cond := [Jvm.Cond.code x code maxLocals ret, Jvm.Cond.code ({ cls := "com/example/vestwright/vestwright/core/YearsAndMonths", name := "maxYears", desc := "(I)I" } : Jvm.MethodName) prog_21_method_3_code (1 : Nat) (Option.some Jvm.ClassFile.FieldType.int)]
set_option maxRecDepth 65536 in
theorem codes_eq : words1.filter isCode = codes1 := rfl
theorem w_codes : ∀ c ∈ words1.filter isCode, c.before args0 about1 = true := by
  rw [codes_eq]
  intro c hc
  simp only [codes1, List.mem_cons, List.not_mem_nil, or_false] at hc
  rcases hc with rfl | rfl
  · exact w_c0
  · exact w_c1
set_option maxRecDepth 65536 in
theorem w_t1 : words1.all (fun c => isCode c || c.before args0 about1) = true := by decide +kernel
theorem w_tables : (allAtoms (Jvm.Cond.code x code maxLocals ret :: tables_1)).before args0 about1 = true := by
  rw [allAtoms_all]
  show words1.all (fun c => c.before args0 about1) = true
  refine all_split ?_ w_codes
  rw [w_t1]
set_option maxRecDepth 65536 in
theorem w_case : (Jvm.Cond.and given_1 narrow_1).before args0 about1 = true := by decide +kernel
theorem w_applies : (headSpec (Jvm.Cond.code x code maxLocals ret :: tables_1) room_1).applies x e0.platform about1 = true :=
  (Spec.applies_iff w_frames).mpr ⟨w_running, w_runnable, w_alone, w_named, w_hears, w_ripe, w_room, w_tables⟩
theorem atStart : AtStart classFile x code maxLocals ret World_1 tables_1 room_1 Calls_1 rest_1 Pre_1 launch0 p0 e0 about1 theMethod args0 below0 :=
  ⟨lists_1, trivial, launch0.admits_env _ _ _, launch0.least_env, fairChoices_fair.cas, fairChoices_fair.clock, w_frames, w_args, w_heap, w_applies, trivial, trivial, w_case⟩
end start1
theorem witness_1 : WitnessClaimed_1 := ⟨start1.p0, start1.e0, start1.about1, start1.theMethod, start1.args0, start1.below0, start1.atStart⟩
end Jvm.Pilot.@@N@@
