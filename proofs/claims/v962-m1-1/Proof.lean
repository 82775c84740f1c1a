import JvmDerived
import JvmDerived.Pilot.@@N@@Statement
import JvmDerived.Pilot.@@N@@Code
set_option linter.unusedVariables false
set_option linter.unusedSimpArgs false
namespace Jvm.RoadKit
open Sem ClassFile Op Lib Jvm.Stand Jvm.Free Jvm.LawKit
section New
variable {p : Program} {l : Launch} {e : Env} {R : Room} {s : State} {m : MethodId} {args : Array Value} {below : List Frame} {meth : Method} {c : Code} {T : State} {locs : List Loc} {cells slots : Nat}
theorem retI (X : Stand p l e R s m args below meth c T locs cells slots) (hx : p.tables.exec = Jvm.exec) {pc : Nat} {Ls : Array Slot} {z : Int32} {rest : List Value} (hret : meth.sig.returnType = some .int) (hd : decode c.code pc = .ok (.ireturn, 1)) {fs : List Frame}
    (hl : ∀ (f : JFrame) (acts : List Action), f.method = m → f.locked = none → f.entered = [] → (doReturn e (T.setTop f) acts (some (.int z))).1 = T.setFrames fs) : Steps p.tables e below (T.setTop (mkF m pc Ls (.int z :: rest))) (T.setFrames fs) := by
  have hm' : T.vm.method? m = some meth := X.method'
  have hn : narrow .int (.int z) = .int z := rfl
  show Steps p.tables e below (T.setTop { method := m, pc := pc, locals := Ls, stack := _ :: rest, locked := none }) _
  jvm_step X.here [X.here.top, hx, hd, hm', hret, hn]
  first | (intro acts; rw [hl _ acts rfl rfl rfl]) | rw [hl _ _ rfl rfl rfl]
  exact Steps.refl _
end New
end Jvm.RoadKit
namespace Jvm.Pilot.@@N@@
open Jvm Jvm.ClassFile Sem Op Lib Jvm.Free Jvm.Stand Jvm.LawKit Jvm.RoadKit Bundle Jvm.Pilot.@@N@@.Jvm.D
theorem d1_0 : decode jdk_29_method_69_code 0 = .ok (.iload_n 0, 1) := by decide +kernel
theorem d1_1 : decode jdk_29_method_69_code 1 = .ok (.iload_n 1, 1) := by decide +kernel
theorem d1_2 : decode jdk_29_method_69_code 2 = .ok (.if_icmp .gt 7, 3) := by decide +kernel
theorem d1_5 : decode jdk_29_method_69_code 5 = .ok (.iload_n 0, 1) := by decide +kernel
theorem d1_6 : decode jdk_29_method_69_code 6 = .ok (.goto 4, 3) := by decide +kernel
theorem d1_9 : decode jdk_29_method_69_code 9 = .ok (.iload_n 1, 1) := by decide +kernel
theorem d1_10 : decode jdk_29_method_69_code 10 = .ok (.ireturn, 1) := by decide +kernel
theorem ef_1 (m : MethodId) (x0 : Int32) (x1 : Int32) : entryFrame m #[(.int x0), (.int x1)] 2 = mkF m 0 #[.val (.int x0), .val (.int x1)] [] := by first | (simp [entryFrame, mkF, argsToLocals, Value.category]; done) | rfl
def F1 (p1 : Int32) (p2 : Int32) : Int32 :=
  let v5 : Int32 := (if p2 < p1 then p2 else p1)
  v5
def Q1 (Z : State) (p1 : Int32) (p2 : Int32) (h0 : Heap) (n0 : Nat) (v : Option Value) (h : Heap) (L : List Loc) : Prop := v = some (.int (F1 p1 p2)) ∧ L = [] ∧ h = h0
set_option maxRecDepth 65536 in
set_option maxHeartbeats 40000000 in
theorem rm1 (l : Launch) (Z : State) (a0 : Array Value) (hw : ∀ d ∈ tables_1, d.before a0 Z = true) (ws : List Jvm.Cond) (p1 : Int32) (p2 : Int32) (h0 : Heap) (n0 : Nat) (Z0 : n0 ≤ h0.size) :
    MetFree l (⟨"java/lang/Math", "min", "(II)I"⟩ : MethodName) (head1 (Jvm.Cond.code (⟨"java/lang/Math", "min", "(II)I"⟩ : MethodName) jdk_29_method_69_code 2 (some .int) :: ws) ({ frames := 0, cells := 0, slots := 0, locals := 0 } : Room)) (fun a U => a = #[(.int p1), (.int p2)] ∧ Z.Warmed39 U.vm ∧ U.heap = h0) (fun _ _ _ _ _ => True) (fun _ U o U' => ∃ v L, o = .returned v ∧ Q1 Z p1 p2 h0 n0 v U'.heap L ∧ FrameEnd U o U' L ({ frames := 0, cells := 0, slots := 0, locals := 0 } : Room).cells ({ frames := 0, cells := 0, slots := 0, locals := 0 } : Room).slots) := by
  refine MetFree.of_bodySF (Jvm.Free.JP.mathPlain rfl (by decide +kernel)) hisR ?_
  intro p e s m args below meth c s₁ Bd hml0 hP hK
  obtain ⟨rfl, hZ, hh⟩ := hP
  have hx := Bd.exec
  have hby := Bd.bytes
  have hml : c.maxLocals = 2 := hml0
  have hown : s.vm.findClass "java/lang/Math" = some m.cls := findClass_of_methodNamed Bd.named
  have hnm := (name_of_methodNamed Bd.named Bd.method).1
  have X0 : Stand p l e ({ frames := 0, cells := 0, slots := 0, locals := 0 } : Room) s m #[(.int p1), (.int p2)] below meth c s₁ [] 0 0 := Stand.of_body Bd
  have e0 : s₁.heap = h0 := by rw [← hh, Bd.state]; rfl
  have N0 := Fr.nil n0
  have pre0 : ∀ t, Steps p.tables e below (s₁.setTop (mkF m 0 #[.val (.int p1), .val (.int p2)] [])) t → Steps p.tables e below (s₁.setTop (entryFrame m #[(.int p1), (.int p2)] 2)) t := fun t k => castTop (ef_1 m p1 p2) k
  have R2 : ∀ t, Steps p.tables e below (s₁.setTop (mkF m 2 #[.val (.int p1), .val (.int p2)] [(.int p2), (.int p1)])) t → Steps p.tables e below (s₁.setTop (entryFrame m #[(.int p1), (.int p2)] 2)) t := by
    intro t kt
    refine pre0 _ ?_
    show Steps p.tables e below (s₁.setTop (mkF m 0 #[.val (.int p1), .val (.int p2)] [])) _
    refine XS.iloadN X0.here hx rfl (hb hby d1_0) rfl ?_
    show Steps p.tables e below (s₁.setTop (mkF m 1 #[.val (.int p1), .val (.int p2)] [(.int p1)])) _
    refine XS.iloadN X0.here hx rfl (hb hby d1_1) rfl ?_
    exact kt
  have J7 : ∃ (v5 : Int32), v5 = (if p2 < p1 then p2 else p1) ∧ ∀ t, Steps p.tables e below (s₁.setTop (mkF m 10 #[.val (.int p1), .val (.int p2)] [(.int v5)])) t → Steps p.tables e below (s₁.setTop (entryFrame m #[(.int p1), (.int p2)] 2)) t := by
    by_cases hc1 : p2 < p1
    · have R3 : ∀ t, Steps p.tables e below (s₁.setTop (mkF m 10 #[.val (.int p1), .val (.int p2)] [(.int p2)])) t → Steps p.tables e below (s₁.setTop (entryFrame m #[(.int p1), (.int p2)] 2)) t := by
        intro t kt
        refine R2 _ ?_
        show Steps p.tables e below (s₁.setTop (mkF m 2 #[.val (.int p1), .val (.int p2)] [(.int p2), (.int p1)])) _
        refine XS.icmpYes X0.here hx rfl (pc0 := 2) (pc' := 9) rfl (hb hby d1_2) rfl (tlt hc1).2.2.1 (by decide) (by decide) ?_
        show Steps p.tables e below (s₁.setTop (mkF m 9 #[.val (.int p1), .val (.int p2)] [])) _
        refine XS.iloadN X0.here hx rfl (hb hby d1_9) rfl ?_
        exact kt
      exact ⟨p2, (by rw [if_pos hc1]), R3⟩
    · have R4 : ∀ t, Steps p.tables e below (s₁.setTop (mkF m 10 #[.val (.int p1), .val (.int p2)] [(.int p1)])) t → Steps p.tables e below (s₁.setTop (entryFrame m #[(.int p1), (.int p2)] 2)) t := by
        intro t kt
        refine R2 _ ?_
        show Steps p.tables e below (s₁.setTop (mkF m 2 #[.val (.int p1), .val (.int p2)] [(.int p2), (.int p1)])) _
        refine XS.icmpNo X0.here hx rfl (hb hby d1_2) rfl (flt hc1).2.2.1 ?_
        show Steps p.tables e below (s₁.setTop (mkF m 5 #[.val (.int p1), .val (.int p2)] [])) _
        refine XS.iloadN X0.here hx rfl (hb hby d1_5) rfl ?_
        show Steps p.tables e below (s₁.setTop (mkF m 6 #[.val (.int p1), .val (.int p2)] [(.int p1)])) _
        refine XS.goto X0.here hx rfl (pc0 := 6) (pc' := 10) rfl (hb hby d1_6) (by decide) (by decide) ?_
        exact kt
      exact ⟨p1, (by rw [if_neg hc1]), R4⟩
  obtain ⟨v5, hv5, R6⟩ := J7
  obtain ⟨fs, hr, hrun, hended, hW, hsame⟩ := X0.leave (v := some (.int v5)) (fun h => by rw [Bd.returns] at h; cases h)
  refine ⟨_, _, R6 _ ?_, hrun, hended, _, _, rfl, ?_, ⟨_, rfl⟩, hW, hsame.mono (by decide) (by decide)⟩
  · show Steps p.tables e below (s₁.setTop (mkF m 10 #[.val (.int p1), .val (.int p2)] [(.int v5)])) _
    exact retI X0 hx Bd.returns (hb hby d1_10) hr
  · show Q1 Z p1 p2 h0 n0 _ s₁.heap _
    rw [e0]
    refine ⟨?_, rfl, rfl⟩
    subst hv5; rfl
theorem d2_0 : decode jdk_29_method_65_code 0 = .ok (.iload_n 0, 1) := by decide +kernel
theorem d2_1 : decode jdk_29_method_65_code 1 = .ok (.iload_n 1, 1) := by decide +kernel
theorem d2_2 : decode jdk_29_method_65_code 2 = .ok (.if_icmp .lt 7, 3) := by decide +kernel
theorem d2_5 : decode jdk_29_method_65_code 5 = .ok (.iload_n 0, 1) := by decide +kernel
theorem d2_6 : decode jdk_29_method_65_code 6 = .ok (.goto 4, 3) := by decide +kernel
theorem d2_9 : decode jdk_29_method_65_code 9 = .ok (.iload_n 1, 1) := by decide +kernel
theorem d2_10 : decode jdk_29_method_65_code 10 = .ok (.ireturn, 1) := by decide +kernel
theorem ef_2 (m : MethodId) (x0 : Int32) (x1 : Int32) : entryFrame m #[(.int x0), (.int x1)] 2 = mkF m 0 #[.val (.int x0), .val (.int x1)] [] := by first | (simp [entryFrame, mkF, argsToLocals, Value.category]; done) | rfl
def F2 (p1 : Int32) (p2 : Int32) : Int32 :=
  let v5 : Int32 := (if p1 < p2 then p2 else p1)
  v5
def Q2 (Z : State) (p1 : Int32) (p2 : Int32) (h0 : Heap) (n0 : Nat) (v : Option Value) (h : Heap) (L : List Loc) : Prop := v = some (.int (F2 p1 p2)) ∧ L = [] ∧ h = h0
set_option maxRecDepth 65536 in
set_option maxHeartbeats 40000000 in
theorem rm2 (l : Launch) (Z : State) (a0 : Array Value) (hw : ∀ d ∈ tables_1, d.before a0 Z = true) (ws : List Jvm.Cond) (p1 : Int32) (p2 : Int32) (h0 : Heap) (n0 : Nat) (Z0 : n0 ≤ h0.size) :
    MetFree l (⟨"java/lang/Math", "max", "(II)I"⟩ : MethodName) (head1 (Jvm.Cond.code (⟨"java/lang/Math", "max", "(II)I"⟩ : MethodName) jdk_29_method_65_code 2 (some .int) :: ws) ({ frames := 0, cells := 0, slots := 0, locals := 0 } : Room)) (fun a U => a = #[(.int p1), (.int p2)] ∧ Z.Warmed39 U.vm ∧ U.heap = h0) (fun _ _ _ _ _ => True) (fun _ U o U' => ∃ v L, o = .returned v ∧ Q2 Z p1 p2 h0 n0 v U'.heap L ∧ FrameEnd U o U' L ({ frames := 0, cells := 0, slots := 0, locals := 0 } : Room).cells ({ frames := 0, cells := 0, slots := 0, locals := 0 } : Room).slots) := by
  refine MetFree.of_bodySF (Jvm.Free.JP.mathPlain rfl (by decide +kernel)) hisR ?_
  intro p e s m args below meth c s₁ Bd hml0 hP hK
  obtain ⟨rfl, hZ, hh⟩ := hP
  have hx := Bd.exec
  have hby := Bd.bytes
  have hml : c.maxLocals = 2 := hml0
  have hown : s.vm.findClass "java/lang/Math" = some m.cls := findClass_of_methodNamed Bd.named
  have hnm := (name_of_methodNamed Bd.named Bd.method).1
  have X0 : Stand p l e ({ frames := 0, cells := 0, slots := 0, locals := 0 } : Room) s m #[(.int p1), (.int p2)] below meth c s₁ [] 0 0 := Stand.of_body Bd
  have e0 : s₁.heap = h0 := by rw [← hh, Bd.state]; rfl
  have N0 := Fr.nil n0
  have pre0 : ∀ t, Steps p.tables e below (s₁.setTop (mkF m 0 #[.val (.int p1), .val (.int p2)] [])) t → Steps p.tables e below (s₁.setTop (entryFrame m #[(.int p1), (.int p2)] 2)) t := fun t k => castTop (ef_2 m p1 p2) k
  have R2 : ∀ t, Steps p.tables e below (s₁.setTop (mkF m 2 #[.val (.int p1), .val (.int p2)] [(.int p2), (.int p1)])) t → Steps p.tables e below (s₁.setTop (entryFrame m #[(.int p1), (.int p2)] 2)) t := by
    intro t kt
    refine pre0 _ ?_
    show Steps p.tables e below (s₁.setTop (mkF m 0 #[.val (.int p1), .val (.int p2)] [])) _
    refine XS.iloadN X0.here hx rfl (hb hby d2_0) rfl ?_
    show Steps p.tables e below (s₁.setTop (mkF m 1 #[.val (.int p1), .val (.int p2)] [(.int p1)])) _
    refine XS.iloadN X0.here hx rfl (hb hby d2_1) rfl ?_
    exact kt
  have J7 : ∃ (v5 : Int32), v5 = (if p1 < p2 then p2 else p1) ∧ ∀ t, Steps p.tables e below (s₁.setTop (mkF m 10 #[.val (.int p1), .val (.int p2)] [(.int v5)])) t → Steps p.tables e below (s₁.setTop (entryFrame m #[(.int p1), (.int p2)] 2)) t := by
    by_cases hc1 : p1 < p2
    · have R3 : ∀ t, Steps p.tables e below (s₁.setTop (mkF m 10 #[.val (.int p1), .val (.int p2)] [(.int p2)])) t → Steps p.tables e below (s₁.setTop (entryFrame m #[(.int p1), (.int p2)] 2)) t := by
        intro t kt
        refine R2 _ ?_
        show Steps p.tables e below (s₁.setTop (mkF m 2 #[.val (.int p1), .val (.int p2)] [(.int p2), (.int p1)])) _
        refine XS.icmpYes X0.here hx rfl (pc0 := 2) (pc' := 9) rfl (hb hby d2_2) rfl (tlt hc1).1 (by decide) (by decide) ?_
        show Steps p.tables e below (s₁.setTop (mkF m 9 #[.val (.int p1), .val (.int p2)] [])) _
        refine XS.iloadN X0.here hx rfl (hb hby d2_9) rfl ?_
        exact kt
      exact ⟨p2, (by rw [if_pos hc1]), R3⟩
    · have R4 : ∀ t, Steps p.tables e below (s₁.setTop (mkF m 10 #[.val (.int p1), .val (.int p2)] [(.int p1)])) t → Steps p.tables e below (s₁.setTop (entryFrame m #[(.int p1), (.int p2)] 2)) t := by
        intro t kt
        refine R2 _ ?_
        show Steps p.tables e below (s₁.setTop (mkF m 2 #[.val (.int p1), .val (.int p2)] [(.int p2), (.int p1)])) _
        refine XS.icmpNo X0.here hx rfl (hb hby d2_2) rfl (flt hc1).1 ?_
        show Steps p.tables e below (s₁.setTop (mkF m 5 #[.val (.int p1), .val (.int p2)] [])) _
        refine XS.iloadN X0.here hx rfl (hb hby d2_5) rfl ?_
        show Steps p.tables e below (s₁.setTop (mkF m 6 #[.val (.int p1), .val (.int p2)] [(.int p1)])) _
        refine XS.goto X0.here hx rfl (pc0 := 6) (pc' := 10) rfl (hb hby d2_6) (by decide) (by decide) ?_
        exact kt
      exact ⟨p1, (by rw [if_neg hc1]), R4⟩
  obtain ⟨v5, hv5, R6⟩ := J7
  obtain ⟨fs, hr, hrun, hended, hW, hsame⟩ := X0.leave (v := some (.int v5)) (fun h => by rw [Bd.returns] at h; cases h)
  refine ⟨_, _, R6 _ ?_, hrun, hended, _, _, rfl, ?_, ⟨_, rfl⟩, hW, hsame.mono (by decide) (by decide)⟩
  · show Steps p.tables e below (s₁.setTop (mkF m 10 #[.val (.int p1), .val (.int p2)] [(.int v5)])) _
    exact retI X0 hx Bd.returns (hb hby d2_10) hr
  · show Q2 Z p1 p2 h0 n0 _ s₁.heap _
    rw [e0]
    refine ⟨?_, rfl, rfl⟩
    subst hv5; rfl
theorem d3_0 : decode prog_2_method_3_code 0 = .ok (.iconst 1, 1) := by decide +kernel
theorem d3_1 : decode prog_2_method_3_code 1 = .ok (.iload_n 0, 1) := by decide +kernel
theorem d3_2 : decode prog_2_method_3_code 2 = .ok (.if_icmp .gt 14, 3) := by decide +kernel
theorem d3_5 : decode prog_2_method_3_code 5 = .ok (.iload_n 0, 1) := by decide +kernel
theorem d3_6 : decode prog_2_method_3_code 6 = .ok (.sipush 480, 3) := by decide +kernel
theorem d3_9 : decode prog_2_method_3_code 9 = .ok (.if_icmp .gt 7, 3) := by decide +kernel
theorem d3_12 : decode prog_2_method_3_code 12 = .ok (.iconst 1, 1) := by decide +kernel
theorem d3_13 : decode prog_2_method_3_code 13 = .ok (.goto 4, 3) := by decide +kernel
theorem d3_16 : decode prog_2_method_3_code 16 = .ok (.iconst 0, 1) := by decide +kernel
theorem d3_17 : decode prog_2_method_3_code 17 = .ok (.ireturn, 1) := by decide +kernel
theorem pn_3 : plainName "com/example/lookback/lookback/Amortization" = true := by first | (simp [plainName, overriddenIn]; done) | decide +kernel
theorem ef_3 (m : MethodId) (x0 : Int32) : entryFrame m #[(.int x0)] 1 = mkF m 0 #[.val (.int x0)] [] := by first | (simp [entryFrame, mkF, argsToLocals, Value.category]; done) | rfl
def F3 (p1 : Int32) : Int32 :=
  let v8 : Int32 := (if p1 < (1 : Int32) then (0 : Int32) else (if (480 : Int32) < p1 then (0 : Int32) else (1 : Int32)))
  (nar .boolean v8)
def Q3 (Z : State) (p1 : Int32) (h0 : Heap) (n0 : Nat) (v : Option Value) (h : Heap) (L : List Loc) : Prop := v = some (.int (F3 p1)) ∧ L = [] ∧ h = h0
set_option maxRecDepth 65536 in
set_option maxHeartbeats 40000000 in
theorem rm3 (l : Launch) (Z : State) (a0 : Array Value) (hw : ∀ d ∈ tables_1, d.before a0 Z = true) (ws : List Jvm.Cond) (p1 : Int32) (h0 : Heap) (n0 : Nat) (Z0 : n0 ≤ h0.size) :
    MetFree l (⟨"com/example/lookback/lookback/Amortization", "isAllowedPayments", "(I)Z"⟩ : MethodName) (head1 (Jvm.Cond.code (⟨"com/example/lookback/lookback/Amortization", "isAllowedPayments", "(I)Z"⟩ : MethodName) prog_2_method_3_code 1 (some .boolean) :: ws) ({ frames := 0, cells := 0, slots := 0, locals := 0 } : Room)) (fun a U => a = #[(.int p1)] ∧ Z.Warmed39 U.vm ∧ U.heap = h0) (fun _ _ _ _ _ => True) (fun _ U o U' => ∃ v L, o = .returned v ∧ Q3 Z p1 h0 n0 v U'.heap L ∧ FrameEnd U o U' L ({ frames := 0, cells := 0, slots := 0, locals := 0 } : Room).cells ({ frames := 0, cells := 0, slots := 0, locals := 0 } : Room).slots) := by
  refine MetFree.of_bodySF (plainFor_of_name pn_3) hisR ?_
  intro p e s m args below meth c s₁ Bd hml0 hP hK
  obtain ⟨rfl, hZ, hh⟩ := hP
  have hx := Bd.exec
  have hby := Bd.bytes
  have hml : c.maxLocals = 1 := hml0
  have hown : s.vm.findClass "com/example/lookback/lookback/Amortization" = some m.cls := findClass_of_methodNamed Bd.named
  have hnm := (name_of_methodNamed Bd.named Bd.method).1
  have X0 : Stand p l e ({ frames := 0, cells := 0, slots := 0, locals := 0 } : Room) s m #[(.int p1)] below meth c s₁ [] 0 0 := Stand.of_body Bd
  have e0 : s₁.heap = h0 := by rw [← hh, Bd.state]; rfl
  have N0 := Fr.nil n0
  have pre0 : ∀ t, Steps p.tables e below (s₁.setTop (mkF m 0 #[.val (.int p1)] [])) t → Steps p.tables e below (s₁.setTop (entryFrame m #[(.int p1)] 1)) t := fun t k => castTop (ef_3 m p1) k
  have R2 : ∀ t, Steps p.tables e below (s₁.setTop (mkF m 2 #[.val (.int p1)] [(.int p1), (.int (1 : Int32))])) t → Steps p.tables e below (s₁.setTop (entryFrame m #[(.int p1)] 1)) t := by
    intro t kt
    refine pre0 _ ?_
    show Steps p.tables e below (s₁.setTop (mkF m 0 #[.val (.int p1)] [])) _
    refine XS.iconst X0.here hx rfl (hb hby d3_0) ?_
    show Steps p.tables e below (s₁.setTop (mkF m 1 #[.val (.int p1)] [(.int (1 : Int32))])) _
    refine XS.iloadN X0.here hx rfl (hb hby d3_1) rfl ?_
    exact kt
  have J10 : ∃ (v8 : Int32), v8 = (if p1 < (1 : Int32) then (0 : Int32) else (if (480 : Int32) < p1 then (0 : Int32) else (1 : Int32))) ∧ ∀ t, Steps p.tables e below (s₁.setTop (mkF m 17 #[.val (.int p1)] [(.int v8)])) t → Steps p.tables e below (s₁.setTop (entryFrame m #[(.int p1)] 1)) t := by
    by_cases hc1 : p1 < (1 : Int32)
    · have R3 : ∀ t, Steps p.tables e below (s₁.setTop (mkF m 17 #[.val (.int p1)] [(.int (0 : Int32))])) t → Steps p.tables e below (s₁.setTop (entryFrame m #[(.int p1)] 1)) t := by
        intro t kt
        refine R2 _ ?_
        show Steps p.tables e below (s₁.setTop (mkF m 2 #[.val (.int p1)] [(.int p1), (.int (1 : Int32))])) _
        refine XS.icmpYes X0.here hx rfl (pc0 := 2) (pc' := 16) rfl (hb hby d3_2) rfl (tlt hc1).2.2.1 (by decide) (by decide) ?_
        show Steps p.tables e below (s₁.setTop (mkF m 16 #[.val (.int p1)] [])) _
        refine XS.iconst X0.here hx rfl (hb hby d3_16) ?_
        exact kt
      exact ⟨(0 : Int32), (by rw [if_pos hc1]), R3⟩
    · have R5 : ∀ t, Steps p.tables e below (s₁.setTop (mkF m 9 #[.val (.int p1)] [(.int (480 : Int32)), (.int p1)])) t → Steps p.tables e below (s₁.setTop (entryFrame m #[(.int p1)] 1)) t := by
        intro t kt
        refine R2 _ ?_
        show Steps p.tables e below (s₁.setTop (mkF m 2 #[.val (.int p1)] [(.int p1), (.int (1 : Int32))])) _
        refine XS.icmpNo X0.here hx rfl (hb hby d3_2) rfl (flt hc1).2.2.1 ?_
        show Steps p.tables e below (s₁.setTop (mkF m 5 #[.val (.int p1)] [])) _
        refine XS.iloadN X0.here hx rfl (hb hby d3_5) rfl ?_
        show Steps p.tables e below (s₁.setTop (mkF m 6 #[.val (.int p1)] [(.int p1)])) _
        refine XS.sipush X0.here hx rfl (hb hby d3_6) ?_
        exact kt
      by_cases hc4 : (480 : Int32) < p1
      · have R6 : ∀ t, Steps p.tables e below (s₁.setTop (mkF m 17 #[.val (.int p1)] [(.int (0 : Int32))])) t → Steps p.tables e below (s₁.setTop (entryFrame m #[(.int p1)] 1)) t := by
          intro t kt
          refine R5 _ ?_
          show Steps p.tables e below (s₁.setTop (mkF m 9 #[.val (.int p1)] [(.int (480 : Int32)), (.int p1)])) _
          refine XS.icmpYes X0.here hx rfl (pc0 := 9) (pc' := 16) rfl (hb hby d3_9) rfl (tlt hc4).2.2.1 (by decide) (by decide) ?_
          show Steps p.tables e below (s₁.setTop (mkF m 16 #[.val (.int p1)] [])) _
          refine XS.iconst X0.here hx rfl (hb hby d3_16) ?_
          exact kt
        exact ⟨(0 : Int32), (by rw [if_neg hc1, if_pos hc4]), R6⟩
      · have R7 : ∀ t, Steps p.tables e below (s₁.setTop (mkF m 17 #[.val (.int p1)] [(.int (1 : Int32))])) t → Steps p.tables e below (s₁.setTop (entryFrame m #[(.int p1)] 1)) t := by
          intro t kt
          refine R5 _ ?_
          show Steps p.tables e below (s₁.setTop (mkF m 9 #[.val (.int p1)] [(.int (480 : Int32)), (.int p1)])) _
          refine XS.icmpNo X0.here hx rfl (hb hby d3_9) rfl (flt hc4).2.2.1 ?_
          show Steps p.tables e below (s₁.setTop (mkF m 12 #[.val (.int p1)] [])) _
          refine XS.iconst X0.here hx rfl (hb hby d3_12) ?_
          show Steps p.tables e below (s₁.setTop (mkF m 13 #[.val (.int p1)] [(.int (1 : Int32))])) _
          refine XS.goto X0.here hx rfl (pc0 := 13) (pc' := 17) rfl (hb hby d3_13) (by decide) (by decide) ?_
          exact kt
        exact ⟨(1 : Int32), (by rw [if_neg hc1, if_neg hc4]), R7⟩
  obtain ⟨v8, hv8, R9⟩ := J10
  obtain ⟨fs, hr, hrun, hended, hW, hsame⟩ := X0.leave (v := some (.int (nar .boolean v8))) (fun h => by rw [Bd.returns] at h; cases h)
  refine ⟨_, _, R9 _ ?_, hrun, hended, _, _, rfl, ?_, ⟨_, rfl⟩, hW, hsame.mono (by decide) (by decide)⟩
  · show Steps p.tables e below (s₁.setTop (mkF m 17 #[.val (.int p1)] [(.int v8)])) _
    exact retN X0 hx (t := .boolean) Bd.returns (by simp) (hb hby d3_17) hr
  · show Q3 Z p1 h0 n0 _ s₁.heap _
    rw [e0]
    refine ⟨?_, rfl, rfl⟩
    subst hv8; rfl
theorem own_mm (a c : Int32) : (F1 a c).toInt ≤ a.toInt ∧ (F1 a c).toInt ≤ c.toInt ∧ a.toInt ≤ (F2 a c).toInt ∧ c.toInt ≤ (F2 a c).toInt := by
  simp only [F1, F2, Int32.lt_iff_toInt_lt]
  refine ⟨?_, ?_, ?_, ?_⟩ <;> split <;> omega
theorem own_span {a c : Int32} {v : Int64} (h : v = ((((F2 a c).toInt64) - ((F1 a c).toInt64)) + (1 : Int64))) : v.toInt = (F2 a c).toInt - (F1 a c).toInt + 1 := by
  have m := own_mm a c
  have h1 := c_lsub ((F2 a c).toInt64) ((F1 a c).toInt64)
  have h2 := c_ladd (((F2 a c).toInt64) - ((F1 a c).toInt64)) (1 : Int64)
  have r1 := rng64 (((F2 a c).toInt64) - ((F1 a c).toInt64))
  have r2 := rng64 ((((F2 a c).toInt64) - ((F1 a c).toInt64)) + (1 : Int64))
  have r3 := rng32 (F1 a c)
  have r4 := rng32 (F2 a c)
  rw [c_i2l, c_i2l] at h1
  rw [show (1 : Int64).toInt = 1 from rfl] at h2
  rw [h]
  omega
theorem own_nz {a c : Int32} {v : Int64} (h : v = ((((F2 a c).toInt64) - ((F1 a c).toInt64)) + (1 : Int64))) : v ≠ 0 := by
  intro z
  have m := own_mm a c
  have s := own_span h
  rw [z, show (0 : Int64).toInt = 0 from rfl] at s
  omega
theorem pn_0 : plainName "com/example/lookback/lookback/AmortizationIsAllowedPaymentsPinLaw" = true := by first | (simp [plainName, overriddenIn]; done) | decide +kernel
theorem pd_0_1 : parseMethodDescriptor "(II)I" = some ⟨[.int, .int], some .int⟩ := by decide +kernel
theorem pd_0_2 : parseMethodDescriptor "(II)I" = some ⟨[.int, .int], some .int⟩ := by decide +kernel
theorem pd_0_3 : parseMethodDescriptor "(I)Z" = some ⟨[.int], some .boolean⟩ := by decide +kernel
theorem ef_0 (m : MethodId) (x0 : Int32) (x1 : Int32) (x2 : Int32) : entryFrame m #[(.int x0), (.int x1), (.int x2)] maxLocals = mkF m 0 #[.val (.int x0), .val (.int x1), .val (.int x2), .unset, .unset, .unset, .unset, .unset, .unset, .unset, .unset, .unset] [] := by first | (simp [entryFrame, mkF, argsToLocals, Value.category, maxLocals]; done) | rfl
def F0 (p1 : Int32) (p2 : Int32) (p3 : Int32) : Int32 :=
  let v4 : Int64 := ((((F2 p1 p3).toInt64) - ((F1 p1 p3).toInt64)) + (1 : Int64))
  let v6 : Int64 := ((p2 &&& (2147483647 : Int32)).toInt64)
  let v8 : Int32 := ((((F1 p1 p3).toInt64) + (v6 - (v6 / v4) * v4)).toInt32)
  let v18 : Int32 := (if (F3 (F1 p1 p3)) = (0 : Int32) then (0 : Int32) else (if (F3 (F2 p1 p3)) = (0 : Int32) then (0 : Int32) else (1 : Int32)))
  let v38 : Int32 := (if v18 = (0 : Int32) then (1 : Int32) else (if p2 < (F1 p1 p3) then (1 : Int32) else (if (F2 p1 p3) < p2 then (1 : Int32) else (if (F3 p2) = (0 : Int32) then (0 : Int32) else (1 : Int32)))))
  let v52 : Int32 := (if v18 = (0 : Int32) then (1 : Int32) else (if (F3 v8) = (0 : Int32) then (0 : Int32) else (1 : Int32)))
  let v75 : Int32 := (if (F3 (1 : Int32)) = (0 : Int32) then (0 : Int32) else (if (F3 (480 : Int32)) = (0 : Int32) then (0 : Int32) else (if (F3 (0 : Int32)) = (0 : Int32) then (if (F3 (481 : Int32)) = (0 : Int32) then (1 : Int32) else (0 : Int32)) else (0 : Int32))))
  let v91 : Int32 := (if v38 = (0 : Int32) then (0 : Int32) else (if v52 = (0 : Int32) then (0 : Int32) else (if v75 = (0 : Int32) then (0 : Int32) else (1 : Int32))))
  (nar .boolean v91)
def Q0 (Z : State) (p1 : Int32) (p2 : Int32) (p3 : Int32) (h0 : Heap) (n0 : Nat) (v : Option Value) (h : Heap) (L : List Loc) : Prop := v = some (.int (F0 p1 p2 p3)) ∧ L = [] ∧ h = h0
set_option maxRecDepth 65536 in
set_option maxHeartbeats 40000000 in
theorem rm0 (l : Launch) (Z : State) (a0 : Array Value) (hw : ∀ d ∈ tables_1, d.before a0 Z = true) (ws : List Jvm.Cond) (p1 : Int32) (p2 : Int32) (p3 : Int32) (h0 : Heap) (n0 : Nat) (Z0 : n0 ≤ h0.size) :
    MetFree l x (head1 (Jvm.Cond.code x code maxLocals ret :: ws) room_1) (fun a U => a = #[(.int p1), (.int p2), (.int p3)] ∧ Z.Warmed39 U.vm ∧ U.heap = h0) (fun _ _ _ _ _ => True) (fun _ U o U' => ∃ v L, o = .returned v ∧ Q0 Z p1 p2 p3 h0 n0 v U'.heap L ∧ FrameEnd U o U' L room_1.cells room_1.slots) := by
  refine MetFree.of_bodySF (plainFor_of_name pn_0) hisR ?_
  intro p e s m args below meth c s₁ Bd hml0 hP hK
  obtain ⟨rfl, hZ, hh⟩ := hP
  have hx := Bd.exec
  have hby := Bd.bytes
  have hml : c.maxLocals = 12 := hml0
  have hown : s.vm.findClass "com/example/lookback/lookback/AmortizationIsAllowedPaymentsPinLaw" = some m.cls := findClass_of_methodNamed Bd.named
  have hnm := (name_of_methodNamed Bd.named Bd.method).1
  have X0 : Stand p l e room_1 s m #[(.int p1), (.int p2), (.int p3)] below meth c s₁ [] 0 0 := Stand.of_body Bd
  have e0 : s₁.heap = h0 := by rw [← hh, Bd.state]; rfl
  have N0 := Fr.nil n0
  have pre0 : ∀ t, Steps p.tables e below (s₁.setTop (mkF m 0 #[.val (.int p1), .val (.int p2), .val (.int p3), .unset, .unset, .unset, .unset, .unset, .unset, .unset, .unset, .unset] [])) t → Steps p.tables e below (s₁.setTop (entryFrame m #[(.int p1), (.int p2), (.int p3)] maxLocals)) t := fun t k => castTop (ef_0 m p1 p2 p3) k
  obtain ⟨_, _, ⟨T1, L1, k1, n1⟩, -, X1, ⟨Lc1, hQ1, l1, y1, z1⟩, st1⟩ := Jvm.LawKit.callS X0 hx (y := (⟨"java/lang/Math", "min", "(II)I"⟩ : MethodName)) hown (mvT hZ (hw _ (List.mem_of_getElem? (i := 0) rfl))) (mvT hZ (hw _ (List.mem_of_getElem? (i := 1) rfl))) (mvT hZ (hw _ (List.mem_of_getElem? (i := 2) rfl))) (mvT hZ (hw _ (List.mem_of_getElem? (i := 3) rfl))) (by decide) (backOf (W := 0) (rm1 l Z a0 hw [] p1 p3 h0 n0 Z0) hZ (hw _ (List.mem_of_getElem? (i := 3) rfl)) (hw _ (List.mem_of_getElem? (i := 2) rfl)) (by decide) (by decide)) (g := (mkF m 2 #[.val (.int p1), .val (.int p2), .val (.int p3), .unset, .unset, .unset, .unset, .unset, .unset, .unset, .unset, .unset] [(.int p3), (.int p1)])) rfl (by rw [hml]; rfl) (argsL := [(.int p1), (.int p3)]) (rest := []) (lenOf pd_0_1 rfl) rfl (by show 2 * 0 + _ ≤ _; exact Nat.le_of_eq rfl) (hb hby at_2) (fun _ _ => ⟨rfl, e0, (by decide : 0 + 0 ≤ _), (by decide : 0 + 0 ≤ _)⟩)
  dsimp only [Pt.U, Pt.locs, Pt.cells, Pt.slots] at X1 l1 y1 z1 st1 hQ1
  subst l1 y1 z1
  obtain ⟨rfl, rfl, e1⟩ := hQ1
  replace X1 : Stand p l e room_1 s m #[(.int p1), (.int p2), (.int p3)] below meth c T1 [] 0 0 := X1
  obtain ⟨_, _, ⟨T2, L2, k2, n2⟩, -, X2, ⟨Lc2, hQ2, l2, y2, z2⟩, st2⟩ := Jvm.LawKit.callS X1 hx (y := (⟨"java/lang/Math", "max", "(II)I"⟩ : MethodName)) hown (mvT hZ (hw _ (List.mem_of_getElem? (i := 4) rfl))) (mvT hZ (hw _ (List.mem_of_getElem? (i := 5) rfl))) (mvT hZ (hw _ (List.mem_of_getElem? (i := 2) rfl))) (mvT hZ (hw _ (List.mem_of_getElem? (i := 6) rfl))) (by decide) (backOf (W := 0) (rm2 l Z a0 hw [] p1 p3 h0 n0 Z0) hZ (hw _ (List.mem_of_getElem? (i := 6) rfl)) (hw _ (List.mem_of_getElem? (i := 2) rfl)) (by decide) (by decide)) (g := (mkF m 8 #[.val (.int p1), .val (.int p2), .val (.int p3), .val (.int (F1 p1 p3)), .unset, .unset, .unset, .unset, .unset, .unset, .unset, .unset] [(.int p3), (.int p1)])) rfl (by rw [hml]; rfl) (argsL := [(.int p1), (.int p3)]) (rest := []) (lenOf pd_0_2 rfl) rfl (by show 2 * 0 + _ ≤ _; exact Nat.le_of_eq rfl) (hb hby at_8) (fun _ _ => ⟨rfl, e1, (by decide : 0 + 0 ≤ _), (by decide : 0 + 0 ≤ _)⟩)
  dsimp only [Pt.U, Pt.locs, Pt.cells, Pt.slots] at X2 l2 y2 z2 st2 hQ2
  subst l2 y2 z2
  obtain ⟨rfl, rfl, e2⟩ := hQ2
  replace X2 : Stand p l e room_1 s m #[(.int p1), (.int p2), (.int p3)] below meth c T2 [] 0 0 := X2
  have R3 : ∀ t, Steps p.tables e below (T2.setTop (mkF m 21 #[.val (.int p1), .val (.int p2), .val (.int p3), .val (.int (F1 p1 p3)), .val (.int (F2 p1 p3)), .unset, .unset, .unset, .unset, .unset, .unset, .unset] [(.long ((((F2 p1 p3).toInt64) - ((F1 p1 p3).toInt64)) + (1 : Int64)))])) t → Steps p.tables e below (s₁.setTop (entryFrame m #[(.int p1), (.int p2), (.int p3)] maxLocals)) t := by
    intro t kt
    refine pre0 _ ?_
    show Steps p.tables e below (s₁.setTop (mkF m 0 #[.val (.int p1), .val (.int p2), .val (.int p3), .unset, .unset, .unset, .unset, .unset, .unset, .unset, .unset, .unset] [])) _
    refine XS.iloadN X0.here hx rfl (hb hby at_0) rfl ?_
    show Steps p.tables e below (s₁.setTop (mkF m 1 #[.val (.int p1), .val (.int p2), .val (.int p3), .unset, .unset, .unset, .unset, .unset, .unset, .unset, .unset, .unset] [(.int p1)])) _
    refine XS.iloadN X0.here hx rfl (hb hby at_1) rfl ?_
    show Steps p.tables e below (s₁.setTop (mkF m 2 #[.val (.int p1), .val (.int p2), .val (.int p3), .unset, .unset, .unset, .unset, .unset, .unset, .unset, .unset, .unset] [(.int p3), (.int p1)])) _
    refine st1 _ ?_
    show Steps p.tables e below (T1.setTop (mkF m 5 #[.val (.int p1), .val (.int p2), .val (.int p3), .unset, .unset, .unset, .unset, .unset, .unset, .unset, .unset, .unset] [(.int (F1 p1 p3))])) _
    refine XS.istoreN X1.here hx rfl (hb hby at_5) rfl (l' := #[.val (.int p1), .val (.int p2), .val (.int p3), .val (.int (F1 p1 p3)), .unset, .unset, .unset, .unset, .unset, .unset, .unset, .unset]) rfl ?_
    show Steps p.tables e below (T1.setTop (mkF m 6 #[.val (.int p1), .val (.int p2), .val (.int p3), .val (.int (F1 p1 p3)), .unset, .unset, .unset, .unset, .unset, .unset, .unset, .unset] [])) _
    refine XS.iloadN X1.here hx rfl (hb hby at_6) rfl ?_
    show Steps p.tables e below (T1.setTop (mkF m 7 #[.val (.int p1), .val (.int p2), .val (.int p3), .val (.int (F1 p1 p3)), .unset, .unset, .unset, .unset, .unset, .unset, .unset, .unset] [(.int p1)])) _
    refine XS.iloadN X1.here hx rfl (hb hby at_7) rfl ?_
    show Steps p.tables e below (T1.setTop (mkF m 8 #[.val (.int p1), .val (.int p2), .val (.int p3), .val (.int (F1 p1 p3)), .unset, .unset, .unset, .unset, .unset, .unset, .unset, .unset] [(.int p3), (.int p1)])) _
    refine st2 _ ?_
    show Steps p.tables e below (T2.setTop (mkF m 11 #[.val (.int p1), .val (.int p2), .val (.int p3), .val (.int (F1 p1 p3)), .unset, .unset, .unset, .unset, .unset, .unset, .unset, .unset] [(.int (F2 p1 p3))])) _
    refine XS.istore X2.here hx rfl (hb hby at_11) rfl (l' := #[.val (.int p1), .val (.int p2), .val (.int p3), .val (.int (F1 p1 p3)), .val (.int (F2 p1 p3)), .unset, .unset, .unset, .unset, .unset, .unset, .unset]) rfl ?_
    show Steps p.tables e below (T2.setTop (mkF m 13 #[.val (.int p1), .val (.int p2), .val (.int p3), .val (.int (F1 p1 p3)), .val (.int (F2 p1 p3)), .unset, .unset, .unset, .unset, .unset, .unset, .unset] [])) _
    refine XS.iload X2.here hx rfl (hb hby at_13) rfl ?_
    show Steps p.tables e below (T2.setTop (mkF m 15 #[.val (.int p1), .val (.int p2), .val (.int p3), .val (.int (F1 p1 p3)), .val (.int (F2 p1 p3)), .unset, .unset, .unset, .unset, .unset, .unset, .unset] [(.int (F2 p1 p3))])) _
    refine XS.i2l X2.here hx rfl (hb hby at_15) rfl ?_
    show Steps p.tables e below (T2.setTop (mkF m 16 #[.val (.int p1), .val (.int p2), .val (.int p3), .val (.int (F1 p1 p3)), .val (.int (F2 p1 p3)), .unset, .unset, .unset, .unset, .unset, .unset, .unset] [(.long ((F2 p1 p3).toInt64))])) _
    refine XS.iloadN X2.here hx rfl (hb hby at_16) rfl ?_
    show Steps p.tables e below (T2.setTop (mkF m 17 #[.val (.int p1), .val (.int p2), .val (.int p3), .val (.int (F1 p1 p3)), .val (.int (F2 p1 p3)), .unset, .unset, .unset, .unset, .unset, .unset, .unset] [(.int (F1 p1 p3)), (.long ((F2 p1 p3).toInt64))])) _
    refine XS.i2l X2.here hx rfl (hb hby at_17) rfl ?_
    show Steps p.tables e below (T2.setTop (mkF m 18 #[.val (.int p1), .val (.int p2), .val (.int p3), .val (.int (F1 p1 p3)), .val (.int (F2 p1 p3)), .unset, .unset, .unset, .unset, .unset, .unset, .unset] [(.long ((F1 p1 p3).toInt64)), (.long ((F2 p1 p3).toInt64))])) _
    refine XS.lsub X2.here hx rfl (hb hby at_18) rfl ?_
    show Steps p.tables e below (T2.setTop (mkF m 19 #[.val (.int p1), .val (.int p2), .val (.int p3), .val (.int (F1 p1 p3)), .val (.int (F2 p1 p3)), .unset, .unset, .unset, .unset, .unset, .unset, .unset] [(.long (((F2 p1 p3).toInt64) - ((F1 p1 p3).toInt64)))])) _
    refine XS.lconst X2.here hx rfl (hb hby at_19) ?_
    show Steps p.tables e below (T2.setTop (mkF m 20 #[.val (.int p1), .val (.int p2), .val (.int p3), .val (.int (F1 p1 p3)), .val (.int (F2 p1 p3)), .unset, .unset, .unset, .unset, .unset, .unset, .unset] [(.long (1 : Int64)), (.long (((F2 p1 p3).toInt64) - ((F1 p1 p3).toInt64)))])) _
    refine XS.ladd X2.here hx rfl (hb hby at_20) rfl ?_
    exact kt
  obtain ⟨v4, hv4⟩ : ∃ z : Int64, z = ((((F2 p1 p3).toInt64) - ((F1 p1 p3).toInt64)) + (1 : Int64)) := ⟨_, rfl⟩
  rw [← hv4] at R3
  have R5 : ∀ t, Steps p.tables e below (T2.setTop (mkF m 32 #[.val (.int p1), .val (.int p2), .val (.int p3), .val (.int (F1 p1 p3)), .val (.int (F2 p1 p3)), .val (.long v4), .second, .unset, .unset, .unset, .unset, .unset] [(.long v4), (.long ((p2 &&& (2147483647 : Int32)).toInt64)), (.long ((F1 p1 p3).toInt64))])) t → Steps p.tables e below (s₁.setTop (entryFrame m #[(.int p1), (.int p2), (.int p3)] maxLocals)) t := by
    intro t kt
    refine R3 _ ?_
    show Steps p.tables e below (T2.setTop (mkF m 21 #[.val (.int p1), .val (.int p2), .val (.int p3), .val (.int (F1 p1 p3)), .val (.int (F2 p1 p3)), .unset, .unset, .unset, .unset, .unset, .unset, .unset] [(.long v4)])) _
    refine XS.lstore X2.here hx rfl (hb hby at_21) rfl (l' := #[.val (.int p1), .val (.int p2), .val (.int p3), .val (.int (F1 p1 p3)), .val (.int (F2 p1 p3)), .val (.long v4), .second, .unset, .unset, .unset, .unset, .unset]) rfl ?_
    show Steps p.tables e below (T2.setTop (mkF m 23 #[.val (.int p1), .val (.int p2), .val (.int p3), .val (.int (F1 p1 p3)), .val (.int (F2 p1 p3)), .val (.long v4), .second, .unset, .unset, .unset, .unset, .unset] [])) _
    refine XS.iloadN X2.here hx rfl (hb hby at_23) rfl ?_
    show Steps p.tables e below (T2.setTop (mkF m 24 #[.val (.int p1), .val (.int p2), .val (.int p3), .val (.int (F1 p1 p3)), .val (.int (F2 p1 p3)), .val (.long v4), .second, .unset, .unset, .unset, .unset, .unset] [(.int (F1 p1 p3))])) _
    refine XS.i2l X2.here hx rfl (hb hby at_24) rfl ?_
    show Steps p.tables e below (T2.setTop (mkF m 25 #[.val (.int p1), .val (.int p2), .val (.int p3), .val (.int (F1 p1 p3)), .val (.int (F2 p1 p3)), .val (.long v4), .second, .unset, .unset, .unset, .unset, .unset] [(.long ((F1 p1 p3).toInt64))])) _
    refine XS.iloadN X2.here hx rfl (hb hby at_25) rfl ?_
    show Steps p.tables e below (T2.setTop (mkF m 26 #[.val (.int p1), .val (.int p2), .val (.int p3), .val (.int (F1 p1 p3)), .val (.int (F2 p1 p3)), .val (.long v4), .second, .unset, .unset, .unset, .unset, .unset] [(.int p2), (.long ((F1 p1 p3).toInt64))])) _
    refine X2.ldcInt hx hown (mvT hZ (hw _ (List.mem_of_getElem? (i := 7) rfl))) (g := (mkF m 26 #[.val (.int p1), .val (.int p2), .val (.int p3), .val (.int (F1 p1 p3)), .val (.int (F2 p1 p3)), .val (.long v4), .second, .unset, .unset, .unset, .unset, .unset] [(.int p2), (.long ((F1 p1 p3).toInt64))])) rfl (hb hby at_26) _ ?_
    show Steps p.tables e below (T2.setTop (mkF m 28 #[.val (.int p1), .val (.int p2), .val (.int p3), .val (.int (F1 p1 p3)), .val (.int (F2 p1 p3)), .val (.long v4), .second, .unset, .unset, .unset, .unset, .unset] [(.int (2147483647 : Int32)), (.int p2), (.long ((F1 p1 p3).toInt64))])) _
    refine XS.iand X2.here hx rfl (hb hby at_28) rfl ?_
    show Steps p.tables e below (T2.setTop (mkF m 29 #[.val (.int p1), .val (.int p2), .val (.int p3), .val (.int (F1 p1 p3)), .val (.int (F2 p1 p3)), .val (.long v4), .second, .unset, .unset, .unset, .unset, .unset] [(.int (p2 &&& (2147483647 : Int32))), (.long ((F1 p1 p3).toInt64))])) _
    refine XS.i2l X2.here hx rfl (hb hby at_29) rfl ?_
    show Steps p.tables e below (T2.setTop (mkF m 30 #[.val (.int p1), .val (.int p2), .val (.int p3), .val (.int (F1 p1 p3)), .val (.int (F2 p1 p3)), .val (.long v4), .second, .unset, .unset, .unset, .unset, .unset] [(.long ((p2 &&& (2147483647 : Int32)).toInt64)), (.long ((F1 p1 p3).toInt64))])) _
    refine XS.lload X2.here hx rfl (hb hby at_30) rfl ?_
    exact kt
  obtain ⟨v6, hv6⟩ : ∃ z : Int64, z = ((p2 &&& (2147483647 : Int32)).toInt64) := ⟨_, rfl⟩
  rw [← hv6] at R5
  have R7 : ∀ t, Steps p.tables e below (T2.setTop (mkF m 35 #[.val (.int p1), .val (.int p2), .val (.int p3), .val (.int (F1 p1 p3)), .val (.int (F2 p1 p3)), .val (.long v4), .second, .unset, .unset, .unset, .unset, .unset] [(.int ((((F1 p1 p3).toInt64) + (v6 - (v6 / v4) * v4)).toInt32))])) t → Steps p.tables e below (s₁.setTop (entryFrame m #[(.int p1), (.int p2), (.int p3)] maxLocals)) t := by
    intro t kt
    refine R5 _ ?_
    show Steps p.tables e below (T2.setTop (mkF m 32 #[.val (.int p1), .val (.int p2), .val (.int p3), .val (.int (F1 p1 p3)), .val (.int (F2 p1 p3)), .val (.long v4), .second, .unset, .unset, .unset, .unset, .unset] [(.long v4), (.long v6), (.long ((F1 p1 p3).toInt64))])) _
    refine XS.lrem X2.here hx rfl (hb hby at_32) rfl (own_nz hv4) ?_
    show Steps p.tables e below (T2.setTop (mkF m 33 #[.val (.int p1), .val (.int p2), .val (.int p3), .val (.int (F1 p1 p3)), .val (.int (F2 p1 p3)), .val (.long v4), .second, .unset, .unset, .unset, .unset, .unset] [(.long (v6 - (v6 / v4) * v4)), (.long ((F1 p1 p3).toInt64))])) _
    refine XS.ladd X2.here hx rfl (hb hby at_33) rfl ?_
    show Steps p.tables e below (T2.setTop (mkF m 34 #[.val (.int p1), .val (.int p2), .val (.int p3), .val (.int (F1 p1 p3)), .val (.int (F2 p1 p3)), .val (.long v4), .second, .unset, .unset, .unset, .unset, .unset] [(.long (((F1 p1 p3).toInt64) + (v6 - (v6 / v4) * v4)))])) _
    refine XS.l2i X2.here hx rfl (hb hby at_34) rfl ?_
    exact kt
  obtain ⟨v8, hv8⟩ : ∃ z : Int32, z = ((((F1 p1 p3).toInt64) + (v6 - (v6 / v4) * v4)).toInt32) := ⟨_, rfl⟩
  rw [← hv8] at R7
  obtain ⟨_, _, ⟨T9, L9, k9, n9⟩, -, X9, ⟨Lc9, hQ9, l9, y9, z9⟩, st9⟩ := Jvm.LawKit.callS X2 hx (y := (⟨"com/example/lookback/lookback/Amortization", "isAllowedPayments", "(I)Z"⟩ : MethodName)) hown (mvT hZ (hw _ (List.mem_of_getElem? (i := 8) rfl))) (mvT hZ (hw _ (List.mem_of_getElem? (i := 9) rfl))) (mvT hZ (hw _ (List.mem_of_getElem? (i := 10) rfl))) (mvT hZ (hw _ (List.mem_of_getElem? (i := 11) rfl))) (by decide) (backOf (W := 0) (rm3 l Z a0 hw [] (F1 p1 p3) h0 n0 Z0) hZ (hw _ (List.mem_of_getElem? (i := 11) rfl)) (hw _ (List.mem_of_getElem? (i := 10) rfl)) (by decide) (by decide)) (g := (mkF m 38 #[.val (.int p1), .val (.int p2), .val (.int p3), .val (.int (F1 p1 p3)), .val (.int (F2 p1 p3)), .val (.long v4), .second, .val (.int v8), .unset, .unset, .unset, .unset] [(.int (F1 p1 p3))])) rfl (by rw [hml]; rfl) (argsL := [(.int (F1 p1 p3))]) (rest := []) (lenOf pd_0_3 rfl) rfl (by show 2 * 0 + _ ≤ _; exact Nat.le_of_eq rfl) (hb hby at_38) (fun _ _ => ⟨rfl, e2, (by decide : 0 + 0 ≤ _), (by decide : 0 + 0 ≤ _)⟩)
  dsimp only [Pt.U, Pt.locs, Pt.cells, Pt.slots] at X9 l9 y9 z9 st9 hQ9
  subst l9 y9 z9
  obtain ⟨rfl, rfl, e9⟩ := hQ9
  replace X9 : Stand p l e room_1 s m #[(.int p1), (.int p2), (.int p3)] below meth c T9 [] 0 0 := X9
  have R11 : ∀ t, Steps p.tables e below (T9.setTop (mkF m 41 #[.val (.int p1), .val (.int p2), .val (.int p3), .val (.int (F1 p1 p3)), .val (.int (F2 p1 p3)), .val (.long v4), .second, .val (.int v8), .unset, .unset, .unset, .unset] [(.int (F3 (F1 p1 p3)))])) t → Steps p.tables e below (s₁.setTop (entryFrame m #[(.int p1), (.int p2), (.int p3)] maxLocals)) t := by
    intro t kt
    refine R7 _ ?_
    show Steps p.tables e below (T2.setTop (mkF m 35 #[.val (.int p1), .val (.int p2), .val (.int p3), .val (.int (F1 p1 p3)), .val (.int (F2 p1 p3)), .val (.long v4), .second, .unset, .unset, .unset, .unset, .unset] [(.int v8)])) _
    refine XS.istore X2.here hx rfl (hb hby at_35) rfl (l' := #[.val (.int p1), .val (.int p2), .val (.int p3), .val (.int (F1 p1 p3)), .val (.int (F2 p1 p3)), .val (.long v4), .second, .val (.int v8), .unset, .unset, .unset, .unset]) rfl ?_
    show Steps p.tables e below (T2.setTop (mkF m 37 #[.val (.int p1), .val (.int p2), .val (.int p3), .val (.int (F1 p1 p3)), .val (.int (F2 p1 p3)), .val (.long v4), .second, .val (.int v8), .unset, .unset, .unset, .unset] [])) _
    refine XS.iloadN X2.here hx rfl (hb hby at_37) rfl ?_
    show Steps p.tables e below (T2.setTop (mkF m 38 #[.val (.int p1), .val (.int p2), .val (.int p3), .val (.int (F1 p1 p3)), .val (.int (F2 p1 p3)), .val (.long v4), .second, .val (.int v8), .unset, .unset, .unset, .unset] [(.int (F1 p1 p3))])) _
    refine st9 _ ?_
    exact kt
  have J20 : ∃ (T' : State) (v18 : Int32), Stand p l e room_1 s m #[(.int p1), (.int p2), (.int p3)] below meth c T' [] 0 0 ∧ T'.heap = h0 ∧ v18 = (if (F3 (F1 p1 p3)) = (0 : Int32) then (0 : Int32) else (if (F3 (F2 p1 p3)) = (0 : Int32) then (0 : Int32) else (1 : Int32))) ∧ ∀ t, Steps p.tables e below (T'.setTop (mkF m 57 #[.val (.int p1), .val (.int p2), .val (.int p3), .val (.int (F1 p1 p3)), .val (.int (F2 p1 p3)), .val (.long v4), .second, .val (.int v8), .unset, .unset, .unset, .unset] [(.int v18)])) t → Steps p.tables e below (s₁.setTop (entryFrame m #[(.int p1), (.int p2), (.int p3)] maxLocals)) t := by
    by_cases hc10 : (F3 (F1 p1 p3)) = (0 : Int32)
    · have R12 : ∀ t, Steps p.tables e below (T9.setTop (mkF m 57 #[.val (.int p1), .val (.int p2), .val (.int p3), .val (.int (F1 p1 p3)), .val (.int (F2 p1 p3)), .val (.long v4), .second, .val (.int v8), .unset, .unset, .unset, .unset] [(.int (0 : Int32))])) t → Steps p.tables e below (s₁.setTop (entryFrame m #[(.int p1), (.int p2), (.int p3)] maxLocals)) t := by
        intro t kt
        refine R11 _ ?_
        show Steps p.tables e below (T9.setTop (mkF m 41 #[.val (.int p1), .val (.int p2), .val (.int p3), .val (.int (F1 p1 p3)), .val (.int (F2 p1 p3)), .val (.long v4), .second, .val (.int v8), .unset, .unset, .unset, .unset] [(.int (F3 (F1 p1 p3)))])) _
        refine XS.ifYes X9.here hx rfl (pc0 := 41) (pc' := 56) rfl (hb hby at_41) rfl ((if0 _ _).trans (teq hc10).1) (by decide) (by decide) ?_
        show Steps p.tables e below (T9.setTop (mkF m 56 #[.val (.int p1), .val (.int p2), .val (.int p3), .val (.int (F1 p1 p3)), .val (.int (F2 p1 p3)), .val (.long v4), .second, .val (.int v8), .unset, .unset, .unset, .unset] [])) _
        refine XS.iconst X9.here hx rfl (hb hby at_56) ?_
        exact kt
      exact ⟨T9, (0 : Int32), X9, e9, (by rw [if_pos hc10]), R12⟩
    · obtain ⟨_, _, ⟨T13, L13, k13, n13⟩, -, X13, ⟨Lc13, hQ13, l13, y13, z13⟩, st13⟩ := Jvm.LawKit.callS X9 hx (y := (⟨"com/example/lookback/lookback/Amortization", "isAllowedPayments", "(I)Z"⟩ : MethodName)) hown (mvT hZ (hw _ (List.mem_of_getElem? (i := 8) rfl))) (mvT hZ (hw _ (List.mem_of_getElem? (i := 9) rfl))) (mvT hZ (hw _ (List.mem_of_getElem? (i := 10) rfl))) (mvT hZ (hw _ (List.mem_of_getElem? (i := 11) rfl))) (by decide) (backOf (W := 0) (rm3 l Z a0 hw [] (F2 p1 p3) h0 n0 Z0) hZ (hw _ (List.mem_of_getElem? (i := 11) rfl)) (hw _ (List.mem_of_getElem? (i := 10) rfl)) (by decide) (by decide)) (g := (mkF m 46 #[.val (.int p1), .val (.int p2), .val (.int p3), .val (.int (F1 p1 p3)), .val (.int (F2 p1 p3)), .val (.long v4), .second, .val (.int v8), .unset, .unset, .unset, .unset] [(.int (F2 p1 p3))])) rfl (by rw [hml]; rfl) (argsL := [(.int (F2 p1 p3))]) (rest := []) (lenOf pd_0_3 rfl) rfl (by show 2 * 0 + _ ≤ _; exact Nat.le_of_eq rfl) (hb hby at_46) (fun _ _ => ⟨rfl, e9, (by decide : 0 + 0 ≤ _), (by decide : 0 + 0 ≤ _)⟩)
      dsimp only [Pt.U, Pt.locs, Pt.cells, Pt.slots] at X13 l13 y13 z13 st13 hQ13
      subst l13 y13 z13
      obtain ⟨rfl, rfl, e13⟩ := hQ13
      replace X13 : Stand p l e room_1 s m #[(.int p1), (.int p2), (.int p3)] below meth c T13 [] 0 0 := X13
      have R15 : ∀ t, Steps p.tables e below (T13.setTop (mkF m 49 #[.val (.int p1), .val (.int p2), .val (.int p3), .val (.int (F1 p1 p3)), .val (.int (F2 p1 p3)), .val (.long v4), .second, .val (.int v8), .unset, .unset, .unset, .unset] [(.int (F3 (F2 p1 p3)))])) t → Steps p.tables e below (s₁.setTop (entryFrame m #[(.int p1), (.int p2), (.int p3)] maxLocals)) t := by
        intro t kt
        refine R11 _ ?_
        show Steps p.tables e below (T9.setTop (mkF m 41 #[.val (.int p1), .val (.int p2), .val (.int p3), .val (.int (F1 p1 p3)), .val (.int (F2 p1 p3)), .val (.long v4), .second, .val (.int v8), .unset, .unset, .unset, .unset] [(.int (F3 (F1 p1 p3)))])) _
        refine XS.ifNo X9.here hx rfl (hb hby at_41) rfl ((if0 _ _).trans (feq hc10).1) ?_
        show Steps p.tables e below (T9.setTop (mkF m 44 #[.val (.int p1), .val (.int p2), .val (.int p3), .val (.int (F1 p1 p3)), .val (.int (F2 p1 p3)), .val (.long v4), .second, .val (.int v8), .unset, .unset, .unset, .unset] [])) _
        refine XS.iload X9.here hx rfl (hb hby at_44) rfl ?_
        show Steps p.tables e below (T9.setTop (mkF m 46 #[.val (.int p1), .val (.int p2), .val (.int p3), .val (.int (F1 p1 p3)), .val (.int (F2 p1 p3)), .val (.long v4), .second, .val (.int v8), .unset, .unset, .unset, .unset] [(.int (F2 p1 p3))])) _
        refine st13 _ ?_
        exact kt
      by_cases hc14 : (F3 (F2 p1 p3)) = (0 : Int32)
      · have R16 : ∀ t, Steps p.tables e below (T13.setTop (mkF m 57 #[.val (.int p1), .val (.int p2), .val (.int p3), .val (.int (F1 p1 p3)), .val (.int (F2 p1 p3)), .val (.long v4), .second, .val (.int v8), .unset, .unset, .unset, .unset] [(.int (0 : Int32))])) t → Steps p.tables e below (s₁.setTop (entryFrame m #[(.int p1), (.int p2), (.int p3)] maxLocals)) t := by
          intro t kt
          refine R15 _ ?_
          show Steps p.tables e below (T13.setTop (mkF m 49 #[.val (.int p1), .val (.int p2), .val (.int p3), .val (.int (F1 p1 p3)), .val (.int (F2 p1 p3)), .val (.long v4), .second, .val (.int v8), .unset, .unset, .unset, .unset] [(.int (F3 (F2 p1 p3)))])) _
          refine XS.ifYes X13.here hx rfl (pc0 := 49) (pc' := 56) rfl (hb hby at_49) rfl ((if0 _ _).trans (teq hc14).1) (by decide) (by decide) ?_
          show Steps p.tables e below (T13.setTop (mkF m 56 #[.val (.int p1), .val (.int p2), .val (.int p3), .val (.int (F1 p1 p3)), .val (.int (F2 p1 p3)), .val (.long v4), .second, .val (.int v8), .unset, .unset, .unset, .unset] [])) _
          refine XS.iconst X13.here hx rfl (hb hby at_56) ?_
          exact kt
        exact ⟨T13, (0 : Int32), X13, e13, (by rw [if_neg hc10, if_pos hc14]), R16⟩
      · have R17 : ∀ t, Steps p.tables e below (T13.setTop (mkF m 57 #[.val (.int p1), .val (.int p2), .val (.int p3), .val (.int (F1 p1 p3)), .val (.int (F2 p1 p3)), .val (.long v4), .second, .val (.int v8), .unset, .unset, .unset, .unset] [(.int (1 : Int32))])) t → Steps p.tables e below (s₁.setTop (entryFrame m #[(.int p1), (.int p2), (.int p3)] maxLocals)) t := by
          intro t kt
          refine R15 _ ?_
          show Steps p.tables e below (T13.setTop (mkF m 49 #[.val (.int p1), .val (.int p2), .val (.int p3), .val (.int (F1 p1 p3)), .val (.int (F2 p1 p3)), .val (.long v4), .second, .val (.int v8), .unset, .unset, .unset, .unset] [(.int (F3 (F2 p1 p3)))])) _
          refine XS.ifNo X13.here hx rfl (hb hby at_49) rfl ((if0 _ _).trans (feq hc14).1) ?_
          show Steps p.tables e below (T13.setTop (mkF m 52 #[.val (.int p1), .val (.int p2), .val (.int p3), .val (.int (F1 p1 p3)), .val (.int (F2 p1 p3)), .val (.long v4), .second, .val (.int v8), .unset, .unset, .unset, .unset] [])) _
          refine XS.iconst X13.here hx rfl (hb hby at_52) ?_
          show Steps p.tables e below (T13.setTop (mkF m 53 #[.val (.int p1), .val (.int p2), .val (.int p3), .val (.int (F1 p1 p3)), .val (.int (F2 p1 p3)), .val (.long v4), .second, .val (.int v8), .unset, .unset, .unset, .unset] [(.int (1 : Int32))])) _
          refine XS.goto X13.here hx rfl (pc0 := 53) (pc' := 57) rfl (hb hby at_53) (by decide) (by decide) ?_
          exact kt
        exact ⟨T13, (1 : Int32), X13, e13, (by rw [if_neg hc10, if_neg hc14]), R17⟩
  obtain ⟨T21, v18, X22, e23, hv18, R19⟩ := J20
  have R25 : ∀ t, Steps p.tables e below (T21.setTop (mkF m 61 #[.val (.int p1), .val (.int p2), .val (.int p3), .val (.int (F1 p1 p3)), .val (.int (F2 p1 p3)), .val (.long v4), .second, .val (.int v8), .val (.int v18), .unset, .unset, .unset] [(.int v18)])) t → Steps p.tables e below (s₁.setTop (entryFrame m #[(.int p1), (.int p2), (.int p3)] maxLocals)) t := by
    intro t kt
    refine R19 _ ?_
    show Steps p.tables e below (T21.setTop (mkF m 57 #[.val (.int p1), .val (.int p2), .val (.int p3), .val (.int (F1 p1 p3)), .val (.int (F2 p1 p3)), .val (.long v4), .second, .val (.int v8), .unset, .unset, .unset, .unset] [(.int v18)])) _
    refine XS.istore X22.here hx rfl (hb hby at_57) rfl (l' := #[.val (.int p1), .val (.int p2), .val (.int p3), .val (.int (F1 p1 p3)), .val (.int (F2 p1 p3)), .val (.long v4), .second, .val (.int v8), .val (.int v18), .unset, .unset, .unset]) rfl ?_
    show Steps p.tables e below (T21.setTop (mkF m 59 #[.val (.int p1), .val (.int p2), .val (.int p3), .val (.int (F1 p1 p3)), .val (.int (F2 p1 p3)), .val (.long v4), .second, .val (.int v8), .val (.int v18), .unset, .unset, .unset] [])) _
    refine XS.iload X22.here hx rfl (hb hby at_59) rfl ?_
    exact kt
  have J40 : ∃ (T' : State) (v38 : Int32), Stand p l e room_1 s m #[(.int p1), (.int p2), (.int p3)] below meth c T' [] 0 0 ∧ T'.heap = h0 ∧ v38 = (if v18 = (0 : Int32) then (1 : Int32) else (if p2 < (F1 p1 p3) then (1 : Int32) else (if (F2 p1 p3) < p2 then (1 : Int32) else (if (F3 p2) = (0 : Int32) then (0 : Int32) else (1 : Int32))))) ∧ ∀ t, Steps p.tables e below (T'.setTop (mkF m 87 #[.val (.int p1), .val (.int p2), .val (.int p3), .val (.int (F1 p1 p3)), .val (.int (F2 p1 p3)), .val (.long v4), .second, .val (.int v8), .val (.int v18), .unset, .unset, .unset] [(.int v38)])) t → Steps p.tables e below (s₁.setTop (entryFrame m #[(.int p1), (.int p2), (.int p3)] maxLocals)) t := by
    by_cases hc24 : v18 = (0 : Int32)
    · have R26 : ∀ t, Steps p.tables e below (T21.setTop (mkF m 87 #[.val (.int p1), .val (.int p2), .val (.int p3), .val (.int (F1 p1 p3)), .val (.int (F2 p1 p3)), .val (.long v4), .second, .val (.int v8), .val (.int v18), .unset, .unset, .unset] [(.int (1 : Int32))])) t → Steps p.tables e below (s₁.setTop (entryFrame m #[(.int p1), (.int p2), (.int p3)] maxLocals)) t := by
        intro t kt
        refine R25 _ ?_
        show Steps p.tables e below (T21.setTop (mkF m 61 #[.val (.int p1), .val (.int p2), .val (.int p3), .val (.int (F1 p1 p3)), .val (.int (F2 p1 p3)), .val (.long v4), .second, .val (.int v8), .val (.int v18), .unset, .unset, .unset] [(.int v18)])) _
        refine XS.ifYes X22.here hx rfl (pc0 := 61) (pc' := 82) rfl (hb hby at_61) rfl ((if0 _ _).trans (teq hc24).1) (by decide) (by decide) ?_
        show Steps p.tables e below (T21.setTop (mkF m 82 #[.val (.int p1), .val (.int p2), .val (.int p3), .val (.int (F1 p1 p3)), .val (.int (F2 p1 p3)), .val (.long v4), .second, .val (.int v8), .val (.int v18), .unset, .unset, .unset] [])) _
        refine XS.iconst X22.here hx rfl (hb hby at_82) ?_
        show Steps p.tables e below (T21.setTop (mkF m 83 #[.val (.int p1), .val (.int p2), .val (.int p3), .val (.int (F1 p1 p3)), .val (.int (F2 p1 p3)), .val (.long v4), .second, .val (.int v8), .val (.int v18), .unset, .unset, .unset] [(.int (1 : Int32))])) _
        refine XS.goto X22.here hx rfl (pc0 := 83) (pc' := 87) rfl (hb hby at_83) (by decide) (by decide) ?_
        exact kt
      exact ⟨T21, (1 : Int32), X22, e23, (by rw [if_pos hc24]), R26⟩
    · have R28 : ∀ t, Steps p.tables e below (T21.setTop (mkF m 66 #[.val (.int p1), .val (.int p2), .val (.int p3), .val (.int (F1 p1 p3)), .val (.int (F2 p1 p3)), .val (.long v4), .second, .val (.int v8), .val (.int v18), .unset, .unset, .unset] [(.int p2), (.int (F1 p1 p3))])) t → Steps p.tables e below (s₁.setTop (entryFrame m #[(.int p1), (.int p2), (.int p3)] maxLocals)) t := by
        intro t kt
        refine R25 _ ?_
        show Steps p.tables e below (T21.setTop (mkF m 61 #[.val (.int p1), .val (.int p2), .val (.int p3), .val (.int (F1 p1 p3)), .val (.int (F2 p1 p3)), .val (.long v4), .second, .val (.int v8), .val (.int v18), .unset, .unset, .unset] [(.int v18)])) _
        refine XS.ifNo X22.here hx rfl (hb hby at_61) rfl ((if0 _ _).trans (feq hc24).1) ?_
        show Steps p.tables e below (T21.setTop (mkF m 64 #[.val (.int p1), .val (.int p2), .val (.int p3), .val (.int (F1 p1 p3)), .val (.int (F2 p1 p3)), .val (.long v4), .second, .val (.int v8), .val (.int v18), .unset, .unset, .unset] [])) _
        refine XS.iloadN X22.here hx rfl (hb hby at_64) rfl ?_
        show Steps p.tables e below (T21.setTop (mkF m 65 #[.val (.int p1), .val (.int p2), .val (.int p3), .val (.int (F1 p1 p3)), .val (.int (F2 p1 p3)), .val (.long v4), .second, .val (.int v8), .val (.int v18), .unset, .unset, .unset] [(.int (F1 p1 p3))])) _
        refine XS.iloadN X22.here hx rfl (hb hby at_65) rfl ?_
        exact kt
      by_cases hc27 : p2 < (F1 p1 p3)
      · have R29 : ∀ t, Steps p.tables e below (T21.setTop (mkF m 87 #[.val (.int p1), .val (.int p2), .val (.int p3), .val (.int (F1 p1 p3)), .val (.int (F2 p1 p3)), .val (.long v4), .second, .val (.int v8), .val (.int v18), .unset, .unset, .unset] [(.int (1 : Int32))])) t → Steps p.tables e below (s₁.setTop (entryFrame m #[(.int p1), (.int p2), (.int p3)] maxLocals)) t := by
          intro t kt
          refine R28 _ ?_
          show Steps p.tables e below (T21.setTop (mkF m 66 #[.val (.int p1), .val (.int p2), .val (.int p3), .val (.int (F1 p1 p3)), .val (.int (F2 p1 p3)), .val (.long v4), .second, .val (.int v8), .val (.int v18), .unset, .unset, .unset] [(.int p2), (.int (F1 p1 p3))])) _
          refine XS.icmpYes X22.here hx rfl (pc0 := 66) (pc' := 82) rfl (hb hby at_66) rfl (tlt hc27).2.2.1 (by decide) (by decide) ?_
          show Steps p.tables e below (T21.setTop (mkF m 82 #[.val (.int p1), .val (.int p2), .val (.int p3), .val (.int (F1 p1 p3)), .val (.int (F2 p1 p3)), .val (.long v4), .second, .val (.int v8), .val (.int v18), .unset, .unset, .unset] [])) _
          refine XS.iconst X22.here hx rfl (hb hby at_82) ?_
          show Steps p.tables e below (T21.setTop (mkF m 83 #[.val (.int p1), .val (.int p2), .val (.int p3), .val (.int (F1 p1 p3)), .val (.int (F2 p1 p3)), .val (.long v4), .second, .val (.int v8), .val (.int v18), .unset, .unset, .unset] [(.int (1 : Int32))])) _
          refine XS.goto X22.here hx rfl (pc0 := 83) (pc' := 87) rfl (hb hby at_83) (by decide) (by decide) ?_
          exact kt
        exact ⟨T21, (1 : Int32), X22, e23, (by rw [if_neg hc24, if_pos hc27]), R29⟩
      · have R31 : ∀ t, Steps p.tables e below (T21.setTop (mkF m 72 #[.val (.int p1), .val (.int p2), .val (.int p3), .val (.int (F1 p1 p3)), .val (.int (F2 p1 p3)), .val (.long v4), .second, .val (.int v8), .val (.int v18), .unset, .unset, .unset] [(.int (F2 p1 p3)), (.int p2)])) t → Steps p.tables e below (s₁.setTop (entryFrame m #[(.int p1), (.int p2), (.int p3)] maxLocals)) t := by
          intro t kt
          refine R28 _ ?_
          show Steps p.tables e below (T21.setTop (mkF m 66 #[.val (.int p1), .val (.int p2), .val (.int p3), .val (.int (F1 p1 p3)), .val (.int (F2 p1 p3)), .val (.long v4), .second, .val (.int v8), .val (.int v18), .unset, .unset, .unset] [(.int p2), (.int (F1 p1 p3))])) _
          refine XS.icmpNo X22.here hx rfl (hb hby at_66) rfl (flt hc27).2.2.1 ?_
          show Steps p.tables e below (T21.setTop (mkF m 69 #[.val (.int p1), .val (.int p2), .val (.int p3), .val (.int (F1 p1 p3)), .val (.int (F2 p1 p3)), .val (.long v4), .second, .val (.int v8), .val (.int v18), .unset, .unset, .unset] [])) _
          refine XS.iloadN X22.here hx rfl (hb hby at_69) rfl ?_
          show Steps p.tables e below (T21.setTop (mkF m 70 #[.val (.int p1), .val (.int p2), .val (.int p3), .val (.int (F1 p1 p3)), .val (.int (F2 p1 p3)), .val (.long v4), .second, .val (.int v8), .val (.int v18), .unset, .unset, .unset] [(.int p2)])) _
          refine XS.iload X22.here hx rfl (hb hby at_70) rfl ?_
          exact kt
        by_cases hc30 : (F2 p1 p3) < p2
        · have R32 : ∀ t, Steps p.tables e below (T21.setTop (mkF m 87 #[.val (.int p1), .val (.int p2), .val (.int p3), .val (.int (F1 p1 p3)), .val (.int (F2 p1 p3)), .val (.long v4), .second, .val (.int v8), .val (.int v18), .unset, .unset, .unset] [(.int (1 : Int32))])) t → Steps p.tables e below (s₁.setTop (entryFrame m #[(.int p1), (.int p2), (.int p3)] maxLocals)) t := by
            intro t kt
            refine R31 _ ?_
            show Steps p.tables e below (T21.setTop (mkF m 72 #[.val (.int p1), .val (.int p2), .val (.int p3), .val (.int (F1 p1 p3)), .val (.int (F2 p1 p3)), .val (.long v4), .second, .val (.int v8), .val (.int v18), .unset, .unset, .unset] [(.int (F2 p1 p3)), (.int p2)])) _
            refine XS.icmpYes X22.here hx rfl (pc0 := 72) (pc' := 82) rfl (hb hby at_72) rfl (tlt hc30).2.2.1 (by decide) (by decide) ?_
            show Steps p.tables e below (T21.setTop (mkF m 82 #[.val (.int p1), .val (.int p2), .val (.int p3), .val (.int (F1 p1 p3)), .val (.int (F2 p1 p3)), .val (.long v4), .second, .val (.int v8), .val (.int v18), .unset, .unset, .unset] [])) _
            refine XS.iconst X22.here hx rfl (hb hby at_82) ?_
            show Steps p.tables e below (T21.setTop (mkF m 83 #[.val (.int p1), .val (.int p2), .val (.int p3), .val (.int (F1 p1 p3)), .val (.int (F2 p1 p3)), .val (.long v4), .second, .val (.int v8), .val (.int v18), .unset, .unset, .unset] [(.int (1 : Int32))])) _
            refine XS.goto X22.here hx rfl (pc0 := 83) (pc' := 87) rfl (hb hby at_83) (by decide) (by decide) ?_
            exact kt
          exact ⟨T21, (1 : Int32), X22, e23, (by rw [if_neg hc24, if_neg hc27, if_pos hc30]), R32⟩
        · obtain ⟨_, _, ⟨T33, L33, k33, n33⟩, -, X33, ⟨Lc33, hQ33, l33, y33, z33⟩, st33⟩ := Jvm.LawKit.callS X22 hx (y := (⟨"com/example/lookback/lookback/Amortization", "isAllowedPayments", "(I)Z"⟩ : MethodName)) hown (mvT hZ (hw _ (List.mem_of_getElem? (i := 8) rfl))) (mvT hZ (hw _ (List.mem_of_getElem? (i := 9) rfl))) (mvT hZ (hw _ (List.mem_of_getElem? (i := 10) rfl))) (mvT hZ (hw _ (List.mem_of_getElem? (i := 11) rfl))) (by decide) (backOf (W := 0) (rm3 l Z a0 hw [] p2 h0 n0 Z0) hZ (hw _ (List.mem_of_getElem? (i := 11) rfl)) (hw _ (List.mem_of_getElem? (i := 10) rfl)) (by decide) (by decide)) (g := (mkF m 76 #[.val (.int p1), .val (.int p2), .val (.int p3), .val (.int (F1 p1 p3)), .val (.int (F2 p1 p3)), .val (.long v4), .second, .val (.int v8), .val (.int v18), .unset, .unset, .unset] [(.int p2)])) rfl (by rw [hml]; rfl) (argsL := [(.int p2)]) (rest := []) (lenOf pd_0_3 rfl) rfl (by show 2 * 0 + _ ≤ _; exact Nat.le_of_eq rfl) (hb hby at_76) (fun _ _ => ⟨rfl, e23, (by decide : 0 + 0 ≤ _), (by decide : 0 + 0 ≤ _)⟩)
          dsimp only [Pt.U, Pt.locs, Pt.cells, Pt.slots] at X33 l33 y33 z33 st33 hQ33
          subst l33 y33 z33
          obtain ⟨rfl, rfl, e33⟩ := hQ33
          replace X33 : Stand p l e room_1 s m #[(.int p1), (.int p2), (.int p3)] below meth c T33 [] 0 0 := X33
          have R35 : ∀ t, Steps p.tables e below (T33.setTop (mkF m 79 #[.val (.int p1), .val (.int p2), .val (.int p3), .val (.int (F1 p1 p3)), .val (.int (F2 p1 p3)), .val (.long v4), .second, .val (.int v8), .val (.int v18), .unset, .unset, .unset] [(.int (F3 p2))])) t → Steps p.tables e below (s₁.setTop (entryFrame m #[(.int p1), (.int p2), (.int p3)] maxLocals)) t := by
            intro t kt
            refine R31 _ ?_
            show Steps p.tables e below (T21.setTop (mkF m 72 #[.val (.int p1), .val (.int p2), .val (.int p3), .val (.int (F1 p1 p3)), .val (.int (F2 p1 p3)), .val (.long v4), .second, .val (.int v8), .val (.int v18), .unset, .unset, .unset] [(.int (F2 p1 p3)), (.int p2)])) _
            refine XS.icmpNo X22.here hx rfl (hb hby at_72) rfl (flt hc30).2.2.1 ?_
            show Steps p.tables e below (T21.setTop (mkF m 75 #[.val (.int p1), .val (.int p2), .val (.int p3), .val (.int (F1 p1 p3)), .val (.int (F2 p1 p3)), .val (.long v4), .second, .val (.int v8), .val (.int v18), .unset, .unset, .unset] [])) _
            refine XS.iloadN X22.here hx rfl (hb hby at_75) rfl ?_
            show Steps p.tables e below (T21.setTop (mkF m 76 #[.val (.int p1), .val (.int p2), .val (.int p3), .val (.int (F1 p1 p3)), .val (.int (F2 p1 p3)), .val (.long v4), .second, .val (.int v8), .val (.int v18), .unset, .unset, .unset] [(.int p2)])) _
            refine st33 _ ?_
            exact kt
          by_cases hc34 : (F3 p2) = (0 : Int32)
          · have R36 : ∀ t, Steps p.tables e below (T33.setTop (mkF m 87 #[.val (.int p1), .val (.int p2), .val (.int p3), .val (.int (F1 p1 p3)), .val (.int (F2 p1 p3)), .val (.long v4), .second, .val (.int v8), .val (.int v18), .unset, .unset, .unset] [(.int (0 : Int32))])) t → Steps p.tables e below (s₁.setTop (entryFrame m #[(.int p1), (.int p2), (.int p3)] maxLocals)) t := by
              intro t kt
              refine R35 _ ?_
              show Steps p.tables e below (T33.setTop (mkF m 79 #[.val (.int p1), .val (.int p2), .val (.int p3), .val (.int (F1 p1 p3)), .val (.int (F2 p1 p3)), .val (.long v4), .second, .val (.int v8), .val (.int v18), .unset, .unset, .unset] [(.int (F3 p2))])) _
              refine XS.ifYes X33.here hx rfl (pc0 := 79) (pc' := 86) rfl (hb hby at_79) rfl ((if0 _ _).trans (teq hc34).1) (by decide) (by decide) ?_
              show Steps p.tables e below (T33.setTop (mkF m 86 #[.val (.int p1), .val (.int p2), .val (.int p3), .val (.int (F1 p1 p3)), .val (.int (F2 p1 p3)), .val (.long v4), .second, .val (.int v8), .val (.int v18), .unset, .unset, .unset] [])) _
              refine XS.iconst X33.here hx rfl (hb hby at_86) ?_
              exact kt
            exact ⟨T33, (0 : Int32), X33, e33, (by rw [if_neg hc24, if_neg hc27, if_neg hc30, if_pos hc34]), R36⟩
          · have R37 : ∀ t, Steps p.tables e below (T33.setTop (mkF m 87 #[.val (.int p1), .val (.int p2), .val (.int p3), .val (.int (F1 p1 p3)), .val (.int (F2 p1 p3)), .val (.long v4), .second, .val (.int v8), .val (.int v18), .unset, .unset, .unset] [(.int (1 : Int32))])) t → Steps p.tables e below (s₁.setTop (entryFrame m #[(.int p1), (.int p2), (.int p3)] maxLocals)) t := by
              intro t kt
              refine R35 _ ?_
              show Steps p.tables e below (T33.setTop (mkF m 79 #[.val (.int p1), .val (.int p2), .val (.int p3), .val (.int (F1 p1 p3)), .val (.int (F2 p1 p3)), .val (.long v4), .second, .val (.int v8), .val (.int v18), .unset, .unset, .unset] [(.int (F3 p2))])) _
              refine XS.ifNo X33.here hx rfl (hb hby at_79) rfl ((if0 _ _).trans (feq hc34).1) ?_
              show Steps p.tables e below (T33.setTop (mkF m 82 #[.val (.int p1), .val (.int p2), .val (.int p3), .val (.int (F1 p1 p3)), .val (.int (F2 p1 p3)), .val (.long v4), .second, .val (.int v8), .val (.int v18), .unset, .unset, .unset] [])) _
              refine XS.iconst X33.here hx rfl (hb hby at_82) ?_
              show Steps p.tables e below (T33.setTop (mkF m 83 #[.val (.int p1), .val (.int p2), .val (.int p3), .val (.int (F1 p1 p3)), .val (.int (F2 p1 p3)), .val (.long v4), .second, .val (.int v8), .val (.int v18), .unset, .unset, .unset] [(.int (1 : Int32))])) _
              refine XS.goto X33.here hx rfl (pc0 := 83) (pc' := 87) rfl (hb hby at_83) (by decide) (by decide) ?_
              exact kt
            exact ⟨T33, (1 : Int32), X33, e33, (by rw [if_neg hc24, if_neg hc27, if_neg hc30, if_neg hc34]), R37⟩
  obtain ⟨T41, v38, X42, e43, hv38, R39⟩ := J40
  have R45 : ∀ t, Steps p.tables e below (T41.setTop (mkF m 91 #[.val (.int p1), .val (.int p2), .val (.int p3), .val (.int (F1 p1 p3)), .val (.int (F2 p1 p3)), .val (.long v4), .second, .val (.int v8), .val (.int v18), .val (.int v38), .unset, .unset] [(.int v18)])) t → Steps p.tables e below (s₁.setTop (entryFrame m #[(.int p1), (.int p2), (.int p3)] maxLocals)) t := by
    intro t kt
    refine R39 _ ?_
    show Steps p.tables e below (T41.setTop (mkF m 87 #[.val (.int p1), .val (.int p2), .val (.int p3), .val (.int (F1 p1 p3)), .val (.int (F2 p1 p3)), .val (.long v4), .second, .val (.int v8), .val (.int v18), .unset, .unset, .unset] [(.int v38)])) _
    refine XS.istore X42.here hx rfl (hb hby at_87) rfl (l' := #[.val (.int p1), .val (.int p2), .val (.int p3), .val (.int (F1 p1 p3)), .val (.int (F2 p1 p3)), .val (.long v4), .second, .val (.int v8), .val (.int v18), .val (.int v38), .unset, .unset]) rfl ?_
    show Steps p.tables e below (T41.setTop (mkF m 89 #[.val (.int p1), .val (.int p2), .val (.int p3), .val (.int (F1 p1 p3)), .val (.int (F2 p1 p3)), .val (.long v4), .second, .val (.int v8), .val (.int v18), .val (.int v38), .unset, .unset] [])) _
    refine XS.iload X42.here hx rfl (hb hby at_89) rfl ?_
    exact kt
  have J54 : ∃ (T' : State) (v52 : Int32), Stand p l e room_1 s m #[(.int p1), (.int p2), (.int p3)] below meth c T' [] 0 0 ∧ T'.heap = h0 ∧ v52 = (if v18 = (0 : Int32) then (1 : Int32) else (if (F3 v8) = (0 : Int32) then (0 : Int32) else (1 : Int32))) ∧ ∀ t, Steps p.tables e below (T'.setTop (mkF m 107 #[.val (.int p1), .val (.int p2), .val (.int p3), .val (.int (F1 p1 p3)), .val (.int (F2 p1 p3)), .val (.long v4), .second, .val (.int v8), .val (.int v18), .val (.int v38), .unset, .unset] [(.int v52)])) t → Steps p.tables e below (s₁.setTop (entryFrame m #[(.int p1), (.int p2), (.int p3)] maxLocals)) t := by
    by_cases hc44 : v18 = (0 : Int32)
    · have R46 : ∀ t, Steps p.tables e below (T41.setTop (mkF m 107 #[.val (.int p1), .val (.int p2), .val (.int p3), .val (.int (F1 p1 p3)), .val (.int (F2 p1 p3)), .val (.long v4), .second, .val (.int v8), .val (.int v18), .val (.int v38), .unset, .unset] [(.int (1 : Int32))])) t → Steps p.tables e below (s₁.setTop (entryFrame m #[(.int p1), (.int p2), (.int p3)] maxLocals)) t := by
        intro t kt
        refine R45 _ ?_
        show Steps p.tables e below (T41.setTop (mkF m 91 #[.val (.int p1), .val (.int p2), .val (.int p3), .val (.int (F1 p1 p3)), .val (.int (F2 p1 p3)), .val (.long v4), .second, .val (.int v8), .val (.int v18), .val (.int v38), .unset, .unset] [(.int v18)])) _
        refine XS.ifYes X42.here hx rfl (pc0 := 91) (pc' := 102) rfl (hb hby at_91) rfl ((if0 _ _).trans (teq hc44).1) (by decide) (by decide) ?_
        show Steps p.tables e below (T41.setTop (mkF m 102 #[.val (.int p1), .val (.int p2), .val (.int p3), .val (.int (F1 p1 p3)), .val (.int (F2 p1 p3)), .val (.long v4), .second, .val (.int v8), .val (.int v18), .val (.int v38), .unset, .unset] [])) _
        refine XS.iconst X42.here hx rfl (hb hby at_102) ?_
        show Steps p.tables e below (T41.setTop (mkF m 103 #[.val (.int p1), .val (.int p2), .val (.int p3), .val (.int (F1 p1 p3)), .val (.int (F2 p1 p3)), .val (.long v4), .second, .val (.int v8), .val (.int v18), .val (.int v38), .unset, .unset] [(.int (1 : Int32))])) _
        refine XS.goto X42.here hx rfl (pc0 := 103) (pc' := 107) rfl (hb hby at_103) (by decide) (by decide) ?_
        exact kt
      exact ⟨T41, (1 : Int32), X42, e43, (by rw [if_pos hc44]), R46⟩
    · obtain ⟨_, _, ⟨T47, L47, k47, n47⟩, -, X47, ⟨Lc47, hQ47, l47, y47, z47⟩, st47⟩ := Jvm.LawKit.callS X42 hx (y := (⟨"com/example/lookback/lookback/Amortization", "isAllowedPayments", "(I)Z"⟩ : MethodName)) hown (mvT hZ (hw _ (List.mem_of_getElem? (i := 8) rfl))) (mvT hZ (hw _ (List.mem_of_getElem? (i := 9) rfl))) (mvT hZ (hw _ (List.mem_of_getElem? (i := 10) rfl))) (mvT hZ (hw _ (List.mem_of_getElem? (i := 11) rfl))) (by decide) (backOf (W := 0) (rm3 l Z a0 hw [] v8 h0 n0 Z0) hZ (hw _ (List.mem_of_getElem? (i := 11) rfl)) (hw _ (List.mem_of_getElem? (i := 10) rfl)) (by decide) (by decide)) (g := (mkF m 96 #[.val (.int p1), .val (.int p2), .val (.int p3), .val (.int (F1 p1 p3)), .val (.int (F2 p1 p3)), .val (.long v4), .second, .val (.int v8), .val (.int v18), .val (.int v38), .unset, .unset] [(.int v8)])) rfl (by rw [hml]; rfl) (argsL := [(.int v8)]) (rest := []) (lenOf pd_0_3 rfl) rfl (by show 2 * 0 + _ ≤ _; exact Nat.le_of_eq rfl) (hb hby at_96) (fun _ _ => ⟨rfl, e43, (by decide : 0 + 0 ≤ _), (by decide : 0 + 0 ≤ _)⟩)
      dsimp only [Pt.U, Pt.locs, Pt.cells, Pt.slots] at X47 l47 y47 z47 st47 hQ47
      subst l47 y47 z47
      obtain ⟨rfl, rfl, e47⟩ := hQ47
      replace X47 : Stand p l e room_1 s m #[(.int p1), (.int p2), (.int p3)] below meth c T47 [] 0 0 := X47
      have R49 : ∀ t, Steps p.tables e below (T47.setTop (mkF m 99 #[.val (.int p1), .val (.int p2), .val (.int p3), .val (.int (F1 p1 p3)), .val (.int (F2 p1 p3)), .val (.long v4), .second, .val (.int v8), .val (.int v18), .val (.int v38), .unset, .unset] [(.int (F3 v8))])) t → Steps p.tables e below (s₁.setTop (entryFrame m #[(.int p1), (.int p2), (.int p3)] maxLocals)) t := by
        intro t kt
        refine R45 _ ?_
        show Steps p.tables e below (T41.setTop (mkF m 91 #[.val (.int p1), .val (.int p2), .val (.int p3), .val (.int (F1 p1 p3)), .val (.int (F2 p1 p3)), .val (.long v4), .second, .val (.int v8), .val (.int v18), .val (.int v38), .unset, .unset] [(.int v18)])) _
        refine XS.ifNo X42.here hx rfl (hb hby at_91) rfl ((if0 _ _).trans (feq hc44).1) ?_
        show Steps p.tables e below (T41.setTop (mkF m 94 #[.val (.int p1), .val (.int p2), .val (.int p3), .val (.int (F1 p1 p3)), .val (.int (F2 p1 p3)), .val (.long v4), .second, .val (.int v8), .val (.int v18), .val (.int v38), .unset, .unset] [])) _
        refine XS.iload X42.here hx rfl (hb hby at_94) rfl ?_
        show Steps p.tables e below (T41.setTop (mkF m 96 #[.val (.int p1), .val (.int p2), .val (.int p3), .val (.int (F1 p1 p3)), .val (.int (F2 p1 p3)), .val (.long v4), .second, .val (.int v8), .val (.int v18), .val (.int v38), .unset, .unset] [(.int v8)])) _
        refine st47 _ ?_
        exact kt
      by_cases hc48 : (F3 v8) = (0 : Int32)
      · have R50 : ∀ t, Steps p.tables e below (T47.setTop (mkF m 107 #[.val (.int p1), .val (.int p2), .val (.int p3), .val (.int (F1 p1 p3)), .val (.int (F2 p1 p3)), .val (.long v4), .second, .val (.int v8), .val (.int v18), .val (.int v38), .unset, .unset] [(.int (0 : Int32))])) t → Steps p.tables e below (s₁.setTop (entryFrame m #[(.int p1), (.int p2), (.int p3)] maxLocals)) t := by
          intro t kt
          refine R49 _ ?_
          show Steps p.tables e below (T47.setTop (mkF m 99 #[.val (.int p1), .val (.int p2), .val (.int p3), .val (.int (F1 p1 p3)), .val (.int (F2 p1 p3)), .val (.long v4), .second, .val (.int v8), .val (.int v18), .val (.int v38), .unset, .unset] [(.int (F3 v8))])) _
          refine XS.ifYes X47.here hx rfl (pc0 := 99) (pc' := 106) rfl (hb hby at_99) rfl ((if0 _ _).trans (teq hc48).1) (by decide) (by decide) ?_
          show Steps p.tables e below (T47.setTop (mkF m 106 #[.val (.int p1), .val (.int p2), .val (.int p3), .val (.int (F1 p1 p3)), .val (.int (F2 p1 p3)), .val (.long v4), .second, .val (.int v8), .val (.int v18), .val (.int v38), .unset, .unset] [])) _
          refine XS.iconst X47.here hx rfl (hb hby at_106) ?_
          exact kt
        exact ⟨T47, (0 : Int32), X47, e47, (by rw [if_neg hc44, if_pos hc48]), R50⟩
      · have R51 : ∀ t, Steps p.tables e below (T47.setTop (mkF m 107 #[.val (.int p1), .val (.int p2), .val (.int p3), .val (.int (F1 p1 p3)), .val (.int (F2 p1 p3)), .val (.long v4), .second, .val (.int v8), .val (.int v18), .val (.int v38), .unset, .unset] [(.int (1 : Int32))])) t → Steps p.tables e below (s₁.setTop (entryFrame m #[(.int p1), (.int p2), (.int p3)] maxLocals)) t := by
          intro t kt
          refine R49 _ ?_
          show Steps p.tables e below (T47.setTop (mkF m 99 #[.val (.int p1), .val (.int p2), .val (.int p3), .val (.int (F1 p1 p3)), .val (.int (F2 p1 p3)), .val (.long v4), .second, .val (.int v8), .val (.int v18), .val (.int v38), .unset, .unset] [(.int (F3 v8))])) _
          refine XS.ifNo X47.here hx rfl (hb hby at_99) rfl ((if0 _ _).trans (feq hc48).1) ?_
          show Steps p.tables e below (T47.setTop (mkF m 102 #[.val (.int p1), .val (.int p2), .val (.int p3), .val (.int (F1 p1 p3)), .val (.int (F2 p1 p3)), .val (.long v4), .second, .val (.int v8), .val (.int v18), .val (.int v38), .unset, .unset] [])) _
          refine XS.iconst X47.here hx rfl (hb hby at_102) ?_
          show Steps p.tables e below (T47.setTop (mkF m 103 #[.val (.int p1), .val (.int p2), .val (.int p3), .val (.int (F1 p1 p3)), .val (.int (F2 p1 p3)), .val (.long v4), .second, .val (.int v8), .val (.int v18), .val (.int v38), .unset, .unset] [(.int (1 : Int32))])) _
          refine XS.goto X47.here hx rfl (pc0 := 103) (pc' := 107) rfl (hb hby at_103) (by decide) (by decide) ?_
          exact kt
        exact ⟨T47, (1 : Int32), X47, e47, (by rw [if_neg hc44, if_neg hc48]), R51⟩
  obtain ⟨T55, v52, X56, e57, hv52, R53⟩ := J54
  obtain ⟨_, _, ⟨T58, L58, k58, n58⟩, -, X58, ⟨Lc58, hQ58, l58, y58, z58⟩, st58⟩ := Jvm.LawKit.callS X56 hx (y := (⟨"com/example/lookback/lookback/Amortization", "isAllowedPayments", "(I)Z"⟩ : MethodName)) hown (mvT hZ (hw _ (List.mem_of_getElem? (i := 8) rfl))) (mvT hZ (hw _ (List.mem_of_getElem? (i := 9) rfl))) (mvT hZ (hw _ (List.mem_of_getElem? (i := 10) rfl))) (mvT hZ (hw _ (List.mem_of_getElem? (i := 11) rfl))) (by decide) (backOf (W := 0) (rm3 l Z a0 hw [] (1 : Int32) h0 n0 Z0) hZ (hw _ (List.mem_of_getElem? (i := 11) rfl)) (hw _ (List.mem_of_getElem? (i := 10) rfl)) (by decide) (by decide)) (g := (mkF m 110 #[.val (.int p1), .val (.int p2), .val (.int p3), .val (.int (F1 p1 p3)), .val (.int (F2 p1 p3)), .val (.long v4), .second, .val (.int v8), .val (.int v18), .val (.int v38), .val (.int v52), .unset] [(.int (1 : Int32))])) rfl (by rw [hml]; rfl) (argsL := [(.int (1 : Int32))]) (rest := []) (lenOf pd_0_3 rfl) rfl (by show 2 * 0 + _ ≤ _; exact Nat.le_of_eq rfl) (hb hby at_110) (fun _ _ => ⟨rfl, e57, (by decide : 0 + 0 ≤ _), (by decide : 0 + 0 ≤ _)⟩)
  dsimp only [Pt.U, Pt.locs, Pt.cells, Pt.slots] at X58 l58 y58 z58 st58 hQ58
  subst l58 y58 z58
  obtain ⟨rfl, rfl, e58⟩ := hQ58
  replace X58 : Stand p l e room_1 s m #[(.int p1), (.int p2), (.int p3)] below meth c T58 [] 0 0 := X58
  have R60 : ∀ t, Steps p.tables e below (T58.setTop (mkF m 113 #[.val (.int p1), .val (.int p2), .val (.int p3), .val (.int (F1 p1 p3)), .val (.int (F2 p1 p3)), .val (.long v4), .second, .val (.int v8), .val (.int v18), .val (.int v38), .val (.int v52), .unset] [(.int (F3 (1 : Int32)))])) t → Steps p.tables e below (s₁.setTop (entryFrame m #[(.int p1), (.int p2), (.int p3)] maxLocals)) t := by
    intro t kt
    refine R53 _ ?_
    show Steps p.tables e below (T55.setTop (mkF m 107 #[.val (.int p1), .val (.int p2), .val (.int p3), .val (.int (F1 p1 p3)), .val (.int (F2 p1 p3)), .val (.long v4), .second, .val (.int v8), .val (.int v18), .val (.int v38), .unset, .unset] [(.int v52)])) _
    refine XS.istore X56.here hx rfl (hb hby at_107) rfl (l' := #[.val (.int p1), .val (.int p2), .val (.int p3), .val (.int (F1 p1 p3)), .val (.int (F2 p1 p3)), .val (.long v4), .second, .val (.int v8), .val (.int v18), .val (.int v38), .val (.int v52), .unset]) rfl ?_
    show Steps p.tables e below (T55.setTop (mkF m 109 #[.val (.int p1), .val (.int p2), .val (.int p3), .val (.int (F1 p1 p3)), .val (.int (F2 p1 p3)), .val (.long v4), .second, .val (.int v8), .val (.int v18), .val (.int v38), .val (.int v52), .unset] [])) _
    refine XS.iconst X56.here hx rfl (hb hby at_109) ?_
    show Steps p.tables e below (T55.setTop (mkF m 110 #[.val (.int p1), .val (.int p2), .val (.int p3), .val (.int (F1 p1 p3)), .val (.int (F2 p1 p3)), .val (.long v4), .second, .val (.int v8), .val (.int v18), .val (.int v38), .val (.int v52), .unset] [(.int (1 : Int32))])) _
    refine st58 _ ?_
    exact kt
  have J77 : ∃ (T' : State) (v75 : Int32), Stand p l e room_1 s m #[(.int p1), (.int p2), (.int p3)] below meth c T' [] 0 0 ∧ T'.heap = h0 ∧ v75 = (if (F3 (1 : Int32)) = (0 : Int32) then (0 : Int32) else (if (F3 (480 : Int32)) = (0 : Int32) then (0 : Int32) else (if (F3 (0 : Int32)) = (0 : Int32) then (if (F3 (481 : Int32)) = (0 : Int32) then (1 : Int32) else (0 : Int32)) else (0 : Int32)))) ∧ ∀ t, Steps p.tables e below (T'.setTop (mkF m 146 #[.val (.int p1), .val (.int p2), .val (.int p3), .val (.int (F1 p1 p3)), .val (.int (F2 p1 p3)), .val (.long v4), .second, .val (.int v8), .val (.int v18), .val (.int v38), .val (.int v52), .unset] [(.int v75)])) t → Steps p.tables e below (s₁.setTop (entryFrame m #[(.int p1), (.int p2), (.int p3)] maxLocals)) t := by
    by_cases hc59 : (F3 (1 : Int32)) = (0 : Int32)
    · have R61 : ∀ t, Steps p.tables e below (T58.setTop (mkF m 146 #[.val (.int p1), .val (.int p2), .val (.int p3), .val (.int (F1 p1 p3)), .val (.int (F2 p1 p3)), .val (.long v4), .second, .val (.int v8), .val (.int v18), .val (.int v38), .val (.int v52), .unset] [(.int (0 : Int32))])) t → Steps p.tables e below (s₁.setTop (entryFrame m #[(.int p1), (.int p2), (.int p3)] maxLocals)) t := by
        intro t kt
        refine R60 _ ?_
        show Steps p.tables e below (T58.setTop (mkF m 113 #[.val (.int p1), .val (.int p2), .val (.int p3), .val (.int (F1 p1 p3)), .val (.int (F2 p1 p3)), .val (.long v4), .second, .val (.int v8), .val (.int v18), .val (.int v38), .val (.int v52), .unset] [(.int (F3 (1 : Int32)))])) _
        refine XS.ifYes X58.here hx rfl (pc0 := 113) (pc' := 145) rfl (hb hby at_113) rfl ((if0 _ _).trans (teq hc59).1) (by decide) (by decide) ?_
        show Steps p.tables e below (T58.setTop (mkF m 145 #[.val (.int p1), .val (.int p2), .val (.int p3), .val (.int (F1 p1 p3)), .val (.int (F2 p1 p3)), .val (.long v4), .second, .val (.int v8), .val (.int v18), .val (.int v38), .val (.int v52), .unset] [])) _
        refine XS.iconst X58.here hx rfl (hb hby at_145) ?_
        exact kt
      exact ⟨T58, (0 : Int32), X58, e58, (by rw [if_pos hc59]), R61⟩
    · obtain ⟨_, _, ⟨T62, L62, k62, n62⟩, -, X62, ⟨Lc62, hQ62, l62, y62, z62⟩, st62⟩ := Jvm.LawKit.callS X58 hx (y := (⟨"com/example/lookback/lookback/Amortization", "isAllowedPayments", "(I)Z"⟩ : MethodName)) hown (mvT hZ (hw _ (List.mem_of_getElem? (i := 8) rfl))) (mvT hZ (hw _ (List.mem_of_getElem? (i := 9) rfl))) (mvT hZ (hw _ (List.mem_of_getElem? (i := 10) rfl))) (mvT hZ (hw _ (List.mem_of_getElem? (i := 11) rfl))) (by decide) (backOf (W := 0) (rm3 l Z a0 hw [] (480 : Int32) h0 n0 Z0) hZ (hw _ (List.mem_of_getElem? (i := 11) rfl)) (hw _ (List.mem_of_getElem? (i := 10) rfl)) (by decide) (by decide)) (g := (mkF m 119 #[.val (.int p1), .val (.int p2), .val (.int p3), .val (.int (F1 p1 p3)), .val (.int (F2 p1 p3)), .val (.long v4), .second, .val (.int v8), .val (.int v18), .val (.int v38), .val (.int v52), .unset] [(.int (480 : Int32))])) rfl (by rw [hml]; rfl) (argsL := [(.int (480 : Int32))]) (rest := []) (lenOf pd_0_3 rfl) rfl (by show 2 * 0 + _ ≤ _; exact Nat.le_of_eq rfl) (hb hby at_119) (fun _ _ => ⟨rfl, e58, (by decide : 0 + 0 ≤ _), (by decide : 0 + 0 ≤ _)⟩)
      dsimp only [Pt.U, Pt.locs, Pt.cells, Pt.slots] at X62 l62 y62 z62 st62 hQ62
      subst l62 y62 z62
      obtain ⟨rfl, rfl, e62⟩ := hQ62
      replace X62 : Stand p l e room_1 s m #[(.int p1), (.int p2), (.int p3)] below meth c T62 [] 0 0 := X62
      have R64 : ∀ t, Steps p.tables e below (T62.setTop (mkF m 122 #[.val (.int p1), .val (.int p2), .val (.int p3), .val (.int (F1 p1 p3)), .val (.int (F2 p1 p3)), .val (.long v4), .second, .val (.int v8), .val (.int v18), .val (.int v38), .val (.int v52), .unset] [(.int (F3 (480 : Int32)))])) t → Steps p.tables e below (s₁.setTop (entryFrame m #[(.int p1), (.int p2), (.int p3)] maxLocals)) t := by
        intro t kt
        refine R60 _ ?_
        show Steps p.tables e below (T58.setTop (mkF m 113 #[.val (.int p1), .val (.int p2), .val (.int p3), .val (.int (F1 p1 p3)), .val (.int (F2 p1 p3)), .val (.long v4), .second, .val (.int v8), .val (.int v18), .val (.int v38), .val (.int v52), .unset] [(.int (F3 (1 : Int32)))])) _
        refine XS.ifNo X58.here hx rfl (hb hby at_113) rfl ((if0 _ _).trans (feq hc59).1) ?_
        show Steps p.tables e below (T58.setTop (mkF m 116 #[.val (.int p1), .val (.int p2), .val (.int p3), .val (.int (F1 p1 p3)), .val (.int (F2 p1 p3)), .val (.long v4), .second, .val (.int v8), .val (.int v18), .val (.int v38), .val (.int v52), .unset] [])) _
        refine XS.sipush X58.here hx rfl (hb hby at_116) ?_
        show Steps p.tables e below (T58.setTop (mkF m 119 #[.val (.int p1), .val (.int p2), .val (.int p3), .val (.int (F1 p1 p3)), .val (.int (F2 p1 p3)), .val (.long v4), .second, .val (.int v8), .val (.int v18), .val (.int v38), .val (.int v52), .unset] [(.int (480 : Int32))])) _
        refine st62 _ ?_
        exact kt
      by_cases hc63 : (F3 (480 : Int32)) = (0 : Int32)
      · have R65 : ∀ t, Steps p.tables e below (T62.setTop (mkF m 146 #[.val (.int p1), .val (.int p2), .val (.int p3), .val (.int (F1 p1 p3)), .val (.int (F2 p1 p3)), .val (.long v4), .second, .val (.int v8), .val (.int v18), .val (.int v38), .val (.int v52), .unset] [(.int (0 : Int32))])) t → Steps p.tables e below (s₁.setTop (entryFrame m #[(.int p1), (.int p2), (.int p3)] maxLocals)) t := by
          intro t kt
          refine R64 _ ?_
          show Steps p.tables e below (T62.setTop (mkF m 122 #[.val (.int p1), .val (.int p2), .val (.int p3), .val (.int (F1 p1 p3)), .val (.int (F2 p1 p3)), .val (.long v4), .second, .val (.int v8), .val (.int v18), .val (.int v38), .val (.int v52), .unset] [(.int (F3 (480 : Int32)))])) _
          refine XS.ifYes X62.here hx rfl (pc0 := 122) (pc' := 145) rfl (hb hby at_122) rfl ((if0 _ _).trans (teq hc63).1) (by decide) (by decide) ?_
          show Steps p.tables e below (T62.setTop (mkF m 145 #[.val (.int p1), .val (.int p2), .val (.int p3), .val (.int (F1 p1 p3)), .val (.int (F2 p1 p3)), .val (.long v4), .second, .val (.int v8), .val (.int v18), .val (.int v38), .val (.int v52), .unset] [])) _
          refine XS.iconst X62.here hx rfl (hb hby at_145) ?_
          exact kt
        exact ⟨T62, (0 : Int32), X62, e62, (by rw [if_neg hc59, if_pos hc63]), R65⟩
      · obtain ⟨_, _, ⟨T66, L66, k66, n66⟩, -, X66, ⟨Lc66, hQ66, l66, y66, z66⟩, st66⟩ := Jvm.LawKit.callS X62 hx (y := (⟨"com/example/lookback/lookback/Amortization", "isAllowedPayments", "(I)Z"⟩ : MethodName)) hown (mvT hZ (hw _ (List.mem_of_getElem? (i := 8) rfl))) (mvT hZ (hw _ (List.mem_of_getElem? (i := 9) rfl))) (mvT hZ (hw _ (List.mem_of_getElem? (i := 10) rfl))) (mvT hZ (hw _ (List.mem_of_getElem? (i := 11) rfl))) (by decide) (backOf (W := 0) (rm3 l Z a0 hw [] (0 : Int32) h0 n0 Z0) hZ (hw _ (List.mem_of_getElem? (i := 11) rfl)) (hw _ (List.mem_of_getElem? (i := 10) rfl)) (by decide) (by decide)) (g := (mkF m 126 #[.val (.int p1), .val (.int p2), .val (.int p3), .val (.int (F1 p1 p3)), .val (.int (F2 p1 p3)), .val (.long v4), .second, .val (.int v8), .val (.int v18), .val (.int v38), .val (.int v52), .unset] [(.int (0 : Int32))])) rfl (by rw [hml]; rfl) (argsL := [(.int (0 : Int32))]) (rest := []) (lenOf pd_0_3 rfl) rfl (by show 2 * 0 + _ ≤ _; exact Nat.le_of_eq rfl) (hb hby at_126) (fun _ _ => ⟨rfl, e62, (by decide : 0 + 0 ≤ _), (by decide : 0 + 0 ≤ _)⟩)
        dsimp only [Pt.U, Pt.locs, Pt.cells, Pt.slots] at X66 l66 y66 z66 st66 hQ66
        subst l66 y66 z66
        obtain ⟨rfl, rfl, e66⟩ := hQ66
        replace X66 : Stand p l e room_1 s m #[(.int p1), (.int p2), (.int p3)] below meth c T66 [] 0 0 := X66
        have R68 : ∀ t, Steps p.tables e below (T66.setTop (mkF m 129 #[.val (.int p1), .val (.int p2), .val (.int p3), .val (.int (F1 p1 p3)), .val (.int (F2 p1 p3)), .val (.long v4), .second, .val (.int v8), .val (.int v18), .val (.int v38), .val (.int v52), .unset] [(.int (F3 (0 : Int32)))])) t → Steps p.tables e below (s₁.setTop (entryFrame m #[(.int p1), (.int p2), (.int p3)] maxLocals)) t := by
          intro t kt
          refine R64 _ ?_
          show Steps p.tables e below (T62.setTop (mkF m 122 #[.val (.int p1), .val (.int p2), .val (.int p3), .val (.int (F1 p1 p3)), .val (.int (F2 p1 p3)), .val (.long v4), .second, .val (.int v8), .val (.int v18), .val (.int v38), .val (.int v52), .unset] [(.int (F3 (480 : Int32)))])) _
          refine XS.ifNo X62.here hx rfl (hb hby at_122) rfl ((if0 _ _).trans (feq hc63).1) ?_
          show Steps p.tables e below (T62.setTop (mkF m 125 #[.val (.int p1), .val (.int p2), .val (.int p3), .val (.int (F1 p1 p3)), .val (.int (F2 p1 p3)), .val (.long v4), .second, .val (.int v8), .val (.int v18), .val (.int v38), .val (.int v52), .unset] [])) _
          refine XS.iconst X62.here hx rfl (hb hby at_125) ?_
          show Steps p.tables e below (T62.setTop (mkF m 126 #[.val (.int p1), .val (.int p2), .val (.int p3), .val (.int (F1 p1 p3)), .val (.int (F2 p1 p3)), .val (.long v4), .second, .val (.int v8), .val (.int v18), .val (.int v38), .val (.int v52), .unset] [(.int (0 : Int32))])) _
          refine st66 _ ?_
          exact kt
        by_cases hc67 : (F3 (0 : Int32)) = (0 : Int32)
        · obtain ⟨_, _, ⟨T69, L69, k69, n69⟩, -, X69, ⟨Lc69, hQ69, l69, y69, z69⟩, st69⟩ := Jvm.LawKit.callS X66 hx (y := (⟨"com/example/lookback/lookback/Amortization", "isAllowedPayments", "(I)Z"⟩ : MethodName)) hown (mvT hZ (hw _ (List.mem_of_getElem? (i := 8) rfl))) (mvT hZ (hw _ (List.mem_of_getElem? (i := 9) rfl))) (mvT hZ (hw _ (List.mem_of_getElem? (i := 10) rfl))) (mvT hZ (hw _ (List.mem_of_getElem? (i := 11) rfl))) (by decide) (backOf (W := 0) (rm3 l Z a0 hw [] (481 : Int32) h0 n0 Z0) hZ (hw _ (List.mem_of_getElem? (i := 11) rfl)) (hw _ (List.mem_of_getElem? (i := 10) rfl)) (by decide) (by decide)) (g := (mkF m 135 #[.val (.int p1), .val (.int p2), .val (.int p3), .val (.int (F1 p1 p3)), .val (.int (F2 p1 p3)), .val (.long v4), .second, .val (.int v8), .val (.int v18), .val (.int v38), .val (.int v52), .unset] [(.int (481 : Int32))])) rfl (by rw [hml]; rfl) (argsL := [(.int (481 : Int32))]) (rest := []) (lenOf pd_0_3 rfl) rfl (by show 2 * 0 + _ ≤ _; exact Nat.le_of_eq rfl) (hb hby at_135) (fun _ _ => ⟨rfl, e66, (by decide : 0 + 0 ≤ _), (by decide : 0 + 0 ≤ _)⟩)
          dsimp only [Pt.U, Pt.locs, Pt.cells, Pt.slots] at X69 l69 y69 z69 st69 hQ69
          subst l69 y69 z69
          obtain ⟨rfl, rfl, e69⟩ := hQ69
          replace X69 : Stand p l e room_1 s m #[(.int p1), (.int p2), (.int p3)] below meth c T69 [] 0 0 := X69
          have R71 : ∀ t, Steps p.tables e below (T69.setTop (mkF m 138 #[.val (.int p1), .val (.int p2), .val (.int p3), .val (.int (F1 p1 p3)), .val (.int (F2 p1 p3)), .val (.long v4), .second, .val (.int v8), .val (.int v18), .val (.int v38), .val (.int v52), .unset] [(.int (F3 (481 : Int32)))])) t → Steps p.tables e below (s₁.setTop (entryFrame m #[(.int p1), (.int p2), (.int p3)] maxLocals)) t := by
            intro t kt
            refine R68 _ ?_
            show Steps p.tables e below (T66.setTop (mkF m 129 #[.val (.int p1), .val (.int p2), .val (.int p3), .val (.int (F1 p1 p3)), .val (.int (F2 p1 p3)), .val (.long v4), .second, .val (.int v8), .val (.int v18), .val (.int v38), .val (.int v52), .unset] [(.int (F3 (0 : Int32)))])) _
            refine XS.ifNo X66.here hx rfl (hb hby at_129) rfl ((if0 _ _).trans (teq hc67).2) ?_
            show Steps p.tables e below (T66.setTop (mkF m 132 #[.val (.int p1), .val (.int p2), .val (.int p3), .val (.int (F1 p1 p3)), .val (.int (F2 p1 p3)), .val (.long v4), .second, .val (.int v8), .val (.int v18), .val (.int v38), .val (.int v52), .unset] [])) _
            refine XS.sipush X66.here hx rfl (hb hby at_132) ?_
            show Steps p.tables e below (T66.setTop (mkF m 135 #[.val (.int p1), .val (.int p2), .val (.int p3), .val (.int (F1 p1 p3)), .val (.int (F2 p1 p3)), .val (.long v4), .second, .val (.int v8), .val (.int v18), .val (.int v38), .val (.int v52), .unset] [(.int (481 : Int32))])) _
            refine st69 _ ?_
            exact kt
          by_cases hc70 : (F3 (481 : Int32)) = (0 : Int32)
          · have R72 : ∀ t, Steps p.tables e below (T69.setTop (mkF m 146 #[.val (.int p1), .val (.int p2), .val (.int p3), .val (.int (F1 p1 p3)), .val (.int (F2 p1 p3)), .val (.long v4), .second, .val (.int v8), .val (.int v18), .val (.int v38), .val (.int v52), .unset] [(.int (1 : Int32))])) t → Steps p.tables e below (s₁.setTop (entryFrame m #[(.int p1), (.int p2), (.int p3)] maxLocals)) t := by
              intro t kt
              refine R71 _ ?_
              show Steps p.tables e below (T69.setTop (mkF m 138 #[.val (.int p1), .val (.int p2), .val (.int p3), .val (.int (F1 p1 p3)), .val (.int (F2 p1 p3)), .val (.long v4), .second, .val (.int v8), .val (.int v18), .val (.int v38), .val (.int v52), .unset] [(.int (F3 (481 : Int32)))])) _
              refine XS.ifNo X69.here hx rfl (hb hby at_138) rfl ((if0 _ _).trans (teq hc70).2) ?_
              show Steps p.tables e below (T69.setTop (mkF m 141 #[.val (.int p1), .val (.int p2), .val (.int p3), .val (.int (F1 p1 p3)), .val (.int (F2 p1 p3)), .val (.long v4), .second, .val (.int v8), .val (.int v18), .val (.int v38), .val (.int v52), .unset] [])) _
              refine XS.iconst X69.here hx rfl (hb hby at_141) ?_
              show Steps p.tables e below (T69.setTop (mkF m 142 #[.val (.int p1), .val (.int p2), .val (.int p3), .val (.int (F1 p1 p3)), .val (.int (F2 p1 p3)), .val (.long v4), .second, .val (.int v8), .val (.int v18), .val (.int v38), .val (.int v52), .unset] [(.int (1 : Int32))])) _
              refine XS.goto X69.here hx rfl (pc0 := 142) (pc' := 146) rfl (hb hby at_142) (by decide) (by decide) ?_
              exact kt
            exact ⟨T69, (1 : Int32), X69, e69, (by rw [if_neg hc59, if_neg hc63, if_pos hc67, if_pos hc70]), R72⟩
          · have R73 : ∀ t, Steps p.tables e below (T69.setTop (mkF m 146 #[.val (.int p1), .val (.int p2), .val (.int p3), .val (.int (F1 p1 p3)), .val (.int (F2 p1 p3)), .val (.long v4), .second, .val (.int v8), .val (.int v18), .val (.int v38), .val (.int v52), .unset] [(.int (0 : Int32))])) t → Steps p.tables e below (s₁.setTop (entryFrame m #[(.int p1), (.int p2), (.int p3)] maxLocals)) t := by
              intro t kt
              refine R71 _ ?_
              show Steps p.tables e below (T69.setTop (mkF m 138 #[.val (.int p1), .val (.int p2), .val (.int p3), .val (.int (F1 p1 p3)), .val (.int (F2 p1 p3)), .val (.long v4), .second, .val (.int v8), .val (.int v18), .val (.int v38), .val (.int v52), .unset] [(.int (F3 (481 : Int32)))])) _
              refine XS.ifYes X69.here hx rfl (pc0 := 138) (pc' := 145) rfl (hb hby at_138) rfl ((if0 _ _).trans (feq hc70).2) (by decide) (by decide) ?_
              show Steps p.tables e below (T69.setTop (mkF m 145 #[.val (.int p1), .val (.int p2), .val (.int p3), .val (.int (F1 p1 p3)), .val (.int (F2 p1 p3)), .val (.long v4), .second, .val (.int v8), .val (.int v18), .val (.int v38), .val (.int v52), .unset] [])) _
              refine XS.iconst X69.here hx rfl (hb hby at_145) ?_
              exact kt
            exact ⟨T69, (0 : Int32), X69, e69, (by rw [if_neg hc59, if_neg hc63, if_pos hc67, if_neg hc70]), R73⟩
        · have R74 : ∀ t, Steps p.tables e below (T66.setTop (mkF m 146 #[.val (.int p1), .val (.int p2), .val (.int p3), .val (.int (F1 p1 p3)), .val (.int (F2 p1 p3)), .val (.long v4), .second, .val (.int v8), .val (.int v18), .val (.int v38), .val (.int v52), .unset] [(.int (0 : Int32))])) t → Steps p.tables e below (s₁.setTop (entryFrame m #[(.int p1), (.int p2), (.int p3)] maxLocals)) t := by
            intro t kt
            refine R68 _ ?_
            show Steps p.tables e below (T66.setTop (mkF m 129 #[.val (.int p1), .val (.int p2), .val (.int p3), .val (.int (F1 p1 p3)), .val (.int (F2 p1 p3)), .val (.long v4), .second, .val (.int v8), .val (.int v18), .val (.int v38), .val (.int v52), .unset] [(.int (F3 (0 : Int32)))])) _
            refine XS.ifYes X66.here hx rfl (pc0 := 129) (pc' := 145) rfl (hb hby at_129) rfl ((if0 _ _).trans (feq hc67).2) (by decide) (by decide) ?_
            show Steps p.tables e below (T66.setTop (mkF m 145 #[.val (.int p1), .val (.int p2), .val (.int p3), .val (.int (F1 p1 p3)), .val (.int (F2 p1 p3)), .val (.long v4), .second, .val (.int v8), .val (.int v18), .val (.int v38), .val (.int v52), .unset] [])) _
            refine XS.iconst X66.here hx rfl (hb hby at_145) ?_
            exact kt
          exact ⟨T66, (0 : Int32), X66, e66, (by rw [if_neg hc59, if_neg hc63, if_neg hc67]), R74⟩
  obtain ⟨T78, v75, X79, e80, hv75, R76⟩ := J77
  have R82 : ∀ t, Steps p.tables e below (T78.setTop (mkF m 150 #[.val (.int p1), .val (.int p2), .val (.int p3), .val (.int (F1 p1 p3)), .val (.int (F2 p1 p3)), .val (.long v4), .second, .val (.int v8), .val (.int v18), .val (.int v38), .val (.int v52), .val (.int v75)] [(.int v38)])) t → Steps p.tables e below (s₁.setTop (entryFrame m #[(.int p1), (.int p2), (.int p3)] maxLocals)) t := by
    intro t kt
    refine R76 _ ?_
    show Steps p.tables e below (T78.setTop (mkF m 146 #[.val (.int p1), .val (.int p2), .val (.int p3), .val (.int (F1 p1 p3)), .val (.int (F2 p1 p3)), .val (.long v4), .second, .val (.int v8), .val (.int v18), .val (.int v38), .val (.int v52), .unset] [(.int v75)])) _
    refine XS.istore X79.here hx rfl (hb hby at_146) rfl (l' := #[.val (.int p1), .val (.int p2), .val (.int p3), .val (.int (F1 p1 p3)), .val (.int (F2 p1 p3)), .val (.long v4), .second, .val (.int v8), .val (.int v18), .val (.int v38), .val (.int v52), .val (.int v75)]) rfl ?_
    show Steps p.tables e below (T78.setTop (mkF m 148 #[.val (.int p1), .val (.int p2), .val (.int p3), .val (.int (F1 p1 p3)), .val (.int (F2 p1 p3)), .val (.long v4), .second, .val (.int v8), .val (.int v18), .val (.int v38), .val (.int v52), .val (.int v75)] [])) _
    refine XS.iload X79.here hx rfl (hb hby at_148) rfl ?_
    exact kt
  have J93 : ∃ (v91 : Int32), v91 = (if v38 = (0 : Int32) then (0 : Int32) else (if v52 = (0 : Int32) then (0 : Int32) else (if v75 = (0 : Int32) then (0 : Int32) else (1 : Int32)))) ∧ ∀ t, Steps p.tables e below (T78.setTop (mkF m 168 #[.val (.int p1), .val (.int p2), .val (.int p3), .val (.int (F1 p1 p3)), .val (.int (F2 p1 p3)), .val (.long v4), .second, .val (.int v8), .val (.int v18), .val (.int v38), .val (.int v52), .val (.int v75)] [(.int v91)])) t → Steps p.tables e below (s₁.setTop (entryFrame m #[(.int p1), (.int p2), (.int p3)] maxLocals)) t := by
    by_cases hc81 : v38 = (0 : Int32)
    · have R83 : ∀ t, Steps p.tables e below (T78.setTop (mkF m 168 #[.val (.int p1), .val (.int p2), .val (.int p3), .val (.int (F1 p1 p3)), .val (.int (F2 p1 p3)), .val (.long v4), .second, .val (.int v8), .val (.int v18), .val (.int v38), .val (.int v52), .val (.int v75)] [(.int (0 : Int32))])) t → Steps p.tables e below (s₁.setTop (entryFrame m #[(.int p1), (.int p2), (.int p3)] maxLocals)) t := by
        intro t kt
        refine R82 _ ?_
        show Steps p.tables e below (T78.setTop (mkF m 150 #[.val (.int p1), .val (.int p2), .val (.int p3), .val (.int (F1 p1 p3)), .val (.int (F2 p1 p3)), .val (.long v4), .second, .val (.int v8), .val (.int v18), .val (.int v38), .val (.int v52), .val (.int v75)] [(.int v38)])) _
        refine XS.ifYes X79.here hx rfl (pc0 := 150) (pc' := 167) rfl (hb hby at_150) rfl ((if0 _ _).trans (teq hc81).1) (by decide) (by decide) ?_
        show Steps p.tables e below (T78.setTop (mkF m 167 #[.val (.int p1), .val (.int p2), .val (.int p3), .val (.int (F1 p1 p3)), .val (.int (F2 p1 p3)), .val (.long v4), .second, .val (.int v8), .val (.int v18), .val (.int v38), .val (.int v52), .val (.int v75)] [])) _
        refine XS.iconst X79.here hx rfl (hb hby at_167) ?_
        exact kt
      exact ⟨(0 : Int32), (by rw [if_pos hc81]), R83⟩
    · have R85 : ∀ t, Steps p.tables e below (T78.setTop (mkF m 155 #[.val (.int p1), .val (.int p2), .val (.int p3), .val (.int (F1 p1 p3)), .val (.int (F2 p1 p3)), .val (.long v4), .second, .val (.int v8), .val (.int v18), .val (.int v38), .val (.int v52), .val (.int v75)] [(.int v52)])) t → Steps p.tables e below (s₁.setTop (entryFrame m #[(.int p1), (.int p2), (.int p3)] maxLocals)) t := by
        intro t kt
        refine R82 _ ?_
        show Steps p.tables e below (T78.setTop (mkF m 150 #[.val (.int p1), .val (.int p2), .val (.int p3), .val (.int (F1 p1 p3)), .val (.int (F2 p1 p3)), .val (.long v4), .second, .val (.int v8), .val (.int v18), .val (.int v38), .val (.int v52), .val (.int v75)] [(.int v38)])) _
        refine XS.ifNo X79.here hx rfl (hb hby at_150) rfl ((if0 _ _).trans (feq hc81).1) ?_
        show Steps p.tables e below (T78.setTop (mkF m 153 #[.val (.int p1), .val (.int p2), .val (.int p3), .val (.int (F1 p1 p3)), .val (.int (F2 p1 p3)), .val (.long v4), .second, .val (.int v8), .val (.int v18), .val (.int v38), .val (.int v52), .val (.int v75)] [])) _
        refine XS.iload X79.here hx rfl (hb hby at_153) rfl ?_
        exact kt
      by_cases hc84 : v52 = (0 : Int32)
      · have R86 : ∀ t, Steps p.tables e below (T78.setTop (mkF m 168 #[.val (.int p1), .val (.int p2), .val (.int p3), .val (.int (F1 p1 p3)), .val (.int (F2 p1 p3)), .val (.long v4), .second, .val (.int v8), .val (.int v18), .val (.int v38), .val (.int v52), .val (.int v75)] [(.int (0 : Int32))])) t → Steps p.tables e below (s₁.setTop (entryFrame m #[(.int p1), (.int p2), (.int p3)] maxLocals)) t := by
          intro t kt
          refine R85 _ ?_
          show Steps p.tables e below (T78.setTop (mkF m 155 #[.val (.int p1), .val (.int p2), .val (.int p3), .val (.int (F1 p1 p3)), .val (.int (F2 p1 p3)), .val (.long v4), .second, .val (.int v8), .val (.int v18), .val (.int v38), .val (.int v52), .val (.int v75)] [(.int v52)])) _
          refine XS.ifYes X79.here hx rfl (pc0 := 155) (pc' := 167) rfl (hb hby at_155) rfl ((if0 _ _).trans (teq hc84).1) (by decide) (by decide) ?_
          show Steps p.tables e below (T78.setTop (mkF m 167 #[.val (.int p1), .val (.int p2), .val (.int p3), .val (.int (F1 p1 p3)), .val (.int (F2 p1 p3)), .val (.long v4), .second, .val (.int v8), .val (.int v18), .val (.int v38), .val (.int v52), .val (.int v75)] [])) _
          refine XS.iconst X79.here hx rfl (hb hby at_167) ?_
          exact kt
        exact ⟨(0 : Int32), (by rw [if_neg hc81, if_pos hc84]), R86⟩
      · have R88 : ∀ t, Steps p.tables e below (T78.setTop (mkF m 160 #[.val (.int p1), .val (.int p2), .val (.int p3), .val (.int (F1 p1 p3)), .val (.int (F2 p1 p3)), .val (.long v4), .second, .val (.int v8), .val (.int v18), .val (.int v38), .val (.int v52), .val (.int v75)] [(.int v75)])) t → Steps p.tables e below (s₁.setTop (entryFrame m #[(.int p1), (.int p2), (.int p3)] maxLocals)) t := by
          intro t kt
          refine R85 _ ?_
          show Steps p.tables e below (T78.setTop (mkF m 155 #[.val (.int p1), .val (.int p2), .val (.int p3), .val (.int (F1 p1 p3)), .val (.int (F2 p1 p3)), .val (.long v4), .second, .val (.int v8), .val (.int v18), .val (.int v38), .val (.int v52), .val (.int v75)] [(.int v52)])) _
          refine XS.ifNo X79.here hx rfl (hb hby at_155) rfl ((if0 _ _).trans (feq hc84).1) ?_
          show Steps p.tables e below (T78.setTop (mkF m 158 #[.val (.int p1), .val (.int p2), .val (.int p3), .val (.int (F1 p1 p3)), .val (.int (F2 p1 p3)), .val (.long v4), .second, .val (.int v8), .val (.int v18), .val (.int v38), .val (.int v52), .val (.int v75)] [])) _
          refine XS.iload X79.here hx rfl (hb hby at_158) rfl ?_
          exact kt
        by_cases hc87 : v75 = (0 : Int32)
        · have R89 : ∀ t, Steps p.tables e below (T78.setTop (mkF m 168 #[.val (.int p1), .val (.int p2), .val (.int p3), .val (.int (F1 p1 p3)), .val (.int (F2 p1 p3)), .val (.long v4), .second, .val (.int v8), .val (.int v18), .val (.int v38), .val (.int v52), .val (.int v75)] [(.int (0 : Int32))])) t → Steps p.tables e below (s₁.setTop (entryFrame m #[(.int p1), (.int p2), (.int p3)] maxLocals)) t := by
            intro t kt
            refine R88 _ ?_
            show Steps p.tables e below (T78.setTop (mkF m 160 #[.val (.int p1), .val (.int p2), .val (.int p3), .val (.int (F1 p1 p3)), .val (.int (F2 p1 p3)), .val (.long v4), .second, .val (.int v8), .val (.int v18), .val (.int v38), .val (.int v52), .val (.int v75)] [(.int v75)])) _
            refine XS.ifYes X79.here hx rfl (pc0 := 160) (pc' := 167) rfl (hb hby at_160) rfl ((if0 _ _).trans (teq hc87).1) (by decide) (by decide) ?_
            show Steps p.tables e below (T78.setTop (mkF m 167 #[.val (.int p1), .val (.int p2), .val (.int p3), .val (.int (F1 p1 p3)), .val (.int (F2 p1 p3)), .val (.long v4), .second, .val (.int v8), .val (.int v18), .val (.int v38), .val (.int v52), .val (.int v75)] [])) _
            refine XS.iconst X79.here hx rfl (hb hby at_167) ?_
            exact kt
          exact ⟨(0 : Int32), (by rw [if_neg hc81, if_neg hc84, if_pos hc87]), R89⟩
        · have R90 : ∀ t, Steps p.tables e below (T78.setTop (mkF m 168 #[.val (.int p1), .val (.int p2), .val (.int p3), .val (.int (F1 p1 p3)), .val (.int (F2 p1 p3)), .val (.long v4), .second, .val (.int v8), .val (.int v18), .val (.int v38), .val (.int v52), .val (.int v75)] [(.int (1 : Int32))])) t → Steps p.tables e below (s₁.setTop (entryFrame m #[(.int p1), (.int p2), (.int p3)] maxLocals)) t := by
            intro t kt
            refine R88 _ ?_
            show Steps p.tables e below (T78.setTop (mkF m 160 #[.val (.int p1), .val (.int p2), .val (.int p3), .val (.int (F1 p1 p3)), .val (.int (F2 p1 p3)), .val (.long v4), .second, .val (.int v8), .val (.int v18), .val (.int v38), .val (.int v52), .val (.int v75)] [(.int v75)])) _
            refine XS.ifNo X79.here hx rfl (hb hby at_160) rfl ((if0 _ _).trans (feq hc87).1) ?_
            show Steps p.tables e below (T78.setTop (mkF m 163 #[.val (.int p1), .val (.int p2), .val (.int p3), .val (.int (F1 p1 p3)), .val (.int (F2 p1 p3)), .val (.long v4), .second, .val (.int v8), .val (.int v18), .val (.int v38), .val (.int v52), .val (.int v75)] [])) _
            refine XS.iconst X79.here hx rfl (hb hby at_163) ?_
            show Steps p.tables e below (T78.setTop (mkF m 164 #[.val (.int p1), .val (.int p2), .val (.int p3), .val (.int (F1 p1 p3)), .val (.int (F2 p1 p3)), .val (.long v4), .second, .val (.int v8), .val (.int v18), .val (.int v38), .val (.int v52), .val (.int v75)] [(.int (1 : Int32))])) _
            refine XS.goto X79.here hx rfl (pc0 := 164) (pc' := 168) rfl (hb hby at_164) (by decide) (by decide) ?_
            exact kt
          exact ⟨(1 : Int32), (by rw [if_neg hc81, if_neg hc84, if_neg hc87]), R90⟩
  obtain ⟨v91, hv91, R92⟩ := J93
  obtain ⟨fs, hr, hrun, hended, hW, hsame⟩ := X79.leave (v := some (.int (nar .boolean v91))) (fun h => by rw [Bd.returns] at h; cases h)
  refine ⟨_, _, R92 _ ?_, hrun, hended, _, _, rfl, ?_, ⟨_, rfl⟩, hW, hsame.mono (by decide) (by decide)⟩
  · show Steps p.tables e below (T78.setTop (mkF m 168 #[.val (.int p1), .val (.int p2), .val (.int p3), .val (.int (F1 p1 p3)), .val (.int (F2 p1 p3)), .val (.long v4), .second, .val (.int v8), .val (.int v18), .val (.int v38), .val (.int v52), .val (.int v75)] [(.int v91)])) _
    exact retN X79 hx (t := .boolean) Bd.returns (by simp) (hb hby at_168) hr
  · show Q0 Z p1 p2 p3 h0 n0 _ T78.heap _
    rw [e80]
    refine ⟨?_, rfl, rfl⟩
    subst hv4 hv6 hv8 hv18 hv38 hv52 hv75 hv91; rfl
theorem own_F3 (x : Int32) : F3 x = if (1 ≤ x.toInt ∧ x.toInt ≤ 480) then 1 else 0 := by
  have z0 : (1 : Int32).toInt = 1 := rfl
  have z1 : (480 : Int32).toInt = 480 := rfl
  simp only [F3, Int32.lt_iff_toInt_lt, z0, z1]
  by_cases h1 : x.toInt < 1
  · rw [if_pos h1, if_neg (by omega)]; rfl
  · rw [if_neg h1]
    by_cases h2 : 480 < x.toInt
    · rw [if_pos h2, if_neg (by omega)]; rfl
    · rw [if_neg h2, if_pos (by omega)]; rfl
theorem own_F3z (x : Int32) : F3 x = (0 : Int32) ↔ ¬ (1 ≤ x.toInt ∧ x.toInt ≤ 480) := by
  rw [own_F3]
  by_cases h : 1 ≤ x.toInt ∧ x.toInt ≤ 480
  · rw [if_pos h]; simp only [h]; decide
  · rw [if_neg h]; simp only [h]; simp
def own_e (lo hi : Int32) : Int32 := (if (F3 lo) = (0 : Int32) then (0 : Int32) else (if (F3 hi) = (0 : Int32) then (0 : Int32) else (1 : Int32)))
theorem own_ez (lo hi : Int32) : own_e lo hi = (0 : Int32) ↔ ¬ ((1 ≤ lo.toInt ∧ lo.toInt ≤ 480) ∧ (1 ≤ hi.toInt ∧ hi.toInt ≤ 480)) := by
  simp only [own_e, own_F3z]
  by_cases h1 : 1 ≤ lo.toInt ∧ lo.toInt ≤ 480
  · by_cases h2 : 1 ≤ hi.toInt ∧ hi.toInt ≤ 480
    · rw [if_neg (fun q => q h1), if_neg (fun q => q h2)]; exact ⟨fun q => absurd q (by decide), fun q => absurd ⟨h1, h2⟩ q⟩
    · rw [if_neg (fun q => q h1), if_pos h2]; exact ⟨fun _ q => h2 q.2, fun _ => rfl⟩
  · rw [if_pos h1]; exact ⟨fun _ q => h1 q.1, fun _ => rfl⟩
theorem own_free (lo hi b : Int32) : (if own_e lo hi = (0 : Int32) then (1 : Int32) else (if b < lo then (1 : Int32) else (if hi < b then (1 : Int32) else (if (F3 b) = (0 : Int32) then (0 : Int32) else (1 : Int32))))) = 1 := by
  simp only [own_ez, own_F3z, Int32.lt_iff_toInt_lt]
  repeat' split
  all_goals first | rfl | (exfalso; omega)
theorem own_drawn (lo hi i : Int32) (h1 : lo.toInt ≤ i.toInt) (h2 : i.toInt ≤ hi.toInt) : (if own_e lo hi = (0 : Int32) then (1 : Int32) else (if (F3 i) = (0 : Int32) then (0 : Int32) else (1 : Int32))) = 1 := by
  simp only [own_ez, own_F3z]
  repeat' split
  all_goals first | rfl | (exfalso; omega)
theorem own_in (a b c : Int32) (v4 v6 : Int64) (h4 : v4 = ((((F2 a c).toInt64) - ((F1 a c).toInt64)) + (1 : Int64))) (h6 : v6 = ((b &&& (2147483647 : Int32)).toInt64)) :
    (F1 a c).toInt ≤ ((((F1 a c).toInt64) + (v6 - (v6 / v4) * v4)).toInt32).toInt ∧ ((((F1 a c).toInt64) + (v6 - (v6 / v4) * v4)).toInt32).toInt ≤ (F2 a c).toInt := by
  have m := own_mm a c
  have s := own_span h4
  have r1 := rng32 (F1 a c)
  have r2 := rng32 (F2 a c)
  have k := c_mask b 2147483647 31 (by decide) (by decide)
  have e6 : v6.toInt = (b &&& (2147483647 : Int32)).toInt := by rw [h6]; exact c_i2l _
  have n6 : 0 ≤ v6.toInt := by rw [e6, k]; exact Int.emod_nonneg _ (by decide)
  have q := (c_lrem v6 v4 v4.toInt rfl).1 n6
  have q1 := Int.emod_nonneg v6.toInt (show v4.toInt ≠ 0 by omega)
  have q2 := Int.emod_lt_of_pos v6.toInt (show 0 < v4.toInt by omega)
  have h1 := c_ladd ((F1 a c).toInt64) (v6 - (v6 / v4) * v4)
  have h2 := c_l2i (((F1 a c).toInt64) + (v6 - (v6 / v4) * v4))
  have r3 := rng64 (((F1 a c).toInt64) + (v6 - (v6 / v4) * v4))
  have r4 := rng32 ((((F1 a c).toInt64) + (v6 - (v6 / v4) * v4)).toInt32)
  rw [c_i2l] at h1
  omega
theorem own_end (a b c : Int32) (ha : a = 1) (hb : b = 1) (hc : c = 1) : nar .boolean (if a = (0 : Int32) then (0 : Int32) else (if b = (0 : Int32) then (0 : Int32) else (if c = (0 : Int32) then (0 : Int32) else (1 : Int32)))) = 1 := by subst ha hb hc; decide
theorem own_plain (p1 p2 p3 : Int32) : F0 p1 p2 p3 = 1 :=
  own_end _ _ _ (own_free (F1 p1 p3) (F2 p1 p3) p2) (own_drawn (F1 p1 p3) (F2 p1 p3) _ (own_in p1 p2 p3 _ _ rfl rfl).1 (own_in p1 p2 p3 _ _ rfl rfl).2) (by decide +kernel)
theorem own_fin {Z : State} (p1 : Int32) (p2 : Int32) (p3 : Int32) (h0 : Heap) (n0 : Nat) (h : Heap) (L : List Loc) {v : Option Value} (q : Q0 Z p1 p2 p3 h0 n0 v h L) : v = some (.int (1 : Int32)) ∧ Fr n0 L := by
  obtain ⟨rfl, rfl, rfl⟩ := q
  exact ⟨by rw [own_plain], Fr.nil _⟩
set_option maxRecDepth 65536 in
set_option maxHeartbeats 40000000 in
theorem comes_1 {Post : Tables → Env → Array Value → State → Outcome → State → Prop} (hpost : ∀ tb e args s v u, (limb_1_1.after args s (.returned v) u = true ∧ limb_1_2.after args s (.returned v) u = true ∧ True) → FrameEnd s (.returned v) u (Jvm.fieldLocs frame_1_writes args s ++ Jvm.arrayLocs frame_1_arrays args s ++ Jvm.staticLocs frame_1_statics s) 0 0 → Post tb e args s (.returned v) u) :
    ArmFor flags0 classFile x code maxLocals ret World_1 tables_1 room_1 Calls_1 rest_1 Pre_1 Post := by
  intro l hfl _ _ p e ha hc hk s m args below hf hA hF happ hP
  obtain ⟨hcalls, hrest, hpre⟩ := hP
  obtain ⟨-, -, -, hnamed, -, -, -, hat⟩ := (Spec.applies_iff hf).mp happ
  obtain ⟨hg, hn⟩ := and_e (Cond.before_iff.mp (show (Jvm.Cond.and given_1 narrow_1).before args s = true from hpre))
  obtain ⟨ga0, gb0⟩ := and_e hg
  obtain ⟨ga1, gb1⟩ := and_e gb0
  obtain ⟨ga2, gb2⟩ := and_e gb1
  obtain ⟨w0, w1, w2, rfl⟩ : ∃ w0 w1 w2 : Value, args = #[w0, w1, w2] := by
    have hs : args.size = 3 := by simpa [Cond.value, given_1] using ga0
    obtain ⟨L⟩ := args
    match L, hs with
    | [w0, w1, w2], _ => exact ⟨w0, w1, w2, rfl⟩
  have hw := fun d (hd : d ∈ tables_1) => atoms_spec (ws := Jvm.Cond.code x code maxLocals ret :: tables_1) hat d (List.mem_cons_of_mem _ hd)
  have hfit : Fit s := fun {y c} hc i hi => by
    obtain ⟨ha, rfl⟩ := Array.getElem?_eq_some_iff.mp hc
    have q := List.all_eq_true.mp ((Array.all_eq_true_iff_forall_mem.mp hF) _ (Array.getElem_mem ha)) i (List.mem_range.mpr hi)
    simpa [Array.getElem?_eq_getElem hi] using q
  obtain ⟨i0, ei0⟩ := is_v ga1
  obtain rfl : w0 = (.int i0) := Option.some.inj ei0
  obtain ⟨i1, ei1⟩ := is_v ga2
  obtain rfl : w1 = (.int i1) := Option.some.inj ei1
  obtain ⟨i2, ei2⟩ := is_v gb2
  obtain rfl : w2 = (.int i2) := Option.some.inj ei2
  obtain ⟨n, o, h1, h2, h3, v, L, rfl, hQ, hq⟩ := rm0 l s _ hw tables_1 i0 i1 i2 s.heap s.heap.size (Nat.le_refl _) p e ha hc hk s m _ below hf ((Spec.applies_iff_loose hf).mp happ).1 ⟨rfl, State.Warmed39.refl s, rfl⟩ trivial
  obtain ⟨rfl, N⟩ := own_fin i0 i1 i2 _ _ _ _ hQ
  refine ⟨n, _, h1, h2, h3, hpost _ _ _ _ _ _ ⟨Cond.after_iff.mpr rfl, Cond.after_iff.mpr (eq_i res_at (Term.int_eval (1)) rfl), trivial⟩ ⟨hq.1, hq.2.1, (hq.2.2.sift fun y hy => Or.inr (N y hy)).mono (by decide) (by decide)⟩⟩
theorem main_1_1 : Claimed_1_1 := comes_1 fun _ _ _ _ _ _ h hF => ⟨h.1, hF⟩
theorem main_1_2 : Claimed_1_2 := comes_1 fun _ _ _ _ _ _ h hF => ⟨h.2.1, hF⟩
end Jvm.Pilot.@@N@@
namespace Jvm.Pilot.@@N@@
open Jvm Jvm.ClassFile Sem Op Lib Jvm.Free Jvm.Stand Jvm.Pilot.@@N@@.Jvm.D
/-! MADE BY PROGRAM (witnessworld.py) out of the Statement's table words and the real class files: 11 classes; the members and pool entries that the words name. The judged class is class 1, her method 1. -/
namespace start1
open Jvm.ClassFile
def u (s : String) : CpInfo := .utf8 (stringToUtf16 s)
/-- a pool by its gaps: so many unusable entries, then the entry; so many at the end -/
def gap : Nat → List CpInfo → List CpInfo
  | 0, r => r
  | n + 1, r => .unusable :: gap n r
def poolList (es : List (Nat × CpInfo)) (last : Nat) : List CpInfo := es.foldr (fun e r => gap e.1 (e.2 :: r)) (gap last [])
def pool (es : List (Nat × CpInfo)) (last : Nat) : Array CpInfo := ⟨poolList es last⟩
def fileOf (pool : Array CpInfo) (this : Nat) (attrs : Array Attribute := #[]) (ms : Array MethodInfo := #[]) (fl : Nat := 33) (sup : Nat := 0) (ifs : Array Nat := #[]) (fds : Array FieldInfo := #[]) : ClassFile where
  minorVersion := 0
  majorVersion := 65
  constantPool := pool
  accessFlags := fl
  thisClass := this
  superClass := sup
  interfaces := ifs
  fields := fds
  methods := ms
  attributes := attrs
def plain (name : String) (sup : Option ClassId) : Class where
  name := name
  kind := .ordinary
  loader := none
  accessFlags := 33
  super := sup
  interfaces := #[]
  cf := none
  fields := #[]
  methods := #[]
  instanceTypes := #[]
  staticTypes := #[]
  resolved := #[]
  callSites := []
  init := .initialized
  statics := none
  mirror := none

def pool0 : Array CpInfo := pool [(5, u "<init>"), (0, u "()V"), (1, .class_ 10), (1, u "java/lang/Object")] 113

def k0m0 : Method := { name := "<init>", desc := "()V", sig := { parameters := [], returnType := none }, accessFlags := 1, code := none }
/-- java/lang/Object -/
def k0 : Class := { plain "java/lang/Object" none with
  accessFlags := 33
  interfaces := #[]
  cf := some (fileOf pool0 8 #[] #[{ accessFlags := 1, nameIndex := 5, descriptorIndex := 6, attributes := #[] }] 33 0 #[] #[])
  fields := #[]
  methods := #[k0m0]
  instanceTypes := #[]
  staticTypes := #[]
  resolved := Array.replicate 124 none
  statics := none }

def pool1 : Array CpInfo := pool [(2, .class_ 4), (1, u "java/lang/Object"), (0, u "<init>"), (0, u "()V"), (0, .methodref 8 9), (0, .class_ 10), (0, .nameAndType 11 12), (0, u "java/lang/Math"), (0, u "min"), (0, u "(II)I"), (0, .methodref 8 14), (0, .nameAndType 15 12), (0, u "max"), (0, .integer 2147483647), (0, .methodref 18 19), (0, .class_ 20), (0, .nameAndType 21 22), (0, u "com/example/lookback/lookback/Amortization"), (0, u "isAllowedPayments"), (0, u "(I)Z"), (0, .class_ 24), (0, u "com/example/lookback/lookback/AmortizationIsAllowedPaymentsPinLaw"), (2, u "law"), (0, u "(III)Z")] 3

def k1m0 : Method := { name := "<init>", desc := "()V", sig := { parameters := [], returnType := none }, accessFlags := 2, code := none }
def k1c1 : Code := { maxStack := 6, maxLocals := 12, code := code, exceptionTable := #[], attributes := #[] }
def k1m1 : Method := { name := "law", desc := "(III)Z", sig := { parameters := [.int, .int, .int], returnType := some .boolean }, accessFlags := 9, code := some k1c1 }
/-- com/example/lookback/lookback/AmortizationIsAllowedPaymentsPinLaw -/
def k1 : Class := { plain "com/example/lookback/lookback/AmortizationIsAllowedPaymentsPinLaw" (some 0) with
  accessFlags := 49
  interfaces := #[]
  cf := some (fileOf pool1 23 #[] #[{ accessFlags := 2, nameIndex := 5, descriptorIndex := 6, attributes := #[] }, { accessFlags := 9, nameIndex := 27, descriptorIndex := 28, attributes := #[] }] 49 2 #[] #[])
  fields := #[]
  methods := #[k1m0, k1m1]
  instanceTypes := #[]
  staticTypes := #[]
  resolved := Array.replicate 32 none
  statics := none }

def pool2 : Array CpInfo := pool [(1, .class_ 2), (0, u "java/lang/Math"), (1, .class_ 6), (1, u "java/lang/Object"), (0, u "<init>"), (0, u "()V"), (89, .class_ 100), (1, u "java/lang/Math$RandomNumberGeneratorHolder"), (71, u "negativeZeroFloatBits"), (0, u "J"), (2, u "negativeZeroDoubleBits"), (21, u "max"), (2, u "min"), (43, u "$assertionsDisabled"), (0, u "Z"), (88, u "(II)I"), (2, u "twoToTheDoubleScaleDown"), (0, u "D"), (4, u "twoToTheDoubleScaleUp"), (9, u "E"), (3, u "PI"), (2, u "TAU"), (2, u "DEGREES_TO_RADIANS"), (0, u "RADIANS_TO_DEGREES")] 94

def k2m0 : Method := { name := "<init>", desc := "()V", sig := { parameters := [], returnType := none }, accessFlags := 2, code := none }
def k2c1 : Code := { maxStack := 2, maxLocals := 2, code := jdk_29_method_65_code, exceptionTable := #[], attributes := #[] }
def k2m1 : Method := { name := "max", desc := "(II)I", sig := { parameters := [.int, .int], returnType := some .int }, accessFlags := 9, code := some k2c1 }
def k2c2 : Code := { maxStack := 2, maxLocals := 2, code := jdk_29_method_69_code, exceptionTable := #[], attributes := #[] }
def k2m2 : Method := { name := "min", desc := "(II)I", sig := { parameters := [.int, .int], returnType := some .int }, accessFlags := 9, code := some k2c2 }
/-- java/lang/Math -/
def k2 : Class := { plain "java/lang/Math" (some 0) with
  accessFlags := 49
  interfaces := #[]
  cf := some (fileOf pool2 1 #[.nestMembers #[98]] #[{ accessFlags := 2, nameIndex := 7, descriptorIndex := 8, attributes := #[] }, { accessFlags := 9, nameIndex := 198, descriptorIndex := 335, attributes := #[] }, { accessFlags := 9, nameIndex := 201, descriptorIndex := 335, attributes := #[] }] 49 4 #[] #[{ accessFlags := 25, nameIndex := 354, descriptorIndex := 339, attributes := #[] }, { accessFlags := 25, nameIndex := 358, descriptorIndex := 339, attributes := #[] }, { accessFlags := 25, nameIndex := 361, descriptorIndex := 339, attributes := #[] }, { accessFlags := 26, nameIndex := 364, descriptorIndex := 339, attributes := #[] }, { accessFlags := 26, nameIndex := 365, descriptorIndex := 339, attributes := #[] }, { accessFlags := 26, nameIndex := 172, descriptorIndex := 173, attributes := #[] }, { accessFlags := 26, nameIndex := 176, descriptorIndex := 173, attributes := #[] }, { accessFlags := 8, nameIndex := 344, descriptorIndex := 339, attributes := #[] }, { accessFlags := 8, nameIndex := 338, descriptorIndex := 339, attributes := #[] }, { accessFlags := 4120, nameIndex := 245, descriptorIndex := 246, attributes := #[] }])
  fields := #[{ name := "E", type := .double, accessFlags := 25, slot := 0, constantValue := 0 }, { name := "PI", type := .double, accessFlags := 25, slot := 1, constantValue := 0 }, { name := "TAU", type := .double, accessFlags := 25, slot := 2, constantValue := 0 }, { name := "DEGREES_TO_RADIANS", type := .double, accessFlags := 26, slot := 3, constantValue := 0 }, { name := "RADIANS_TO_DEGREES", type := .double, accessFlags := 26, slot := 4, constantValue := 0 }, { name := "negativeZeroFloatBits", type := .long, accessFlags := 26, slot := 5, constantValue := 0 }, { name := "negativeZeroDoubleBits", type := .long, accessFlags := 26, slot := 6, constantValue := 0 }, { name := "twoToTheDoubleScaleUp", type := .double, accessFlags := 8, slot := 7, constantValue := 0 }, { name := "twoToTheDoubleScaleDown", type := .double, accessFlags := 8, slot := 8, constantValue := 0 }, { name := "$assertionsDisabled", type := .boolean, accessFlags := 4120, slot := 9, constantValue := 0 }]
  methods := #[k2m0, k2m1, k2m2]
  instanceTypes := #[]
  staticTypes := #[.double, .double, .double, .double, .double, .long, .long, .double, .double, .boolean]
  resolved := Array.replicate 460 none
  statics := none }

def pool3 : Array CpInfo := pool [(2, .class_ 4), (1, u "java/lang/Object"), (0, u "<init>"), (0, u "()V"), (0, .class_ 8), (0, u "java/lang/Record")] 13

def k3m0 : Method := { name := "<init>", desc := "()V", sig := { parameters := [], returnType := none }, accessFlags := 4, code := none }
/-- java/lang/Record -/
def k3 : Class := { plain "java/lang/Record" (some 0) with
  accessFlags := 1057
  interfaces := #[]
  cf := some (fileOf pool3 7 #[] #[{ accessFlags := 4, nameIndex := 5, descriptorIndex := 6, attributes := #[] }] 1057 2 #[] #[])
  fields := #[]
  methods := #[k3m0]
  instanceTypes := #[]
  staticTypes := #[]
  resolved := Array.replicate 22 none
  statics := none }

def pool4 : Array CpInfo := pool [(1, .class_ 2), (0, u "com/example/lookback/lookback/Amortization"), (3, .class_ 8), (1, u "java/lang/Record"), (3, u "balance"), (27, u "isAllowedPayments"), (0, u "(I)Z"), (5, u "Ljava/math/BigDecimal;"), (2, u "payments"), (0, u "I"), (59, u "PERCENT_MONTHS"), (53, .class_ 167), (1, u "com/example/lookback/lookback/Amortization$Growth"), (80, u "DECIMALS"), (2, u "MOST_PAYMENTS"), (1, u "FRACTION_BITS"), (1, u "ONE"), (0, u "J"), (0, u "DIGIT_BITS")] 65

def k4c0 : Code := { maxStack := 2, maxLocals := 1, code := prog_2_method_3_code, exceptionTable := #[], attributes := #[] }
def k4m0 : Method := { name := "isAllowedPayments", desc := "(I)Z", sig := { parameters := [.int], returnType := some .boolean }, accessFlags := 9, code := some k4c0 }
/-- com/example/lookback/lookback/Amortization -/
def k4 : Class := { plain "com/example/lookback/lookback/Amortization" (some 3) with
  accessFlags := 49
  interfaces := #[]
  cf := some (fileOf pool4 1 #[.nestMembers #[165]] #[{ accessFlags := 9, nameIndex := 40, descriptorIndex := 41, attributes := #[] }] 49 6 #[] #[{ accessFlags := 18, nameIndex := 12, descriptorIndex := 47, attributes := #[] }, { accessFlags := 18, nameIndex := 50, descriptorIndex := 51, attributes := #[] }, { accessFlags := 25, nameIndex := 248, descriptorIndex := 51, attributes := #[] }, { accessFlags := 25, nameIndex := 251, descriptorIndex := 51, attributes := #[] }, { accessFlags := 26, nameIndex := 111, descriptorIndex := 47, attributes := #[] }, { accessFlags := 26, nameIndex := 253, descriptorIndex := 51, attributes := #[] }, { accessFlags := 26, nameIndex := 255, descriptorIndex := 256, attributes := #[] }, { accessFlags := 26, nameIndex := 257, descriptorIndex := 51, attributes := #[] }])
  fields := #[{ name := "balance", type := (.object "java/math/BigDecimal"), accessFlags := 18, slot := 0, constantValue := 0 }, { name := "payments", type := .int, accessFlags := 18, slot := 1, constantValue := 0 }, { name := "DECIMALS", type := .int, accessFlags := 25, slot := 0, constantValue := 0 }, { name := "MOST_PAYMENTS", type := .int, accessFlags := 25, slot := 1, constantValue := 0 }, { name := "PERCENT_MONTHS", type := (.object "java/math/BigDecimal"), accessFlags := 26, slot := 2, constantValue := 0 }, { name := "FRACTION_BITS", type := .int, accessFlags := 26, slot := 3, constantValue := 0 }, { name := "ONE", type := .long, accessFlags := 26, slot := 4, constantValue := 0 }, { name := "DIGIT_BITS", type := .int, accessFlags := 26, slot := 5, constantValue := 0 }]
  methods := #[k4m0]
  instanceTypes := #[(.object "java/math/BigDecimal"), .int]
  staticTypes := #[.int, .int, (.object "java/math/BigDecimal"), .int, .long, .int]
  resolved := Array.replicate 323 none
  statics := none }

def pool5 : Array CpInfo := pool [(1, u "java/lang/Cloneable"), (0, .class_ 1), (0, u "java/lang/Object"), (0, .class_ 3)] 3

/-- java/lang/Cloneable -/
def k5 : Class := { plain "java/lang/Cloneable" (some 0) with
  accessFlags := 1537
  interfaces := #[]
  cf := some (fileOf pool5 2 #[] #[] 1537 4 #[] #[])
  fields := #[]
  methods := #[]
  instanceTypes := #[]
  staticTypes := #[]
  resolved := Array.replicate 8 none
  statics := none }

def pool6 : Array CpInfo := pool [(1, u "java/io/Serializable"), (0, .class_ 1), (0, u "java/lang/Object"), (0, .class_ 3)] 3

/-- java/io/Serializable -/
def k6 : Class := { plain "java/io/Serializable" (some 0) with
  accessFlags := 1537
  interfaces := #[]
  cf := some (fileOf pool6 2 #[] #[] 1537 4 #[] #[])
  fields := #[]
  methods := #[]
  instanceTypes := #[]
  staticTypes := #[]
  resolved := Array.replicate 8 none
  statics := none }

/-- the primitive byte -/
def k7 : Class := { plain "byte" none with kind := .primitive 'B', accessFlags := 0x411 }
/-- [B -/
def k8 : Class := { plain "[B" (some 0) with kind := .array 7 .byte, interfaces := #[5, 6], accessFlags := 1041 }

/-- the primitive int -/
def k9 : Class := { plain "int" none with kind := .primitive 'I', accessFlags := 0x411 }
/-- [I -/
def k10 : Class := { plain "[I" (some 0) with kind := .array 9 .int, interfaces := #[5, 6], accessFlags := 1041 }

def heap : Heap := #[]
def classes : Array Class := #[k0, k1, k2, k3, k4, k5, k6, k7, k8, k9, k10]
def interned : List (Array UInt16 × Addr) := []
def slotsUsed : Nat := 0
def theMethod : MethodId := ⟨1, 1⟩
def args0 : Array Value := #[.int 5, .int 3, .int 9]
def aboutOver (below : List Frame) : State where
  vm := { classes := classes, interned := interned.toArray }
  heap := heap
  slotsUsed := slotsUsed
  threads := #[{ frames := .invoking theMethod args0 :: below }]
def below0 : List Frame := [.native { method := ⟨0, 0⟩, args := #[] }]
def about1 : State := aboutOver below0
def p0 : Program := .bare "" "" ""
def e0 : Env := launch0.env 0 0 0
theorem w_frames : about1.frames = Frame.invoking theMethod args0 :: below0 := rfl
set_option maxRecDepth 65536 in
theorem w_args : argsFit about1.vm theMethod args0 = true := by decide +kernel
set_option maxRecDepth 65536 in
theorem w_heap : heapFits about1 = true := by decide +kernel
set_option maxRecDepth 65536 in
theorem w_runnable : about1.curStatus? = some .runnable := by decide +kernel
set_option maxRecDepth 65536 in
theorem w_alone : about1.alone = true := by decide +kernel
set_option maxRecDepth 65536 in
theorem w_named : about1.methodNamed? x = some theMethod := by decide +kernel
set_option maxRecDepth 65536 in
theorem w_hears : about1.hears theMethod below0 = true := by decide +kernel
set_option maxRecDepth 65536 in
theorem w_ripe : about1.ripe theMethod args0 below0 = true := by decide +kernel
theorem w_running : about1.status = .running := rfl
set_option maxRecDepth 65536 in
theorem w_room : about1.hasRoom e0.platform room_1 = true :=
  launch0.hasRoom_least _ room_1 (by decide +kernel) (by decide +kernel) (by decide +kernel) (by decide +kernel) (by decide +kernel) (by decide +kernel)
theorem allAtoms_all (ts : List Jvm.Cond) (a : Array Jvm.Value) (st : Jvm.State) : (allAtoms ts).before a st = ts.all (fun c => c.before a st) := by
  induction ts with
  | nil => rfl
  | cons c t ih =>
    show (Jvm.Cond.and c (allAtoms t)).before a st = _
    rw [Jvm.Cond.before_and, ih, List.all_cons]
def words1 : List Jvm.Cond := Jvm.Cond.code x code maxLocals ret :: tables_1
/-- a 'code' word, met by the world's own term for the bytes: nothing is compared byte by byte -/
theorem code_word {y : MethodName} {bytes : ByteArray} {mx : Nat} {rt : Option FieldType} {a : Array Value} {s : State} {m : MethodId} {meth : Method} {c : Code} (h1 : s.methodNamed? y = some m) (h2 : s.vm.method? m = some meth) (h3 : meth.code = some c) (h4 : c.code = bytes)
    (h5 : (c.maxLocals == mx && c.exceptionTable.isEmpty && decide (c.maxStack ≤ mostOperands) && decide (meth.sig.returnType = rt) && !meth.locks && decide (parseMethodDescriptor y.desc = some meth.sig)) = true) : (Jvm.Cond.code y bytes mx rt).before a s = true := by
  simp only [Bool.and_eq_true, beq_iff_eq, Bool.not_eq_true', decide_eq_true_eq] at h5
  obtain ⟨⟨⟨⟨⟨g1, g2⟩, g3⟩, g4⟩, g5⟩, g6⟩ := h5
  simp [Cond.before, Cond.holds, Cond.value, h1, h2, h3, h4, g1, g2, g3, g4, g5, g6]
def isCode : Jvm.Cond → Bool
  | .code _ _ _ _ => true
  | _ => false
theorem all_split {L : List Jvm.Cond} {P : Jvm.Cond → Bool} (h1 : L.all (fun c => isCode c || P c) = true) (h2 : ∀ c ∈ L.filter isCode, P c = true) : L.all P = true := by
  refine List.all_eq_true.mpr fun c hc => ?_
  have h := List.all_eq_true.mp h1 c hc
  rcases Bool.eq_false_or_eq_true (isCode c) with hi | hi
  · exact h2 c (List.mem_filter.mpr ⟨hc, hi⟩)
  · simpa [hi] using h
set_option maxRecDepth 65536 in
theorem w_c0 : (Jvm.Cond.code x code maxLocals ret).before args0 about1 = true := code_word (m := ⟨1, 1⟩) (meth := k1m1) (c := k1c1) (by decide +kernel) rfl rfl rfl (by decide +kernel)
set_option maxRecDepth 65536 in
theorem w_c1 : (Jvm.Cond.code ({ cls := "java/lang/Math", name := "min", desc := "(II)I" } : Jvm.MethodName) jdk_29_method_69_code (2 : Nat) (Option.some Jvm.ClassFile.FieldType.int)).before args0 about1 = true := code_word (m := ⟨2, 2⟩) (meth := k2m2) (c := k2c2) (by decide +kernel) rfl rfl rfl (by decide +kernel)
set_option maxRecDepth 65536 in
theorem w_c2 : (Jvm.Cond.code ({ cls := "java/lang/Math", name := "max", desc := "(II)I" } : Jvm.MethodName) jdk_29_method_65_code (2 : Nat) (Option.some Jvm.ClassFile.FieldType.int)).before args0 about1 = true := code_word (m := ⟨2, 1⟩) (meth := k2m1) (c := k2c1) (by decide +kernel) rfl rfl rfl (by decide +kernel)
set_option maxRecDepth 65536 in
theorem w_c3 : (Jvm.Cond.code ({ cls := "com/example/lookback/lookback/Amortization", name := "isAllowedPayments", desc := "(I)Z" } : Jvm.MethodName) prog_2_method_3_code (1 : Nat) (Option.some Jvm.ClassFile.FieldType.boolean)).before args0 about1 = true := code_word (m := ⟨4, 0⟩) (meth := k4m0) (c := k4c0) (by decide +kernel) rfl rfl rfl (by decide +kernel)
def codes1 : List Jvm.Cond := [Jvm.Cond.code x code maxLocals ret, Jvm.Cond.code ({ cls := "java/lang/Math", name := "min", desc := "(II)I" } : Jvm.MethodName) jdk_29_method_69_code (2 : Nat) (Option.some Jvm.ClassFile.FieldType.int), Jvm.Cond.code ({ cls := "java/lang/Math", name := "max", desc := "(II)I" } : Jvm.MethodName) jdk_29_method_65_code (2 : Nat) (Option.some Jvm.ClassFile.FieldType.int), Jvm.Cond.code ({ cls := "com/example/lookback/lookback/Amortization", name := "isAllowedPayments", desc := "(I)Z" } : Jvm.MethodName) prog_2_method_3_code (1 : Nat) (Option.some Jvm.ClassFile.FieldType.boolean)]
set_option maxRecDepth 65536 in
theorem codes_eq : words1.filter isCode = codes1 := rfl
theorem w_codes : ∀ c ∈ words1.filter isCode, c.before args0 about1 = true := by
  rw [codes_eq]
  intro c hc
  simp only [codes1, List.mem_cons, List.not_mem_nil, or_false] at hc
  rcases hc with rfl | rfl | rfl | rfl
  · exact w_c0
  · exact w_c1
  · exact w_c2
  · exact w_c3
set_option maxRecDepth 65536 in
theorem w_t1 : words1.all (fun c => isCode c || c.before args0 about1) = true := by decide +kernel
theorem w_tables : (allAtoms (Jvm.Cond.code x code maxLocals ret :: tables_1)).before args0 about1 = true := by
  rw [allAtoms_all]
  show words1.all (fun c => c.before args0 about1) = true
  refine all_split ?_ w_codes
  rw [w_t1]
set_option maxRecDepth 65536 in
theorem w_case : (Jvm.Cond.and given_1 narrow_1).before args0 about1 = true := by decide +kernel
theorem w_applies : (headSpec (Jvm.Cond.code x code maxLocals ret :: tables_1) room_1).applies x e0.platform about1 = true :=
  (Spec.applies_iff w_frames).mpr ⟨w_running, w_runnable, w_alone, w_named, w_hears, w_ripe, w_room, w_tables⟩
theorem atStart : AtStart classFile x code maxLocals ret World_1 tables_1 room_1 Calls_1 rest_1 Pre_1 launch0 p0 e0 about1 theMethod args0 below0 :=
  ⟨lists_1, trivial, launch0.admits_env _ _ _, launch0.least_env, fairChoices_fair.cas, fairChoices_fair.clock, w_frames, w_args, w_heap, w_applies, trivial, trivial, w_case⟩
end start1
theorem witness_1 : WitnessClaimed_1 := ⟨start1.p0, start1.e0, start1.about1, start1.theMethod, start1.args0, start1.below0, start1.atStart⟩
end Jvm.Pilot.@@N@@
