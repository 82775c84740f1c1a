import JvmDerived
import JvmDerived.Pilot.@@N@@Statement
import JvmDerived.Pilot.@@N@@Code
set_option linter.unusedVariables false
set_option linter.unusedSimpArgs false
namespace Jvm.RoadKit
open Sem ClassFile Op Lib Jvm.Stand Jvm.Free Jvm.LawKit
section New
variable {p : Program} {l : Launch} {e : Env} {R : Room} {s : State} {m : MethodId} {args : Array Value} {below : List Frame} {meth : Method} {c : Code} {T : State} {locs : List Loc} {cells slots : Nat}
theorem retI (X : Stand p l e R s m args below meth c T locs cells slots) (hx : p.tables.exec = Jvm.exec) {pc : Nat} {Ls : Array Slot} {z : Int32} {rest : List Value} (hret : meth.sig.returnType = some .int) (hd : decode c.code pc = .ok (.ireturn, 1)) {fs : List Frame}
    (hl : ∀ (f : JFrame) (acts : List Action), f.method = m → f.locked = none → f.entered = [] → (doReturn e (T.setTop f) acts (some (.int z))).1 = T.setFrames fs) : Steps p.tables e below (T.setTop (mkF m pc Ls (.int z :: rest))) (T.setFrames fs) := by
  have hm' : T.vm.method? m = some meth := X.method'
  have hn : narrow .int (.int z) = .int z := rfl
  show Steps p.tables e below (T.setTop { method := m, pc := pc, locals := Ls, stack := _ :: rest, locked := none }) _
  jvm_step X.here [X.here.top, hx, hd, hm', hret, hn]
  first | (intro acts; rw [hl _ acts rfl rfl rfl]) | rw [hl _ _ rfl rfl rfl]
  exact Steps.refl _
end New
end Jvm.RoadKit
namespace Jvm.Pilot.@@N@@
open Jvm Jvm.ClassFile Sem Op Lib Jvm.Free Jvm.Stand Jvm.LawKit Jvm.RoadKit Bundle Jvm.Pilot.@@N@@.Jvm.D
theorem d1_0 : decode prog_16_method_6_code 0 = .ok (.iload_n 0, 1) := by decide +kernel
theorem d1_1 : decode prog_16_method_6_code 1 = .ok (.iconst 1, 1) := by decide +kernel
theorem d1_2 : decode prog_16_method_6_code 2 = .ok (.if_icmp .lt 14, 3) := by decide +kernel
theorem d1_5 : decode prog_16_method_6_code 5 = .ok (.iload_n 0, 1) := by decide +kernel
theorem d1_6 : decode prog_16_method_6_code 6 = .ok (.sipush 9999, 3) := by decide +kernel
theorem d1_9 : decode prog_16_method_6_code 9 = .ok (.if_icmp .gt 7, 3) := by decide +kernel
theorem d1_12 : decode prog_16_method_6_code 12 = .ok (.iconst 1, 1) := by decide +kernel
theorem d1_13 : decode prog_16_method_6_code 13 = .ok (.goto 4, 3) := by decide +kernel
theorem d1_16 : decode prog_16_method_6_code 16 = .ok (.iconst 0, 1) := by decide +kernel
theorem d1_17 : decode prog_16_method_6_code 17 = .ok (.ireturn, 1) := by decide +kernel
theorem pn_1 : plainName "com/example/vestwright/vestwright/core/FactChecks" = true := by first | (simp [plainName, overriddenIn]; done) | decide +kernel
theorem ef_1 (m : MethodId) (x0 : Int32) : entryFrame m #[(.int x0)] 1 = mkF m 0 #[.val (.int x0)] [] := by first | (simp [entryFrame, mkF, argsToLocals, Value.category]; done) | rfl
def F1 (p1 : Int32) : Int32 :=
  let v8 : Int32 := (if p1 < (1 : Int32) then (0 : Int32) else (if (9999 : Int32) < p1 then (0 : Int32) else (1 : Int32)))
  (nar .boolean v8)
def Q1 (Z : State) (p1 : Int32) (h0 : Heap) (n0 : Nat) (v : Option Value) (h : Heap) (L : List Loc) : Prop := v = some (.int (F1 p1)) ∧ L = [] ∧ h = h0
set_option maxRecDepth 65536 in
set_option maxHeartbeats 40000000 in
theorem rm1 (l : Launch) (Z : State) (a0 : Array Value) (hw : ∀ d ∈ tables_1, d.before a0 Z = true) (ws : List Jvm.Cond) (p1 : Int32) (h0 : Heap) (n0 : Nat) (Z0 : n0 ≤ h0.size) :
    MetFree l (⟨"com/example/vestwright/vestwright/core/FactChecks", "isCaseYear", "(I)Z"⟩ : MethodName) (head1 (Jvm.Cond.code (⟨"com/example/vestwright/vestwright/core/FactChecks", "isCaseYear", "(I)Z"⟩ : MethodName) prog_16_method_6_code 1 (some .boolean) :: ws) ({ frames := 0, cells := 0, slots := 0, locals := 0 } : Room)) (fun a U => a = #[(.int p1)] ∧ Z.Warmed39 U.vm ∧ U.heap = h0) (fun _ _ _ _ _ => True) (fun _ U o U' => ∃ v L, o = .returned v ∧ Q1 Z p1 h0 n0 v U'.heap L ∧ FrameEnd U o U' L ({ frames := 0, cells := 0, slots := 0, locals := 0 } : Room).cells ({ frames := 0, cells := 0, slots := 0, locals := 0 } : Room).slots) := by
  refine MetFree.of_bodySF (plainFor_of_name pn_1) hisR ?_
  intro p e s m args below meth c s₁ Bd hml0 hP hK
  obtain ⟨rfl, hZ, hh⟩ := hP
  have hx := Bd.exec
  have hby := Bd.bytes
  have hml : c.maxLocals = 1 := hml0
  have hown : s.vm.findClass "com/example/vestwright/vestwright/core/FactChecks" = some m.cls := findClass_of_methodNamed Bd.named
  have hnm := (name_of_methodNamed Bd.named Bd.method).1
  have X0 : Stand p l e ({ frames := 0, cells := 0, slots := 0, locals := 0 } : Room) s m #[(.int p1)] below meth c s₁ [] 0 0 := Stand.of_body Bd
  have e0 : s₁.heap = h0 := by rw [← hh, Bd.state]; rfl
  have N0 := Fr.nil n0
  have pre0 : ∀ t, Steps p.tables e below (s₁.setTop (mkF m 0 #[.val (.int p1)] [])) t → Steps p.tables e below (s₁.setTop (entryFrame m #[(.int p1)] 1)) t := fun t k => castTop (ef_1 m p1) k
  have R2 : ∀ t, Steps p.tables e below (s₁.setTop (mkF m 2 #[.val (.int p1)] [(.int (1 : Int32)), (.int p1)])) t → Steps p.tables e below (s₁.setTop (entryFrame m #[(.int p1)] 1)) t := by
    intro t kt
    refine pre0 _ ?_
    show Steps p.tables e below (s₁.setTop (mkF m 0 #[.val (.int p1)] [])) _
    refine XS.iloadN X0.here hx rfl (hb hby d1_0) rfl ?_
    show Steps p.tables e below (s₁.setTop (mkF m 1 #[.val (.int p1)] [(.int p1)])) _
    refine XS.iconst X0.here hx rfl (hb hby d1_1) ?_
    exact kt
  have J10 : ∃ (v8 : Int32), v8 = (if p1 < (1 : Int32) then (0 : Int32) else (if (9999 : Int32) < p1 then (0 : Int32) else (1 : Int32))) ∧ ∀ t, Steps p.tables e below (s₁.setTop (mkF m 17 #[.val (.int p1)] [(.int v8)])) t → Steps p.tables e below (s₁.setTop (entryFrame m #[(.int p1)] 1)) t := by
    by_cases hc1 : p1 < (1 : Int32)
    · have R3 : ∀ t, Steps p.tables e below (s₁.setTop (mkF m 17 #[.val (.int p1)] [(.int (0 : Int32))])) t → Steps p.tables e below (s₁.setTop (entryFrame m #[(.int p1)] 1)) t := by
        intro t kt
        refine R2 _ ?_
        show Steps p.tables e below (s₁.setTop (mkF m 2 #[.val (.int p1)] [(.int (1 : Int32)), (.int p1)])) _
        refine XS.icmpYes X0.here hx rfl (pc0 := 2) (pc' := 16) rfl (hb hby d1_2) rfl (tlt hc1).1 (by decide) (by decide) ?_
        show Steps p.tables e below (s₁.setTop (mkF m 16 #[.val (.int p1)] [])) _
        refine XS.iconst X0.here hx rfl (hb hby d1_16) ?_
        exact kt
      exact ⟨(0 : Int32), (by rw [if_pos hc1]), R3⟩
    · have R5 : ∀ t, Steps p.tables e below (s₁.setTop (mkF m 9 #[.val (.int p1)] [(.int (9999 : Int32)), (.int p1)])) t → Steps p.tables e below (s₁.setTop (entryFrame m #[(.int p1)] 1)) t := by
        intro t kt
        refine R2 _ ?_
        show Steps p.tables e below (s₁.setTop (mkF m 2 #[.val (.int p1)] [(.int (1 : Int32)), (.int p1)])) _
        refine XS.icmpNo X0.here hx rfl (hb hby d1_2) rfl (flt hc1).1 ?_
        show Steps p.tables e below (s₁.setTop (mkF m 5 #[.val (.int p1)] [])) _
        refine XS.iloadN X0.here hx rfl (hb hby d1_5) rfl ?_
        show Steps p.tables e below (s₁.setTop (mkF m 6 #[.val (.int p1)] [(.int p1)])) _
        refine XS.sipush X0.here hx rfl (hb hby d1_6) ?_
        exact kt
      by_cases hc4 : (9999 : Int32) < p1
      · have R6 : ∀ t, Steps p.tables e below (s₁.setTop (mkF m 17 #[.val (.int p1)] [(.int (0 : Int32))])) t → Steps p.tables e below (s₁.setTop (entryFrame m #[(.int p1)] 1)) t := by
          intro t kt
          refine R5 _ ?_
          show Steps p.tables e below (s₁.setTop (mkF m 9 #[.val (.int p1)] [(.int (9999 : Int32)), (.int p1)])) _
          refine XS.icmpYes X0.here hx rfl (pc0 := 9) (pc' := 16) rfl (hb hby d1_9) rfl (tlt hc4).2.2.1 (by decide) (by decide) ?_
          show Steps p.tables e below (s₁.setTop (mkF m 16 #[.val (.int p1)] [])) _
          refine XS.iconst X0.here hx rfl (hb hby d1_16) ?_
          exact kt
        exact ⟨(0 : Int32), (by rw [if_neg hc1, if_pos hc4]), R6⟩
      · have R7 : ∀ t, Steps p.tables e below (s₁.setTop (mkF m 17 #[.val (.int p1)] [(.int (1 : Int32))])) t → Steps p.tables e below (s₁.setTop (entryFrame m #[(.int p1)] 1)) t := by
          intro t kt
          refine R5 _ ?_
          show Steps p.tables e below (s₁.setTop (mkF m 9 #[.val (.int p1)] [(.int (9999 : Int32)), (.int p1)])) _
          refine XS.icmpNo X0.here hx rfl (hb hby d1_9) rfl (flt hc4).2.2.1 ?_
          show Steps p.tables e below (s₁.setTop (mkF m 12 #[.val (.int p1)] [])) _
          refine XS.iconst X0.here hx rfl (hb hby d1_12) ?_
          show Steps p.tables e below (s₁.setTop (mkF m 13 #[.val (.int p1)] [(.int (1 : Int32))])) _
          refine XS.goto X0.here hx rfl (pc0 := 13) (pc' := 17) rfl (hb hby d1_13) (by decide) (by decide) ?_
          exact kt
        exact ⟨(1 : Int32), (by rw [if_neg hc1, if_neg hc4]), R7⟩
  obtain ⟨v8, hv8, R9⟩ := J10
  obtain ⟨fs, hr, hrun, hended, hW, hsame⟩ := X0.leave (v := some (.int (nar .boolean v8))) (fun h => by rw [Bd.returns] at h; cases h)
  refine ⟨_, _, R9 _ ?_, hrun, hended, _, _, rfl, ?_, ⟨_, rfl⟩, hW, hsame.mono (by decide) (by decide)⟩
  · show Steps p.tables e below (s₁.setTop (mkF m 17 #[.val (.int p1)] [(.int v8)])) _
    exact retN X0 hx (t := .boolean) Bd.returns (by simp) (hb hby d1_17) hr
  · show Q1 Z p1 h0 n0 _ s₁.heap _
    rw [e0]
    refine ⟨?_, rfl, rfl⟩
    subst hv8; rfl
theorem d2_0 : decode method_2_code 0 = .ok (.iload_n 0, 1) := by decide +kernel
theorem d2_1 : decode method_2_code 1 = .ok (.i2l, 1) := by decide +kernel
theorem d2_2 : decode method_2_code 2 = .ok (.lstore_n 1, 1) := by decide +kernel
theorem d2_3 : decode method_2_code 3 = .ok (.lload_n 1, 1) := by decide +kernel
theorem d2_4 : decode method_2_code 4 = .ok (.lconst 1, 1) := by decide +kernel
theorem d2_5 : decode method_2_code 5 = .ok (.lsub, 1) := by decide +kernel
theorem d2_6 : decode method_2_code 6 = .ok (.lload_n 1, 1) := by decide +kernel
theorem d2_7 : decode method_2_code 7 = .ok (.ldc2_w 7, 3) := by decide +kernel
theorem d2_10 : decode method_2_code 10 = .ok (.lsub, 1) := by decide +kernel
theorem d2_11 : decode method_2_code 11 = .ok (.lmul, 1) := by decide +kernel
theorem d2_12 : decode method_2_code 12 = .ok (.lconst 0, 1) := by decide +kernel
theorem d2_13 : decode method_2_code 13 = .ok (.lcmp, 1) := by decide +kernel
theorem d2_14 : decode method_2_code 14 = .ok (.ifCond .gt 7, 3) := by decide +kernel
theorem d2_17 : decode method_2_code 17 = .ok (.iconst 1, 1) := by decide +kernel
theorem d2_18 : decode method_2_code 18 = .ok (.goto 4, 3) := by decide +kernel
theorem d2_21 : decode method_2_code 21 = .ok (.iconst 0, 1) := by decide +kernel
theorem d2_22 : decode method_2_code 22 = .ok (.ireturn, 1) := by decide +kernel
theorem pn_2 : plainName "com/example/vestwright/vestwright/core/FactChecksIsCaseYearPinLaw" = true := by first | (simp [plainName, overriddenIn]; done) | decide +kernel
theorem ef_2 (m : MethodId) (x0 : Int32) : entryFrame m #[(.int x0)] 3 = mkF m 0 #[.val (.int x0), .unset, .unset] [] := by first | (simp [entryFrame, mkF, argsToLocals, Value.category]; done) | rfl
def F2 (p1 : Int32) : Int32 :=
  let v5 : Int32 := (if (0 : Int64) < (((p1.toInt64) - (1 : Int64)) * ((p1.toInt64) - (9999 : Int64))) then (0 : Int32) else (1 : Int32))
  (nar .boolean v5)
def Q2 (Z : State) (p1 : Int32) (h0 : Heap) (n0 : Nat) (v : Option Value) (h : Heap) (L : List Loc) : Prop := v = some (.int (F2 p1)) ∧ L = [] ∧ h = h0
set_option maxRecDepth 65536 in
set_option maxHeartbeats 40000000 in
theorem rm2 (l : Launch) (Z : State) (a0 : Array Value) (hw : ∀ d ∈ tables_1, d.before a0 Z = true) (ws : List Jvm.Cond) (p1 : Int32) (h0 : Heap) (n0 : Nat) (Z0 : n0 ≤ h0.size) :
    MetFree l (⟨"com/example/vestwright/vestwright/core/FactChecksIsCaseYearPinLaw", "between", "(I)Z"⟩ : MethodName) (head1 (Jvm.Cond.code (⟨"com/example/vestwright/vestwright/core/FactChecksIsCaseYearPinLaw", "between", "(I)Z"⟩ : MethodName) method_2_code 3 (some .boolean) :: ws) ({ frames := 0, cells := 0, slots := 0, locals := 0 } : Room)) (fun a U => a = #[(.int p1)] ∧ Z.Warmed39 U.vm ∧ U.heap = h0) (fun _ _ _ _ _ => True) (fun _ U o U' => ∃ v L, o = .returned v ∧ Q2 Z p1 h0 n0 v U'.heap L ∧ FrameEnd U o U' L ({ frames := 0, cells := 0, slots := 0, locals := 0 } : Room).cells ({ frames := 0, cells := 0, slots := 0, locals := 0 } : Room).slots) := by
  refine MetFree.of_bodySF (plainFor_of_name pn_2) hisR ?_
  intro p e s m args below meth c s₁ Bd hml0 hP hK
  obtain ⟨rfl, hZ, hh⟩ := hP
  have hx := Bd.exec
  have hby := Bd.bytes
  have hml : c.maxLocals = 3 := hml0
  have hown : s.vm.findClass "com/example/vestwright/vestwright/core/FactChecksIsCaseYearPinLaw" = some m.cls := findClass_of_methodNamed Bd.named
  have hnm := (name_of_methodNamed Bd.named Bd.method).1
  have X0 : Stand p l e ({ frames := 0, cells := 0, slots := 0, locals := 0 } : Room) s m #[(.int p1)] below meth c s₁ [] 0 0 := Stand.of_body Bd
  have e0 : s₁.heap = h0 := by rw [← hh, Bd.state]; rfl
  have N0 := Fr.nil n0
  have pre0 : ∀ t, Steps p.tables e below (s₁.setTop (mkF m 0 #[.val (.int p1), .unset, .unset] [])) t → Steps p.tables e below (s₁.setTop (entryFrame m #[(.int p1)] 3)) t := fun t k => castTop (ef_2 m p1) k
  have R2 : ∀ t, Steps p.tables e below (s₁.setTop (mkF m 14 #[.val (.int p1), .val (.long (p1.toInt64)), .second] [(.int (lcmpW (((p1.toInt64) - (1 : Int64)) * ((p1.toInt64) - (9999 : Int64))) (0 : Int64)))])) t → Steps p.tables e below (s₁.setTop (entryFrame m #[(.int p1)] 3)) t := by
    intro t kt
    refine pre0 _ ?_
    show Steps p.tables e below (s₁.setTop (mkF m 0 #[.val (.int p1), .unset, .unset] [])) _
    refine XS.iloadN X0.here hx rfl (hb hby d2_0) rfl ?_
    show Steps p.tables e below (s₁.setTop (mkF m 1 #[.val (.int p1), .unset, .unset] [(.int p1)])) _
    refine XS.i2l X0.here hx rfl (hb hby d2_1) rfl ?_
    show Steps p.tables e below (s₁.setTop (mkF m 2 #[.val (.int p1), .unset, .unset] [(.long (p1.toInt64))])) _
    refine XS.lstoreN X0.here hx rfl (hb hby d2_2) rfl (l' := #[.val (.int p1), .val (.long (p1.toInt64)), .second]) rfl ?_
    show Steps p.tables e below (s₁.setTop (mkF m 3 #[.val (.int p1), .val (.long (p1.toInt64)), .second] [])) _
    refine XS.lloadN X0.here hx rfl (hb hby d2_3) rfl ?_
    show Steps p.tables e below (s₁.setTop (mkF m 4 #[.val (.int p1), .val (.long (p1.toInt64)), .second] [(.long (p1.toInt64))])) _
    refine XS.lconst X0.here hx rfl (hb hby d2_4) ?_
    show Steps p.tables e below (s₁.setTop (mkF m 5 #[.val (.int p1), .val (.long (p1.toInt64)), .second] [(.long (1 : Int64)), (.long (p1.toInt64))])) _
    refine XS.lsub X0.here hx rfl (hb hby d2_5) rfl ?_
    show Steps p.tables e below (s₁.setTop (mkF m 6 #[.val (.int p1), .val (.long (p1.toInt64)), .second] [(.long ((p1.toInt64) - (1 : Int64)))])) _
    refine XS.lloadN X0.here hx rfl (hb hby d2_6) rfl ?_
    show Steps p.tables e below (s₁.setTop (mkF m 7 #[.val (.int p1), .val (.long (p1.toInt64)), .second] [(.long (p1.toInt64)), (.long ((p1.toInt64) - (1 : Int64)))])) _
    refine X0.ldc2Long hx hown (mvT hZ (hw _ (List.mem_of_getElem? (i := 8) rfl))) (g := (mkF m 7 #[.val (.int p1), .val (.long (p1.toInt64)), .second] [(.long (p1.toInt64)), (.long ((p1.toInt64) - (1 : Int64)))])) rfl (hb hby d2_7) _ ?_
    show Steps p.tables e below (s₁.setTop (mkF m 10 #[.val (.int p1), .val (.long (p1.toInt64)), .second] [(.long (9999 : Int64)), (.long (p1.toInt64)), (.long ((p1.toInt64) - (1 : Int64)))])) _
    refine XS.lsub X0.here hx rfl (hb hby d2_10) rfl ?_
    show Steps p.tables e below (s₁.setTop (mkF m 11 #[.val (.int p1), .val (.long (p1.toInt64)), .second] [(.long ((p1.toInt64) - (9999 : Int64))), (.long ((p1.toInt64) - (1 : Int64)))])) _
    refine XS.lmul X0.here hx rfl (hb hby d2_11) rfl ?_
    show Steps p.tables e below (s₁.setTop (mkF m 12 #[.val (.int p1), .val (.long (p1.toInt64)), .second] [(.long (((p1.toInt64) - (1 : Int64)) * ((p1.toInt64) - (9999 : Int64))))])) _
    refine XS.lconst X0.here hx rfl (hb hby d2_12) ?_
    show Steps p.tables e below (s₁.setTop (mkF m 13 #[.val (.int p1), .val (.long (p1.toInt64)), .second] [(.long (0 : Int64)), (.long (((p1.toInt64) - (1 : Int64)) * ((p1.toInt64) - (9999 : Int64))))])) _
    refine XS.lcmp X0.here hx rfl (hb hby d2_13) rfl ?_
    exact kt
  have J7 : ∃ (v5 : Int32), v5 = (if (0 : Int64) < (((p1.toInt64) - (1 : Int64)) * ((p1.toInt64) - (9999 : Int64))) then (0 : Int32) else (1 : Int32)) ∧ ∀ t, Steps p.tables e below (s₁.setTop (mkF m 22 #[.val (.int p1), .val (.long (p1.toInt64)), .second] [(.int v5)])) t → Steps p.tables e below (s₁.setTop (entryFrame m #[(.int p1)] 3)) t := by
    by_cases hc1 : (0 : Int64) < (((p1.toInt64) - (1 : Int64)) * ((p1.toInt64) - (9999 : Int64)))
    · have R3 : ∀ t, Steps p.tables e below (s₁.setTop (mkF m 22 #[.val (.int p1), .val (.long (p1.toInt64)), .second] [(.int (0 : Int32))])) t → Steps p.tables e below (s₁.setTop (entryFrame m #[(.int p1)] 3)) t := by
        intro t kt
        refine R2 _ ?_
        show Steps p.tables e below (s₁.setTop (mkF m 14 #[.val (.int p1), .val (.long (p1.toInt64)), .second] [(.int (lcmpW (((p1.toInt64) - (1 : Int64)) * ((p1.toInt64) - (9999 : Int64))) (0 : Int64)))])) _
        refine XS.ifYes X0.here hx rfl (pc0 := 14) (pc' := 21) rfl (hb hby d2_14) rfl ((if0 _ _).trans (tlt ((lw_gt _ _).mpr hc1)).2.2.1) (by decide) (by decide) ?_
        show Steps p.tables e below (s₁.setTop (mkF m 21 #[.val (.int p1), .val (.long (p1.toInt64)), .second] [])) _
        refine XS.iconst X0.here hx rfl (hb hby d2_21) ?_
        exact kt
      exact ⟨(0 : Int32), (by rw [if_pos hc1]), R3⟩
    · have R4 : ∀ t, Steps p.tables e below (s₁.setTop (mkF m 22 #[.val (.int p1), .val (.long (p1.toInt64)), .second] [(.int (1 : Int32))])) t → Steps p.tables e below (s₁.setTop (entryFrame m #[(.int p1)] 3)) t := by
        intro t kt
        refine R2 _ ?_
        show Steps p.tables e below (s₁.setTop (mkF m 14 #[.val (.int p1), .val (.long (p1.toInt64)), .second] [(.int (lcmpW (((p1.toInt64) - (1 : Int64)) * ((p1.toInt64) - (9999 : Int64))) (0 : Int64)))])) _
        refine XS.ifNo X0.here hx rfl (hb hby d2_14) rfl ((if0 _ _).trans (flt (fun q => hc1 ((lw_gt _ _).mp q))).2.2.1) ?_
        show Steps p.tables e below (s₁.setTop (mkF m 17 #[.val (.int p1), .val (.long (p1.toInt64)), .second] [])) _
        refine XS.iconst X0.here hx rfl (hb hby d2_17) ?_
        show Steps p.tables e below (s₁.setTop (mkF m 18 #[.val (.int p1), .val (.long (p1.toInt64)), .second] [(.int (1 : Int32))])) _
        refine XS.goto X0.here hx rfl (pc0 := 18) (pc' := 22) rfl (hb hby d2_18) (by decide) (by decide) ?_
        exact kt
      exact ⟨(1 : Int32), (by rw [if_neg hc1]), R4⟩
  obtain ⟨v5, hv5, R6⟩ := J7
  obtain ⟨fs, hr, hrun, hended, hW, hsame⟩ := X0.leave (v := some (.int (nar .boolean v5))) (fun h => by rw [Bd.returns] at h; cases h)
  refine ⟨_, _, R6 _ ?_, hrun, hended, _, _, rfl, ?_, ⟨_, rfl⟩, hW, hsame.mono (by decide) (by decide)⟩
  · show Steps p.tables e below (s₁.setTop (mkF m 22 #[.val (.int p1), .val (.long (p1.toInt64)), .second] [(.int v5)])) _
    exact retN X0 hx (t := .boolean) Bd.returns (by simp) (hb hby d2_22) hr
  · show Q2 Z p1 h0 n0 _ s₁.heap _
    rw [e0]
    refine ⟨?_, rfl, rfl⟩
    subst hv5; rfl
theorem pn_0 : plainName "com/example/vestwright/vestwright/core/FactChecksIsCaseYearPinLaw" = true := by first | (simp [plainName, overriddenIn]; done) | decide +kernel
theorem pd_0_1 : parseMethodDescriptor "(I)Z" = some ⟨[.int], some .boolean⟩ := by decide +kernel
theorem pd_0_2 : parseMethodDescriptor "(I)Z" = some ⟨[.int], some .boolean⟩ := by decide +kernel
theorem ef_0 (m : MethodId) (x0 : Int32) (x1 : Int32) : entryFrame m #[(.int x0), (.int x1)] maxLocals = mkF m 0 #[.val (.int x0), .val (.int x1), .unset, .unset, .unset, .unset] [] := by first | (simp [entryFrame, mkF, argsToLocals, Value.category, maxLocals]; done) | rfl
def F0 (p1 : Int32) (p2 : Int32) : Int32 :=
  let v5 : Int32 := (if (p2 &&& (1 : Int32)) = (0 : Int32) then (1 : Int32) else (9999 : Int32))
  let v9 : Int32 := ((v5 + (((p2.toUInt32 >>> ((1 : Int32) &&& 31).toUInt32).toInt32) % (3 : Int32))) - (1 : Int32))
  let v16 : Int32 := (if (F1 p1) = (F2 p1) then (1 : Int32) else (0 : Int32))
  let v25 : Int32 := (if (F1 v9) = (F2 v9) then (1 : Int32) else (0 : Int32))
  let v35 : Int32 := (if v16 = (0 : Int32) then (0 : Int32) else (if v25 = (0 : Int32) then (0 : Int32) else (1 : Int32)))
  (nar .boolean v35)
def Q0 (Z : State) (p1 : Int32) (p2 : Int32) (h0 : Heap) (n0 : Nat) (v : Option Value) (h : Heap) (L : List Loc) : Prop := v = some (.int (F0 p1 p2)) ∧ L = [] ∧ h = h0
set_option maxRecDepth 65536 in
set_option maxHeartbeats 40000000 in
theorem rm0 (l : Launch) (Z : State) (a0 : Array Value) (hw : ∀ d ∈ tables_1, d.before a0 Z = true) (ws : List Jvm.Cond) (p1 : Int32) (p2 : Int32) (h0 : Heap) (n0 : Nat) (Z0 : n0 ≤ h0.size) :
    MetFree l x (head1 (Jvm.Cond.code x code maxLocals ret :: ws) room_1) (fun a U => a = #[(.int p1), (.int p2)] ∧ Z.Warmed39 U.vm ∧ U.heap = h0) (fun _ _ _ _ _ => True) (fun _ U o U' => ∃ v L, o = .returned v ∧ Q0 Z p1 p2 h0 n0 v U'.heap L ∧ FrameEnd U o U' L room_1.cells room_1.slots) := by
  refine MetFree.of_bodySF (plainFor_of_name pn_0) hisR ?_
  intro p e s m args below meth c s₁ Bd hml0 hP hK
  obtain ⟨rfl, hZ, hh⟩ := hP
  have hx := Bd.exec
  have hby := Bd.bytes
  have hml : c.maxLocals = 6 := hml0
  have hown : s.vm.findClass "com/example/vestwright/vestwright/core/FactChecksIsCaseYearPinLaw" = some m.cls := findClass_of_methodNamed Bd.named
  have hnm := (name_of_methodNamed Bd.named Bd.method).1
  have X0 : Stand p l e room_1 s m #[(.int p1), (.int p2)] below meth c s₁ [] 0 0 := Stand.of_body Bd
  have e0 : s₁.heap = h0 := by rw [← hh, Bd.state]; rfl
  have N0 := Fr.nil n0
  have pre0 : ∀ t, Steps p.tables e below (s₁.setTop (mkF m 0 #[.val (.int p1), .val (.int p2), .unset, .unset, .unset, .unset] [])) t → Steps p.tables e below (s₁.setTop (entryFrame m #[(.int p1), (.int p2)] maxLocals)) t := fun t k => castTop (ef_0 m p1 p2) k
  have R2 : ∀ t, Steps p.tables e below (s₁.setTop (mkF m 3 #[.val (.int p1), .val (.int p2), .unset, .unset, .unset, .unset] [(.int (p2 &&& (1 : Int32)))])) t → Steps p.tables e below (s₁.setTop (entryFrame m #[(.int p1), (.int p2)] maxLocals)) t := by
    intro t kt
    refine pre0 _ ?_
    show Steps p.tables e below (s₁.setTop (mkF m 0 #[.val (.int p1), .val (.int p2), .unset, .unset, .unset, .unset] [])) _
    refine XS.iloadN X0.here hx rfl (hb hby at_0) rfl ?_
    show Steps p.tables e below (s₁.setTop (mkF m 1 #[.val (.int p1), .val (.int p2), .unset, .unset, .unset, .unset] [(.int p2)])) _
    refine XS.iconst X0.here hx rfl (hb hby at_1) ?_
    show Steps p.tables e below (s₁.setTop (mkF m 2 #[.val (.int p1), .val (.int p2), .unset, .unset, .unset, .unset] [(.int (1 : Int32)), (.int p2)])) _
    refine XS.iand X0.here hx rfl (hb hby at_2) rfl ?_
    exact kt
  have J7 : ∃ (v5 : Int32), v5 = (if (p2 &&& (1 : Int32)) = (0 : Int32) then (1 : Int32) else (9999 : Int32)) ∧ ∀ t, Steps p.tables e below (s₁.setTop (mkF m 13 #[.val (.int p1), .val (.int p2), .unset, .unset, .unset, .unset] [(.int v5)])) t → Steps p.tables e below (s₁.setTop (entryFrame m #[(.int p1), (.int p2)] maxLocals)) t := by
    by_cases hc1 : (p2 &&& (1 : Int32)) = (0 : Int32)
    · have R3 : ∀ t, Steps p.tables e below (s₁.setTop (mkF m 13 #[.val (.int p1), .val (.int p2), .unset, .unset, .unset, .unset] [(.int (1 : Int32))])) t → Steps p.tables e below (s₁.setTop (entryFrame m #[(.int p1), (.int p2)] maxLocals)) t := by
        intro t kt
        refine R2 _ ?_
        show Steps p.tables e below (s₁.setTop (mkF m 3 #[.val (.int p1), .val (.int p2), .unset, .unset, .unset, .unset] [(.int (p2 &&& (1 : Int32)))])) _
        refine XS.ifNo X0.here hx rfl (hb hby at_3) rfl ((if0 _ _).trans (teq hc1).2) ?_
        show Steps p.tables e below (s₁.setTop (mkF m 6 #[.val (.int p1), .val (.int p2), .unset, .unset, .unset, .unset] [])) _
        refine XS.iconst X0.here hx rfl (hb hby at_6) ?_
        show Steps p.tables e below (s₁.setTop (mkF m 7 #[.val (.int p1), .val (.int p2), .unset, .unset, .unset, .unset] [(.int (1 : Int32))])) _
        refine XS.goto X0.here hx rfl (pc0 := 7) (pc' := 13) rfl (hb hby at_7) (by decide) (by decide) ?_
        exact kt
      exact ⟨(1 : Int32), (by rw [if_pos hc1]), R3⟩
    · have R4 : ∀ t, Steps p.tables e below (s₁.setTop (mkF m 13 #[.val (.int p1), .val (.int p2), .unset, .unset, .unset, .unset] [(.int (9999 : Int32))])) t → Steps p.tables e below (s₁.setTop (entryFrame m #[(.int p1), (.int p2)] maxLocals)) t := by
        intro t kt
        refine R2 _ ?_
        show Steps p.tables e below (s₁.setTop (mkF m 3 #[.val (.int p1), .val (.int p2), .unset, .unset, .unset, .unset] [(.int (p2 &&& (1 : Int32)))])) _
        refine XS.ifYes X0.here hx rfl (pc0 := 3) (pc' := 10) rfl (hb hby at_3) rfl ((if0 _ _).trans (feq hc1).2) (by decide) (by decide) ?_
        show Steps p.tables e below (s₁.setTop (mkF m 10 #[.val (.int p1), .val (.int p2), .unset, .unset, .unset, .unset] [])) _
        refine XS.sipush X0.here hx rfl (hb hby at_10) ?_
        exact kt
      exact ⟨(9999 : Int32), (by rw [if_neg hc1]), R4⟩
  obtain ⟨v5, hv5, R6⟩ := J7
  have R8 : ∀ t, Steps p.tables e below (s₁.setTop (mkF m 23 #[.val (.int p1), .val (.int p2), .val (.int v5), .unset, .unset, .unset] [(.int ((v5 + (((p2.toUInt32 >>> ((1 : Int32) &&& 31).toUInt32).toInt32) % (3 : Int32))) - (1 : Int32)))])) t → Steps p.tables e below (s₁.setTop (entryFrame m #[(.int p1), (.int p2)] maxLocals)) t := by
    intro t kt
    refine R6 _ ?_
    show Steps p.tables e below (s₁.setTop (mkF m 13 #[.val (.int p1), .val (.int p2), .unset, .unset, .unset, .unset] [(.int v5)])) _
    refine XS.istoreN X0.here hx rfl (hb hby at_13) rfl (l' := #[.val (.int p1), .val (.int p2), .val (.int v5), .unset, .unset, .unset]) rfl ?_
    show Steps p.tables e below (s₁.setTop (mkF m 14 #[.val (.int p1), .val (.int p2), .val (.int v5), .unset, .unset, .unset] [])) _
    refine XS.iloadN X0.here hx rfl (hb hby at_14) rfl ?_
    show Steps p.tables e below (s₁.setTop (mkF m 15 #[.val (.int p1), .val (.int p2), .val (.int v5), .unset, .unset, .unset] [(.int v5)])) _
    refine XS.iloadN X0.here hx rfl (hb hby at_15) rfl ?_
    show Steps p.tables e below (s₁.setTop (mkF m 16 #[.val (.int p1), .val (.int p2), .val (.int v5), .unset, .unset, .unset] [(.int p2), (.int v5)])) _
    refine XS.iconst X0.here hx rfl (hb hby at_16) ?_
    show Steps p.tables e below (s₁.setTop (mkF m 17 #[.val (.int p1), .val (.int p2), .val (.int v5), .unset, .unset, .unset] [(.int (1 : Int32)), (.int p2), (.int v5)])) _
    refine XS.iushr X0.here hx rfl (hb hby at_17) rfl ?_
    show Steps p.tables e below (s₁.setTop (mkF m 18 #[.val (.int p1), .val (.int p2), .val (.int v5), .unset, .unset, .unset] [(.int ((p2.toUInt32 >>> ((1 : Int32) &&& 31).toUInt32).toInt32)), (.int v5)])) _
    refine XS.iconst X0.here hx rfl (hb hby at_18) ?_
    show Steps p.tables e below (s₁.setTop (mkF m 19 #[.val (.int p1), .val (.int p2), .val (.int v5), .unset, .unset, .unset] [(.int (3 : Int32)), (.int ((p2.toUInt32 >>> ((1 : Int32) &&& 31).toUInt32).toInt32)), (.int v5)])) _
    refine iremM X0 hx rfl (hb hby at_19) rfl (by decide) ?_
    show Steps p.tables e below (s₁.setTop (mkF m 20 #[.val (.int p1), .val (.int p2), .val (.int v5), .unset, .unset, .unset] [(.int (((p2.toUInt32 >>> ((1 : Int32) &&& 31).toUInt32).toInt32) % (3 : Int32))), (.int v5)])) _
    refine XS.iadd X0.here hx rfl (hb hby at_20) rfl ?_
    show Steps p.tables e below (s₁.setTop (mkF m 21 #[.val (.int p1), .val (.int p2), .val (.int v5), .unset, .unset, .unset] [(.int (v5 + (((p2.toUInt32 >>> ((1 : Int32) &&& 31).toUInt32).toInt32) % (3 : Int32))))])) _
    refine XS.iconst X0.here hx rfl (hb hby at_21) ?_
    show Steps p.tables e below (s₁.setTop (mkF m 22 #[.val (.int p1), .val (.int p2), .val (.int v5), .unset, .unset, .unset] [(.int (1 : Int32)), (.int (v5 + (((p2.toUInt32 >>> ((1 : Int32) &&& 31).toUInt32).toInt32) % (3 : Int32))))])) _
    refine XS.isub X0.here hx rfl (hb hby at_22) rfl ?_
    exact kt
  obtain ⟨v9, hv9⟩ : ∃ z : Int32, z = ((v5 + (((p2.toUInt32 >>> ((1 : Int32) &&& 31).toUInt32).toInt32) % (3 : Int32))) - (1 : Int32)) := ⟨_, rfl⟩
  rw [← hv9] at R8
  obtain ⟨_, _, ⟨T10, L10, k10, n10⟩, -, X10, ⟨Lc10, hQ10, l10, y10, z10⟩, st10⟩ := Jvm.LawKit.callS X0 hx (y := (⟨"com/example/vestwright/vestwright/core/FactChecks", "isCaseYear", "(I)Z"⟩ : MethodName)) hown (mvT hZ (hw _ (List.mem_of_getElem? (i := 0) rfl))) (mvT hZ (hw _ (List.mem_of_getElem? (i := 1) rfl))) (mvT hZ (hw _ (List.mem_of_getElem? (i := 2) rfl))) (mvT hZ (hw _ (List.mem_of_getElem? (i := 3) rfl))) (by decide) (backOf (W := 0) (rm1 l Z a0 hw [] p1 h0 n0 Z0) hZ (hw _ (List.mem_of_getElem? (i := 3) rfl)) (hw _ (List.mem_of_getElem? (i := 2) rfl)) (by decide) (by decide)) (g := (mkF m 25 #[.val (.int p1), .val (.int p2), .val (.int v5), .val (.int v9), .unset, .unset] [(.int p1)])) rfl (by rw [hml]; rfl) (argsL := [(.int p1)]) (rest := []) (lenOf pd_0_1 rfl) rfl (by show 2 * 0 + _ ≤ _; exact Nat.le_of_eq rfl) (hb hby at_25) (fun _ _ => ⟨rfl, e0, (by decide : 0 + 0 ≤ _), (by decide : 0 + 0 ≤ _)⟩)
  dsimp only [Pt.U, Pt.locs, Pt.cells, Pt.slots] at X10 l10 y10 z10 st10 hQ10
  subst l10 y10 z10
  obtain ⟨rfl, rfl, e10⟩ := hQ10
  replace X10 : Stand p l e room_1 s m #[(.int p1), (.int p2)] below meth c T10 [] 0 0 := X10
  obtain ⟨_, _, ⟨T11, L11, k11, n11⟩, -, X11, ⟨Lc11, hQ11, l11, y11, z11⟩, st11⟩ := Jvm.LawKit.callS X10 hx (y := (⟨"com/example/vestwright/vestwright/core/FactChecksIsCaseYearPinLaw", "between", "(I)Z"⟩ : MethodName)) hown (mvT hZ (hw _ (List.mem_of_getElem? (i := 4) rfl))) (mvT hZ (hw _ (List.mem_of_getElem? (i := 5) rfl))) (mvT hZ (hw _ (List.mem_of_getElem? (i := 6) rfl))) (mvT hZ (hw _ (List.mem_of_getElem? (i := 7) rfl))) (by decide) (backOf (W := 1) (rm2 l Z a0 hw [] p1 h0 n0 Z0) hZ (hw _ (List.mem_of_getElem? (i := 7) rfl)) (hw _ (List.mem_of_getElem? (i := 6) rfl)) (by decide) (by decide)) (g := (mkF m 29 #[.val (.int p1), .val (.int p2), .val (.int v5), .val (.int v9), .unset, .unset] [(.int p1), (.int (F1 p1))])) rfl (by rw [hml]; rfl) (argsL := [(.int p1)]) (rest := [(.int (F1 p1))]) (lenOf pd_0_2 rfl) rfl (by show 2 * 0 + _ ≤ _; exact Nat.le_of_eq rfl) (hb hby at_29) (fun _ _ => ⟨rfl, e10, (by decide : 0 + 0 ≤ _), (by decide : 0 + 0 ≤ _)⟩)
  dsimp only [Pt.U, Pt.locs, Pt.cells, Pt.slots] at X11 l11 y11 z11 st11 hQ11
  subst l11 y11 z11
  obtain ⟨rfl, rfl, e11⟩ := hQ11
  replace X11 : Stand p l e room_1 s m #[(.int p1), (.int p2)] below meth c T11 [] 0 0 := X11
  have R13 : ∀ t, Steps p.tables e below (T11.setTop (mkF m 32 #[.val (.int p1), .val (.int p2), .val (.int v5), .val (.int v9), .unset, .unset] [(.int (F2 p1)), (.int (F1 p1))])) t → Steps p.tables e below (s₁.setTop (entryFrame m #[(.int p1), (.int p2)] maxLocals)) t := by
    intro t kt
    refine R8 _ ?_
    show Steps p.tables e below (s₁.setTop (mkF m 23 #[.val (.int p1), .val (.int p2), .val (.int v5), .unset, .unset, .unset] [(.int v9)])) _
    refine XS.istoreN X0.here hx rfl (hb hby at_23) rfl (l' := #[.val (.int p1), .val (.int p2), .val (.int v5), .val (.int v9), .unset, .unset]) rfl ?_
    show Steps p.tables e below (s₁.setTop (mkF m 24 #[.val (.int p1), .val (.int p2), .val (.int v5), .val (.int v9), .unset, .unset] [])) _
    refine XS.iloadN X0.here hx rfl (hb hby at_24) rfl ?_
    show Steps p.tables e below (s₁.setTop (mkF m 25 #[.val (.int p1), .val (.int p2), .val (.int v5), .val (.int v9), .unset, .unset] [(.int p1)])) _
    refine st10 _ ?_
    show Steps p.tables e below (T10.setTop (mkF m 28 #[.val (.int p1), .val (.int p2), .val (.int v5), .val (.int v9), .unset, .unset] [(.int (F1 p1))])) _
    refine XS.iloadN X10.here hx rfl (hb hby at_28) rfl ?_
    show Steps p.tables e below (T10.setTop (mkF m 29 #[.val (.int p1), .val (.int p2), .val (.int v5), .val (.int v9), .unset, .unset] [(.int p1), (.int (F1 p1))])) _
    refine st11 _ ?_
    exact kt
  have J18 : ∃ (v16 : Int32), v16 = (if (F1 p1) = (F2 p1) then (1 : Int32) else (0 : Int32)) ∧ ∀ t, Steps p.tables e below (T11.setTop (mkF m 40 #[.val (.int p1), .val (.int p2), .val (.int v5), .val (.int v9), .unset, .unset] [(.int v16)])) t → Steps p.tables e below (s₁.setTop (entryFrame m #[(.int p1), (.int p2)] maxLocals)) t := by
    by_cases hc12 : (F1 p1) = (F2 p1)
    · have R14 : ∀ t, Steps p.tables e below (T11.setTop (mkF m 40 #[.val (.int p1), .val (.int p2), .val (.int v5), .val (.int v9), .unset, .unset] [(.int (1 : Int32))])) t → Steps p.tables e below (s₁.setTop (entryFrame m #[(.int p1), (.int p2)] maxLocals)) t := by
        intro t kt
        refine R13 _ ?_
        show Steps p.tables e below (T11.setTop (mkF m 32 #[.val (.int p1), .val (.int p2), .val (.int v5), .val (.int v9), .unset, .unset] [(.int (F2 p1)), (.int (F1 p1))])) _
        refine XS.icmpNo X11.here hx rfl (hb hby at_32) rfl (teq hc12).2 ?_
        show Steps p.tables e below (T11.setTop (mkF m 35 #[.val (.int p1), .val (.int p2), .val (.int v5), .val (.int v9), .unset, .unset] [])) _
        refine XS.iconst X11.here hx rfl (hb hby at_35) ?_
        show Steps p.tables e below (T11.setTop (mkF m 36 #[.val (.int p1), .val (.int p2), .val (.int v5), .val (.int v9), .unset, .unset] [(.int (1 : Int32))])) _
        refine XS.goto X11.here hx rfl (pc0 := 36) (pc' := 40) rfl (hb hby at_36) (by decide) (by decide) ?_
        exact kt
      exact ⟨(1 : Int32), (by rw [if_pos hc12]), R14⟩
    · have R15 : ∀ t, Steps p.tables e below (T11.setTop (mkF m 40 #[.val (.int p1), .val (.int p2), .val (.int v5), .val (.int v9), .unset, .unset] [(.int (0 : Int32))])) t → Steps p.tables e below (s₁.setTop (entryFrame m #[(.int p1), (.int p2)] maxLocals)) t := by
        intro t kt
        refine R13 _ ?_
        show Steps p.tables e below (T11.setTop (mkF m 32 #[.val (.int p1), .val (.int p2), .val (.int v5), .val (.int v9), .unset, .unset] [(.int (F2 p1)), (.int (F1 p1))])) _
        refine XS.icmpYes X11.here hx rfl (pc0 := 32) (pc' := 39) rfl (hb hby at_32) rfl (feq hc12).2 (by decide) (by decide) ?_
        show Steps p.tables e below (T11.setTop (mkF m 39 #[.val (.int p1), .val (.int p2), .val (.int v5), .val (.int v9), .unset, .unset] [])) _
        refine XS.iconst X11.here hx rfl (hb hby at_39) ?_
        exact kt
      exact ⟨(0 : Int32), (by rw [if_neg hc12]), R15⟩
  obtain ⟨v16, hv16, R17⟩ := J18
  obtain ⟨_, _, ⟨T19, L19, k19, n19⟩, -, X19, ⟨Lc19, hQ19, l19, y19, z19⟩, st19⟩ := Jvm.LawKit.callS X11 hx (y := (⟨"com/example/vestwright/vestwright/core/FactChecks", "isCaseYear", "(I)Z"⟩ : MethodName)) hown (mvT hZ (hw _ (List.mem_of_getElem? (i := 0) rfl))) (mvT hZ (hw _ (List.mem_of_getElem? (i := 1) rfl))) (mvT hZ (hw _ (List.mem_of_getElem? (i := 2) rfl))) (mvT hZ (hw _ (List.mem_of_getElem? (i := 3) rfl))) (by decide) (backOf (W := 0) (rm1 l Z a0 hw [] v9 h0 n0 Z0) hZ (hw _ (List.mem_of_getElem? (i := 3) rfl)) (hw _ (List.mem_of_getElem? (i := 2) rfl)) (by decide) (by decide)) (g := (mkF m 43 #[.val (.int p1), .val (.int p2), .val (.int v5), .val (.int v9), .val (.int v16), .unset] [(.int v9)])) rfl (by rw [hml]; rfl) (argsL := [(.int v9)]) (rest := []) (lenOf pd_0_1 rfl) rfl (by show 2 * 0 + _ ≤ _; exact Nat.le_of_eq rfl) (hb hby at_43) (fun _ _ => ⟨rfl, e11, (by decide : 0 + 0 ≤ _), (by decide : 0 + 0 ≤ _)⟩)
  dsimp only [Pt.U, Pt.locs, Pt.cells, Pt.slots] at X19 l19 y19 z19 st19 hQ19
  subst l19 y19 z19
  obtain ⟨rfl, rfl, e19⟩ := hQ19
  replace X19 : Stand p l e room_1 s m #[(.int p1), (.int p2)] below meth c T19 [] 0 0 := X19
  obtain ⟨_, _, ⟨T20, L20, k20, n20⟩, -, X20, ⟨Lc20, hQ20, l20, y20, z20⟩, st20⟩ := Jvm.LawKit.callS X19 hx (y := (⟨"com/example/vestwright/vestwright/core/FactChecksIsCaseYearPinLaw", "between", "(I)Z"⟩ : MethodName)) hown (mvT hZ (hw _ (List.mem_of_getElem? (i := 4) rfl))) (mvT hZ (hw _ (List.mem_of_getElem? (i := 5) rfl))) (mvT hZ (hw _ (List.mem_of_getElem? (i := 6) rfl))) (mvT hZ (hw _ (List.mem_of_getElem? (i := 7) rfl))) (by decide) (backOf (W := 1) (rm2 l Z a0 hw [] v9 h0 n0 Z0) hZ (hw _ (List.mem_of_getElem? (i := 7) rfl)) (hw _ (List.mem_of_getElem? (i := 6) rfl)) (by decide) (by decide)) (g := (mkF m 47 #[.val (.int p1), .val (.int p2), .val (.int v5), .val (.int v9), .val (.int v16), .unset] [(.int v9), (.int (F1 v9))])) rfl (by rw [hml]; rfl) (argsL := [(.int v9)]) (rest := [(.int (F1 v9))]) (lenOf pd_0_2 rfl) rfl (by show 2 * 0 + _ ≤ _; exact Nat.le_of_eq rfl) (hb hby at_47) (fun _ _ => ⟨rfl, e19, (by decide : 0 + 0 ≤ _), (by decide : 0 + 0 ≤ _)⟩)
  dsimp only [Pt.U, Pt.locs, Pt.cells, Pt.slots] at X20 l20 y20 z20 st20 hQ20
  subst l20 y20 z20
  obtain ⟨rfl, rfl, e20⟩ := hQ20
  replace X20 : Stand p l e room_1 s m #[(.int p1), (.int p2)] below meth c T20 [] 0 0 := X20
  have R22 : ∀ t, Steps p.tables e below (T20.setTop (mkF m 50 #[.val (.int p1), .val (.int p2), .val (.int v5), .val (.int v9), .val (.int v16), .unset] [(.int (F2 v9)), (.int (F1 v9))])) t → Steps p.tables e below (s₁.setTop (entryFrame m #[(.int p1), (.int p2)] maxLocals)) t := by
    intro t kt
    refine R17 _ ?_
    show Steps p.tables e below (T11.setTop (mkF m 40 #[.val (.int p1), .val (.int p2), .val (.int v5), .val (.int v9), .unset, .unset] [(.int v16)])) _
    refine XS.istore X11.here hx rfl (hb hby at_40) rfl (l' := #[.val (.int p1), .val (.int p2), .val (.int v5), .val (.int v9), .val (.int v16), .unset]) rfl ?_
    show Steps p.tables e below (T11.setTop (mkF m 42 #[.val (.int p1), .val (.int p2), .val (.int v5), .val (.int v9), .val (.int v16), .unset] [])) _
    refine XS.iloadN X11.here hx rfl (hb hby at_42) rfl ?_
    show Steps p.tables e below (T11.setTop (mkF m 43 #[.val (.int p1), .val (.int p2), .val (.int v5), .val (.int v9), .val (.int v16), .unset] [(.int v9)])) _
    refine st19 _ ?_
    show Steps p.tables e below (T19.setTop (mkF m 46 #[.val (.int p1), .val (.int p2), .val (.int v5), .val (.int v9), .val (.int v16), .unset] [(.int (F1 v9))])) _
    refine XS.iloadN X19.here hx rfl (hb hby at_46) rfl ?_
    show Steps p.tables e below (T19.setTop (mkF m 47 #[.val (.int p1), .val (.int p2), .val (.int v5), .val (.int v9), .val (.int v16), .unset] [(.int v9), (.int (F1 v9))])) _
    refine st20 _ ?_
    exact kt
  have J27 : ∃ (v25 : Int32), v25 = (if (F1 v9) = (F2 v9) then (1 : Int32) else (0 : Int32)) ∧ ∀ t, Steps p.tables e below (T20.setTop (mkF m 58 #[.val (.int p1), .val (.int p2), .val (.int v5), .val (.int v9), .val (.int v16), .unset] [(.int v25)])) t → Steps p.tables e below (s₁.setTop (entryFrame m #[(.int p1), (.int p2)] maxLocals)) t := by
    by_cases hc21 : (F1 v9) = (F2 v9)
    · have R23 : ∀ t, Steps p.tables e below (T20.setTop (mkF m 58 #[.val (.int p1), .val (.int p2), .val (.int v5), .val (.int v9), .val (.int v16), .unset] [(.int (1 : Int32))])) t → Steps p.tables e below (s₁.setTop (entryFrame m #[(.int p1), (.int p2)] maxLocals)) t := by
        intro t kt
        refine R22 _ ?_
        show Steps p.tables e below (T20.setTop (mkF m 50 #[.val (.int p1), .val (.int p2), .val (.int v5), .val (.int v9), .val (.int v16), .unset] [(.int (F2 v9)), (.int (F1 v9))])) _
        refine XS.icmpNo X20.here hx rfl (hb hby at_50) rfl (teq hc21).2 ?_
        show Steps p.tables e below (T20.setTop (mkF m 53 #[.val (.int p1), .val (.int p2), .val (.int v5), .val (.int v9), .val (.int v16), .unset] [])) _
        refine XS.iconst X20.here hx rfl (hb hby at_53) ?_
        show Steps p.tables e below (T20.setTop (mkF m 54 #[.val (.int p1), .val (.int p2), .val (.int v5), .val (.int v9), .val (.int v16), .unset] [(.int (1 : Int32))])) _
        refine XS.goto X20.here hx rfl (pc0 := 54) (pc' := 58) rfl (hb hby at_54) (by decide) (by decide) ?_
        exact kt
      exact ⟨(1 : Int32), (by rw [if_pos hc21]), R23⟩
    · have R24 : ∀ t, Steps p.tables e below (T20.setTop (mkF m 58 #[.val (.int p1), .val (.int p2), .val (.int v5), .val (.int v9), .val (.int v16), .unset] [(.int (0 : Int32))])) t → Steps p.tables e below (s₁.setTop (entryFrame m #[(.int p1), (.int p2)] maxLocals)) t := by
        intro t kt
        refine R22 _ ?_
        show Steps p.tables e below (T20.setTop (mkF m 50 #[.val (.int p1), .val (.int p2), .val (.int v5), .val (.int v9), .val (.int v16), .unset] [(.int (F2 v9)), (.int (F1 v9))])) _
        refine XS.icmpYes X20.here hx rfl (pc0 := 50) (pc' := 57) rfl (hb hby at_50) rfl (feq hc21).2 (by decide) (by decide) ?_
        show Steps p.tables e below (T20.setTop (mkF m 57 #[.val (.int p1), .val (.int p2), .val (.int v5), .val (.int v9), .val (.int v16), .unset] [])) _
        refine XS.iconst X20.here hx rfl (hb hby at_57) ?_
        exact kt
      exact ⟨(0 : Int32), (by rw [if_neg hc21]), R24⟩
  obtain ⟨v25, hv25, R26⟩ := J27
  have R29 : ∀ t, Steps p.tables e below (T20.setTop (mkF m 62 #[.val (.int p1), .val (.int p2), .val (.int v5), .val (.int v9), .val (.int v16), .val (.int v25)] [(.int v16)])) t → Steps p.tables e below (s₁.setTop (entryFrame m #[(.int p1), (.int p2)] maxLocals)) t := by
    intro t kt
    refine R26 _ ?_
    show Steps p.tables e below (T20.setTop (mkF m 58 #[.val (.int p1), .val (.int p2), .val (.int v5), .val (.int v9), .val (.int v16), .unset] [(.int v25)])) _
    refine XS.istore X20.here hx rfl (hb hby at_58) rfl (l' := #[.val (.int p1), .val (.int p2), .val (.int v5), .val (.int v9), .val (.int v16), .val (.int v25)]) rfl ?_
    show Steps p.tables e below (T20.setTop (mkF m 60 #[.val (.int p1), .val (.int p2), .val (.int v5), .val (.int v9), .val (.int v16), .val (.int v25)] [])) _
    refine XS.iload X20.here hx rfl (hb hby at_60) rfl ?_
    exact kt
  have J37 : ∃ (v35 : Int32), v35 = (if v16 = (0 : Int32) then (0 : Int32) else (if v25 = (0 : Int32) then (0 : Int32) else (1 : Int32))) ∧ ∀ t, Steps p.tables e below (T20.setTop (mkF m 75 #[.val (.int p1), .val (.int p2), .val (.int v5), .val (.int v9), .val (.int v16), .val (.int v25)] [(.int v35)])) t → Steps p.tables e below (s₁.setTop (entryFrame m #[(.int p1), (.int p2)] maxLocals)) t := by
    by_cases hc28 : v16 = (0 : Int32)
    · have R30 : ∀ t, Steps p.tables e below (T20.setTop (mkF m 75 #[.val (.int p1), .val (.int p2), .val (.int v5), .val (.int v9), .val (.int v16), .val (.int v25)] [(.int (0 : Int32))])) t → Steps p.tables e below (s₁.setTop (entryFrame m #[(.int p1), (.int p2)] maxLocals)) t := by
        intro t kt
        refine R29 _ ?_
        show Steps p.tables e below (T20.setTop (mkF m 62 #[.val (.int p1), .val (.int p2), .val (.int v5), .val (.int v9), .val (.int v16), .val (.int v25)] [(.int v16)])) _
        refine XS.ifYes X20.here hx rfl (pc0 := 62) (pc' := 74) rfl (hb hby at_62) rfl ((if0 _ _).trans (teq hc28).1) (by decide) (by decide) ?_
        show Steps p.tables e below (T20.setTop (mkF m 74 #[.val (.int p1), .val (.int p2), .val (.int v5), .val (.int v9), .val (.int v16), .val (.int v25)] [])) _
        refine XS.iconst X20.here hx rfl (hb hby at_74) ?_
        exact kt
      exact ⟨(0 : Int32), (by rw [if_pos hc28]), R30⟩
    · have R32 : ∀ t, Steps p.tables e below (T20.setTop (mkF m 67 #[.val (.int p1), .val (.int p2), .val (.int v5), .val (.int v9), .val (.int v16), .val (.int v25)] [(.int v25)])) t → Steps p.tables e below (s₁.setTop (entryFrame m #[(.int p1), (.int p2)] maxLocals)) t := by
        intro t kt
        refine R29 _ ?_
        show Steps p.tables e below (T20.setTop (mkF m 62 #[.val (.int p1), .val (.int p2), .val (.int v5), .val (.int v9), .val (.int v16), .val (.int v25)] [(.int v16)])) _
        refine XS.ifNo X20.here hx rfl (hb hby at_62) rfl ((if0 _ _).trans (feq hc28).1) ?_
        show Steps p.tables e below (T20.setTop (mkF m 65 #[.val (.int p1), .val (.int p2), .val (.int v5), .val (.int v9), .val (.int v16), .val (.int v25)] [])) _
        refine XS.iload X20.here hx rfl (hb hby at_65) rfl ?_
        exact kt
      by_cases hc31 : v25 = (0 : Int32)
      · have R33 : ∀ t, Steps p.tables e below (T20.setTop (mkF m 75 #[.val (.int p1), .val (.int p2), .val (.int v5), .val (.int v9), .val (.int v16), .val (.int v25)] [(.int (0 : Int32))])) t → Steps p.tables e below (s₁.setTop (entryFrame m #[(.int p1), (.int p2)] maxLocals)) t := by
          intro t kt
          refine R32 _ ?_
          show Steps p.tables e below (T20.setTop (mkF m 67 #[.val (.int p1), .val (.int p2), .val (.int v5), .val (.int v9), .val (.int v16), .val (.int v25)] [(.int v25)])) _
          refine XS.ifYes X20.here hx rfl (pc0 := 67) (pc' := 74) rfl (hb hby at_67) rfl ((if0 _ _).trans (teq hc31).1) (by decide) (by decide) ?_
          show Steps p.tables e below (T20.setTop (mkF m 74 #[.val (.int p1), .val (.int p2), .val (.int v5), .val (.int v9), .val (.int v16), .val (.int v25)] [])) _
          refine XS.iconst X20.here hx rfl (hb hby at_74) ?_
          exact kt
        exact ⟨(0 : Int32), (by rw [if_neg hc28, if_pos hc31]), R33⟩
      · have R34 : ∀ t, Steps p.tables e below (T20.setTop (mkF m 75 #[.val (.int p1), .val (.int p2), .val (.int v5), .val (.int v9), .val (.int v16), .val (.int v25)] [(.int (1 : Int32))])) t → Steps p.tables e below (s₁.setTop (entryFrame m #[(.int p1), (.int p2)] maxLocals)) t := by
          intro t kt
          refine R32 _ ?_
          show Steps p.tables e below (T20.setTop (mkF m 67 #[.val (.int p1), .val (.int p2), .val (.int v5), .val (.int v9), .val (.int v16), .val (.int v25)] [(.int v25)])) _
          refine XS.ifNo X20.here hx rfl (hb hby at_67) rfl ((if0 _ _).trans (feq hc31).1) ?_
          show Steps p.tables e below (T20.setTop (mkF m 70 #[.val (.int p1), .val (.int p2), .val (.int v5), .val (.int v9), .val (.int v16), .val (.int v25)] [])) _
          refine XS.iconst X20.here hx rfl (hb hby at_70) ?_
          show Steps p.tables e below (T20.setTop (mkF m 71 #[.val (.int p1), .val (.int p2), .val (.int v5), .val (.int v9), .val (.int v16), .val (.int v25)] [(.int (1 : Int32))])) _
          refine XS.goto X20.here hx rfl (pc0 := 71) (pc' := 75) rfl (hb hby at_71) (by decide) (by decide) ?_
          exact kt
        exact ⟨(1 : Int32), (by rw [if_neg hc28, if_neg hc31]), R34⟩
  obtain ⟨v35, hv35, R36⟩ := J37
  obtain ⟨fs, hr, hrun, hended, hW, hsame⟩ := X20.leave (v := some (.int (nar .boolean v35))) (fun h => by rw [Bd.returns] at h; cases h)
  refine ⟨_, _, R36 _ ?_, hrun, hended, _, _, rfl, ?_, ⟨_, rfl⟩, hW, hsame.mono (by decide) (by decide)⟩
  · show Steps p.tables e below (T20.setTop (mkF m 75 #[.val (.int p1), .val (.int p2), .val (.int v5), .val (.int v9), .val (.int v16), .val (.int v25)] [(.int v35)])) _
    exact retN X20 hx (t := .boolean) Bd.returns (by simp) (hb hby at_75) hr
  · show Q0 Z p1 p2 h0 n0 _ T20.heap _
    rw [e20]
    refine ⟨?_, rfl, rfl⟩
    subst hv5 hv9 hv16 hv25 hv35; rfl
theorem own_F1 (y : Int32) : F1 y = if (1 ≤ y.toInt ∧ y.toInt ≤ 9999) then 1 else 0 := by
  have z0 : (1 : Int32).toInt = 1 := rfl
  have z1 : (9999 : Int32).toInt = 9999 := rfl
  simp only [F1, Int32.lt_iff_toInt_lt, z0, z1]
  by_cases h1 : y.toInt < 1
  · rw [if_pos h1, if_neg (by omega)]; rfl
  · rw [if_neg h1]
    by_cases h2 : 9999 < y.toInt
    · rw [if_pos h2, if_neg (by omega)]; rfl
    · rw [if_neg h2, if_pos (by omega)]; rfl
theorem own_sq (a : Int) (h1 : -2147483648 ≤ a) (h2 : a < 2147483648) : 0 ≤ a * a ∧ a * a ≤ 4611686018427387904 := by
  have e : ((a.natAbs * a.natAbs : Nat) : Int) = a * a := Int.natAbs_mul_self
  have l : a.natAbs ≤ 2147483648 := by omega
  have m : a.natAbs * a.natAbs ≤ 2147483648 * 2147483648 := Nat.mul_le_mul l l
  omega
theorem own_prod (y : Int32) : ((((y.toInt64) - (1 : Int64)) * ((y.toInt64) - (9999 : Int64)))).toInt = y.toInt * y.toInt - 10000 * y.toInt + 9999 := by
  have q := rng32 y
  have a1 : ((y.toInt64) - (1 : Int64)).toInt = y.toInt - 1 := by
    have h := c_lsub (y.toInt64) (1 : Int64)
    have r := rng64 ((y.toInt64) - (1 : Int64))
    rw [c_i2l, show (1 : Int64).toInt = 1 from rfl] at h
    omega
  have a2 : ((y.toInt64) - (9999 : Int64)).toInt = y.toInt - 9999 := by
    have h := c_lsub (y.toInt64) (9999 : Int64)
    have r := rng64 ((y.toInt64) - (9999 : Int64))
    rw [c_i2l, show (9999 : Int64).toInt = 9999 from rfl] at h
    omega
  have h := c_lmul ((y.toInt64) - (1 : Int64)) ((y.toInt64) - (9999 : Int64))
  have r := rng64 (((y.toInt64) - (1 : Int64)) * ((y.toInt64) - (9999 : Int64)))
  rw [a1, a2] at h
  have s := own_sq y.toInt q.1 q.2
  have e : (y.toInt - 1) * (y.toInt - 9999) = y.toInt * y.toInt - 10000 * y.toInt + 9999 := by
    rw [Int.sub_mul, Int.mul_sub, Int.mul_sub]; omega
  rw [e] at h
  omega
theorem own_sign (a : Int) : (0 < a * a - 10000 * a + 9999) ↔ ¬ (1 ≤ a ∧ a ≤ 9999) := by
  have e : (a - 1) * (a - 9999) = a * a - 10000 * a + 9999 := by
    rw [Int.sub_mul, Int.mul_sub, Int.mul_sub]; omega
  rw [← e]
  constructor
  · intro h hh
    have : (a - 1) * (a - 9999) ≤ 0 := Int.mul_nonpos_of_nonneg_of_nonpos (by omega) (by omega)
    omega
  · intro h
    by_cases c : a < 1
    · exact Int.mul_pos_of_neg_of_neg (by omega) (by omega)
    · exact Int.mul_pos (by omega) (by omega)
theorem own_F2 (y : Int32) : F2 y = if (1 ≤ y.toInt ∧ y.toInt ≤ 9999) then 1 else 0 := by
  simp only [F2, Int64.lt_iff_toInt_lt, own_prod, show (0 : Int64).toInt = 0 from rfl, own_sign]
  by_cases h : 1 ≤ y.toInt ∧ y.toInt ≤ 9999
  · rw [if_pos h, if_neg (fun q => q h)]; rfl
  · rw [if_neg h, if_pos h]; rfl
theorem own_eq (y : Int32) : F1 y = F2 y := (own_F1 y).trans (own_F2 y).symm
theorem own_end (a b : Int32) (ha : a = 1) (hb : b = 1) : nar .boolean (if a = (0 : Int32) then (0 : Int32) else (if b = (0 : Int32) then (0 : Int32) else (1 : Int32))) = 1 := by subst ha hb; decide
theorem own_plain (p1 p2 : Int32) : F0 p1 p2 = 1 := own_end _ _ (if_pos (own_eq _)) (if_pos (own_eq _))
theorem own_fin {Z : State} (p1 : Int32) (p2 : Int32) (h0 : Heap) (n0 : Nat) (h : Heap) (L : List Loc) {v : Option Value} (q : Q0 Z p1 p2 h0 n0 v h L) : v = some (.int (1 : Int32)) ∧ Fr n0 L := by
  obtain ⟨rfl, rfl, rfl⟩ := q
  exact ⟨by rw [own_plain], Fr.nil _⟩
set_option maxRecDepth 65536 in
set_option maxHeartbeats 40000000 in
theorem comes_1 {Post : Tables → Env → Array Value → State → Outcome → State → Prop} (hpost : ∀ tb e args s v u, (limb_1_1.after args s (.returned v) u = true ∧ limb_1_2.after args s (.returned v) u = true ∧ True) → FrameEnd s (.returned v) u (Jvm.fieldLocs frame_1_writes args s ++ Jvm.arrayLocs frame_1_arrays args s ++ Jvm.staticLocs frame_1_statics s) 0 0 → Post tb e args s (.returned v) u) :
    ArmFor flags0 classFile x code maxLocals ret World_1 tables_1 room_1 Calls_1 rest_1 Pre_1 Post := by
  intro l hfl _ _ p e ha hc hk s m args below hf hA hF happ hP
  obtain ⟨hcalls, hrest, hpre⟩ := hP
  obtain ⟨-, -, -, hnamed, -, -, -, hat⟩ := (Spec.applies_iff hf).mp happ
  obtain ⟨hg, hn⟩ := and_e (Cond.before_iff.mp (show (Jvm.Cond.and given_1 narrow_1).before args s = true from hpre))
  obtain ⟨ga0, gb0⟩ := and_e hg
  obtain ⟨ga1, gb1⟩ := and_e gb0
  obtain ⟨w0, w1, rfl⟩ : ∃ w0 w1 : Value, args = #[w0, w1] := by
    have hs : args.size = 2 := by simpa [Cond.value, given_1] using ga0
    obtain ⟨L⟩ := args
    match L, hs with
    | [w0, w1], _ => exact ⟨w0, w1, rfl⟩
  have hw := fun d (hd : d ∈ tables_1) => atoms_spec (ws := Jvm.Cond.code x code maxLocals ret :: tables_1) hat d (List.mem_cons_of_mem _ hd)
  have hfit : Fit s := fun {y c} hc i hi => by
    obtain ⟨ha, rfl⟩ := Array.getElem?_eq_some_iff.mp hc
    have q := List.all_eq_true.mp ((Array.all_eq_true_iff_forall_mem.mp hF) _ (Array.getElem_mem ha)) i (List.mem_range.mpr hi)
    simpa [Array.getElem?_eq_getElem hi] using q
  obtain ⟨i0, ei0⟩ := is_v ga1
  obtain rfl : w0 = (.int i0) := Option.some.inj ei0
  obtain ⟨i1, ei1⟩ := is_v gb1
  obtain rfl : w1 = (.int i1) := Option.some.inj ei1
  obtain ⟨n, o, h1, h2, h3, v, L, rfl, hQ, hq⟩ := rm0 l s _ hw tables_1 i0 i1 s.heap s.heap.size (Nat.le_refl _) p e ha hc hk s m _ below hf ((Spec.applies_iff_loose hf).mp happ).1 ⟨rfl, State.Warmed39.refl s, rfl⟩ trivial
  obtain ⟨rfl, N⟩ := own_fin i0 i1 _ _ _ _ hQ
  refine ⟨n, _, h1, h2, h3, hpost _ _ _ _ _ _ ⟨Cond.after_iff.mpr rfl, Cond.after_iff.mpr (eq_i res_at (Term.int_eval (1)) rfl), trivial⟩ ⟨hq.1, hq.2.1, (hq.2.2.sift fun y hy => Or.inr (N y hy)).mono (by decide) (by decide)⟩⟩
theorem main_1_1 : Claimed_1_1 := comes_1 fun _ _ _ _ _ _ h hF => ⟨h.1, hF⟩
theorem main_1_2 : Claimed_1_2 := comes_1 fun _ _ _ _ _ _ h hF => ⟨h.2.1, hF⟩
end Jvm.Pilot.@@N@@
namespace Jvm.Pilot.@@N@@
open Jvm Jvm.ClassFile Sem Op Lib Jvm.Free Jvm.Stand Jvm.Pilot.@@N@@.Jvm.D
/-! MADE BY PROGRAM (witnessworld.py) out of the Statement's table words and the real class files: 9 classes; the members and pool entries that the words name. The judged class is class 1, her method 2. -/
namespace start1
open Jvm.ClassFile
def u (s : String) : CpInfo := .utf8 (stringToUtf16 s)
/-- a pool by its gaps: so many unusable entries, then the entry; so many at the end -/
def gap : Nat → List CpInfo → List CpInfo
  | 0, r => r
  | n + 1, r => .unusable :: gap n r
def poolList (es : List (Nat × CpInfo)) (last : Nat) : List CpInfo := es.foldr (fun e r => gap e.1 (e.2 :: r)) (gap last [])
def pool (es : List (Nat × CpInfo)) (last : Nat) : Array CpInfo := ⟨poolList es last⟩
def fileOf (pool : Array CpInfo) (this : Nat) (attrs : Array Attribute := #[]) (ms : Array MethodInfo := #[]) (fl : Nat := 33) (sup : Nat := 0) (ifs : Array Nat := #[]) (fds : Array FieldInfo := #[]) : ClassFile where
  minorVersion := 0
  majorVersion := 65
  constantPool := pool
  accessFlags := fl
  thisClass := this
  superClass := sup
  interfaces := ifs
  fields := fds
  methods := ms
  attributes := attrs
def plain (name : String) (sup : Option ClassId) : Class where
  name := name
  kind := .ordinary
  loader := none
  accessFlags := 33
  super := sup
  interfaces := #[]
  cf := none
  fields := #[]
  methods := #[]
  instanceTypes := #[]
  staticTypes := #[]
  resolved := #[]
  callSites := []
  init := .initialized
  statics := none
  mirror := none

def pool0 : Array CpInfo := pool [(5, u "<init>"), (0, u "()V"), (1, .class_ 10), (1, u "java/lang/Object")] 113

def k0m0 : Method := { name := "<init>", desc := "()V", sig := { parameters := [], returnType := none }, accessFlags := 1, code := none }
/-- java/lang/Object -/
def k0 : Class := { plain "java/lang/Object" none with
  accessFlags := 33
  interfaces := #[]
  cf := some (fileOf pool0 8 #[] #[{ accessFlags := 1, nameIndex := 5, descriptorIndex := 6, attributes := #[] }] 33 0 #[] #[])
  fields := #[]
  methods := #[k0m0]
  instanceTypes := #[]
  staticTypes := #[]
  resolved := Array.replicate 124 none
  statics := none }

def pool1 : Array CpInfo := pool [(2, .class_ 4), (1, u "java/lang/Object"), (0, u "<init>"), (0, u "()V"), (0, .long 9999), (1, .methodref 10 11), (0, .class_ 12), (0, .nameAndType 13 14), (0, u "com/example/vestwright/vestwright/core/FactChecks"), (0, u "isCaseYear"), (0, u "(I)Z"), (0, .methodref 16 17), (0, .class_ 18), (0, .nameAndType 19 14), (0, u "com/example/vestwright/vestwright/core/FactChecksIsCaseYearPinLaw"), (0, u "between"), (3, u "law"), (0, u "(II)Z")] 2

def k1m0 : Method := { name := "<init>", desc := "()V", sig := { parameters := [], returnType := none }, accessFlags := 2, code := none }
def k1c1 : Code := { maxStack := 6, maxLocals := 3, code := method_2_code, exceptionTable := #[], attributes := #[] }
def k1m1 : Method := { name := "between", desc := "(I)Z", sig := { parameters := [.int], returnType := some .boolean }, accessFlags := 10, code := some k1c1 }
def k1c2 : Code := { maxStack := 3, maxLocals := 6, code := code, exceptionTable := #[], attributes := #[] }
def k1m2 : Method := { name := "law", desc := "(II)Z", sig := { parameters := [.int, .int], returnType := some .boolean }, accessFlags := 9, code := some k1c2 }
/-- com/example/vestwright/vestwright/core/FactChecksIsCaseYearPinLaw -/
def k1 : Class := { plain "com/example/vestwright/vestwright/core/FactChecksIsCaseYearPinLaw" (some 0) with
  accessFlags := 49
  interfaces := #[]
  cf := some (fileOf pool1 16 #[] #[{ accessFlags := 2, nameIndex := 5, descriptorIndex := 6, attributes := #[] }, { accessFlags := 10, nameIndex := 19, descriptorIndex := 14, attributes := #[] }, { accessFlags := 9, nameIndex := 23, descriptorIndex := 24, attributes := #[] }] 49 2 #[] #[])
  fields := #[]
  methods := #[k1m0, k1m1, k1m2]
  instanceTypes := #[]
  staticTypes := #[]
  resolved := Array.replicate 27 none
  statics := none }

def pool2 : Array CpInfo := pool [(2, .class_ 4), (1, u "java/lang/Object"), (0, u "<init>"), (0, u "()V"), (1, .class_ 10), (1, u "com/example/vestwright/vestwright/core/FactChecks"), (22, u "isCaseYear"), (0, u "(I)Z"), (26, u "FIRST_DATE"), (0, u "Ljava/time/LocalDate;"), (8, u "LAST_DATE"), (167, u "FIRST_YEAR"), (0, u "I"), (2, u "LAST_YEAR"), (1, u "UNWRITTEN_MONTH"), (0, u "Ljava/lang/String;")] 69

def k2m0 : Method := { name := "<init>", desc := "()V", sig := { parameters := [], returnType := none }, accessFlags := 2, code := none }
def k2c1 : Code := { maxStack := 2, maxLocals := 1, code := prog_16_method_6_code, exceptionTable := #[], attributes := #[] }
def k2m1 : Method := { name := "isCaseYear", desc := "(I)Z", sig := { parameters := [.int], returnType := some .boolean }, accessFlags := 9, code := some k2c1 }
/-- com/example/vestwright/vestwright/core/FactChecks -/
def k2 : Class := { plain "com/example/vestwright/vestwright/core/FactChecks" (some 0) with
  accessFlags := 33
  interfaces := #[]
  cf := some (fileOf pool2 8 #[] #[{ accessFlags := 2, nameIndex := 5, descriptorIndex := 6, attributes := #[] }, { accessFlags := 9, nameIndex := 33, descriptorIndex := 34, attributes := #[] }] 33 2 #[] #[{ accessFlags := 25, nameIndex := 239, descriptorIndex := 240, attributes := #[] }, { accessFlags := 25, nameIndex := 243, descriptorIndex := 240, attributes := #[] }, { accessFlags := 24, nameIndex := 245, descriptorIndex := 246, attributes := #[] }, { accessFlags := 26, nameIndex := 61, descriptorIndex := 62, attributes := #[] }, { accessFlags := 26, nameIndex := 71, descriptorIndex := 62, attributes := #[] }])
  fields := #[{ name := "FIRST_YEAR", type := .int, accessFlags := 25, slot := 0, constantValue := 0 }, { name := "LAST_YEAR", type := .int, accessFlags := 25, slot := 1, constantValue := 0 }, { name := "UNWRITTEN_MONTH", type := (.object "java/lang/String"), accessFlags := 24, slot := 2, constantValue := 0 }, { name := "FIRST_DATE", type := (.object "java/time/LocalDate"), accessFlags := 26, slot := 3, constantValue := 0 }, { name := "LAST_DATE", type := (.object "java/time/LocalDate"), accessFlags := 26, slot := 4, constantValue := 0 }]
  methods := #[k2m0, k2m1]
  instanceTypes := #[]
  staticTypes := #[.int, .int, (.object "java/lang/String"), (.object "java/time/LocalDate"), (.object "java/time/LocalDate")]
  resolved := Array.replicate 316 none
  statics := none }

def pool3 : Array CpInfo := pool [(1, u "java/lang/Cloneable"), (0, .class_ 1), (0, u "java/lang/Object"), (0, .class_ 3)] 3

/-- java/lang/Cloneable -/
def k3 : Class := { plain "java/lang/Cloneable" (some 0) with
  accessFlags := 1537
  interfaces := #[]
  cf := some (fileOf pool3 2 #[] #[] 1537 4 #[] #[])
  fields := #[]
  methods := #[]
  instanceTypes := #[]
  staticTypes := #[]
  resolved := Array.replicate 8 none
  statics := none }

def pool4 : Array CpInfo := pool [(1, u "java/io/Serializable"), (0, .class_ 1), (0, u "java/lang/Object"), (0, .class_ 3)] 3

/-- java/io/Serializable -/
def k4 : Class := { plain "java/io/Serializable" (some 0) with
  accessFlags := 1537
  interfaces := #[]
  cf := some (fileOf pool4 2 #[] #[] 1537 4 #[] #[])
  fields := #[]
  methods := #[]
  instanceTypes := #[]
  staticTypes := #[]
  resolved := Array.replicate 8 none
  statics := none }

/-- the primitive byte -/
def k5 : Class := { plain "byte" none with kind := .primitive 'B', accessFlags := 0x411 }
/-- [B -/
def k6 : Class := { plain "[B" (some 0) with kind := .array 5 .byte, interfaces := #[3, 4], accessFlags := 1041 }

/-- the primitive int -/
def k7 : Class := { plain "int" none with kind := .primitive 'I', accessFlags := 0x411 }
/-- [I -/
def k8 : Class := { plain "[I" (some 0) with kind := .array 7 .int, interfaces := #[3, 4], accessFlags := 1041 }

def heap : Heap := #[]
def classes : Array Class := #[k0, k1, k2, k3, k4, k5, k6, k7, k8]
def interned : List (Array UInt16 × Addr) := []
def slotsUsed : Nat := 0
def theMethod : MethodId := ⟨1, 2⟩
def args0 : Array Value := #[.int 5, .int 3]
def aboutOver (below : List Frame) : State where
  vm := { classes := classes, interned := interned.toArray }
  heap := heap
  slotsUsed := slotsUsed
  threads := #[{ frames := .invoking theMethod args0 :: below }]
def below0 : List Frame := [.native { method := ⟨0, 0⟩, args := #[] }]
def about1 : State := aboutOver below0
def p0 : Program := .bare "" "" ""
def e0 : Env := launch0.env 0 0 0
theorem w_frames : about1.frames = Frame.invoking theMethod args0 :: below0 := rfl
set_option maxRecDepth 65536 in
theorem w_args : argsFit about1.vm theMethod args0 = true := by decide +kernel
set_option maxRecDepth 65536 in
theorem w_heap : heapFits about1 = true := by decide +kernel
set_option maxRecDepth 65536 in
theorem w_runnable : about1.curStatus? = some .runnable := by decide +kernel
set_option maxRecDepth 65536 in
theorem w_alone : about1.alone = true := by decide +kernel
set_option maxRecDepth 65536 in
theorem w_named : about1.methodNamed? x = some theMethod := by decide +kernel
set_option maxRecDepth 65536 in
theorem w_hears : about1.hears theMethod below0 = true := by decide +kernel
set_option maxRecDepth 65536 in
theorem w_ripe : about1.ripe theMethod args0 below0 = true := by decide +kernel
theorem w_running : about1.status = .running := rfl
set_option maxRecDepth 65536 in
theorem w_room : about1.hasRoom e0.platform room_1 = true :=
  launch0.hasRoom_least _ room_1 (by decide +kernel) (by decide +kernel) (by decide +kernel) (by decide +kernel) (by decide +kernel) (by decide +kernel)
theorem allAtoms_all (ts : List Jvm.Cond) (a : Array Jvm.Value) (st : Jvm.State) : (allAtoms ts).before a st = ts.all (fun c => c.before a st) := by
  induction ts with
  | nil => rfl
  | cons c t ih =>
    show (Jvm.Cond.and c (allAtoms t)).before a st = _
    rw [Jvm.Cond.before_and, ih, List.all_cons]
def words1 : List Jvm.Cond := Jvm.Cond.code x code maxLocals ret :: tables_1
/-- a 'code' word, met by the world's own term for the bytes: nothing is compared byte by byte -/
theorem code_word {y : MethodName} {bytes : ByteArray} {mx : Nat} {rt : Option FieldType} {a : Array Value} {s : State} {m : MethodId} {meth : Method} {c : Code} (h1 : s.methodNamed? y = some m) (h2 : s.vm.method? m = some meth) (h3 : meth.code = some c) (h4 : c.code = bytes)
    (h5 : (c.maxLocals == mx && c.exceptionTable.isEmpty && decide (c.maxStack ≤ mostOperands) && decide (meth.sig.returnType = rt) && !meth.locks && decide (parseMethodDescriptor y.desc = some meth.sig)) = true) : (Jvm.Cond.code y bytes mx rt).before a s = true := by
  simp only [Bool.and_eq_true, beq_iff_eq, Bool.not_eq_true', decide_eq_true_eq] at h5
  obtain ⟨⟨⟨⟨⟨g1, g2⟩, g3⟩, g4⟩, g5⟩, g6⟩ := h5
  simp [Cond.before, Cond.holds, Cond.value, h1, h2, h3, h4, g1, g2, g3, g4, g5, g6]
def isCode : Jvm.Cond → Bool
  | .code _ _ _ _ => true
  | _ => false
theorem all_split {L : List Jvm.Cond} {P : Jvm.Cond → Bool} (h1 : L.all (fun c => isCode c || P c) = true) (h2 : ∀ c ∈ L.filter isCode, P c = true) : L.all P = true := by
  refine List.all_eq_true.mpr fun c hc => ?_
  have h := List.all_eq_true.mp h1 c hc
  rcases Bool.eq_false_or_eq_true (isCode c) with hi | hi
  · exact h2 c (List.mem_filter.mpr ⟨hc, hi⟩)
  · simpa [hi] using h
set_option maxRecDepth 65536 in
theorem w_c0 : (Jvm.Cond.code x code maxLocals ret).before args0 about1 = true := code_word (m := ⟨1, 2⟩) (meth := k1m2) (c := k1c2) (by decide +kernel) rfl rfl rfl (by decide +kernel)
set_option maxRecDepth 65536 in
theorem w_c1 : (Jvm.Cond.code ({ cls := "com/example/vestwright/vestwright/core/FactChecks", name := "isCaseYear", desc := "(I)Z" } : Jvm.MethodName) prog_16_method_6_code (1 : Nat) (Option.some Jvm.ClassFile.FieldType.boolean)).before args0 about1 = true := code_word (m := ⟨2, 1⟩) (meth := k2m1) (c := k2c1) (by decide +kernel) rfl rfl rfl (by decide +kernel)
set_option maxRecDepth 65536 in
theorem w_c2 : (Jvm.Cond.code ({ cls := "com/example/vestwright/vestwright/core/FactChecksIsCaseYearPinLaw", name := "between", desc := "(I)Z" } : Jvm.MethodName) method_2_code (3 : Nat) (Option.some Jvm.ClassFile.FieldType.boolean)).before args0 about1 = true := code_word (m := ⟨1, 1⟩) (meth := k1m1) (c := k1c1) (by decide +kernel) rfl rfl rfl (by decide +kernel)
def codes1 : List Jvm.Cond := [Jvm.Cond.code x code maxLocals ret, Jvm.Cond.code ({ cls := "com/example/vestwright/vestwright/core/FactChecks", name := "isCaseYear", desc := "(I)Z" } : Jvm.MethodName) prog_16_method_6_code (1 : Nat) (Option.some Jvm.ClassFile.FieldType.boolean), Jvm.Cond.code ({ cls := "com/example/vestwright/vestwright/core/FactChecksIsCaseYearPinLaw", name := "between", desc := "(I)Z" } : Jvm.MethodName) method_2_code (3 : Nat) (Option.some Jvm.ClassFile.FieldType.boolean)]
set_option maxRecDepth 65536 in
theorem codes_eq : words1.filter isCode = codes1 := rfl
theorem w_codes : ∀ c ∈ words1.filter isCode, c.before args0 about1 = true := by
  rw [codes_eq]
  intro c hc
  simp only [codes1, List.mem_cons, List.not_mem_nil, or_false] at hc
  rcases hc with rfl | rfl | rfl
  · exact w_c0
  · exact w_c1
  · exact w_c2
set_option maxRecDepth 65536 in
theorem w_t1 : words1.all (fun c => isCode c || c.before args0 about1) = true := by decide +kernel
theorem w_tables : (allAtoms (Jvm.Cond.code x code maxLocals ret :: tables_1)).before args0 about1 = true := by
  rw [allAtoms_all]
  show words1.all (fun c => c.before args0 about1) = true
  refine all_split ?_ w_codes
  rw [w_t1]
set_option maxRecDepth 65536 in
theorem w_case : (Jvm.Cond.and given_1 narrow_1).before args0 about1 = true := by decide +kernel
theorem w_applies : (headSpec (Jvm.Cond.code x code maxLocals ret :: tables_1) room_1).applies x e0.platform about1 = true :=
  (Spec.applies_iff w_frames).mpr ⟨w_running, w_runnable, w_alone, w_named, w_hears, w_ripe, w_room, w_tables⟩
theorem atStart : AtStart classFile x code maxLocals ret World_1 tables_1 room_1 Calls_1 rest_1 Pre_1 launch0 p0 e0 about1 theMethod args0 below0 :=
  ⟨lists_1, trivial, launch0.admits_env _ _ _, launch0.least_env, fairChoices_fair.cas, fairChoices_fair.clock, w_frames, w_args, w_heap, w_applies, trivial, trivial, w_case⟩
end start1
theorem witness_1 : WitnessClaimed_1 := ⟨start1.p0, start1.e0, start1.about1, start1.theMethod, start1.args0, start1.below0, start1.atStart⟩
end Jvm.Pilot.@@N@@
