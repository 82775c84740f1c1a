import JvmDerived
import JvmDerived.Pilot.@@N@@Statement
import JvmDerived.Pilot.@@N@@Code
set_option linter.unusedVariables false
set_option linter.unusedSimpArgs false
namespace Jvm.RoadKit
open Sem ClassFile Op Lib Jvm.Stand Jvm.Free Jvm.LawKit
section New
variable {p : Program} {l : Launch} {e : Env} {R : Room} {s : State} {m : MethodId} {args : Array Value} {below : List Frame} {meth : Method} {c : Code} {T : State} {locs : List Loc} {cells slots : Nat}
theorem retI (X : Stand p l e R s m args below meth c T locs cells slots) (hx : p.tables.exec = Jvm.exec) {pc : Nat} {Ls : Array Slot} {z : Int32} {rest : List Value} (hret : meth.sig.returnType = some .int) (hd : decode c.code pc = .ok (.ireturn, 1)) {fs : List Frame}
    (hl : ∀ (f : JFrame) (acts : List Action), f.method = m → f.locked = none → f.entered = [] → (doReturn e (T.setTop f) acts (some (.int z))).1 = T.setFrames fs) : Steps p.tables e below (T.setTop (mkF m pc Ls (.int z :: rest))) (T.setFrames fs) := by
  have hm' : T.vm.method? m = some meth := X.method'
  have hn : narrow .int (.int z) = .int z := rfl
  show Steps p.tables e below (T.setTop { method := m, pc := pc, locals := Ls, stack := _ :: rest, locked := none }) _
  jvm_step X.here [X.here.top, hx, hd, hm', hret, hn]
  first | (intro acts; rw [hl _ acts rfl rfl rfl]) | rw [hl _ _ rfl rfl rfl]
  exact Steps.refl _
end New
end Jvm.RoadKit
namespace Jvm.Pilot.@@N@@
open Jvm Jvm.ClassFile Sem Op Lib Jvm.Free Jvm.Stand Jvm.LawKit Jvm.RoadKit Bundle Jvm.Pilot.@@N@@.Jvm.D
theorem d1_0 : decode prog_93_method_5_code 0 = .ok (.lload_n 0, 1) := by decide +kernel
theorem d1_1 : decode prog_93_method_5_code 1 = .ok (.ldc2_w 178, 3) := by decide +kernel
theorem d1_4 : decode prog_93_method_5_code 4 = .ok (.land, 1) := by decide +kernel
theorem d1_5 : decode prog_93_method_5_code 5 = .ok (.lconst 0, 1) := by decide +kernel
theorem d1_6 : decode prog_93_method_5_code 6 = .ok (.lcmp, 1) := by decide +kernel
theorem d1_7 : decode prog_93_method_5_code 7 = .ok (.ifCond .eq 7, 3) := by decide +kernel
theorem d1_10 : decode prog_93_method_5_code 10 = .ok (.iconst 1, 1) := by decide +kernel
theorem d1_11 : decode prog_93_method_5_code 11 = .ok (.goto 4, 3) := by decide +kernel
theorem d1_14 : decode prog_93_method_5_code 14 = .ok (.iconst 0, 1) := by decide +kernel
theorem d1_15 : decode prog_93_method_5_code 15 = .ok (.ireturn, 1) := by decide +kernel
theorem pn_1 : plainName "com/example/relicary/relicary/siard/NameIndex" = true := by first | (simp [plainName, overriddenIn]; done) | decide +kernel
theorem ef_1 (m : MethodId) (x0 : Int64) : entryFrame m #[(.long x0)] 2 = mkF m 0 #[.val (.long x0), .second] [] := by first | (simp [entryFrame, mkF, argsToLocals, Value.category]; done) | rfl
def F1 (q1 : Int64) : Int32 :=
  let v5 : Int32 := (if (q1 &&& (4611686018427387904 : Int64)) = (0 : Int64) then (0 : Int32) else (1 : Int32))
  (nar .boolean v5)
def Q1 (Z : State) (q1 : Int64) (h0 : Heap) (n0 : Nat) (v : Option Value) (h : Heap) (L : List Loc) : Prop := v = some (.int (F1 q1)) ∧ L = [] ∧ h = h0
set_option maxRecDepth 65536 in
set_option maxHeartbeats 40000000 in
theorem rm1 (l : Launch) (Z : State) (a0 : Array Value) (hw : ∀ d ∈ tables_1, d.before a0 Z = true) (ws : List Jvm.Cond) (q1 : Int64) (h0 : Heap) (n0 : Nat) (Z0 : n0 ≤ h0.size) :
    MetFree l (⟨"com/example/relicary/relicary/siard/NameIndex", "shared", "(J)Z"⟩ : MethodName) (head1 (Jvm.Cond.code (⟨"com/example/relicary/relicary/siard/NameIndex", "shared", "(J)Z"⟩ : MethodName) prog_93_method_5_code 2 (some .boolean) :: ws) ({ frames := 0, cells := 0, slots := 0, locals := 0 } : Room)) (fun a U => a = #[(.long q1)] ∧ Z.Warmed39 U.vm ∧ U.heap = h0) (fun _ _ _ _ _ => True) (fun _ U o U' => ∃ v L, o = .returned v ∧ Q1 Z q1 h0 n0 v U'.heap L ∧ FrameEnd U o U' L ({ frames := 0, cells := 0, slots := 0, locals := 0 } : Room).cells ({ frames := 0, cells := 0, slots := 0, locals := 0 } : Room).slots) := by
  refine MetFree.of_bodySF (plainFor_of_name pn_1) hisR ?_
  intro p e s m args below meth c s₁ Bd hml0 hP hK
  obtain ⟨rfl, hZ, hh⟩ := hP
  have hx := Bd.exec
  have hby := Bd.bytes
  have hml : c.maxLocals = 2 := hml0
  have hown : s.vm.findClass "com/example/relicary/relicary/siard/NameIndex" = some m.cls := findClass_of_methodNamed Bd.named
  have hnm := (name_of_methodNamed Bd.named Bd.method).1
  have X0 : Stand p l e ({ frames := 0, cells := 0, slots := 0, locals := 0 } : Room) s m #[(.long q1)] below meth c s₁ [] 0 0 := Stand.of_body Bd
  have e0 : s₁.heap = h0 := by rw [← hh, Bd.state]; rfl
  have N0 := Fr.nil n0
  have pre0 : ∀ t, Steps p.tables e below (s₁.setTop (mkF m 0 #[.val (.long q1), .second] [])) t → Steps p.tables e below (s₁.setTop (entryFrame m #[(.long q1)] 2)) t := fun t k => castTop (ef_1 m q1) k
  have R2 : ∀ t, Steps p.tables e below (s₁.setTop (mkF m 7 #[.val (.long q1), .second] [(.int (lcmpW (q1 &&& (4611686018427387904 : Int64)) (0 : Int64)))])) t → Steps p.tables e below (s₁.setTop (entryFrame m #[(.long q1)] 2)) t := by
    intro t kt
    refine pre0 _ ?_
    show Steps p.tables e below (s₁.setTop (mkF m 0 #[.val (.long q1), .second] [])) _
    refine XS.lloadN X0.here hx rfl (hb hby d1_0) rfl ?_
    show Steps p.tables e below (s₁.setTop (mkF m 1 #[.val (.long q1), .second] [(.long q1)])) _
    refine X0.ldc2Long hx hown (mvT hZ (hw _ (List.mem_of_getElem? (i := 6) rfl))) (g := (mkF m 1 #[.val (.long q1), .second] [(.long q1)])) rfl (hb hby d1_1) _ ?_
    show Steps p.tables e below (s₁.setTop (mkF m 4 #[.val (.long q1), .second] [(.long (4611686018427387904 : Int64)), (.long q1)])) _
    refine XS.land X0.here hx rfl (hb hby d1_4) rfl ?_
    show Steps p.tables e below (s₁.setTop (mkF m 5 #[.val (.long q1), .second] [(.long (q1 &&& (4611686018427387904 : Int64)))])) _
    refine XS.lconst X0.here hx rfl (hb hby d1_5) ?_
    show Steps p.tables e below (s₁.setTop (mkF m 6 #[.val (.long q1), .second] [(.long (0 : Int64)), (.long (q1 &&& (4611686018427387904 : Int64)))])) _
    refine XS.lcmp X0.here hx rfl (hb hby d1_6) rfl ?_
    exact kt
  have J7 : ∃ (v5 : Int32), v5 = (if (q1 &&& (4611686018427387904 : Int64)) = (0 : Int64) then (0 : Int32) else (1 : Int32)) ∧ ∀ t, Steps p.tables e below (s₁.setTop (mkF m 15 #[.val (.long q1), .second] [(.int v5)])) t → Steps p.tables e below (s₁.setTop (entryFrame m #[(.long q1)] 2)) t := by
    by_cases hc1 : (q1 &&& (4611686018427387904 : Int64)) = (0 : Int64)
    · have R3 : ∀ t, Steps p.tables e below (s₁.setTop (mkF m 15 #[.val (.long q1), .second] [(.int (0 : Int32))])) t → Steps p.tables e below (s₁.setTop (entryFrame m #[(.long q1)] 2)) t := by
        intro t kt
        refine R2 _ ?_
        show Steps p.tables e below (s₁.setTop (mkF m 7 #[.val (.long q1), .second] [(.int (lcmpW (q1 &&& (4611686018427387904 : Int64)) (0 : Int64)))])) _
        refine XS.ifYes X0.here hx rfl (pc0 := 7) (pc' := 14) rfl (hb hby d1_7) rfl ((if0 _ _).trans (teq ((lw_eq _ _).mpr hc1)).1) (by decide) (by decide) ?_
        show Steps p.tables e below (s₁.setTop (mkF m 14 #[.val (.long q1), .second] [])) _
        refine XS.iconst X0.here hx rfl (hb hby d1_14) ?_
        exact kt
      exact ⟨(0 : Int32), (by rw [if_pos hc1]), R3⟩
    · have R4 : ∀ t, Steps p.tables e below (s₁.setTop (mkF m 15 #[.val (.long q1), .second] [(.int (1 : Int32))])) t → Steps p.tables e below (s₁.setTop (entryFrame m #[(.long q1)] 2)) t := by
        intro t kt
        refine R2 _ ?_
        show Steps p.tables e below (s₁.setTop (mkF m 7 #[.val (.long q1), .second] [(.int (lcmpW (q1 &&& (4611686018427387904 : Int64)) (0 : Int64)))])) _
        refine XS.ifNo X0.here hx rfl (hb hby d1_7) rfl ((if0 _ _).trans (feq (fun q => hc1 ((lw_eq _ _).mp q))).1) ?_
        show Steps p.tables e below (s₁.setTop (mkF m 10 #[.val (.long q1), .second] [])) _
        refine XS.iconst X0.here hx rfl (hb hby d1_10) ?_
        show Steps p.tables e below (s₁.setTop (mkF m 11 #[.val (.long q1), .second] [(.int (1 : Int32))])) _
        refine XS.goto X0.here hx rfl (pc0 := 11) (pc' := 15) rfl (hb hby d1_11) (by decide) (by decide) ?_
        exact kt
      exact ⟨(1 : Int32), (by rw [if_neg hc1]), R4⟩
  obtain ⟨v5, hv5, R6⟩ := J7
  obtain ⟨fs, hr, hrun, hended, hW, hsame⟩ := X0.leave (v := some (.int (nar .boolean v5))) (fun h => by rw [Bd.returns] at h; cases h)
  refine ⟨_, _, R6 _ ?_, hrun, hended, _, _, rfl, ?_, ⟨_, rfl⟩, hW, hsame.mono (by decide) (by decide)⟩
  · show Steps p.tables e below (s₁.setTop (mkF m 15 #[.val (.long q1), .second] [(.int v5)])) _
    exact retN X0 hx (t := .boolean) Bd.returns (by simp) (hb hby d1_15) hr
  · show Q1 Z q1 h0 n0 _ s₁.heap _
    rw [e0]
    refine ⟨?_, rfl, rfl⟩
    subst hv5; rfl
theorem d2_0 : decode prog_93_method_6_code 0 = .ok (.lload_n 0, 1) := by decide +kernel
theorem d2_1 : decode prog_93_method_6_code 1 = .ok (.ldc2_w 166, 3) := by decide +kernel
theorem d2_4 : decode prog_93_method_6_code 4 = .ok (.land, 1) := by decide +kernel
theorem d2_5 : decode prog_93_method_6_code 5 = .ok (.lreturn, 1) := by decide +kernel
theorem pn_2 : plainName "com/example/relicary/relicary/siard/NameIndex" = true := by first | (simp [plainName, overriddenIn]; done) | decide +kernel
theorem ef_2 (m : MethodId) (x0 : Int64) : entryFrame m #[(.long x0)] 2 = mkF m 0 #[.val (.long x0), .second] [] := by first | (simp [entryFrame, mkF, argsToLocals, Value.category]; done) | rfl
def F2 (q1 : Int64) : Int64 :=
  (q1 &&& (-4611686018427387905 : Int64))
def Q2 (Z : State) (q1 : Int64) (h0 : Heap) (n0 : Nat) (v : Option Value) (h : Heap) (L : List Loc) : Prop := v = some (.long (F2 q1)) ∧ L = [] ∧ h = h0
set_option maxRecDepth 65536 in
set_option maxHeartbeats 40000000 in
theorem rm2 (l : Launch) (Z : State) (a0 : Array Value) (hw : ∀ d ∈ tables_1, d.before a0 Z = true) (ws : List Jvm.Cond) (q1 : Int64) (h0 : Heap) (n0 : Nat) (Z0 : n0 ≤ h0.size) :
    MetFree l (⟨"com/example/relicary/relicary/siard/NameIndex", "place", "(J)J"⟩ : MethodName) (head1 (Jvm.Cond.code (⟨"com/example/relicary/relicary/siard/NameIndex", "place", "(J)J"⟩ : MethodName) prog_93_method_6_code 2 (some .long) :: ws) ({ frames := 0, cells := 0, slots := 0, locals := 0 } : Room)) (fun a U => a = #[(.long q1)] ∧ Z.Warmed39 U.vm ∧ U.heap = h0) (fun _ _ _ _ _ => True) (fun _ U o U' => ∃ v L, o = .returned v ∧ Q2 Z q1 h0 n0 v U'.heap L ∧ FrameEnd U o U' L ({ frames := 0, cells := 0, slots := 0, locals := 0 } : Room).cells ({ frames := 0, cells := 0, slots := 0, locals := 0 } : Room).slots) := by
  refine MetFree.of_bodySF (plainFor_of_name pn_2) hisR ?_
  intro p e s m args below meth c s₁ Bd hml0 hP hK
  obtain ⟨rfl, hZ, hh⟩ := hP
  have hx := Bd.exec
  have hby := Bd.bytes
  have hml : c.maxLocals = 2 := hml0
  have hown : s.vm.findClass "com/example/relicary/relicary/siard/NameIndex" = some m.cls := findClass_of_methodNamed Bd.named
  have hnm := (name_of_methodNamed Bd.named Bd.method).1
  have X0 : Stand p l e ({ frames := 0, cells := 0, slots := 0, locals := 0 } : Room) s m #[(.long q1)] below meth c s₁ [] 0 0 := Stand.of_body Bd
  have e0 : s₁.heap = h0 := by rw [← hh, Bd.state]; rfl
  have N0 := Fr.nil n0
  have pre0 : ∀ t, Steps p.tables e below (s₁.setTop (mkF m 0 #[.val (.long q1), .second] [])) t → Steps p.tables e below (s₁.setTop (entryFrame m #[(.long q1)] 2)) t := fun t k => castTop (ef_2 m q1) k
  have R1 : ∀ t, Steps p.tables e below (s₁.setTop (mkF m 5 #[.val (.long q1), .second] [(.long (q1 &&& (-4611686018427387905 : Int64)))])) t → Steps p.tables e below (s₁.setTop (entryFrame m #[(.long q1)] 2)) t := by
    intro t kt
    refine pre0 _ ?_
    show Steps p.tables e below (s₁.setTop (mkF m 0 #[.val (.long q1), .second] [])) _
    refine XS.lloadN X0.here hx rfl (hb hby d2_0) rfl ?_
    show Steps p.tables e below (s₁.setTop (mkF m 1 #[.val (.long q1), .second] [(.long q1)])) _
    refine X0.ldc2Long hx hown (mvT hZ (hw _ (List.mem_of_getElem? (i := 10) rfl))) (g := (mkF m 1 #[.val (.long q1), .second] [(.long q1)])) rfl (hb hby d2_1) _ ?_
    show Steps p.tables e below (s₁.setTop (mkF m 4 #[.val (.long q1), .second] [(.long (-4611686018427387905 : Int64)), (.long q1)])) _
    refine XS.land X0.here hx rfl (hb hby d2_4) rfl ?_
    exact kt
  obtain ⟨fs, hr, hrun, hended, hW, hsame⟩ := X0.leave (v := some (.long (q1 &&& (-4611686018427387905 : Int64)))) (fun h => by rw [Bd.returns] at h; cases h)
  refine ⟨_, _, R1 _ ?_, hrun, hended, _, _, rfl, ?_, ⟨_, rfl⟩, hW, hsame.mono (by decide) (by decide)⟩
  · show Steps p.tables e below (s₁.setTop (mkF m 5 #[.val (.long q1), .second] [(.long (q1 &&& (-4611686018427387905 : Int64)))])) _
    exact X0.lreturnOut hx Bd.returns (hb hby d2_5) hr
  · show Q2 Z q1 h0 n0 _ s₁.heap _
    rw [e0]
    refine ⟨?_, rfl, rfl⟩
    rfl
theorem pn_0 : plainName "com/example/relicary/relicary/siard/NameIndexSharedPinLaw" = true := by first | (simp [plainName, overriddenIn]; done) | decide +kernel
theorem pd_0_1 : parseMethodDescriptor "(J)Z" = some ⟨[.long], some .boolean⟩ := by decide +kernel
theorem pd_0_2 : parseMethodDescriptor "(J)J" = some ⟨[.long], some .long⟩ := by decide +kernel
theorem ef_0 (m : MethodId) (x0 : Int64) (x1 : Int32) : entryFrame m #[(.long x0), (.int x1)] maxLocals = mkF m 0 #[.val (.long x0), .second, .val (.int x1), .unset, .unset, .unset, .unset, .unset, .unset, .unset, .unset, .unset] [] := by first | (simp [entryFrame, mkF, argsToLocals, Value.category, maxLocals]; done) | rfl
def F0 (q1 : Int64) (p2 : Int32) : Int32 :=
  let v5 : Int32 := (if (p2 &&& (1 : Int32)) = (0 : Int32) then (0 : Int32) else (1 : Int32))
  let v12 : Int32 := (if (p2 &&& (2 : Int32)) = (0 : Int32) then (0 : Int32) else (1 : Int32))
  let v19 : Int64 := (if v5 = (0 : Int32) then (q1 &&& (4611686018427387903 : Int64)) else ((q1 &&& (4611686018427387903 : Int64)) ||| (4611686018427387904 : Int64)))
  let v26 : Int64 := (if v12 = (0 : Int32) then v19 else (v19 ||| (-9223372036854775808 : Int64)))
  let v34 : Int32 := (if (F1 v26) = v5 then (1 : Int32) else (0 : Int32))
  let v42 : Int64 := (if v12 = (0 : Int32) then (q1 &&& (4611686018427387903 : Int64)) else ((q1 &&& (4611686018427387903 : Int64)) ||| (-9223372036854775808 : Int64)))
  let v49 : Int32 := (if (F2 v26) = v42 then (1 : Int32) else (0 : Int32))
  let v57 : Int32 := (if (q1 <<< ((1 : Int32) &&& 0x3f).toInt64) < (0 : Int64) then (1 : Int32) else (0 : Int32))
  let v63 : Int32 := (if (F1 q1) = v57 then (1 : Int32) else (0 : Int32))
  let v76 : Int32 := (if v34 = (0 : Int32) then (0 : Int32) else (if v49 = (0 : Int32) then (0 : Int32) else (if v63 = (0 : Int32) then (0 : Int32) else (1 : Int32))))
  (nar .boolean v76)
def Q0 (Z : State) (q1 : Int64) (p2 : Int32) (h0 : Heap) (n0 : Nat) (v : Option Value) (h : Heap) (L : List Loc) : Prop := v = some (.int (F0 q1 p2)) ∧ L = [] ∧ h = h0
set_option maxRecDepth 65536 in
set_option maxHeartbeats 40000000 in
theorem rm0 (l : Launch) (Z : State) (a0 : Array Value) (hw : ∀ d ∈ tables_1, d.before a0 Z = true) (ws : List Jvm.Cond) (q1 : Int64) (p2 : Int32) (h0 : Heap) (n0 : Nat) (Z0 : n0 ≤ h0.size) :
    MetFree l x (head1 (Jvm.Cond.code x code maxLocals ret :: ws) room_1) (fun a U => a = #[(.long q1), (.int p2)] ∧ Z.Warmed39 U.vm ∧ U.heap = h0) (fun _ _ _ _ _ => True) (fun _ U o U' => ∃ v L, o = .returned v ∧ Q0 Z q1 p2 h0 n0 v U'.heap L ∧ FrameEnd U o U' L room_1.cells room_1.slots) := by
  refine MetFree.of_bodySF (plainFor_of_name pn_0) hisR ?_
  intro p e s m args below meth c s₁ Bd hml0 hP hK
  obtain ⟨rfl, hZ, hh⟩ := hP
  have hx := Bd.exec
  have hby := Bd.bytes
  have hml : c.maxLocals = 12 := hml0
  have hown : s.vm.findClass "com/example/relicary/relicary/siard/NameIndexSharedPinLaw" = some m.cls := findClass_of_methodNamed Bd.named
  have hnm := (name_of_methodNamed Bd.named Bd.method).1
  have X0 : Stand p l e room_1 s m #[(.long q1), (.int p2)] below meth c s₁ [] 0 0 := Stand.of_body Bd
  have e0 : s₁.heap = h0 := by rw [← hh, Bd.state]; rfl
  have N0 := Fr.nil n0
  have pre0 : ∀ t, Steps p.tables e below (s₁.setTop (mkF m 0 #[.val (.long q1), .second, .val (.int p2), .unset, .unset, .unset, .unset, .unset, .unset, .unset, .unset, .unset] [])) t → Steps p.tables e below (s₁.setTop (entryFrame m #[(.long q1), (.int p2)] maxLocals)) t := fun t k => castTop (ef_0 m q1 p2) k
  have R2 : ∀ t, Steps p.tables e below (s₁.setTop (mkF m 3 #[.val (.long q1), .second, .val (.int p2), .unset, .unset, .unset, .unset, .unset, .unset, .unset, .unset, .unset] [(.int (p2 &&& (1 : Int32)))])) t → Steps p.tables e below (s₁.setTop (entryFrame m #[(.long q1), (.int p2)] maxLocals)) t := by
    intro t kt
    refine pre0 _ ?_
    show Steps p.tables e below (s₁.setTop (mkF m 0 #[.val (.long q1), .second, .val (.int p2), .unset, .unset, .unset, .unset, .unset, .unset, .unset, .unset, .unset] [])) _
    refine XS.iloadN X0.here hx rfl (hb hby at_0) rfl ?_
    show Steps p.tables e below (s₁.setTop (mkF m 1 #[.val (.long q1), .second, .val (.int p2), .unset, .unset, .unset, .unset, .unset, .unset, .unset, .unset, .unset] [(.int p2)])) _
    refine XS.iconst X0.here hx rfl (hb hby at_1) ?_
    show Steps p.tables e below (s₁.setTop (mkF m 2 #[.val (.long q1), .second, .val (.int p2), .unset, .unset, .unset, .unset, .unset, .unset, .unset, .unset, .unset] [(.int (1 : Int32)), (.int p2)])) _
    refine XS.iand X0.here hx rfl (hb hby at_2) rfl ?_
    exact kt
  have J7 : ∃ (v5 : Int32), v5 = (if (p2 &&& (1 : Int32)) = (0 : Int32) then (0 : Int32) else (1 : Int32)) ∧ ∀ t, Steps p.tables e below (s₁.setTop (mkF m 11 #[.val (.long q1), .second, .val (.int p2), .unset, .unset, .unset, .unset, .unset, .unset, .unset, .unset, .unset] [(.int v5)])) t → Steps p.tables e below (s₁.setTop (entryFrame m #[(.long q1), (.int p2)] maxLocals)) t := by
    by_cases hc1 : (p2 &&& (1 : Int32)) = (0 : Int32)
    · have R3 : ∀ t, Steps p.tables e below (s₁.setTop (mkF m 11 #[.val (.long q1), .second, .val (.int p2), .unset, .unset, .unset, .unset, .unset, .unset, .unset, .unset, .unset] [(.int (0 : Int32))])) t → Steps p.tables e below (s₁.setTop (entryFrame m #[(.long q1), (.int p2)] maxLocals)) t := by
        intro t kt
        refine R2 _ ?_
        show Steps p.tables e below (s₁.setTop (mkF m 3 #[.val (.long q1), .second, .val (.int p2), .unset, .unset, .unset, .unset, .unset, .unset, .unset, .unset, .unset] [(.int (p2 &&& (1 : Int32)))])) _
        refine XS.ifYes X0.here hx rfl (pc0 := 3) (pc' := 10) rfl (hb hby at_3) rfl ((if0 _ _).trans (teq hc1).1) (by decide) (by decide) ?_
        show Steps p.tables e below (s₁.setTop (mkF m 10 #[.val (.long q1), .second, .val (.int p2), .unset, .unset, .unset, .unset, .unset, .unset, .unset, .unset, .unset] [])) _
        refine XS.iconst X0.here hx rfl (hb hby at_10) ?_
        exact kt
      exact ⟨(0 : Int32), (by rw [if_pos hc1]), R3⟩
    · have R4 : ∀ t, Steps p.tables e below (s₁.setTop (mkF m 11 #[.val (.long q1), .second, .val (.int p2), .unset, .unset, .unset, .unset, .unset, .unset, .unset, .unset, .unset] [(.int (1 : Int32))])) t → Steps p.tables e below (s₁.setTop (entryFrame m #[(.long q1), (.int p2)] maxLocals)) t := by
        intro t kt
        refine R2 _ ?_
        show Steps p.tables e below (s₁.setTop (mkF m 3 #[.val (.long q1), .second, .val (.int p2), .unset, .unset, .unset, .unset, .unset, .unset, .unset, .unset, .unset] [(.int (p2 &&& (1 : Int32)))])) _
        refine XS.ifNo X0.here hx rfl (hb hby at_3) rfl ((if0 _ _).trans (feq hc1).1) ?_
        show Steps p.tables e below (s₁.setTop (mkF m 6 #[.val (.long q1), .second, .val (.int p2), .unset, .unset, .unset, .unset, .unset, .unset, .unset, .unset, .unset] [])) _
        refine XS.iconst X0.here hx rfl (hb hby at_6) ?_
        show Steps p.tables e below (s₁.setTop (mkF m 7 #[.val (.long q1), .second, .val (.int p2), .unset, .unset, .unset, .unset, .unset, .unset, .unset, .unset, .unset] [(.int (1 : Int32))])) _
        refine XS.goto X0.here hx rfl (pc0 := 7) (pc' := 11) rfl (hb hby at_7) (by decide) (by decide) ?_
        exact kt
      exact ⟨(1 : Int32), (by rw [if_neg hc1]), R4⟩
  obtain ⟨v5, hv5, R6⟩ := J7
  have R9 : ∀ t, Steps p.tables e below (s₁.setTop (mkF m 15 #[.val (.long q1), .second, .val (.int p2), .val (.int v5), .unset, .unset, .unset, .unset, .unset, .unset, .unset, .unset] [(.int (p2 &&& (2 : Int32)))])) t → Steps p.tables e below (s₁.setTop (entryFrame m #[(.long q1), (.int p2)] maxLocals)) t := by
    intro t kt
    refine R6 _ ?_
    show Steps p.tables e below (s₁.setTop (mkF m 11 #[.val (.long q1), .second, .val (.int p2), .unset, .unset, .unset, .unset, .unset, .unset, .unset, .unset, .unset] [(.int v5)])) _
    refine XS.istoreN X0.here hx rfl (hb hby at_11) rfl (l' := #[.val (.long q1), .second, .val (.int p2), .val (.int v5), .unset, .unset, .unset, .unset, .unset, .unset, .unset, .unset]) rfl ?_
    show Steps p.tables e below (s₁.setTop (mkF m 12 #[.val (.long q1), .second, .val (.int p2), .val (.int v5), .unset, .unset, .unset, .unset, .unset, .unset, .unset, .unset] [])) _
    refine XS.iloadN X0.here hx rfl (hb hby at_12) rfl ?_
    show Steps p.tables e below (s₁.setTop (mkF m 13 #[.val (.long q1), .second, .val (.int p2), .val (.int v5), .unset, .unset, .unset, .unset, .unset, .unset, .unset, .unset] [(.int p2)])) _
    refine XS.iconst X0.here hx rfl (hb hby at_13) ?_
    show Steps p.tables e below (s₁.setTop (mkF m 14 #[.val (.long q1), .second, .val (.int p2), .val (.int v5), .unset, .unset, .unset, .unset, .unset, .unset, .unset, .unset] [(.int (2 : Int32)), (.int p2)])) _
    refine XS.iand X0.here hx rfl (hb hby at_14) rfl ?_
    exact kt
  have J14 : ∃ (v12 : Int32), v12 = (if (p2 &&& (2 : Int32)) = (0 : Int32) then (0 : Int32) else (1 : Int32)) ∧ ∀ t, Steps p.tables e below (s₁.setTop (mkF m 23 #[.val (.long q1), .second, .val (.int p2), .val (.int v5), .unset, .unset, .unset, .unset, .unset, .unset, .unset, .unset] [(.int v12)])) t → Steps p.tables e below (s₁.setTop (entryFrame m #[(.long q1), (.int p2)] maxLocals)) t := by
    by_cases hc8 : (p2 &&& (2 : Int32)) = (0 : Int32)
    · have R10 : ∀ t, Steps p.tables e below (s₁.setTop (mkF m 23 #[.val (.long q1), .second, .val (.int p2), .val (.int v5), .unset, .unset, .unset, .unset, .unset, .unset, .unset, .unset] [(.int (0 : Int32))])) t → Steps p.tables e below (s₁.setTop (entryFrame m #[(.long q1), (.int p2)] maxLocals)) t := by
        intro t kt
        refine R9 _ ?_
        show Steps p.tables e below (s₁.setTop (mkF m 15 #[.val (.long q1), .second, .val (.int p2), .val (.int v5), .unset, .unset, .unset, .unset, .unset, .unset, .unset, .unset] [(.int (p2 &&& (2 : Int32)))])) _
        refine XS.ifYes X0.here hx rfl (pc0 := 15) (pc' := 22) rfl (hb hby at_15) rfl ((if0 _ _).trans (teq hc8).1) (by decide) (by decide) ?_
        show Steps p.tables e below (s₁.setTop (mkF m 22 #[.val (.long q1), .second, .val (.int p2), .val (.int v5), .unset, .unset, .unset, .unset, .unset, .unset, .unset, .unset] [])) _
        refine XS.iconst X0.here hx rfl (hb hby at_22) ?_
        exact kt
      exact ⟨(0 : Int32), (by rw [if_pos hc8]), R10⟩
    · have R11 : ∀ t, Steps p.tables e below (s₁.setTop (mkF m 23 #[.val (.long q1), .second, .val (.int p2), .val (.int v5), .unset, .unset, .unset, .unset, .unset, .unset, .unset, .unset] [(.int (1 : Int32))])) t → Steps p.tables e below (s₁.setTop (entryFrame m #[(.long q1), (.int p2)] maxLocals)) t := by
        intro t kt
        refine R9 _ ?_
        show Steps p.tables e below (s₁.setTop (mkF m 15 #[.val (.long q1), .second, .val (.int p2), .val (.int v5), .unset, .unset, .unset, .unset, .unset, .unset, .unset, .unset] [(.int (p2 &&& (2 : Int32)))])) _
        refine XS.ifNo X0.here hx rfl (hb hby at_15) rfl ((if0 _ _).trans (feq hc8).1) ?_
        show Steps p.tables e below (s₁.setTop (mkF m 18 #[.val (.long q1), .second, .val (.int p2), .val (.int v5), .unset, .unset, .unset, .unset, .unset, .unset, .unset, .unset] [])) _
        refine XS.iconst X0.here hx rfl (hb hby at_18) ?_
        show Steps p.tables e below (s₁.setTop (mkF m 19 #[.val (.long q1), .second, .val (.int p2), .val (.int v5), .unset, .unset, .unset, .unset, .unset, .unset, .unset, .unset] [(.int (1 : Int32))])) _
        refine XS.goto X0.here hx rfl (pc0 := 19) (pc' := 23) rfl (hb hby at_19) (by decide) (by decide) ?_
        exact kt
      exact ⟨(1 : Int32), (by rw [if_neg hc8]), R11⟩
  obtain ⟨v12, hv12, R13⟩ := J14
  have R16 : ∀ t, Steps p.tables e below (s₁.setTop (mkF m 37 #[.val (.long q1), .second, .val (.int p2), .val (.int v5), .val (.int v12), .val (.long (q1 &&& (4611686018427387903 : Int64))), .second, .val (.long (q1 &&& (4611686018427387903 : Int64))), .second, .unset, .unset, .unset] [(.int v5)])) t → Steps p.tables e below (s₁.setTop (entryFrame m #[(.long q1), (.int p2)] maxLocals)) t := by
    intro t kt
    refine R13 _ ?_
    show Steps p.tables e below (s₁.setTop (mkF m 23 #[.val (.long q1), .second, .val (.int p2), .val (.int v5), .unset, .unset, .unset, .unset, .unset, .unset, .unset, .unset] [(.int v12)])) _
    refine XS.istore X0.here hx rfl (hb hby at_23) rfl (l' := #[.val (.long q1), .second, .val (.int p2), .val (.int v5), .val (.int v12), .unset, .unset, .unset, .unset, .unset, .unset, .unset]) rfl ?_
    show Steps p.tables e below (s₁.setTop (mkF m 25 #[.val (.long q1), .second, .val (.int p2), .val (.int v5), .val (.int v12), .unset, .unset, .unset, .unset, .unset, .unset, .unset] [])) _
    refine XS.lloadN X0.here hx rfl (hb hby at_25) rfl ?_
    show Steps p.tables e below (s₁.setTop (mkF m 26 #[.val (.long q1), .second, .val (.int p2), .val (.int v5), .val (.int v12), .unset, .unset, .unset, .unset, .unset, .unset, .unset] [(.long q1)])) _
    refine X0.ldc2Long hx hown (mvT hZ (hw _ (List.mem_of_getElem? (i := 0) rfl))) (g := (mkF m 26 #[.val (.long q1), .second, .val (.int p2), .val (.int v5), .val (.int v12), .unset, .unset, .unset, .unset, .unset, .unset, .unset] [(.long q1)])) rfl (hb hby at_26) _ ?_
    show Steps p.tables e below (s₁.setTop (mkF m 29 #[.val (.long q1), .second, .val (.int p2), .val (.int v5), .val (.int v12), .unset, .unset, .unset, .unset, .unset, .unset, .unset] [(.long (4611686018427387903 : Int64)), (.long q1)])) _
    refine XS.land X0.here hx rfl (hb hby at_29) rfl ?_
    show Steps p.tables e below (s₁.setTop (mkF m 30 #[.val (.long q1), .second, .val (.int p2), .val (.int v5), .val (.int v12), .unset, .unset, .unset, .unset, .unset, .unset, .unset] [(.long (q1 &&& (4611686018427387903 : Int64)))])) _
    refine XS.lstore X0.here hx rfl (hb hby at_30) rfl (l' := #[.val (.long q1), .second, .val (.int p2), .val (.int v5), .val (.int v12), .val (.long (q1 &&& (4611686018427387903 : Int64))), .second, .unset, .unset, .unset, .unset, .unset]) rfl ?_
    show Steps p.tables e below (s₁.setTop (mkF m 32 #[.val (.long q1), .second, .val (.int p2), .val (.int v5), .val (.int v12), .val (.long (q1 &&& (4611686018427387903 : Int64))), .second, .unset, .unset, .unset, .unset, .unset] [])) _
    refine XS.lload X0.here hx rfl (hb hby at_32) rfl ?_
    show Steps p.tables e below (s₁.setTop (mkF m 34 #[.val (.long q1), .second, .val (.int p2), .val (.int v5), .val (.int v12), .val (.long (q1 &&& (4611686018427387903 : Int64))), .second, .unset, .unset, .unset, .unset, .unset] [(.long (q1 &&& (4611686018427387903 : Int64)))])) _
    refine XS.lstore X0.here hx rfl (hb hby at_34) rfl (l' := #[.val (.long q1), .second, .val (.int p2), .val (.int v5), .val (.int v12), .val (.long (q1 &&& (4611686018427387903 : Int64))), .second, .val (.long (q1 &&& (4611686018427387903 : Int64))), .second, .unset, .unset, .unset]) rfl ?_
    show Steps p.tables e below (s₁.setTop (mkF m 36 #[.val (.long q1), .second, .val (.int p2), .val (.int v5), .val (.int v12), .val (.long (q1 &&& (4611686018427387903 : Int64))), .second, .val (.long (q1 &&& (4611686018427387903 : Int64))), .second, .unset, .unset, .unset] [])) _
    refine XS.iloadN X0.here hx rfl (hb hby at_36) rfl ?_
    exact kt
  have J21 : ∃ (v19 : Int64), v19 = (if v5 = (0 : Int32) then (q1 &&& (4611686018427387903 : Int64)) else ((q1 &&& (4611686018427387903 : Int64)) ||| (4611686018427387904 : Int64))) ∧ ∀ t, Steps p.tables e below (s₁.setTop (mkF m 48 #[.val (.long q1), .second, .val (.int p2), .val (.int v5), .val (.int v12), .val (.long (q1 &&& (4611686018427387903 : Int64))), .second, .val (.long v19), .second, .unset, .unset, .unset] [])) t → Steps p.tables e below (s₁.setTop (entryFrame m #[(.long q1), (.int p2)] maxLocals)) t := by
    by_cases hc15 : v5 = (0 : Int32)
    · have R17 : ∀ t, Steps p.tables e below (s₁.setTop (mkF m 48 #[.val (.long q1), .second, .val (.int p2), .val (.int v5), .val (.int v12), .val (.long (q1 &&& (4611686018427387903 : Int64))), .second, .val (.long (q1 &&& (4611686018427387903 : Int64))), .second, .unset, .unset, .unset] [])) t → Steps p.tables e below (s₁.setTop (entryFrame m #[(.long q1), (.int p2)] maxLocals)) t := by
        intro t kt
        refine R16 _ ?_
        show Steps p.tables e below (s₁.setTop (mkF m 37 #[.val (.long q1), .second, .val (.int p2), .val (.int v5), .val (.int v12), .val (.long (q1 &&& (4611686018427387903 : Int64))), .second, .val (.long (q1 &&& (4611686018427387903 : Int64))), .second, .unset, .unset, .unset] [(.int v5)])) _
        refine XS.ifYes X0.here hx rfl (pc0 := 37) (pc' := 48) rfl (hb hby at_37) rfl ((if0 _ _).trans (teq hc15).1) (by decide) (by decide) ?_
        exact kt
      exact ⟨(q1 &&& (4611686018427387903 : Int64)), (by rw [if_pos hc15]), R17⟩
    · have R18 : ∀ t, Steps p.tables e below (s₁.setTop (mkF m 48 #[.val (.long q1), .second, .val (.int p2), .val (.int v5), .val (.int v12), .val (.long (q1 &&& (4611686018427387903 : Int64))), .second, .val (.long ((q1 &&& (4611686018427387903 : Int64)) ||| (4611686018427387904 : Int64))), .second, .unset, .unset, .unset] [])) t → Steps p.tables e below (s₁.setTop (entryFrame m #[(.long q1), (.int p2)] maxLocals)) t := by
        intro t kt
        refine R16 _ ?_
        show Steps p.tables e below (s₁.setTop (mkF m 37 #[.val (.long q1), .second, .val (.int p2), .val (.int v5), .val (.int v12), .val (.long (q1 &&& (4611686018427387903 : Int64))), .second, .val (.long (q1 &&& (4611686018427387903 : Int64))), .second, .unset, .unset, .unset] [(.int v5)])) _
        refine XS.ifNo X0.here hx rfl (hb hby at_37) rfl ((if0 _ _).trans (feq hc15).1) ?_
        show Steps p.tables e below (s₁.setTop (mkF m 40 #[.val (.long q1), .second, .val (.int p2), .val (.int v5), .val (.int v12), .val (.long (q1 &&& (4611686018427387903 : Int64))), .second, .val (.long (q1 &&& (4611686018427387903 : Int64))), .second, .unset, .unset, .unset] [])) _
        refine XS.lload X0.here hx rfl (hb hby at_40) rfl ?_
        show Steps p.tables e below (s₁.setTop (mkF m 42 #[.val (.long q1), .second, .val (.int p2), .val (.int v5), .val (.int v12), .val (.long (q1 &&& (4611686018427387903 : Int64))), .second, .val (.long (q1 &&& (4611686018427387903 : Int64))), .second, .unset, .unset, .unset] [(.long (q1 &&& (4611686018427387903 : Int64)))])) _
        refine X0.ldc2Long hx hown (mvT hZ (hw _ (List.mem_of_getElem? (i := 11) rfl))) (g := (mkF m 42 #[.val (.long q1), .second, .val (.int p2), .val (.int v5), .val (.int v12), .val (.long (q1 &&& (4611686018427387903 : Int64))), .second, .val (.long (q1 &&& (4611686018427387903 : Int64))), .second, .unset, .unset, .unset] [(.long (q1 &&& (4611686018427387903 : Int64)))])) rfl (hb hby at_42) _ ?_
        show Steps p.tables e below (s₁.setTop (mkF m 45 #[.val (.long q1), .second, .val (.int p2), .val (.int v5), .val (.int v12), .val (.long (q1 &&& (4611686018427387903 : Int64))), .second, .val (.long (q1 &&& (4611686018427387903 : Int64))), .second, .unset, .unset, .unset] [(.long (4611686018427387904 : Int64)), (.long (q1 &&& (4611686018427387903 : Int64)))])) _
        refine XS.lor X0.here hx rfl (hb hby at_45) rfl ?_
        show Steps p.tables e below (s₁.setTop (mkF m 46 #[.val (.long q1), .second, .val (.int p2), .val (.int v5), .val (.int v12), .val (.long (q1 &&& (4611686018427387903 : Int64))), .second, .val (.long (q1 &&& (4611686018427387903 : Int64))), .second, .unset, .unset, .unset] [(.long ((q1 &&& (4611686018427387903 : Int64)) ||| (4611686018427387904 : Int64)))])) _
        refine XS.lstore X0.here hx rfl (hb hby at_46) rfl (l' := #[.val (.long q1), .second, .val (.int p2), .val (.int v5), .val (.int v12), .val (.long (q1 &&& (4611686018427387903 : Int64))), .second, .val (.long ((q1 &&& (4611686018427387903 : Int64)) ||| (4611686018427387904 : Int64))), .second, .unset, .unset, .unset]) rfl ?_
        exact kt
      exact ⟨((q1 &&& (4611686018427387903 : Int64)) ||| (4611686018427387904 : Int64)), (by rw [if_neg hc15]), R18⟩
  obtain ⟨v19, hv19, R20⟩ := J21
  have R23 : ∀ t, Steps p.tables e below (s₁.setTop (mkF m 50 #[.val (.long q1), .second, .val (.int p2), .val (.int v5), .val (.int v12), .val (.long (q1 &&& (4611686018427387903 : Int64))), .second, .val (.long v19), .second, .unset, .unset, .unset] [(.int v12)])) t → Steps p.tables e below (s₁.setTop (entryFrame m #[(.long q1), (.int p2)] maxLocals)) t := by
    intro t kt
    refine R20 _ ?_
    show Steps p.tables e below (s₁.setTop (mkF m 48 #[.val (.long q1), .second, .val (.int p2), .val (.int v5), .val (.int v12), .val (.long (q1 &&& (4611686018427387903 : Int64))), .second, .val (.long v19), .second, .unset, .unset, .unset] [])) _
    refine XS.iload X0.here hx rfl (hb hby at_48) rfl ?_
    exact kt
  have J28 : ∃ (v26 : Int64), v26 = (if v12 = (0 : Int32) then v19 else (v19 ||| (-9223372036854775808 : Int64))) ∧ ∀ t, Steps p.tables e below (s₁.setTop (mkF m 61 #[.val (.long q1), .second, .val (.int p2), .val (.int v5), .val (.int v12), .val (.long (q1 &&& (4611686018427387903 : Int64))), .second, .val (.long v26), .second, .unset, .unset, .unset] [])) t → Steps p.tables e below (s₁.setTop (entryFrame m #[(.long q1), (.int p2)] maxLocals)) t := by
    by_cases hc22 : v12 = (0 : Int32)
    · have R24 : ∀ t, Steps p.tables e below (s₁.setTop (mkF m 61 #[.val (.long q1), .second, .val (.int p2), .val (.int v5), .val (.int v12), .val (.long (q1 &&& (4611686018427387903 : Int64))), .second, .val (.long v19), .second, .unset, .unset, .unset] [])) t → Steps p.tables e below (s₁.setTop (entryFrame m #[(.long q1), (.int p2)] maxLocals)) t := by
        intro t kt
        refine R23 _ ?_
        show Steps p.tables e below (s₁.setTop (mkF m 50 #[.val (.long q1), .second, .val (.int p2), .val (.int v5), .val (.int v12), .val (.long (q1 &&& (4611686018427387903 : Int64))), .second, .val (.long v19), .second, .unset, .unset, .unset] [(.int v12)])) _
        refine XS.ifYes X0.here hx rfl (pc0 := 50) (pc' := 61) rfl (hb hby at_50) rfl ((if0 _ _).trans (teq hc22).1) (by decide) (by decide) ?_
        exact kt
      exact ⟨v19, (by rw [if_pos hc22]), R24⟩
    · have R25 : ∀ t, Steps p.tables e below (s₁.setTop (mkF m 61 #[.val (.long q1), .second, .val (.int p2), .val (.int v5), .val (.int v12), .val (.long (q1 &&& (4611686018427387903 : Int64))), .second, .val (.long (v19 ||| (-9223372036854775808 : Int64))), .second, .unset, .unset, .unset] [])) t → Steps p.tables e below (s₁.setTop (entryFrame m #[(.long q1), (.int p2)] maxLocals)) t := by
        intro t kt
        refine R23 _ ?_
        show Steps p.tables e below (s₁.setTop (mkF m 50 #[.val (.long q1), .second, .val (.int p2), .val (.int v5), .val (.int v12), .val (.long (q1 &&& (4611686018427387903 : Int64))), .second, .val (.long v19), .second, .unset, .unset, .unset] [(.int v12)])) _
        refine XS.ifNo X0.here hx rfl (hb hby at_50) rfl ((if0 _ _).trans (feq hc22).1) ?_
        show Steps p.tables e below (s₁.setTop (mkF m 53 #[.val (.long q1), .second, .val (.int p2), .val (.int v5), .val (.int v12), .val (.long (q1 &&& (4611686018427387903 : Int64))), .second, .val (.long v19), .second, .unset, .unset, .unset] [])) _
        refine XS.lload X0.here hx rfl (hb hby at_53) rfl ?_
        show Steps p.tables e below (s₁.setTop (mkF m 55 #[.val (.long q1), .second, .val (.int p2), .val (.int v5), .val (.int v12), .val (.long (q1 &&& (4611686018427387903 : Int64))), .second, .val (.long v19), .second, .unset, .unset, .unset] [(.long v19)])) _
        refine X0.ldc2Long hx hown (mvT hZ (hw _ (List.mem_of_getElem? (i := 1) rfl))) (g := (mkF m 55 #[.val (.long q1), .second, .val (.int p2), .val (.int v5), .val (.int v12), .val (.long (q1 &&& (4611686018427387903 : Int64))), .second, .val (.long v19), .second, .unset, .unset, .unset] [(.long v19)])) rfl (hb hby at_55) _ ?_
        show Steps p.tables e below (s₁.setTop (mkF m 58 #[.val (.long q1), .second, .val (.int p2), .val (.int v5), .val (.int v12), .val (.long (q1 &&& (4611686018427387903 : Int64))), .second, .val (.long v19), .second, .unset, .unset, .unset] [(.long (-9223372036854775808 : Int64)), (.long v19)])) _
        refine XS.lor X0.here hx rfl (hb hby at_58) rfl ?_
        show Steps p.tables e below (s₁.setTop (mkF m 59 #[.val (.long q1), .second, .val (.int p2), .val (.int v5), .val (.int v12), .val (.long (q1 &&& (4611686018427387903 : Int64))), .second, .val (.long v19), .second, .unset, .unset, .unset] [(.long (v19 ||| (-9223372036854775808 : Int64)))])) _
        refine XS.lstore X0.here hx rfl (hb hby at_59) rfl (l' := #[.val (.long q1), .second, .val (.int p2), .val (.int v5), .val (.int v12), .val (.long (q1 &&& (4611686018427387903 : Int64))), .second, .val (.long (v19 ||| (-9223372036854775808 : Int64))), .second, .unset, .unset, .unset]) rfl ?_
        exact kt
      exact ⟨(v19 ||| (-9223372036854775808 : Int64)), (by rw [if_neg hc22]), R25⟩
  obtain ⟨v26, hv26, R27⟩ := J28
  obtain ⟨_, _, ⟨T29, L29, k29, n29⟩, -, X29, ⟨Lc29, hQ29, l29, y29, z29⟩, st29⟩ := Jvm.LawKit.callS X0 hx (y := (⟨"com/example/relicary/relicary/siard/NameIndex", "shared", "(J)Z"⟩ : MethodName)) hown (mvT hZ (hw _ (List.mem_of_getElem? (i := 2) rfl))) (mvT hZ (hw _ (List.mem_of_getElem? (i := 3) rfl))) (mvT hZ (hw _ (List.mem_of_getElem? (i := 4) rfl))) (mvT hZ (hw _ (List.mem_of_getElem? (i := 5) rfl))) (by decide) (backOf (W := 0) (rm1 l Z a0 hw [] v26 h0 n0 Z0) hZ (hw _ (List.mem_of_getElem? (i := 5) rfl)) (hw _ (List.mem_of_getElem? (i := 4) rfl)) (by decide) (by decide)) (g := (mkF m 63 #[.val (.long q1), .second, .val (.int p2), .val (.int v5), .val (.int v12), .val (.long (q1 &&& (4611686018427387903 : Int64))), .second, .val (.long v26), .second, .unset, .unset, .unset] [(.long v26)])) rfl (by rw [hml]; rfl) (argsL := [(.long v26)]) (rest := []) (lenOf pd_0_1 rfl) rfl (by show 2 * 0 + _ ≤ _; exact Nat.le_of_eq rfl) (hb hby at_63) (fun _ _ => ⟨rfl, e0, (by decide : 0 + 0 ≤ _), (by decide : 0 + 0 ≤ _)⟩)
  dsimp only [Pt.U, Pt.locs, Pt.cells, Pt.slots] at X29 l29 y29 z29 st29 hQ29
  subst l29 y29 z29
  obtain ⟨rfl, rfl, e29⟩ := hQ29
  replace X29 : Stand p l e room_1 s m #[(.long q1), (.int p2)] below meth c T29 [] 0 0 := X29
  have R31 : ∀ t, Steps p.tables e below (T29.setTop (mkF m 67 #[.val (.long q1), .second, .val (.int p2), .val (.int v5), .val (.int v12), .val (.long (q1 &&& (4611686018427387903 : Int64))), .second, .val (.long v26), .second, .unset, .unset, .unset] [(.int v5), (.int (F1 v26))])) t → Steps p.tables e below (s₁.setTop (entryFrame m #[(.long q1), (.int p2)] maxLocals)) t := by
    intro t kt
    refine R27 _ ?_
    show Steps p.tables e below (s₁.setTop (mkF m 61 #[.val (.long q1), .second, .val (.int p2), .val (.int v5), .val (.int v12), .val (.long (q1 &&& (4611686018427387903 : Int64))), .second, .val (.long v26), .second, .unset, .unset, .unset] [])) _
    refine XS.lload X0.here hx rfl (hb hby at_61) rfl ?_
    show Steps p.tables e below (s₁.setTop (mkF m 63 #[.val (.long q1), .second, .val (.int p2), .val (.int v5), .val (.int v12), .val (.long (q1 &&& (4611686018427387903 : Int64))), .second, .val (.long v26), .second, .unset, .unset, .unset] [(.long v26)])) _
    refine st29 _ ?_
    show Steps p.tables e below (T29.setTop (mkF m 66 #[.val (.long q1), .second, .val (.int p2), .val (.int v5), .val (.int v12), .val (.long (q1 &&& (4611686018427387903 : Int64))), .second, .val (.long v26), .second, .unset, .unset, .unset] [(.int (F1 v26))])) _
    refine XS.iloadN X29.here hx rfl (hb hby at_66) rfl ?_
    exact kt
  have J36 : ∃ (v34 : Int32), v34 = (if (F1 v26) = v5 then (1 : Int32) else (0 : Int32)) ∧ ∀ t, Steps p.tables e below (T29.setTop (mkF m 75 #[.val (.long q1), .second, .val (.int p2), .val (.int v5), .val (.int v12), .val (.long (q1 &&& (4611686018427387903 : Int64))), .second, .val (.long v26), .second, .unset, .unset, .unset] [(.int v34)])) t → Steps p.tables e below (s₁.setTop (entryFrame m #[(.long q1), (.int p2)] maxLocals)) t := by
    by_cases hc30 : (F1 v26) = v5
    · have R32 : ∀ t, Steps p.tables e below (T29.setTop (mkF m 75 #[.val (.long q1), .second, .val (.int p2), .val (.int v5), .val (.int v12), .val (.long (q1 &&& (4611686018427387903 : Int64))), .second, .val (.long v26), .second, .unset, .unset, .unset] [(.int (1 : Int32))])) t → Steps p.tables e below (s₁.setTop (entryFrame m #[(.long q1), (.int p2)] maxLocals)) t := by
        intro t kt
        refine R31 _ ?_
        show Steps p.tables e below (T29.setTop (mkF m 67 #[.val (.long q1), .second, .val (.int p2), .val (.int v5), .val (.int v12), .val (.long (q1 &&& (4611686018427387903 : Int64))), .second, .val (.long v26), .second, .unset, .unset, .unset] [(.int v5), (.int (F1 v26))])) _
        refine XS.icmpNo X29.here hx rfl (hb hby at_67) rfl (teq hc30).2 ?_
        show Steps p.tables e below (T29.setTop (mkF m 70 #[.val (.long q1), .second, .val (.int p2), .val (.int v5), .val (.int v12), .val (.long (q1 &&& (4611686018427387903 : Int64))), .second, .val (.long v26), .second, .unset, .unset, .unset] [])) _
        refine XS.iconst X29.here hx rfl (hb hby at_70) ?_
        show Steps p.tables e below (T29.setTop (mkF m 71 #[.val (.long q1), .second, .val (.int p2), .val (.int v5), .val (.int v12), .val (.long (q1 &&& (4611686018427387903 : Int64))), .second, .val (.long v26), .second, .unset, .unset, .unset] [(.int (1 : Int32))])) _
        refine XS.goto X29.here hx rfl (pc0 := 71) (pc' := 75) rfl (hb hby at_71) (by decide) (by decide) ?_
        exact kt
      exact ⟨(1 : Int32), (by rw [if_pos hc30]), R32⟩
    · have R33 : ∀ t, Steps p.tables e below (T29.setTop (mkF m 75 #[.val (.long q1), .second, .val (.int p2), .val (.int v5), .val (.int v12), .val (.long (q1 &&& (4611686018427387903 : Int64))), .second, .val (.long v26), .second, .unset, .unset, .unset] [(.int (0 : Int32))])) t → Steps p.tables e below (s₁.setTop (entryFrame m #[(.long q1), (.int p2)] maxLocals)) t := by
        intro t kt
        refine R31 _ ?_
        show Steps p.tables e below (T29.setTop (mkF m 67 #[.val (.long q1), .second, .val (.int p2), .val (.int v5), .val (.int v12), .val (.long (q1 &&& (4611686018427387903 : Int64))), .second, .val (.long v26), .second, .unset, .unset, .unset] [(.int v5), (.int (F1 v26))])) _
        refine XS.icmpYes X29.here hx rfl (pc0 := 67) (pc' := 74) rfl (hb hby at_67) rfl (feq hc30).2 (by decide) (by decide) ?_
        show Steps p.tables e below (T29.setTop (mkF m 74 #[.val (.long q1), .second, .val (.int p2), .val (.int v5), .val (.int v12), .val (.long (q1 &&& (4611686018427387903 : Int64))), .second, .val (.long v26), .second, .unset, .unset, .unset] [])) _
        refine XS.iconst X29.here hx rfl (hb hby at_74) ?_
        exact kt
      exact ⟨(0 : Int32), (by rw [if_neg hc30]), R33⟩
  obtain ⟨v34, hv34, R35⟩ := J36
  obtain ⟨_, _, ⟨T37, L37, k37, n37⟩, -, X37, ⟨Lc37, hQ37, l37, y37, z37⟩, st37⟩ := Jvm.LawKit.callS X29 hx (y := (⟨"com/example/relicary/relicary/siard/NameIndex", "place", "(J)J"⟩ : MethodName)) hown (mvT hZ (hw _ (List.mem_of_getElem? (i := 7) rfl))) (mvT hZ (hw _ (List.mem_of_getElem? (i := 8) rfl))) (mvT hZ (hw _ (List.mem_of_getElem? (i := 4) rfl))) (mvT hZ (hw _ (List.mem_of_getElem? (i := 9) rfl))) (by decide) (backOf (W := 0) (rm2 l Z a0 hw [] v26 h0 n0 Z0) hZ (hw _ (List.mem_of_getElem? (i := 9) rfl)) (hw _ (List.mem_of_getElem? (i := 4) rfl)) (by decide) (by decide)) (g := (mkF m 79 #[.val (.long q1), .second, .val (.int p2), .val (.int v5), .val (.int v12), .val (.long (q1 &&& (4611686018427387903 : Int64))), .second, .val (.long v26), .second, .val (.int v34), .unset, .unset] [(.long v26)])) rfl (by rw [hml]; rfl) (argsL := [(.long v26)]) (rest := []) (lenOf pd_0_2 rfl) rfl (by show 2 * 0 + _ ≤ _; exact Nat.le_of_eq rfl) (hb hby at_79) (fun _ _ => ⟨rfl, e29, (by decide : 0 + 0 ≤ _), (by decide : 0 + 0 ≤ _)⟩)
  dsimp only [Pt.U, Pt.locs, Pt.cells, Pt.slots] at X37 l37 y37 z37 st37 hQ37
  subst l37 y37 z37
  obtain ⟨rfl, rfl, e37⟩ := hQ37
  replace X37 : Stand p l e room_1 s m #[(.long q1), (.int p2)] below meth c T37 [] 0 0 := X37
  have R39 : ∀ t, Steps p.tables e below (T37.setTop (mkF m 84 #[.val (.long q1), .second, .val (.int p2), .val (.int v5), .val (.int v12), .val (.long (q1 &&& (4611686018427387903 : Int64))), .second, .val (.long v26), .second, .val (.int v34), .unset, .unset] [(.int v12), (.long (F2 v26))])) t → Steps p.tables e below (s₁.setTop (entryFrame m #[(.long q1), (.int p2)] maxLocals)) t := by
    intro t kt
    refine R35 _ ?_
    show Steps p.tables e below (T29.setTop (mkF m 75 #[.val (.long q1), .second, .val (.int p2), .val (.int v5), .val (.int v12), .val (.long (q1 &&& (4611686018427387903 : Int64))), .second, .val (.long v26), .second, .unset, .unset, .unset] [(.int v34)])) _
    refine XS.istore X29.here hx rfl (hb hby at_75) rfl (l' := #[.val (.long q1), .second, .val (.int p2), .val (.int v5), .val (.int v12), .val (.long (q1 &&& (4611686018427387903 : Int64))), .second, .val (.long v26), .second, .val (.int v34), .unset, .unset]) rfl ?_
    show Steps p.tables e below (T29.setTop (mkF m 77 #[.val (.long q1), .second, .val (.int p2), .val (.int v5), .val (.int v12), .val (.long (q1 &&& (4611686018427387903 : Int64))), .second, .val (.long v26), .second, .val (.int v34), .unset, .unset] [])) _
    refine XS.lload X29.here hx rfl (hb hby at_77) rfl ?_
    show Steps p.tables e below (T29.setTop (mkF m 79 #[.val (.long q1), .second, .val (.int p2), .val (.int v5), .val (.int v12), .val (.long (q1 &&& (4611686018427387903 : Int64))), .second, .val (.long v26), .second, .val (.int v34), .unset, .unset] [(.long v26)])) _
    refine st37 _ ?_
    show Steps p.tables e below (T37.setTop (mkF m 82 #[.val (.long q1), .second, .val (.int p2), .val (.int v5), .val (.int v12), .val (.long (q1 &&& (4611686018427387903 : Int64))), .second, .val (.long v26), .second, .val (.int v34), .unset, .unset] [(.long (F2 v26))])) _
    refine XS.iload X37.here hx rfl (hb hby at_82) rfl ?_
    exact kt
  have J44 : ∃ (v42 : Int64), v42 = (if v12 = (0 : Int32) then (q1 &&& (4611686018427387903 : Int64)) else ((q1 &&& (4611686018427387903 : Int64)) ||| (-9223372036854775808 : Int64))) ∧ ∀ t, Steps p.tables e below (T37.setTop (mkF m 98 #[.val (.long q1), .second, .val (.int p2), .val (.int v5), .val (.int v12), .val (.long (q1 &&& (4611686018427387903 : Int64))), .second, .val (.long v26), .second, .val (.int v34), .unset, .unset] [(.long v42), (.long (F2 v26))])) t → Steps p.tables e below (s₁.setTop (entryFrame m #[(.long q1), (.int p2)] maxLocals)) t := by
    by_cases hc38 : v12 = (0 : Int32)
    · have R40 : ∀ t, Steps p.tables e below (T37.setTop (mkF m 98 #[.val (.long q1), .second, .val (.int p2), .val (.int v5), .val (.int v12), .val (.long (q1 &&& (4611686018427387903 : Int64))), .second, .val (.long v26), .second, .val (.int v34), .unset, .unset] [(.long (q1 &&& (4611686018427387903 : Int64))), (.long (F2 v26))])) t → Steps p.tables e below (s₁.setTop (entryFrame m #[(.long q1), (.int p2)] maxLocals)) t := by
        intro t kt
        refine R39 _ ?_
        show Steps p.tables e below (T37.setTop (mkF m 84 #[.val (.long q1), .second, .val (.int p2), .val (.int v5), .val (.int v12), .val (.long (q1 &&& (4611686018427387903 : Int64))), .second, .val (.long v26), .second, .val (.int v34), .unset, .unset] [(.int v12), (.long (F2 v26))])) _
        refine XS.ifYes X37.here hx rfl (pc0 := 84) (pc' := 96) rfl (hb hby at_84) rfl ((if0 _ _).trans (teq hc38).1) (by decide) (by decide) ?_
        show Steps p.tables e below (T37.setTop (mkF m 96 #[.val (.long q1), .second, .val (.int p2), .val (.int v5), .val (.int v12), .val (.long (q1 &&& (4611686018427387903 : Int64))), .second, .val (.long v26), .second, .val (.int v34), .unset, .unset] [(.long (F2 v26))])) _
        refine XS.lload X37.here hx rfl (hb hby at_96) rfl ?_
        exact kt
      exact ⟨(q1 &&& (4611686018427387903 : Int64)), (by rw [if_pos hc38]), R40⟩
    · have R41 : ∀ t, Steps p.tables e below (T37.setTop (mkF m 98 #[.val (.long q1), .second, .val (.int p2), .val (.int v5), .val (.int v12), .val (.long (q1 &&& (4611686018427387903 : Int64))), .second, .val (.long v26), .second, .val (.int v34), .unset, .unset] [(.long ((q1 &&& (4611686018427387903 : Int64)) ||| (-9223372036854775808 : Int64))), (.long (F2 v26))])) t → Steps p.tables e below (s₁.setTop (entryFrame m #[(.long q1), (.int p2)] maxLocals)) t := by
        intro t kt
        refine R39 _ ?_
        show Steps p.tables e below (T37.setTop (mkF m 84 #[.val (.long q1), .second, .val (.int p2), .val (.int v5), .val (.int v12), .val (.long (q1 &&& (4611686018427387903 : Int64))), .second, .val (.long v26), .second, .val (.int v34), .unset, .unset] [(.int v12), (.long (F2 v26))])) _
        refine XS.ifNo X37.here hx rfl (hb hby at_84) rfl ((if0 _ _).trans (feq hc38).1) ?_
        show Steps p.tables e below (T37.setTop (mkF m 87 #[.val (.long q1), .second, .val (.int p2), .val (.int v5), .val (.int v12), .val (.long (q1 &&& (4611686018427387903 : Int64))), .second, .val (.long v26), .second, .val (.int v34), .unset, .unset] [(.long (F2 v26))])) _
        refine XS.lload X37.here hx rfl (hb hby at_87) rfl ?_
        show Steps p.tables e below (T37.setTop (mkF m 89 #[.val (.long q1), .second, .val (.int p2), .val (.int v5), .val (.int v12), .val (.long (q1 &&& (4611686018427387903 : Int64))), .second, .val (.long v26), .second, .val (.int v34), .unset, .unset] [(.long (q1 &&& (4611686018427387903 : Int64))), (.long (F2 v26))])) _
        refine X37.ldc2Long hx hown (mvT hZ (hw _ (List.mem_of_getElem? (i := 1) rfl))) (g := (mkF m 89 #[.val (.long q1), .second, .val (.int p2), .val (.int v5), .val (.int v12), .val (.long (q1 &&& (4611686018427387903 : Int64))), .second, .val (.long v26), .second, .val (.int v34), .unset, .unset] [(.long (q1 &&& (4611686018427387903 : Int64))), (.long (F2 v26))])) rfl (hb hby at_89) _ ?_
        show Steps p.tables e below (T37.setTop (mkF m 92 #[.val (.long q1), .second, .val (.int p2), .val (.int v5), .val (.int v12), .val (.long (q1 &&& (4611686018427387903 : Int64))), .second, .val (.long v26), .second, .val (.int v34), .unset, .unset] [(.long (-9223372036854775808 : Int64)), (.long (q1 &&& (4611686018427387903 : Int64))), (.long (F2 v26))])) _
        refine XS.lor X37.here hx rfl (hb hby at_92) rfl ?_
        show Steps p.tables e below (T37.setTop (mkF m 93 #[.val (.long q1), .second, .val (.int p2), .val (.int v5), .val (.int v12), .val (.long (q1 &&& (4611686018427387903 : Int64))), .second, .val (.long v26), .second, .val (.int v34), .unset, .unset] [(.long ((q1 &&& (4611686018427387903 : Int64)) ||| (-9223372036854775808 : Int64))), (.long (F2 v26))])) _
        refine XS.goto X37.here hx rfl (pc0 := 93) (pc' := 98) rfl (hb hby at_93) (by decide) (by decide) ?_
        exact kt
      exact ⟨((q1 &&& (4611686018427387903 : Int64)) ||| (-9223372036854775808 : Int64)), (by rw [if_neg hc38]), R41⟩
  obtain ⟨v42, hv42, R43⟩ := J44
  have R46 : ∀ t, Steps p.tables e below (T37.setTop (mkF m 99 #[.val (.long q1), .second, .val (.int p2), .val (.int v5), .val (.int v12), .val (.long (q1 &&& (4611686018427387903 : Int64))), .second, .val (.long v26), .second, .val (.int v34), .unset, .unset] [(.int (lcmpW (F2 v26) v42))])) t → Steps p.tables e below (s₁.setTop (entryFrame m #[(.long q1), (.int p2)] maxLocals)) t := by
    intro t kt
    refine R43 _ ?_
    show Steps p.tables e below (T37.setTop (mkF m 98 #[.val (.long q1), .second, .val (.int p2), .val (.int v5), .val (.int v12), .val (.long (q1 &&& (4611686018427387903 : Int64))), .second, .val (.long v26), .second, .val (.int v34), .unset, .unset] [(.long v42), (.long (F2 v26))])) _
    refine XS.lcmp X37.here hx rfl (hb hby at_98) rfl ?_
    exact kt
  have J51 : ∃ (v49 : Int32), v49 = (if (F2 v26) = v42 then (1 : Int32) else (0 : Int32)) ∧ ∀ t, Steps p.tables e below (T37.setTop (mkF m 107 #[.val (.long q1), .second, .val (.int p2), .val (.int v5), .val (.int v12), .val (.long (q1 &&& (4611686018427387903 : Int64))), .second, .val (.long v26), .second, .val (.int v34), .unset, .unset] [(.int v49)])) t → Steps p.tables e below (s₁.setTop (entryFrame m #[(.long q1), (.int p2)] maxLocals)) t := by
    by_cases hc45 : (F2 v26) = v42
    · have R47 : ∀ t, Steps p.tables e below (T37.setTop (mkF m 107 #[.val (.long q1), .second, .val (.int p2), .val (.int v5), .val (.int v12), .val (.long (q1 &&& (4611686018427387903 : Int64))), .second, .val (.long v26), .second, .val (.int v34), .unset, .unset] [(.int (1 : Int32))])) t → Steps p.tables e below (s₁.setTop (entryFrame m #[(.long q1), (.int p2)] maxLocals)) t := by
        intro t kt
        refine R46 _ ?_
        show Steps p.tables e below (T37.setTop (mkF m 99 #[.val (.long q1), .second, .val (.int p2), .val (.int v5), .val (.int v12), .val (.long (q1 &&& (4611686018427387903 : Int64))), .second, .val (.long v26), .second, .val (.int v34), .unset, .unset] [(.int (lcmpW (F2 v26) v42))])) _
        refine XS.ifNo X37.here hx rfl (hb hby at_99) rfl ((if0 _ _).trans (teq ((lw_eq _ _).mpr hc45)).2) ?_
        show Steps p.tables e below (T37.setTop (mkF m 102 #[.val (.long q1), .second, .val (.int p2), .val (.int v5), .val (.int v12), .val (.long (q1 &&& (4611686018427387903 : Int64))), .second, .val (.long v26), .second, .val (.int v34), .unset, .unset] [])) _
        refine XS.iconst X37.here hx rfl (hb hby at_102) ?_
        show Steps p.tables e below (T37.setTop (mkF m 103 #[.val (.long q1), .second, .val (.int p2), .val (.int v5), .val (.int v12), .val (.long (q1 &&& (4611686018427387903 : Int64))), .second, .val (.long v26), .second, .val (.int v34), .unset, .unset] [(.int (1 : Int32))])) _
        refine XS.goto X37.here hx rfl (pc0 := 103) (pc' := 107) rfl (hb hby at_103) (by decide) (by decide) ?_
        exact kt
      exact ⟨(1 : Int32), (by rw [if_pos hc45]), R47⟩
    · have R48 : ∀ t, Steps p.tables e below (T37.setTop (mkF m 107 #[.val (.long q1), .second, .val (.int p2), .val (.int v5), .val (.int v12), .val (.long (q1 &&& (4611686018427387903 : Int64))), .second, .val (.long v26), .second, .val (.int v34), .unset, .unset] [(.int (0 : Int32))])) t → Steps p.tables e below (s₁.setTop (entryFrame m #[(.long q1), (.int p2)] maxLocals)) t := by
        intro t kt
        refine R46 _ ?_
        show Steps p.tables e below (T37.setTop (mkF m 99 #[.val (.long q1), .second, .val (.int p2), .val (.int v5), .val (.int v12), .val (.long (q1 &&& (4611686018427387903 : Int64))), .second, .val (.long v26), .second, .val (.int v34), .unset, .unset] [(.int (lcmpW (F2 v26) v42))])) _
        refine XS.ifYes X37.here hx rfl (pc0 := 99) (pc' := 106) rfl (hb hby at_99) rfl ((if0 _ _).trans (feq (fun q => hc45 ((lw_eq _ _).mp q))).2) (by decide) (by decide) ?_
        show Steps p.tables e below (T37.setTop (mkF m 106 #[.val (.long q1), .second, .val (.int p2), .val (.int v5), .val (.int v12), .val (.long (q1 &&& (4611686018427387903 : Int64))), .second, .val (.long v26), .second, .val (.int v34), .unset, .unset] [])) _
        refine XS.iconst X37.here hx rfl (hb hby at_106) ?_
        exact kt
      exact ⟨(0 : Int32), (by rw [if_neg hc45]), R48⟩
  obtain ⟨v49, hv49, R50⟩ := J51
  obtain ⟨_, _, ⟨T52, L52, k52, n52⟩, -, X52, ⟨Lc52, hQ52, l52, y52, z52⟩, st52⟩ := Jvm.LawKit.callS X37 hx (y := (⟨"com/example/relicary/relicary/siard/NameIndex", "shared", "(J)Z"⟩ : MethodName)) hown (mvT hZ (hw _ (List.mem_of_getElem? (i := 2) rfl))) (mvT hZ (hw _ (List.mem_of_getElem? (i := 3) rfl))) (mvT hZ (hw _ (List.mem_of_getElem? (i := 4) rfl))) (mvT hZ (hw _ (List.mem_of_getElem? (i := 5) rfl))) (by decide) (backOf (W := 0) (rm1 l Z a0 hw [] q1 h0 n0 Z0) hZ (hw _ (List.mem_of_getElem? (i := 5) rfl)) (hw _ (List.mem_of_getElem? (i := 4) rfl)) (by decide) (by decide)) (g := (mkF m 110 #[.val (.long q1), .second, .val (.int p2), .val (.int v5), .val (.int v12), .val (.long (q1 &&& (4611686018427387903 : Int64))), .second, .val (.long v26), .second, .val (.int v34), .val (.int v49), .unset] [(.long q1)])) rfl (by rw [hml]; rfl) (argsL := [(.long q1)]) (rest := []) (lenOf pd_0_1 rfl) rfl (by show 2 * 0 + _ ≤ _; exact Nat.le_of_eq rfl) (hb hby at_110) (fun _ _ => ⟨rfl, e37, (by decide : 0 + 0 ≤ _), (by decide : 0 + 0 ≤ _)⟩)
  dsimp only [Pt.U, Pt.locs, Pt.cells, Pt.slots] at X52 l52 y52 z52 st52 hQ52
  subst l52 y52 z52
  obtain ⟨rfl, rfl, e52⟩ := hQ52
  replace X52 : Stand p l e room_1 s m #[(.long q1), (.int p2)] below meth c T52 [] 0 0 := X52
  have R54 : ∀ t, Steps p.tables e below (T52.setTop (mkF m 118 #[.val (.long q1), .second, .val (.int p2), .val (.int v5), .val (.int v12), .val (.long (q1 &&& (4611686018427387903 : Int64))), .second, .val (.long v26), .second, .val (.int v34), .val (.int v49), .unset] [(.int (lcmpW (q1 <<< ((1 : Int32) &&& 0x3f).toInt64) (0 : Int64))), (.int (F1 q1))])) t → Steps p.tables e below (s₁.setTop (entryFrame m #[(.long q1), (.int p2)] maxLocals)) t := by
    intro t kt
    refine R50 _ ?_
    show Steps p.tables e below (T37.setTop (mkF m 107 #[.val (.long q1), .second, .val (.int p2), .val (.int v5), .val (.int v12), .val (.long (q1 &&& (4611686018427387903 : Int64))), .second, .val (.long v26), .second, .val (.int v34), .unset, .unset] [(.int v49)])) _
    refine XS.istore X37.here hx rfl (hb hby at_107) rfl (l' := #[.val (.long q1), .second, .val (.int p2), .val (.int v5), .val (.int v12), .val (.long (q1 &&& (4611686018427387903 : Int64))), .second, .val (.long v26), .second, .val (.int v34), .val (.int v49), .unset]) rfl ?_
    show Steps p.tables e below (T37.setTop (mkF m 109 #[.val (.long q1), .second, .val (.int p2), .val (.int v5), .val (.int v12), .val (.long (q1 &&& (4611686018427387903 : Int64))), .second, .val (.long v26), .second, .val (.int v34), .val (.int v49), .unset] [])) _
    refine XS.lloadN X37.here hx rfl (hb hby at_109) rfl ?_
    show Steps p.tables e below (T37.setTop (mkF m 110 #[.val (.long q1), .second, .val (.int p2), .val (.int v5), .val (.int v12), .val (.long (q1 &&& (4611686018427387903 : Int64))), .second, .val (.long v26), .second, .val (.int v34), .val (.int v49), .unset] [(.long q1)])) _
    refine st52 _ ?_
    show Steps p.tables e below (T52.setTop (mkF m 113 #[.val (.long q1), .second, .val (.int p2), .val (.int v5), .val (.int v12), .val (.long (q1 &&& (4611686018427387903 : Int64))), .second, .val (.long v26), .second, .val (.int v34), .val (.int v49), .unset] [(.int (F1 q1))])) _
    refine XS.lloadN X52.here hx rfl (hb hby at_113) rfl ?_
    show Steps p.tables e below (T52.setTop (mkF m 114 #[.val (.long q1), .second, .val (.int p2), .val (.int v5), .val (.int v12), .val (.long (q1 &&& (4611686018427387903 : Int64))), .second, .val (.long v26), .second, .val (.int v34), .val (.int v49), .unset] [(.long q1), (.int (F1 q1))])) _
    refine XS.iconst X52.here hx rfl (hb hby at_114) ?_
    show Steps p.tables e below (T52.setTop (mkF m 115 #[.val (.long q1), .second, .val (.int p2), .val (.int v5), .val (.int v12), .val (.long (q1 &&& (4611686018427387903 : Int64))), .second, .val (.long v26), .second, .val (.int v34), .val (.int v49), .unset] [(.int (1 : Int32)), (.long q1), (.int (F1 q1))])) _
    refine XS.lshl X52.here hx rfl (hb hby at_115) rfl ?_
    show Steps p.tables e below (T52.setTop (mkF m 116 #[.val (.long q1), .second, .val (.int p2), .val (.int v5), .val (.int v12), .val (.long (q1 &&& (4611686018427387903 : Int64))), .second, .val (.long v26), .second, .val (.int v34), .val (.int v49), .unset] [(.long (q1 <<< ((1 : Int32) &&& 0x3f).toInt64)), (.int (F1 q1))])) _
    refine XS.lconst X52.here hx rfl (hb hby at_116) ?_
    show Steps p.tables e below (T52.setTop (mkF m 117 #[.val (.long q1), .second, .val (.int p2), .val (.int v5), .val (.int v12), .val (.long (q1 &&& (4611686018427387903 : Int64))), .second, .val (.long v26), .second, .val (.int v34), .val (.int v49), .unset] [(.long (0 : Int64)), (.long (q1 <<< ((1 : Int32) &&& 0x3f).toInt64)), (.int (F1 q1))])) _
    refine XS.lcmp X52.here hx rfl (hb hby at_117) rfl ?_
    exact kt
  have J59 : ∃ (v57 : Int32), v57 = (if (q1 <<< ((1 : Int32) &&& 0x3f).toInt64) < (0 : Int64) then (1 : Int32) else (0 : Int32)) ∧ ∀ t, Steps p.tables e below (T52.setTop (mkF m 126 #[.val (.long q1), .second, .val (.int p2), .val (.int v5), .val (.int v12), .val (.long (q1 &&& (4611686018427387903 : Int64))), .second, .val (.long v26), .second, .val (.int v34), .val (.int v49), .unset] [(.int v57), (.int (F1 q1))])) t → Steps p.tables e below (s₁.setTop (entryFrame m #[(.long q1), (.int p2)] maxLocals)) t := by
    by_cases hc53 : (q1 <<< ((1 : Int32) &&& 0x3f).toInt64) < (0 : Int64)
    · have R55 : ∀ t, Steps p.tables e below (T52.setTop (mkF m 126 #[.val (.long q1), .second, .val (.int p2), .val (.int v5), .val (.int v12), .val (.long (q1 &&& (4611686018427387903 : Int64))), .second, .val (.long v26), .second, .val (.int v34), .val (.int v49), .unset] [(.int (1 : Int32)), (.int (F1 q1))])) t → Steps p.tables e below (s₁.setTop (entryFrame m #[(.long q1), (.int p2)] maxLocals)) t := by
        intro t kt
        refine R54 _ ?_
        show Steps p.tables e below (T52.setTop (mkF m 118 #[.val (.long q1), .second, .val (.int p2), .val (.int v5), .val (.int v12), .val (.long (q1 &&& (4611686018427387903 : Int64))), .second, .val (.long v26), .second, .val (.int v34), .val (.int v49), .unset] [(.int (lcmpW (q1 <<< ((1 : Int32) &&& 0x3f).toInt64) (0 : Int64))), (.int (F1 q1))])) _
        refine XS.ifNo X52.here hx rfl (hb hby at_118) rfl ((if0 _ _).trans (tlt ((lw_lt _ _).mpr hc53)).2.1) ?_
        show Steps p.tables e below (T52.setTop (mkF m 121 #[.val (.long q1), .second, .val (.int p2), .val (.int v5), .val (.int v12), .val (.long (q1 &&& (4611686018427387903 : Int64))), .second, .val (.long v26), .second, .val (.int v34), .val (.int v49), .unset] [(.int (F1 q1))])) _
        refine XS.iconst X52.here hx rfl (hb hby at_121) ?_
        show Steps p.tables e below (T52.setTop (mkF m 122 #[.val (.long q1), .second, .val (.int p2), .val (.int v5), .val (.int v12), .val (.long (q1 &&& (4611686018427387903 : Int64))), .second, .val (.long v26), .second, .val (.int v34), .val (.int v49), .unset] [(.int (1 : Int32)), (.int (F1 q1))])) _
        refine XS.goto X52.here hx rfl (pc0 := 122) (pc' := 126) rfl (hb hby at_122) (by decide) (by decide) ?_
        exact kt
      exact ⟨(1 : Int32), (by rw [if_pos hc53]), R55⟩
    · have R56 : ∀ t, Steps p.tables e below (T52.setTop (mkF m 126 #[.val (.long q1), .second, .val (.int p2), .val (.int v5), .val (.int v12), .val (.long (q1 &&& (4611686018427387903 : Int64))), .second, .val (.long v26), .second, .val (.int v34), .val (.int v49), .unset] [(.int (0 : Int32)), (.int (F1 q1))])) t → Steps p.tables e below (s₁.setTop (entryFrame m #[(.long q1), (.int p2)] maxLocals)) t := by
        intro t kt
        refine R54 _ ?_
        show Steps p.tables e below (T52.setTop (mkF m 118 #[.val (.long q1), .second, .val (.int p2), .val (.int v5), .val (.int v12), .val (.long (q1 &&& (4611686018427387903 : Int64))), .second, .val (.long v26), .second, .val (.int v34), .val (.int v49), .unset] [(.int (lcmpW (q1 <<< ((1 : Int32) &&& 0x3f).toInt64) (0 : Int64))), (.int (F1 q1))])) _
        refine XS.ifYes X52.here hx rfl (pc0 := 118) (pc' := 125) rfl (hb hby at_118) rfl ((if0 _ _).trans (flt (fun q => hc53 ((lw_lt _ _).mp q))).2.1) (by decide) (by decide) ?_
        show Steps p.tables e below (T52.setTop (mkF m 125 #[.val (.long q1), .second, .val (.int p2), .val (.int v5), .val (.int v12), .val (.long (q1 &&& (4611686018427387903 : Int64))), .second, .val (.long v26), .second, .val (.int v34), .val (.int v49), .unset] [(.int (F1 q1))])) _
        refine XS.iconst X52.here hx rfl (hb hby at_125) ?_
        exact kt
      exact ⟨(0 : Int32), (by rw [if_neg hc53]), R56⟩
  obtain ⟨v57, hv57, R58⟩ := J59
  have J65 : ∃ (v63 : Int32), v63 = (if (F1 q1) = v57 then (1 : Int32) else (0 : Int32)) ∧ ∀ t, Steps p.tables e below (T52.setTop (mkF m 134 #[.val (.long q1), .second, .val (.int p2), .val (.int v5), .val (.int v12), .val (.long (q1 &&& (4611686018427387903 : Int64))), .second, .val (.long v26), .second, .val (.int v34), .val (.int v49), .unset] [(.int v63)])) t → Steps p.tables e below (s₁.setTop (entryFrame m #[(.long q1), (.int p2)] maxLocals)) t := by
    by_cases hc60 : (F1 q1) = v57
    · have R61 : ∀ t, Steps p.tables e below (T52.setTop (mkF m 134 #[.val (.long q1), .second, .val (.int p2), .val (.int v5), .val (.int v12), .val (.long (q1 &&& (4611686018427387903 : Int64))), .second, .val (.long v26), .second, .val (.int v34), .val (.int v49), .unset] [(.int (1 : Int32))])) t → Steps p.tables e below (s₁.setTop (entryFrame m #[(.long q1), (.int p2)] maxLocals)) t := by
        intro t kt
        refine R58 _ ?_
        show Steps p.tables e below (T52.setTop (mkF m 126 #[.val (.long q1), .second, .val (.int p2), .val (.int v5), .val (.int v12), .val (.long (q1 &&& (4611686018427387903 : Int64))), .second, .val (.long v26), .second, .val (.int v34), .val (.int v49), .unset] [(.int v57), (.int (F1 q1))])) _
        refine XS.icmpNo X52.here hx rfl (hb hby at_126) rfl (teq hc60).2 ?_
        show Steps p.tables e below (T52.setTop (mkF m 129 #[.val (.long q1), .second, .val (.int p2), .val (.int v5), .val (.int v12), .val (.long (q1 &&& (4611686018427387903 : Int64))), .second, .val (.long v26), .second, .val (.int v34), .val (.int v49), .unset] [])) _
        refine XS.iconst X52.here hx rfl (hb hby at_129) ?_
        show Steps p.tables e below (T52.setTop (mkF m 130 #[.val (.long q1), .second, .val (.int p2), .val (.int v5), .val (.int v12), .val (.long (q1 &&& (4611686018427387903 : Int64))), .second, .val (.long v26), .second, .val (.int v34), .val (.int v49), .unset] [(.int (1 : Int32))])) _
        refine XS.goto X52.here hx rfl (pc0 := 130) (pc' := 134) rfl (hb hby at_130) (by decide) (by decide) ?_
        exact kt
      exact ⟨(1 : Int32), (by rw [if_pos hc60]), R61⟩
    · have R62 : ∀ t, Steps p.tables e below (T52.setTop (mkF m 134 #[.val (.long q1), .second, .val (.int p2), .val (.int v5), .val (.int v12), .val (.long (q1 &&& (4611686018427387903 : Int64))), .second, .val (.long v26), .second, .val (.int v34), .val (.int v49), .unset] [(.int (0 : Int32))])) t → Steps p.tables e below (s₁.setTop (entryFrame m #[(.long q1), (.int p2)] maxLocals)) t := by
        intro t kt
        refine R58 _ ?_
        show Steps p.tables e below (T52.setTop (mkF m 126 #[.val (.long q1), .second, .val (.int p2), .val (.int v5), .val (.int v12), .val (.long (q1 &&& (4611686018427387903 : Int64))), .second, .val (.long v26), .second, .val (.int v34), .val (.int v49), .unset] [(.int v57), (.int (F1 q1))])) _
        refine XS.icmpYes X52.here hx rfl (pc0 := 126) (pc' := 133) rfl (hb hby at_126) rfl (feq hc60).2 (by decide) (by decide) ?_
        show Steps p.tables e below (T52.setTop (mkF m 133 #[.val (.long q1), .second, .val (.int p2), .val (.int v5), .val (.int v12), .val (.long (q1 &&& (4611686018427387903 : Int64))), .second, .val (.long v26), .second, .val (.int v34), .val (.int v49), .unset] [])) _
        refine XS.iconst X52.here hx rfl (hb hby at_133) ?_
        exact kt
      exact ⟨(0 : Int32), (by rw [if_neg hc60]), R62⟩
  obtain ⟨v63, hv63, R64⟩ := J65
  have R67 : ∀ t, Steps p.tables e below (T52.setTop (mkF m 138 #[.val (.long q1), .second, .val (.int p2), .val (.int v5), .val (.int v12), .val (.long (q1 &&& (4611686018427387903 : Int64))), .second, .val (.long v26), .second, .val (.int v34), .val (.int v49), .val (.int v63)] [(.int v34)])) t → Steps p.tables e below (s₁.setTop (entryFrame m #[(.long q1), (.int p2)] maxLocals)) t := by
    intro t kt
    refine R64 _ ?_
    show Steps p.tables e below (T52.setTop (mkF m 134 #[.val (.long q1), .second, .val (.int p2), .val (.int v5), .val (.int v12), .val (.long (q1 &&& (4611686018427387903 : Int64))), .second, .val (.long v26), .second, .val (.int v34), .val (.int v49), .unset] [(.int v63)])) _
    refine XS.istore X52.here hx rfl (hb hby at_134) rfl (l' := #[.val (.long q1), .second, .val (.int p2), .val (.int v5), .val (.int v12), .val (.long (q1 &&& (4611686018427387903 : Int64))), .second, .val (.long v26), .second, .val (.int v34), .val (.int v49), .val (.int v63)]) rfl ?_
    show Steps p.tables e below (T52.setTop (mkF m 136 #[.val (.long q1), .second, .val (.int p2), .val (.int v5), .val (.int v12), .val (.long (q1 &&& (4611686018427387903 : Int64))), .second, .val (.long v26), .second, .val (.int v34), .val (.int v49), .val (.int v63)] [])) _
    refine XS.iload X52.here hx rfl (hb hby at_136) rfl ?_
    exact kt
  have J78 : ∃ (v76 : Int32), v76 = (if v34 = (0 : Int32) then (0 : Int32) else (if v49 = (0 : Int32) then (0 : Int32) else (if v63 = (0 : Int32) then (0 : Int32) else (1 : Int32)))) ∧ ∀ t, Steps p.tables e below (T52.setTop (mkF m 156 #[.val (.long q1), .second, .val (.int p2), .val (.int v5), .val (.int v12), .val (.long (q1 &&& (4611686018427387903 : Int64))), .second, .val (.long v26), .second, .val (.int v34), .val (.int v49), .val (.int v63)] [(.int v76)])) t → Steps p.tables e below (s₁.setTop (entryFrame m #[(.long q1), (.int p2)] maxLocals)) t := by
    by_cases hc66 : v34 = (0 : Int32)
    · have R68 : ∀ t, Steps p.tables e below (T52.setTop (mkF m 156 #[.val (.long q1), .second, .val (.int p2), .val (.int v5), .val (.int v12), .val (.long (q1 &&& (4611686018427387903 : Int64))), .second, .val (.long v26), .second, .val (.int v34), .val (.int v49), .val (.int v63)] [(.int (0 : Int32))])) t → Steps p.tables e below (s₁.setTop (entryFrame m #[(.long q1), (.int p2)] maxLocals)) t := by
        intro t kt
        refine R67 _ ?_
        show Steps p.tables e below (T52.setTop (mkF m 138 #[.val (.long q1), .second, .val (.int p2), .val (.int v5), .val (.int v12), .val (.long (q1 &&& (4611686018427387903 : Int64))), .second, .val (.long v26), .second, .val (.int v34), .val (.int v49), .val (.int v63)] [(.int v34)])) _
        refine XS.ifYes X52.here hx rfl (pc0 := 138) (pc' := 155) rfl (hb hby at_138) rfl ((if0 _ _).trans (teq hc66).1) (by decide) (by decide) ?_
        show Steps p.tables e below (T52.setTop (mkF m 155 #[.val (.long q1), .second, .val (.int p2), .val (.int v5), .val (.int v12), .val (.long (q1 &&& (4611686018427387903 : Int64))), .second, .val (.long v26), .second, .val (.int v34), .val (.int v49), .val (.int v63)] [])) _
        refine XS.iconst X52.here hx rfl (hb hby at_155) ?_
        exact kt
      exact ⟨(0 : Int32), (by rw [if_pos hc66]), R68⟩
    · have R70 : ∀ t, Steps p.tables e below (T52.setTop (mkF m 143 #[.val (.long q1), .second, .val (.int p2), .val (.int v5), .val (.int v12), .val (.long (q1 &&& (4611686018427387903 : Int64))), .second, .val (.long v26), .second, .val (.int v34), .val (.int v49), .val (.int v63)] [(.int v49)])) t → Steps p.tables e below (s₁.setTop (entryFrame m #[(.long q1), (.int p2)] maxLocals)) t := by
        intro t kt
        refine R67 _ ?_
        show Steps p.tables e below (T52.setTop (mkF m 138 #[.val (.long q1), .second, .val (.int p2), .val (.int v5), .val (.int v12), .val (.long (q1 &&& (4611686018427387903 : Int64))), .second, .val (.long v26), .second, .val (.int v34), .val (.int v49), .val (.int v63)] [(.int v34)])) _
        refine XS.ifNo X52.here hx rfl (hb hby at_138) rfl ((if0 _ _).trans (feq hc66).1) ?_
        show Steps p.tables e below (T52.setTop (mkF m 141 #[.val (.long q1), .second, .val (.int p2), .val (.int v5), .val (.int v12), .val (.long (q1 &&& (4611686018427387903 : Int64))), .second, .val (.long v26), .second, .val (.int v34), .val (.int v49), .val (.int v63)] [])) _
        refine XS.iload X52.here hx rfl (hb hby at_141) rfl ?_
        exact kt
      by_cases hc69 : v49 = (0 : Int32)
      · have R71 : ∀ t, Steps p.tables e below (T52.setTop (mkF m 156 #[.val (.long q1), .second, .val (.int p2), .val (.int v5), .val (.int v12), .val (.long (q1 &&& (4611686018427387903 : Int64))), .second, .val (.long v26), .second, .val (.int v34), .val (.int v49), .val (.int v63)] [(.int (0 : Int32))])) t → Steps p.tables e below (s₁.setTop (entryFrame m #[(.long q1), (.int p2)] maxLocals)) t := by
          intro t kt
          refine R70 _ ?_
          show Steps p.tables e below (T52.setTop (mkF m 143 #[.val (.long q1), .second, .val (.int p2), .val (.int v5), .val (.int v12), .val (.long (q1 &&& (4611686018427387903 : Int64))), .second, .val (.long v26), .second, .val (.int v34), .val (.int v49), .val (.int v63)] [(.int v49)])) _
          refine XS.ifYes X52.here hx rfl (pc0 := 143) (pc' := 155) rfl (hb hby at_143) rfl ((if0 _ _).trans (teq hc69).1) (by decide) (by decide) ?_
          show Steps p.tables e below (T52.setTop (mkF m 155 #[.val (.long q1), .second, .val (.int p2), .val (.int v5), .val (.int v12), .val (.long (q1 &&& (4611686018427387903 : Int64))), .second, .val (.long v26), .second, .val (.int v34), .val (.int v49), .val (.int v63)] [])) _
          refine XS.iconst X52.here hx rfl (hb hby at_155) ?_
          exact kt
        exact ⟨(0 : Int32), (by rw [if_neg hc66, if_pos hc69]), R71⟩
      · have R73 : ∀ t, Steps p.tables e below (T52.setTop (mkF m 148 #[.val (.long q1), .second, .val (.int p2), .val (.int v5), .val (.int v12), .val (.long (q1 &&& (4611686018427387903 : Int64))), .second, .val (.long v26), .second, .val (.int v34), .val (.int v49), .val (.int v63)] [(.int v63)])) t → Steps p.tables e below (s₁.setTop (entryFrame m #[(.long q1), (.int p2)] maxLocals)) t := by
          intro t kt
          refine R70 _ ?_
          show Steps p.tables e below (T52.setTop (mkF m 143 #[.val (.long q1), .second, .val (.int p2), .val (.int v5), .val (.int v12), .val (.long (q1 &&& (4611686018427387903 : Int64))), .second, .val (.long v26), .second, .val (.int v34), .val (.int v49), .val (.int v63)] [(.int v49)])) _
          refine XS.ifNo X52.here hx rfl (hb hby at_143) rfl ((if0 _ _).trans (feq hc69).1) ?_
          show Steps p.tables e below (T52.setTop (mkF m 146 #[.val (.long q1), .second, .val (.int p2), .val (.int v5), .val (.int v12), .val (.long (q1 &&& (4611686018427387903 : Int64))), .second, .val (.long v26), .second, .val (.int v34), .val (.int v49), .val (.int v63)] [])) _
          refine XS.iload X52.here hx rfl (hb hby at_146) rfl ?_
          exact kt
        by_cases hc72 : v63 = (0 : Int32)
        · have R74 : ∀ t, Steps p.tables e below (T52.setTop (mkF m 156 #[.val (.long q1), .second, .val (.int p2), .val (.int v5), .val (.int v12), .val (.long (q1 &&& (4611686018427387903 : Int64))), .second, .val (.long v26), .second, .val (.int v34), .val (.int v49), .val (.int v63)] [(.int (0 : Int32))])) t → Steps p.tables e below (s₁.setTop (entryFrame m #[(.long q1), (.int p2)] maxLocals)) t := by
            intro t kt
            refine R73 _ ?_
            show Steps p.tables e below (T52.setTop (mkF m 148 #[.val (.long q1), .second, .val (.int p2), .val (.int v5), .val (.int v12), .val (.long (q1 &&& (4611686018427387903 : Int64))), .second, .val (.long v26), .second, .val (.int v34), .val (.int v49), .val (.int v63)] [(.int v63)])) _
            refine XS.ifYes X52.here hx rfl (pc0 := 148) (pc' := 155) rfl (hb hby at_148) rfl ((if0 _ _).trans (teq hc72).1) (by decide) (by decide) ?_
            show Steps p.tables e below (T52.setTop (mkF m 155 #[.val (.long q1), .second, .val (.int p2), .val (.int v5), .val (.int v12), .val (.long (q1 &&& (4611686018427387903 : Int64))), .second, .val (.long v26), .second, .val (.int v34), .val (.int v49), .val (.int v63)] [])) _
            refine XS.iconst X52.here hx rfl (hb hby at_155) ?_
            exact kt
          exact ⟨(0 : Int32), (by rw [if_neg hc66, if_neg hc69, if_pos hc72]), R74⟩
        · have R75 : ∀ t, Steps p.tables e below (T52.setTop (mkF m 156 #[.val (.long q1), .second, .val (.int p2), .val (.int v5), .val (.int v12), .val (.long (q1 &&& (4611686018427387903 : Int64))), .second, .val (.long v26), .second, .val (.int v34), .val (.int v49), .val (.int v63)] [(.int (1 : Int32))])) t → Steps p.tables e below (s₁.setTop (entryFrame m #[(.long q1), (.int p2)] maxLocals)) t := by
            intro t kt
            refine R73 _ ?_
            show Steps p.tables e below (T52.setTop (mkF m 148 #[.val (.long q1), .second, .val (.int p2), .val (.int v5), .val (.int v12), .val (.long (q1 &&& (4611686018427387903 : Int64))), .second, .val (.long v26), .second, .val (.int v34), .val (.int v49), .val (.int v63)] [(.int v63)])) _
            refine XS.ifNo X52.here hx rfl (hb hby at_148) rfl ((if0 _ _).trans (feq hc72).1) ?_
            show Steps p.tables e below (T52.setTop (mkF m 151 #[.val (.long q1), .second, .val (.int p2), .val (.int v5), .val (.int v12), .val (.long (q1 &&& (4611686018427387903 : Int64))), .second, .val (.long v26), .second, .val (.int v34), .val (.int v49), .val (.int v63)] [])) _
            refine XS.iconst X52.here hx rfl (hb hby at_151) ?_
            show Steps p.tables e below (T52.setTop (mkF m 152 #[.val (.long q1), .second, .val (.int p2), .val (.int v5), .val (.int v12), .val (.long (q1 &&& (4611686018427387903 : Int64))), .second, .val (.long v26), .second, .val (.int v34), .val (.int v49), .val (.int v63)] [(.int (1 : Int32))])) _
            refine XS.goto X52.here hx rfl (pc0 := 152) (pc' := 156) rfl (hb hby at_152) (by decide) (by decide) ?_
            exact kt
          exact ⟨(1 : Int32), (by rw [if_neg hc66, if_neg hc69, if_neg hc72]), R75⟩
  obtain ⟨v76, hv76, R77⟩ := J78
  obtain ⟨fs, hr, hrun, hended, hW, hsame⟩ := X52.leave (v := some (.int (nar .boolean v76))) (fun h => by rw [Bd.returns] at h; cases h)
  refine ⟨_, _, R77 _ ?_, hrun, hended, _, _, rfl, ?_, ⟨_, rfl⟩, hW, hsame.mono (by decide) (by decide)⟩
  · show Steps p.tables e below (T52.setTop (mkF m 156 #[.val (.long q1), .second, .val (.int p2), .val (.int v5), .val (.int v12), .val (.long (q1 &&& (4611686018427387903 : Int64))), .second, .val (.long v26), .second, .val (.int v34), .val (.int v49), .val (.int v63)] [(.int v76)])) _
    exact retN X52 hx (t := .boolean) Bd.returns (by simp) (hb hby at_156) hr
  · show Q0 Z q1 p2 h0 n0 _ T52.heap _
    rw [e52]
    refine ⟨?_, rfl, rfl⟩
    subst hv5 hv12 hv19 hv26 hv34 hv42 hv49 hv57 hv63 hv76; rfl
theorem own_F1 (q : Int64) : F1 q = if q.toBitVec.getLsbD 62 = true then 1 else 0 := by
  have e : (q &&& (4611686018427387904 : Int64)) = (0 : Int64) ↔ ¬ q.toBitVec.getLsbD 62 = true := by
    rw [← Int64.toBitVec_inj, Int64.toBitVec_and, show (4611686018427387904 : Int64).toBitVec = BitVec.twoPow 64 62 from by decide, BitVec.and_twoPow]
    split
    · rename_i h; simp only [h, not_true_eq_false, iff_false]; decide
    · rename_i h; simp only [h]; simp
  simp only [F1, e]
  by_cases h : q.toBitVec.getLsbD 62 = true
  · rw [if_pos h, if_neg (fun z => z h)]; rfl
  · rw [if_neg h, if_pos h]; rfl
theorem own_bM (i : Nat) (hi : i < 64) : (4611686018427387903 : Int64).toBitVec.getLsbD i = decide (i < 62) := by
  have : ∀ i : Fin 64, (4611686018427387903 : Int64).toBitVec.getLsbD i.val = decide (i.val < 62) := by decide +kernel
  exact this ⟨i, hi⟩
theorem own_bA (i : Nat) (hi : i < 64) : (4611686018427387904 : Int64).toBitVec.getLsbD i = decide (i = 62) := by
  have : ∀ i : Fin 64, (4611686018427387904 : Int64).toBitVec.getLsbD i.val = decide (i.val = 62) := by decide +kernel
  exact this ⟨i, hi⟩
theorem own_bS (i : Nat) (hi : i < 64) : (-9223372036854775808 : Int64).toBitVec.getLsbD i = decide (i = 63) := by
  have : ∀ i : Fin 64, (-9223372036854775808 : Int64).toBitVec.getLsbD i.val = decide (i.val = 63) := by decide +kernel
  exact this ⟨i, hi⟩
theorem own_bN (i : Nat) (hi : i < 64) : (-4611686018427387905 : Int64).toBitVec.getLsbD i = decide (i ≠ 62) := by
  have : ∀ i : Fin 64, (-4611686018427387905 : Int64).toBitVec.getLsbD i.val = decide (i.val ≠ 62) := by decide +kernel
  exact this ⟨i, hi⟩
def own_f (q : Int64) (a b : Bool) : Int64 :=
  let u := if a then (q &&& (4611686018427387903 : Int64)) ||| (4611686018427387904 : Int64) else (q &&& (4611686018427387903 : Int64))
  if b then u ||| (-9223372036854775808 : Int64) else u
def own_g (q : Int64) (b : Bool) : Int64 := if b then (q &&& (4611686018427387903 : Int64)) ||| (-9223372036854775808 : Int64) else (q &&& (4611686018427387903 : Int64))
theorem own_62 (q : Int64) (a b : Bool) : (own_f q a b).toBitVec.getLsbD 62 = a := by
  cases a <;> cases b <;> simp only [own_f, Int64.toBitVec_and, Int64.toBitVec_or, BitVec.getLsbD_and, BitVec.getLsbD_or, own_bM 62 (by decide), own_bA 62 (by decide), own_bS 62 (by decide), if_true, if_false, Bool.false_eq_true] <;> simp
theorem own_pl (q : Int64) (a b : Bool) : F2 (own_f q a b) = own_g q b := by
  unfold F2
  rw [← Int64.toBitVec_inj]
  apply BitVec.eq_of_getLsbD_eq
  intro i hi
  cases a <;> cases b <;> simp only [own_f, own_g, Int64.toBitVec_and, Int64.toBitVec_or, BitVec.getLsbD_and, BitVec.getLsbD_or, own_bM i hi, own_bA i hi, own_bS i hi, own_bN i hi, if_true, if_false, Bool.false_eq_true]
  all_goals
    by_cases h1 : i = 62
    · subst h1; simp
    · by_cases h2 : i = 63
      · subst h2; simp
      · simp [h1, h2]
theorem own_sh (q : Int64) : (q <<< ((1 : Int32) &&& 0x3f).toInt64) < (0 : Int64) ↔ q.toBitVec.getLsbD 62 = true := by
  have h := c_lshl q 1 1 (by decide)
  have r := rng64 (q <<< ((1 : Int32) &&& 0x3f).toInt64)
  rw [Int64.lt_iff_toInt_lt, show (0 : Int64).toInt = 0 from rfl]
  generalize (q <<< ((1 : Int32) &&& 0x3f).toInt64).toInt = D at *
  have e : q.toBitVec.getLsbD 62 = decide (q.toBitVec.toNat / 4611686018427387904 % 2 = 1) := by
    rw [BitVec.getLsbD, Nat.testBit_eq_decide_div_mod_eq]
  have f : q.toInt = if 2 * q.toBitVec.toNat < 18446744073709551616 then (q.toBitVec.toNat : Int) else (q.toBitVec.toNat : Int) - 18446744073709551616 := BitVec.toInt_eq_toNat_cond q.toBitVec
  have l := q.toBitVec.isLt
  rw [e, decide_eq_true_eq]
  generalize q.toBitVec.toNat = N at *
  split at f <;> omega
theorem own_end (a b c : Int32) (ha : a = 1) (hb : b = 1) (hc : c = 1) : nar .boolean (if a = (0 : Int32) then (0 : Int32) else (if b = (0 : Int32) then (0 : Int32) else (if c = (0 : Int32) then (0 : Int32) else (1 : Int32)))) = 1 := by subst ha hb hc; decide
def own_v (p : Prop) [Decidable p] : Int32 := if p then (0 : Int32) else (1 : Int32)
theorem own_plain (q1 : Int64) (p2 : Int32) : F0 q1 p2 = 1 := by
  have w : (if F1 q1 = (if (q1 <<< ((1 : Int32) &&& 0x3f).toInt64) < (0 : Int64) then (1 : Int32) else (0 : Int32)) then (1 : Int32) else (0 : Int32)) = 1 := by
    refine if_pos ?_
    rw [own_F1]
    simp only [own_sh]
  by_cases h1 : (p2 &&& (1 : Int32)) = (0 : Int32) <;> by_cases h2 : (p2 &&& (2 : Int32)) = (0 : Int32)
  · have k1 := own_62 q1 false false
    have k2 := own_pl q1 false false
    simp only [F0, h1, h2, if_true, if_false]
    refine own_end _ _ _ (if_pos ?_) (if_pos ?_) w
    · rw [own_F1]; show (if (own_f q1 false false).toBitVec.getLsbD 62 = true then (1 : Int32) else 0) = 0; rw [k1]; rfl
    · exact k2
  · have k1 := own_62 q1 false true
    have k2 := own_pl q1 false true
    simp only [F0, h1, h2, if_true, if_false]
    refine own_end _ _ _ (if_pos ?_) (if_pos ?_) w
    · rw [own_F1]; show (if (own_f q1 false true).toBitVec.getLsbD 62 = true then (1 : Int32) else 0) = 0; rw [k1]; rfl
    · exact k2
  · have k1 := own_62 q1 true false
    have k2 := own_pl q1 true false
    simp only [F0, h1, h2, if_true, if_false]
    refine own_end _ _ _ (if_pos ?_) (if_pos ?_) w
    · rw [own_F1]; show (if (own_f q1 true false).toBitVec.getLsbD 62 = true then (1 : Int32) else 0) = 1; rw [k1]; rfl
    · exact k2
  · have k1 := own_62 q1 true true
    have k2 := own_pl q1 true true
    simp only [F0, h1, h2, if_true, if_false]
    refine own_end _ _ _ (if_pos ?_) (if_pos ?_) w
    · rw [own_F1]; show (if (own_f q1 true true).toBitVec.getLsbD 62 = true then (1 : Int32) else 0) = 1; rw [k1]; rfl
    · exact k2
theorem own_fin {Z : State} (q1 : Int64) (p2 : Int32) (h0 : Heap) (n0 : Nat) (h : Heap) (L : List Loc) {v : Option Value} (q : Q0 Z q1 p2 h0 n0 v h L) : v = some (.int (1 : Int32)) ∧ Fr n0 L := by
  obtain ⟨rfl, rfl, rfl⟩ := q
  exact ⟨by rw [own_plain], Fr.nil _⟩
set_option maxRecDepth 65536 in
set_option maxHeartbeats 40000000 in
theorem comes_1 {Post : Tables → Env → Array Value → State → Outcome → State → Prop} (hpost : ∀ tb e args s v u, (limb_1_1.after args s (.returned v) u = true ∧ limb_1_2.after args s (.returned v) u = true ∧ True) → FrameEnd s (.returned v) u (Jvm.fieldLocs frame_1_writes args s ++ Jvm.arrayLocs frame_1_arrays args s ++ Jvm.staticLocs frame_1_statics s) 0 0 → Post tb e args s (.returned v) u) :
    ArmFor flags0 classFile x code maxLocals ret World_1 tables_1 room_1 Calls_1 rest_1 Pre_1 Post := by
  intro l hfl _ _ p e ha hc hk s m args below hf hA hF happ hP
  obtain ⟨hcalls, hrest, hpre⟩ := hP
  obtain ⟨-, -, -, hnamed, -, -, -, hat⟩ := (Spec.applies_iff hf).mp happ
  obtain ⟨hg, hn⟩ := and_e (Cond.before_iff.mp (show (Jvm.Cond.and given_1 narrow_1).before args s = true from hpre))
  obtain ⟨ga0, gb0⟩ := and_e hg
  obtain ⟨ga1, gb1⟩ := and_e gb0
  obtain ⟨w0, w1, rfl⟩ : ∃ w0 w1 : Value, args = #[w0, w1] := by
    have hs : args.size = 2 := by simpa [Cond.value, given_1] using ga0
    obtain ⟨L⟩ := args
    match L, hs with
    | [w0, w1], _ => exact ⟨w0, w1, rfl⟩
  have hw := fun d (hd : d ∈ tables_1) => atoms_spec (ws := Jvm.Cond.code x code maxLocals ret :: tables_1) hat d (List.mem_cons_of_mem _ hd)
  have hfit : Fit s := fun {y c} hc i hi => by
    obtain ⟨ha, rfl⟩ := Array.getElem?_eq_some_iff.mp hc
    have q := List.all_eq_true.mp ((Array.all_eq_true_iff_forall_mem.mp hF) _ (Array.getElem_mem ha)) i (List.mem_range.mpr hi)
    simpa [Array.getElem?_eq_getElem hi] using q
  obtain ⟨i0, ei0⟩ := isL_v ga1
  obtain rfl : w0 = (.long i0) := Option.some.inj ei0
  obtain ⟨i1, ei1⟩ := is_v gb1
  obtain rfl : w1 = (.int i1) := Option.some.inj ei1
  obtain ⟨n, o, h1, h2, h3, v, L, rfl, hQ, hq⟩ := rm0 l s _ hw tables_1 i0 i1 s.heap s.heap.size (Nat.le_refl _) p e ha hc hk s m _ below hf ((Spec.applies_iff_loose hf).mp happ).1 ⟨rfl, State.Warmed39.refl s, rfl⟩ trivial
  obtain ⟨rfl, N⟩ := own_fin i0 i1 _ _ _ _ hQ
  refine ⟨n, _, h1, h2, h3, hpost _ _ _ _ _ _ ⟨Cond.after_iff.mpr rfl, Cond.after_iff.mpr (eq_i res_at (Term.int_eval (1)) rfl), trivial⟩ ⟨hq.1, hq.2.1, (hq.2.2.sift fun y hy => Or.inr (N y hy)).mono (by decide) (by decide)⟩⟩
theorem main_1_1 : Claimed_1_1 := comes_1 fun _ _ _ _ _ _ h hF => ⟨h.1, hF⟩
theorem main_1_2 : Claimed_1_2 := comes_1 fun _ _ _ _ _ _ h hF => ⟨h.2.1, hF⟩
end Jvm.Pilot.@@N@@
namespace Jvm.Pilot.@@N@@
open Jvm Jvm.ClassFile Sem Op Lib Jvm.Free Jvm.Stand Jvm.Pilot.@@N@@.Jvm.D
/-! MADE BY PROGRAM (witnessworld.py) out of the Statement's table words and the real class files: 11 classes; the members and pool entries that the words name. The judged class is class 1, her method 1. -/
namespace start1
open Jvm.ClassFile
def u (s : String) : CpInfo := .utf8 (stringToUtf16 s)
/-- a pool by its gaps: so many unusable entries, then the entry; so many at the end -/
def gap : Nat → List CpInfo → List CpInfo
  | 0, r => r
  | n + 1, r => .unusable :: gap n r
def poolList (es : List (Nat × CpInfo)) (last : Nat) : List CpInfo := es.foldr (fun e r => gap e.1 (e.2 :: r)) (gap last [])
def pool (es : List (Nat × CpInfo)) (last : Nat) : Array CpInfo := ⟨poolList es last⟩
def fileOf (pool : Array CpInfo) (this : Nat) (attrs : Array Attribute := #[]) (ms : Array MethodInfo := #[]) (fl : Nat := 33) (sup : Nat := 0) (ifs : Array Nat := #[]) (fds : Array FieldInfo := #[]) : ClassFile where
  minorVersion := 0
  majorVersion := 65
  constantPool := pool
  accessFlags := fl
  thisClass := this
  superClass := sup
  interfaces := ifs
  fields := fds
  methods := ms
  attributes := attrs
def plain (name : String) (sup : Option ClassId) : Class where
  name := name
  kind := .ordinary
  loader := none
  accessFlags := 33
  super := sup
  interfaces := #[]
  cf := none
  fields := #[]
  methods := #[]
  instanceTypes := #[]
  staticTypes := #[]
  resolved := #[]
  callSites := []
  init := .initialized
  statics := none
  mirror := none

def pool0 : Array CpInfo := pool [(5, u "<init>"), (0, u "()V"), (1, .class_ 10), (1, u "java/lang/Object")] 113

def k0m0 : Method := { name := "<init>", desc := "()V", sig := { parameters := [], returnType := none }, accessFlags := 1, code := none }
/-- java/lang/Object -/
def k0 : Class := { plain "java/lang/Object" none with
  accessFlags := 33
  interfaces := #[]
  cf := some (fileOf pool0 8 #[] #[{ accessFlags := 1, nameIndex := 5, descriptorIndex := 6, attributes := #[] }] 33 0 #[] #[])
  fields := #[]
  methods := #[k0m0]
  instanceTypes := #[]
  staticTypes := #[]
  resolved := Array.replicate 124 none
  statics := none }

def pool1 : Array CpInfo := pool [(2, .class_ 4), (1, u "java/lang/Object"), (0, u "<init>"), (0, u "()V"), (0, .long 4611686018427387903), (1, .long 4611686018427387904), (1, .long 9223372036854775808), (1, .methodref 14 15), (0, .class_ 16), (0, .nameAndType 17 18), (0, u "com/example/relicary/relicary/siard/NameIndex"), (0, u "shared"), (0, u "(J)Z"), (0, .methodref 14 20), (0, .nameAndType 21 22), (0, u "place"), (0, u "(J)J"), (0, .class_ 24), (0, u "com/example/relicary/relicary/siard/NameIndexSharedPinLaw"), (2, u "law"), (0, u "(JI)Z")] 3

def k1m0 : Method := { name := "<init>", desc := "()V", sig := { parameters := [], returnType := none }, accessFlags := 2, code := none }
def k1c1 : Code := { maxStack := 6, maxLocals := 12, code := code, exceptionTable := #[], attributes := #[] }
def k1m1 : Method := { name := "law", desc := "(JI)Z", sig := { parameters := [.long, .int], returnType := some .boolean }, accessFlags := 9, code := some k1c1 }
/-- com/example/relicary/relicary/siard/NameIndexSharedPinLaw -/
def k1 : Class := { plain "com/example/relicary/relicary/siard/NameIndexSharedPinLaw" (some 0) with
  accessFlags := 49
  interfaces := #[]
  cf := some (fileOf pool1 23 #[] #[{ accessFlags := 2, nameIndex := 5, descriptorIndex := 6, attributes := #[] }, { accessFlags := 9, nameIndex := 27, descriptorIndex := 28, attributes := #[] }] 49 2 #[] #[])
  fields := #[]
  methods := #[k1m0, k1m1]
  instanceTypes := #[]
  staticTypes := #[]
  resolved := Array.replicate 32 none
  statics := none }

def pool2 : Array CpInfo := pool [(1, .class_ 2), (0, u "java/lang/AutoCloseable"), (0, .class_ 4), (0, u "java/lang/Object")] 7

/-- java/lang/AutoCloseable -/
def k2 : Class := { plain "java/lang/AutoCloseable" (some 0) with
  accessFlags := 1537
  interfaces := #[]
  cf := some (fileOf pool2 1 #[] #[] 1537 3 #[] #[])
  fields := #[]
  methods := #[]
  instanceTypes := #[]
  staticTypes := #[]
  resolved := Array.replicate 12 none
  statics := none }

def pool3 : Array CpInfo := pool [(1, .class_ 2), (0, u "java/io/Closeable"), (0, .class_ 4), (0, u "java/lang/Object"), (0, .class_ 6), (0, u "java/lang/AutoCloseable")] 7

/-- java/io/Closeable -/
def k3 : Class := { plain "java/io/Closeable" (some 0) with
  accessFlags := 1537
  interfaces := #[2]
  cf := some (fileOf pool3 1 #[] #[] 1537 3 #[5] #[])
  fields := #[]
  methods := #[]
  instanceTypes := #[]
  staticTypes := #[]
  resolved := Array.replicate 14 none
  statics := none }

def pool4 : Array CpInfo := pool [(2, .class_ 4), (1, u "java/lang/Object"), (0, u "<init>"), (0, u "()V"), (2, .class_ 10), (0, u "com/example/relicary/relicary/siard/NameIndex"), (7, u "sorting"), (0, u "Lcom/example/relicary/relicary/siard/SortedKeys;"), (20, u "entries"), (0, u "J"), (10, u "index"), (0, u "Ljava/nio/channels/SeekableByteChannel;"), (10, u "step"), (0, u "I"), (5, u "fence"), (0, u "[J"), (2, u "part"), (0, u "Ljava/nio/ByteBuffer;"), (21, .class_ 99), (0, u "com/example/relicary/relicary/siard/NameIndex$Group"), (44, u "indexed"), (17, u "(J)J"), (3, .long 13835058055282163711), (2, .class_ 171), (1, u "com/example/relicary/relicary/siard/NameIndex$Names"), (6, .long 4611686018427387904), (33, .class_ 213), (0, u "com/example/relicary/relicary/siard/NameIndex$Marks"), (4, u "marks"), (29, .class_ 249), (0, u "java/io/Closeable"), (0, u "MEMORY"), (1, u "FENCE"), (0, u "ALONE"), (1, u "FIRST_OF_SHARED"), (1, u "LATER"), (1, u "SHARED_BIT"), (0, u "RECORD_BYTES"), (10, u "shared"), (0, u "(J)Z"), (0, u "place"), (8, .class_ 283), (0, u "com/example/relicary/relicary/siard/NameIndex$Name")] 6

def k4m0 : Method := { name := "<init>", desc := "()V", sig := { parameters := [], returnType := none }, accessFlags := 0, code := none }
def k4c1 : Code := { maxStack := 4, maxLocals := 2, code := prog_93_method_5_code, exceptionTable := #[], attributes := #[] }
def k4m1 : Method := { name := "shared", desc := "(J)Z", sig := { parameters := [.long], returnType := some .boolean }, accessFlags := 8, code := some k4c1 }
def k4c2 : Code := { maxStack := 4, maxLocals := 2, code := prog_93_method_6_code, exceptionTable := #[], attributes := #[] }
def k4m2 : Method := { name := "place", desc := "(J)J", sig := { parameters := [.long], returnType := some .long }, accessFlags := 8, code := some k4c2 }
/-- com/example/relicary/relicary/siard/NameIndex -/
def k4 : Class := { plain "com/example/relicary/relicary/siard/NameIndex" (some 0) with
  accessFlags := 48
  interfaces := #[3]
  cf := some (fileOf pool4 9 #[.nestMembers #[282, 98, 212, 169]] #[{ accessFlags := 0, nameIndex := 5, descriptorIndex := 6, attributes := #[] }, { accessFlags := 8, nameIndex := 271, descriptorIndex := 272, attributes := #[] }, { accessFlags := 8, nameIndex := 273, descriptorIndex := 162, attributes := #[] }] 48 2 #[248] #[{ accessFlags := 26, nameIndex := 250, descriptorIndex := 41, attributes := #[] }, { accessFlags := 26, nameIndex := 252, descriptorIndex := 65, attributes := #[] }, { accessFlags := 24, nameIndex := 253, descriptorIndex := 65, attributes := #[] }, { accessFlags := 24, nameIndex := 255, descriptorIndex := 65, attributes := #[] }, { accessFlags := 24, nameIndex := 257, descriptorIndex := 65, attributes := #[] }, { accessFlags := 26, nameIndex := 259, descriptorIndex := 41, attributes := #[] }, { accessFlags := 26, nameIndex := 260, descriptorIndex := 65, attributes := #[] }, { accessFlags := 18, nameIndex := 18, descriptorIndex := 19, attributes := #[] }, { accessFlags := 2, nameIndex := 40, descriptorIndex := 41, attributes := #[] }, { accessFlags := 2, nameIndex := 52, descriptorIndex := 53, attributes := #[] }, { accessFlags := 2, nameIndex := 144, descriptorIndex := 41, attributes := #[] }, { accessFlags := 2, nameIndex := 71, descriptorIndex := 72, attributes := #[] }, { accessFlags := 2, nameIndex := 64, descriptorIndex := 65, attributes := #[] }, { accessFlags := 2, nameIndex := 75, descriptorIndex := 76, attributes := #[] }, { accessFlags := 2, nameIndex := 218, descriptorIndex := 53, attributes := #[] }])
  fields := #[{ name := "MEMORY", type := .long, accessFlags := 26, slot := 0, constantValue := 0 }, { name := "FENCE", type := .int, accessFlags := 26, slot := 1, constantValue := 0 }, { name := "ALONE", type := .int, accessFlags := 24, slot := 2, constantValue := 0 }, { name := "FIRST_OF_SHARED", type := .int, accessFlags := 24, slot := 3, constantValue := 0 }, { name := "LATER", type := .int, accessFlags := 24, slot := 4, constantValue := 0 }, { name := "SHARED_BIT", type := .long, accessFlags := 26, slot := 5, constantValue := 0 }, { name := "RECORD_BYTES", type := .int, accessFlags := 26, slot := 6, constantValue := 0 }, { name := "sorting", type := (.object "com/example/relicary/relicary/siard/SortedKeys"), accessFlags := 18, slot := 0, constantValue := 0 }, { name := "entries", type := .long, accessFlags := 2, slot := 1, constantValue := 0 }, { name := "index", type := (.object "java/nio/channels/SeekableByteChannel"), accessFlags := 2, slot := 2, constantValue := 0 }, { name := "indexed", type := .long, accessFlags := 2, slot := 3, constantValue := 0 }, { name := "fence", type := (.array .long), accessFlags := 2, slot := 4, constantValue := 0 }, { name := "step", type := .int, accessFlags := 2, slot := 5, constantValue := 0 }, { name := "part", type := (.object "java/nio/ByteBuffer"), accessFlags := 2, slot := 6, constantValue := 0 }, { name := "marks", type := (.object "java/nio/channels/SeekableByteChannel"), accessFlags := 2, slot := 7, constantValue := 0 }]
  methods := #[k4m0, k4m1, k4m2]
  instanceTypes := #[(.object "com/example/relicary/relicary/siard/SortedKeys"), .long, (.object "java/nio/channels/SeekableByteChannel"), .long, (.array .long), .int, (.object "java/nio/ByteBuffer"), (.object "java/nio/channels/SeekableByteChannel")]
  staticTypes := #[.long, .int, .int, .int, .int, .long, .int]
  resolved := Array.replicate 290 none
  statics := none }

def pool5 : Array CpInfo := pool [(1, u "java/lang/Cloneable"), (0, .class_ 1), (0, u "java/lang/Object"), (0, .class_ 3)] 3

/-- java/lang/Cloneable -/
def k5 : Class := { plain "java/lang/Cloneable" (some 0) with
  accessFlags := 1537
  interfaces := #[]
  cf := some (fileOf pool5 2 #[] #[] 1537 4 #[] #[])
  fields := #[]
  methods := #[]
  instanceTypes := #[]
  staticTypes := #[]
  resolved := Array.replicate 8 none
  statics := none }

def pool6 : Array CpInfo := pool [(1, u "java/io/Serializable"), (0, .class_ 1), (0, u "java/lang/Object"), (0, .class_ 3)] 3

/-- java/io/Serializable -/
def k6 : Class := { plain "java/io/Serializable" (some 0) with
  accessFlags := 1537
  interfaces := #[]
  cf := some (fileOf pool6 2 #[] #[] 1537 4 #[] #[])
  fields := #[]
  methods := #[]
  instanceTypes := #[]
  staticTypes := #[]
  resolved := Array.replicate 8 none
  statics := none }

/-- the primitive byte -/
def k7 : Class := { plain "byte" none with kind := .primitive 'B', accessFlags := 0x411 }
/-- [B -/
def k8 : Class := { plain "[B" (some 0) with kind := .array 7 .byte, interfaces := #[5, 6], accessFlags := 1041 }

/-- the primitive int -/
def k9 : Class := { plain "int" none with kind := .primitive 'I', accessFlags := 0x411 }
/-- [I -/
def k10 : Class := { plain "[I" (some 0) with kind := .array 9 .int, interfaces := #[5, 6], accessFlags := 1041 }

def heap : Heap := #[]
def classes : Array Class := #[k0, k1, k2, k3, k4, k5, k6, k7, k8, k9, k10]
def interned : List (Array UInt16 × Addr) := []
def slotsUsed : Nat := 0
def theMethod : MethodId := ⟨1, 1⟩
def args0 : Array Value := #[.long 5, .int 3]
def aboutOver (below : List Frame) : State where
  vm := { classes := classes, interned := interned.toArray }
  heap := heap
  slotsUsed := slotsUsed
  threads := #[{ frames := .invoking theMethod args0 :: below }]
def below0 : List Frame := [.native { method := ⟨0, 0⟩, args := #[] }]
def about1 : State := aboutOver below0
def p0 : Program := .bare "" "" ""
def e0 : Env := launch0.env 0 0 0
theorem w_frames : about1.frames = Frame.invoking theMethod args0 :: below0 := rfl
set_option maxRecDepth 65536 in
theorem w_args : argsFit about1.vm theMethod args0 = true := by decide +kernel
set_option maxRecDepth 65536 in
theorem w_heap : heapFits about1 = true := by decide +kernel
set_option maxRecDepth 65536 in
theorem w_runnable : about1.curStatus? = some .runnable := by decide +kernel
set_option maxRecDepth 65536 in
theorem w_alone : about1.alone = true := by decide +kernel
set_option maxRecDepth 65536 in
theorem w_named : about1.methodNamed? x = some theMethod := by decide +kernel
set_option maxRecDepth 65536 in
theorem w_hears : about1.hears theMethod below0 = true := by decide +kernel
set_option maxRecDepth 65536 in
theorem w_ripe : about1.ripe theMethod args0 below0 = true := by decide +kernel
theorem w_running : about1.status = .running := rfl
set_option maxRecDepth 65536 in
theorem w_room : about1.hasRoom e0.platform room_1 = true :=
  launch0.hasRoom_least _ room_1 (by decide +kernel) (by decide +kernel) (by decide +kernel) (by decide +kernel) (by decide +kernel) (by decide +kernel)
theorem allAtoms_all (ts : List Jvm.Cond) (a : Array Jvm.Value) (st : Jvm.State) : (allAtoms ts).before a st = ts.all (fun c => c.before a st) := by
  induction ts with
  | nil => rfl
  | cons c t ih =>
    show (Jvm.Cond.and c (allAtoms t)).before a st = _
    rw [Jvm.Cond.before_and, ih, List.all_cons]
def words1 : List Jvm.Cond := Jvm.Cond.code x code maxLocals ret :: tables_1
/-- a 'code' word, met by the world's own term for the bytes: nothing is compared byte by byte -/
theorem code_word {y : MethodName} {bytes : ByteArray} {mx : Nat} {rt : Option FieldType} {a : Array Value} {s : State} {m : MethodId} {meth : Method} {c : Code} (h1 : s.methodNamed? y = some m) (h2 : s.vm.method? m = some meth) (h3 : meth.code = some c) (h4 : c.code = bytes)
    (h5 : (c.maxLocals == mx && c.exceptionTable.isEmpty && decide (c.maxStack ≤ mostOperands) && decide (meth.sig.returnType = rt) && !meth.locks && decide (parseMethodDescriptor y.desc = some meth.sig)) = true) : (Jvm.Cond.code y bytes mx rt).before a s = true := by
  simp only [Bool.and_eq_true, beq_iff_eq, Bool.not_eq_true', decide_eq_true_eq] at h5
  obtain ⟨⟨⟨⟨⟨g1, g2⟩, g3⟩, g4⟩, g5⟩, g6⟩ := h5
  simp [Cond.before, Cond.holds, Cond.value, h1, h2, h3, h4, g1, g2, g3, g4, g5, g6]
def isCode : Jvm.Cond → Bool
  | .code _ _ _ _ => true
  | _ => false
theorem all_split {L : List Jvm.Cond} {P : Jvm.Cond → Bool} (h1 : L.all (fun c => isCode c || P c) = true) (h2 : ∀ c ∈ L.filter isCode, P c = true) : L.all P = true := by
  refine List.all_eq_true.mpr fun c hc => ?_
  have h := List.all_eq_true.mp h1 c hc
  rcases Bool.eq_false_or_eq_true (isCode c) with hi | hi
  · exact h2 c (List.mem_filter.mpr ⟨hc, hi⟩)
  · simpa [hi] using h
set_option maxRecDepth 65536 in
theorem w_c0 : (Jvm.Cond.code x code maxLocals ret).before args0 about1 = true := code_word (m := ⟨1, 1⟩) (meth := k1m1) (c := k1c1) (by decide +kernel) rfl rfl rfl (by decide +kernel)
set_option maxRecDepth 65536 in
theorem w_c1 : (Jvm.Cond.code ({ cls := "com/example/relicary/relicary/siard/NameIndex", name := "shared", desc := "(J)Z" } : Jvm.MethodName) prog_93_method_5_code (2 : Nat) (Option.some Jvm.ClassFile.FieldType.boolean)).before args0 about1 = true := code_word (m := ⟨4, 1⟩) (meth := k4m1) (c := k4c1) (by decide +kernel) rfl rfl rfl (by decide +kernel)
set_option maxRecDepth 65536 in
theorem w_c2 : (Jvm.Cond.code ({ cls := "com/example/relicary/relicary/siard/NameIndex", name := "place", desc := "(J)J" } : Jvm.MethodName) prog_93_method_6_code (2 : Nat) (Option.some Jvm.ClassFile.FieldType.long)).before args0 about1 = true := code_word (m := ⟨4, 2⟩) (meth := k4m2) (c := k4c2) (by decide +kernel) rfl rfl rfl (by decide +kernel)
def codes1 : List Jvm.Cond := [Jvm.Cond.code x code maxLocals ret, Jvm.Cond.code ({ cls := "com/example/relicary/relicary/siard/NameIndex", name := "shared", desc := "(J)Z" } : Jvm.MethodName) prog_93_method_5_code (2 : Nat) (Option.some Jvm.ClassFile.FieldType.boolean), Jvm.Cond.code ({ cls := "com/example/relicary/relicary/siard/NameIndex", name := "place", desc := "(J)J" } : Jvm.MethodName) prog_93_method_6_code (2 : Nat) (Option.some Jvm.ClassFile.FieldType.long)]
set_option maxRecDepth 65536 in
theorem codes_eq : words1.filter isCode = codes1 := rfl
theorem w_codes : ∀ c ∈ words1.filter isCode, c.before args0 about1 = true := by
  rw [codes_eq]
  intro c hc
  simp only [codes1, List.mem_cons, List.not_mem_nil, or_false] at hc
  rcases hc with rfl | rfl | rfl
  · exact w_c0
  · exact w_c1
  · exact w_c2
set_option maxRecDepth 65536 in
theorem w_t1 : words1.all (fun c => isCode c || c.before args0 about1) = true := by decide +kernel
theorem w_tables : (allAtoms (Jvm.Cond.code x code maxLocals ret :: tables_1)).before args0 about1 = true := by
  rw [allAtoms_all]
  show words1.all (fun c => c.before args0 about1) = true
  refine all_split ?_ w_codes
  rw [w_t1]
set_option maxRecDepth 65536 in
theorem w_case : (Jvm.Cond.and given_1 narrow_1).before args0 about1 = true := by decide +kernel
theorem w_applies : (headSpec (Jvm.Cond.code x code maxLocals ret :: tables_1) room_1).applies x e0.platform about1 = true :=
  (Spec.applies_iff w_frames).mpr ⟨w_running, w_runnable, w_alone, w_named, w_hears, w_ripe, w_room, w_tables⟩
theorem atStart : AtStart classFile x code maxLocals ret World_1 tables_1 room_1 Calls_1 rest_1 Pre_1 launch0 p0 e0 about1 theMethod args0 below0 :=
  ⟨lists_1, trivial, launch0.admits_env _ _ _, launch0.least_env, fairChoices_fair.cas, fairChoices_fair.clock, w_frames, w_args, w_heap, w_applies, trivial, trivial, w_case⟩
end start1
theorem witness_1 : WitnessClaimed_1 := ⟨start1.p0, start1.e0, start1.about1, start1.theMethod, start1.args0, start1.below0, start1.atStart⟩
end Jvm.Pilot.@@N@@
