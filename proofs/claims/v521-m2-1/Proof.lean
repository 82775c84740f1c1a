import JvmDerived
import JvmDerived.Pilot.@@N@@Statement
import JvmDerived.Pilot.@@N@@Code
set_option linter.unusedVariables false
set_option linter.unusedSimpArgs false
namespace Jvm.RoadKit
open Sem ClassFile Op Lib Jvm.Stand Jvm.Free Jvm.LawKit
section New
variable {p : Program} {l : Launch} {e : Env} {R : Room} {s : State} {m : MethodId} {args : Array Value} {below : List Frame} {meth : Method} {c : Code} {T : State} {locs : List Loc} {cells slots : Nat}
theorem retI (X : Stand p l e R s m args below meth c T locs cells slots) (hx : p.tables.exec = Jvm.exec) {pc : Nat} {Ls : Array Slot} {z : Int32} {rest : List Value} (hret : meth.sig.returnType = some .int) (hd : decode c.code pc = .ok (.ireturn, 1)) {fs : List Frame}
    (hl : ∀ (f : JFrame) (acts : List Action), f.method = m → f.locked = none → f.entered = [] → (doReturn e (T.setTop f) acts (some (.int z))).1 = T.setFrames fs) : Steps p.tables e below (T.setTop (mkF m pc Ls (.int z :: rest))) (T.setFrames fs) := by
  have hm' : T.vm.method? m = some meth := X.method'
  have hn : narrow .int (.int z) = .int z := rfl
  show Steps p.tables e below (T.setTop { method := m, pc := pc, locals := Ls, stack := _ :: rest, locked := none }) _
  jvm_step X.here [X.here.top, hx, hd, hm', hret, hn]
  first | (intro acts; rw [hl _ acts rfl rfl rfl]) | rw [hl _ _ rfl rfl rfl]
  exact Steps.refl _
end New
end Jvm.RoadKit
namespace Jvm.Pilot.@@N@@
open Jvm Jvm.ClassFile Sem Op Lib Jvm.Free Jvm.Stand Jvm.LawKit Jvm.RoadKit Bundle Jvm.Pilot.@@N@@.Jvm.D
theorem d1_0 : decode method_2_code 0 = .ok (.iload_n 0, 1) := by decide +kernel
theorem d1_1 : decode method_2_code 1 = .ok (.bipush 10, 2) := by decide +kernel
theorem d1_3 : decode method_2_code 3 = .ok (.if_icmp .ge 11, 3) := by decide +kernel
theorem d1_6 : decode method_2_code 6 = .ok (.bipush 48, 2) := by decide +kernel
theorem d1_8 : decode method_2_code 8 = .ok (.iload_n 0, 1) := by decide +kernel
theorem d1_9 : decode method_2_code 9 = .ok (.iadd, 1) := by decide +kernel
theorem d1_10 : decode method_2_code 10 = .ok (.i2c, 1) := by decide +kernel
theorem d1_11 : decode method_2_code 11 = .ok (.goto 11, 3) := by decide +kernel
theorem d1_14 : decode method_2_code 14 = .ok (.bipush 65, 2) := by decide +kernel
theorem d1_16 : decode method_2_code 16 = .ok (.iload_n 0, 1) := by decide +kernel
theorem d1_17 : decode method_2_code 17 = .ok (.iadd, 1) := by decide +kernel
theorem d1_18 : decode method_2_code 18 = .ok (.bipush 10, 2) := by decide +kernel
theorem d1_20 : decode method_2_code 20 = .ok (.isub, 1) := by decide +kernel
theorem d1_21 : decode method_2_code 21 = .ok (.i2c, 1) := by decide +kernel
theorem d1_22 : decode method_2_code 22 = .ok (.ireturn, 1) := by decide +kernel
theorem pn_1 : plainName "com/example/notary_stamp/notarystamp/http/PercentEncodingHexDigitPinLaw" = true := by first | (simp [plainName, overriddenIn]; done) | decide +kernel
theorem ef_1 (m : MethodId) (x0 : Int32) : entryFrame m #[(.int x0)] 1 = mkF m 0 #[.val (.int x0)] [] := by first | (simp [entryFrame, mkF, argsToLocals, Value.category]; done) | rfl
def F1 (p1 : Int32) : Int32 :=
  let v5 : Int32 := (if p1 < (10 : Int32) then (((48 : Int32) + p1).toUInt32.toUInt16.toUInt32.toInt32) else ((((65 : Int32) + p1) - (10 : Int32)).toUInt32.toUInt16.toUInt32.toInt32))
  (nar .char v5)
def Q1 (Z : State) (p1 : Int32) (h0 : Heap) (n0 : Nat) (v : Option Value) (h : Heap) (L : List Loc) : Prop := v = some (.int (F1 p1)) ∧ L = [] ∧ h = h0
set_option maxRecDepth 65536 in
set_option maxHeartbeats 40000000 in
theorem rm1 (l : Launch) (Z : State) (a0 : Array Value) (hw : ∀ d ∈ tables_1, d.before a0 Z = true) (ws : List Jvm.Cond) (p1 : Int32) (h0 : Heap) (n0 : Nat) (Z0 : n0 ≤ h0.size) :
    MetFree l (⟨"com/example/notary_stamp/notarystamp/http/PercentEncodingHexDigitPinLaw", "upperDigit", "(I)C"⟩ : MethodName) (head1 (Jvm.Cond.code (⟨"com/example/notary_stamp/notarystamp/http/PercentEncodingHexDigitPinLaw", "upperDigit", "(I)C"⟩ : MethodName) method_2_code 1 (some .char) :: ws) ({ frames := 0, cells := 0, slots := 0, locals := 0 } : Room)) (fun a U => a = #[(.int p1)] ∧ Z.Warmed39 U.vm ∧ U.heap = h0) (fun _ _ _ _ _ => True) (fun _ U o U' => ∃ v L, o = .returned v ∧ Q1 Z p1 h0 n0 v U'.heap L ∧ FrameEnd U o U' L ({ frames := 0, cells := 0, slots := 0, locals := 0 } : Room).cells ({ frames := 0, cells := 0, slots := 0, locals := 0 } : Room).slots) := by
  refine MetFree.of_bodySF (plainFor_of_name pn_1) hisR ?_
  intro p e s m args below meth c s₁ Bd hml0 hP hK
  obtain ⟨rfl, hZ, hh⟩ := hP
  have hx := Bd.exec
  have hby := Bd.bytes
  have hml : c.maxLocals = 1 := hml0
  have hown : s.vm.findClass "com/example/notary_stamp/notarystamp/http/PercentEncodingHexDigitPinLaw" = some m.cls := findClass_of_methodNamed Bd.named
  have hnm := (name_of_methodNamed Bd.named Bd.method).1
  have X0 : Stand p l e ({ frames := 0, cells := 0, slots := 0, locals := 0 } : Room) s m #[(.int p1)] below meth c s₁ [] 0 0 := Stand.of_body Bd
  have e0 : s₁.heap = h0 := by rw [← hh, Bd.state]; rfl
  have N0 := Fr.nil n0
  have pre0 : ∀ t, Steps p.tables e below (s₁.setTop (mkF m 0 #[.val (.int p1)] [])) t → Steps p.tables e below (s₁.setTop (entryFrame m #[(.int p1)] 1)) t := fun t k => castTop (ef_1 m p1) k
  have R2 : ∀ t, Steps p.tables e below (s₁.setTop (mkF m 3 #[.val (.int p1)] [(.int (10 : Int32)), (.int p1)])) t → Steps p.tables e below (s₁.setTop (entryFrame m #[(.int p1)] 1)) t := by
    intro t kt
    refine pre0 _ ?_
    show Steps p.tables e below (s₁.setTop (mkF m 0 #[.val (.int p1)] [])) _
    refine XS.iloadN X0.here hx rfl (hb hby d1_0) rfl ?_
    show Steps p.tables e below (s₁.setTop (mkF m 1 #[.val (.int p1)] [(.int p1)])) _
    refine XS.bipush X0.here hx rfl (hb hby d1_1) ?_
    exact kt
  have J7 : ∃ (v5 : Int32), v5 = (if p1 < (10 : Int32) then (((48 : Int32) + p1).toUInt32.toUInt16.toUInt32.toInt32) else ((((65 : Int32) + p1) - (10 : Int32)).toUInt32.toUInt16.toUInt32.toInt32)) ∧ ∀ t, Steps p.tables e below (s₁.setTop (mkF m 22 #[.val (.int p1)] [(.int v5)])) t → Steps p.tables e below (s₁.setTop (entryFrame m #[(.int p1)] 1)) t := by
    by_cases hc1 : p1 < (10 : Int32)
    · have R3 : ∀ t, Steps p.tables e below (s₁.setTop (mkF m 22 #[.val (.int p1)] [(.int (((48 : Int32) + p1).toUInt32.toUInt16.toUInt32.toInt32))])) t → Steps p.tables e below (s₁.setTop (entryFrame m #[(.int p1)] 1)) t := by
        intro t kt
        refine R2 _ ?_
        show Steps p.tables e below (s₁.setTop (mkF m 3 #[.val (.int p1)] [(.int (10 : Int32)), (.int p1)])) _
        refine XS.icmpNo X0.here hx rfl (hb hby d1_3) rfl (tlt hc1).2.1 ?_
        show Steps p.tables e below (s₁.setTop (mkF m 6 #[.val (.int p1)] [])) _
        refine XS.bipush X0.here hx rfl (hb hby d1_6) ?_
        show Steps p.tables e below (s₁.setTop (mkF m 8 #[.val (.int p1)] [(.int (48 : Int32))])) _
        refine XS.iloadN X0.here hx rfl (hb hby d1_8) rfl ?_
        show Steps p.tables e below (s₁.setTop (mkF m 9 #[.val (.int p1)] [(.int p1), (.int (48 : Int32))])) _
        refine XS.iadd X0.here hx rfl (hb hby d1_9) rfl ?_
        show Steps p.tables e below (s₁.setTop (mkF m 10 #[.val (.int p1)] [(.int ((48 : Int32) + p1))])) _
        refine XS.i2c X0.here hx rfl (hb hby d1_10) rfl ?_
        show Steps p.tables e below (s₁.setTop (mkF m 11 #[.val (.int p1)] [(.int (((48 : Int32) + p1).toUInt32.toUInt16.toUInt32.toInt32))])) _
        refine XS.goto X0.here hx rfl (pc0 := 11) (pc' := 22) rfl (hb hby d1_11) (by decide) (by decide) ?_
        exact kt
      exact ⟨(((48 : Int32) + p1).toUInt32.toUInt16.toUInt32.toInt32), (by rw [if_pos hc1]), R3⟩
    · have R4 : ∀ t, Steps p.tables e below (s₁.setTop (mkF m 22 #[.val (.int p1)] [(.int ((((65 : Int32) + p1) - (10 : Int32)).toUInt32.toUInt16.toUInt32.toInt32))])) t → Steps p.tables e below (s₁.setTop (entryFrame m #[(.int p1)] 1)) t := by
        intro t kt
        refine R2 _ ?_
        show Steps p.tables e below (s₁.setTop (mkF m 3 #[.val (.int p1)] [(.int (10 : Int32)), (.int p1)])) _
        refine XS.icmpYes X0.here hx rfl (pc0 := 3) (pc' := 14) rfl (hb hby d1_3) rfl (flt hc1).2.1 (by decide) (by decide) ?_
        show Steps p.tables e below (s₁.setTop (mkF m 14 #[.val (.int p1)] [])) _
        refine XS.bipush X0.here hx rfl (hb hby d1_14) ?_
        show Steps p.tables e below (s₁.setTop (mkF m 16 #[.val (.int p1)] [(.int (65 : Int32))])) _
        refine XS.iloadN X0.here hx rfl (hb hby d1_16) rfl ?_
        show Steps p.tables e below (s₁.setTop (mkF m 17 #[.val (.int p1)] [(.int p1), (.int (65 : Int32))])) _
        refine XS.iadd X0.here hx rfl (hb hby d1_17) rfl ?_
        show Steps p.tables e below (s₁.setTop (mkF m 18 #[.val (.int p1)] [(.int ((65 : Int32) + p1))])) _
        refine XS.bipush X0.here hx rfl (hb hby d1_18) ?_
        show Steps p.tables e below (s₁.setTop (mkF m 20 #[.val (.int p1)] [(.int (10 : Int32)), (.int ((65 : Int32) + p1))])) _
        refine XS.isub X0.here hx rfl (hb hby d1_20) rfl ?_
        show Steps p.tables e below (s₁.setTop (mkF m 21 #[.val (.int p1)] [(.int (((65 : Int32) + p1) - (10 : Int32)))])) _
        refine XS.i2c X0.here hx rfl (hb hby d1_21) rfl ?_
        exact kt
      exact ⟨((((65 : Int32) + p1) - (10 : Int32)).toUInt32.toUInt16.toUInt32.toInt32), (by rw [if_neg hc1]), R4⟩
  obtain ⟨v5, hv5, R6⟩ := J7
  obtain ⟨fs, hr, hrun, hended, hW, hsame⟩ := X0.leave (v := some (.int (nar .char v5))) (fun h => by rw [Bd.returns] at h; cases h)
  refine ⟨_, _, R6 _ ?_, hrun, hended, _, _, rfl, ?_, ⟨_, rfl⟩, hW, hsame.mono (by decide) (by decide)⟩
  · show Steps p.tables e below (s₁.setTop (mkF m 22 #[.val (.int p1)] [(.int v5)])) _
    exact retN X0 hx (t := .char) Bd.returns (by simp) (hb hby d1_22) hr
  · show Q1 Z p1 h0 n0 _ s₁.heap _
    rw [e0]
    refine ⟨?_, rfl, rfl⟩
    subst hv5; rfl
theorem d2_0 : decode prog_27_method_6_code 0 = .ok (.iload_n 0, 1) := by decide +kernel
theorem d2_1 : decode prog_27_method_6_code 1 = .ok (.bipush 48, 2) := by decide +kernel
theorem d2_3 : decode prog_27_method_6_code 3 = .ok (.if_icmp .lt 17, 3) := by decide +kernel
theorem d2_6 : decode prog_27_method_6_code 6 = .ok (.iload_n 0, 1) := by decide +kernel
theorem d2_7 : decode prog_27_method_6_code 7 = .ok (.bipush 57, 2) := by decide +kernel
theorem d2_9 : decode prog_27_method_6_code 9 = .ok (.if_icmp .gt 11, 3) := by decide +kernel
theorem d2_12 : decode prog_27_method_6_code 12 = .ok (.iload_n 0, 1) := by decide +kernel
theorem d2_13 : decode prog_27_method_6_code 13 = .ok (.bipush 48, 2) := by decide +kernel
theorem d2_15 : decode prog_27_method_6_code 15 = .ok (.isub, 1) := by decide +kernel
theorem d2_16 : decode prog_27_method_6_code 16 = .ok (.istore_n 1, 1) := by decide +kernel
theorem d2_17 : decode prog_27_method_6_code 17 = .ok (.goto 51, 3) := by decide +kernel
theorem d2_20 : decode prog_27_method_6_code 20 = .ok (.iload_n 0, 1) := by decide +kernel
theorem d2_21 : decode prog_27_method_6_code 21 = .ok (.bipush 65, 2) := by decide +kernel
theorem d2_23 : decode prog_27_method_6_code 23 = .ok (.if_icmp .lt 20, 3) := by decide +kernel
theorem d2_26 : decode prog_27_method_6_code 26 = .ok (.iload_n 0, 1) := by decide +kernel
theorem d2_27 : decode prog_27_method_6_code 27 = .ok (.bipush 70, 2) := by decide +kernel
theorem d2_29 : decode prog_27_method_6_code 29 = .ok (.if_icmp .gt 14, 3) := by decide +kernel
theorem d2_32 : decode prog_27_method_6_code 32 = .ok (.iload_n 0, 1) := by decide +kernel
theorem d2_33 : decode prog_27_method_6_code 33 = .ok (.bipush 65, 2) := by decide +kernel
theorem d2_35 : decode prog_27_method_6_code 35 = .ok (.isub, 1) := by decide +kernel
theorem d2_36 : decode prog_27_method_6_code 36 = .ok (.bipush 10, 2) := by decide +kernel
theorem d2_38 : decode prog_27_method_6_code 38 = .ok (.iadd, 1) := by decide +kernel
theorem d2_39 : decode prog_27_method_6_code 39 = .ok (.istore_n 1, 1) := by decide +kernel
theorem d2_40 : decode prog_27_method_6_code 40 = .ok (.goto 28, 3) := by decide +kernel
theorem d2_43 : decode prog_27_method_6_code 43 = .ok (.iload_n 0, 1) := by decide +kernel
theorem d2_44 : decode prog_27_method_6_code 44 = .ok (.bipush 97, 2) := by decide +kernel
theorem d2_46 : decode prog_27_method_6_code 46 = .ok (.if_icmp .lt 20, 3) := by decide +kernel
theorem d2_49 : decode prog_27_method_6_code 49 = .ok (.iload_n 0, 1) := by decide +kernel
theorem d2_50 : decode prog_27_method_6_code 50 = .ok (.bipush 102, 2) := by decide +kernel
theorem d2_52 : decode prog_27_method_6_code 52 = .ok (.if_icmp .gt 14, 3) := by decide +kernel
theorem d2_55 : decode prog_27_method_6_code 55 = .ok (.iload_n 0, 1) := by decide +kernel
theorem d2_56 : decode prog_27_method_6_code 56 = .ok (.bipush 97, 2) := by decide +kernel
theorem d2_58 : decode prog_27_method_6_code 58 = .ok (.isub, 1) := by decide +kernel
theorem d2_59 : decode prog_27_method_6_code 59 = .ok (.bipush 10, 2) := by decide +kernel
theorem d2_61 : decode prog_27_method_6_code 61 = .ok (.iadd, 1) := by decide +kernel
theorem d2_62 : decode prog_27_method_6_code 62 = .ok (.istore_n 1, 1) := by decide +kernel
theorem d2_63 : decode prog_27_method_6_code 63 = .ok (.goto 5, 3) := by decide +kernel
theorem d2_66 : decode prog_27_method_6_code 66 = .ok (.iconst (-1), 1) := by decide +kernel
theorem d2_67 : decode prog_27_method_6_code 67 = .ok (.istore_n 1, 1) := by decide +kernel
theorem d2_68 : decode prog_27_method_6_code 68 = .ok (.iload_n 1, 1) := by decide +kernel
theorem d2_69 : decode prog_27_method_6_code 69 = .ok (.ireturn, 1) := by decide +kernel
theorem pn_2 : plainName "com/example/notary_stamp/notarystamp/http/PercentEncoding" = true := by first | (simp [plainName, overriddenIn]; done) | decide +kernel
theorem ef_2 (m : MethodId) (x0 : Int32) : entryFrame m #[(.int x0)] 2 = mkF m 0 #[.val (.int x0), .unset] [] := by first | (simp [entryFrame, mkF, argsToLocals, Value.category]; done) | rfl
def F2 (p1 : Int32) : Int32 :=
  let v44 : Int32 := (if p1 < (48 : Int32) then (if p1 < (65 : Int32) then (if p1 < (97 : Int32) then (-1 : Int32) else (if (102 : Int32) < p1 then (-1 : Int32) else ((p1 - (97 : Int32)) + (10 : Int32)))) else (if (70 : Int32) < p1 then (if p1 < (97 : Int32) then (-1 : Int32) else (if (102 : Int32) < p1 then (-1 : Int32) else ((p1 - (97 : Int32)) + (10 : Int32)))) else ((p1 - (65 : Int32)) + (10 : Int32)))) else (if (57 : Int32) < p1 then (if p1 < (65 : Int32) then (if p1 < (97 : Int32) then (-1 : Int32) else (if (102 : Int32) < p1 then (-1 : Int32) else ((p1 - (97 : Int32)) + (10 : Int32)))) else (if (70 : Int32) < p1 then (if p1 < (97 : Int32) then (-1 : Int32) else (if (102 : Int32) < p1 then (-1 : Int32) else ((p1 - (97 : Int32)) + (10 : Int32)))) else ((p1 - (65 : Int32)) + (10 : Int32)))) else (p1 - (48 : Int32))))
  v44
def Q2 (Z : State) (p1 : Int32) (h0 : Heap) (n0 : Nat) (v : Option Value) (h : Heap) (L : List Loc) : Prop := v = some (.int (F2 p1)) ∧ L = [] ∧ h = h0
set_option maxRecDepth 65536 in
set_option maxHeartbeats 40000000 in
theorem rm2 (l : Launch) (Z : State) (a0 : Array Value) (hw : ∀ d ∈ tables_1, d.before a0 Z = true) (ws : List Jvm.Cond) (p1 : Int32) (h0 : Heap) (n0 : Nat) (Z0 : n0 ≤ h0.size) :
    MetFree l (⟨"com/example/notary_stamp/notarystamp/http/PercentEncoding", "hexDigit", "(C)I"⟩ : MethodName) (head1 (Jvm.Cond.code (⟨"com/example/notary_stamp/notarystamp/http/PercentEncoding", "hexDigit", "(C)I"⟩ : MethodName) prog_27_method_6_code 2 (some .int) :: ws) ({ frames := 0, cells := 0, slots := 0, locals := 0 } : Room)) (fun a U => a = #[(.int p1)] ∧ Z.Warmed39 U.vm ∧ U.heap = h0) (fun _ _ _ _ _ => True) (fun _ U o U' => ∃ v L, o = .returned v ∧ Q2 Z p1 h0 n0 v U'.heap L ∧ FrameEnd U o U' L ({ frames := 0, cells := 0, slots := 0, locals := 0 } : Room).cells ({ frames := 0, cells := 0, slots := 0, locals := 0 } : Room).slots) := by
  refine MetFree.of_bodySF (plainFor_of_name pn_2) hisR ?_
  intro p e s m args below meth c s₁ Bd hml0 hP hK
  obtain ⟨rfl, hZ, hh⟩ := hP
  have hx := Bd.exec
  have hby := Bd.bytes
  have hml : c.maxLocals = 2 := hml0
  have hown : s.vm.findClass "com/example/notary_stamp/notarystamp/http/PercentEncoding" = some m.cls := findClass_of_methodNamed Bd.named
  have hnm := (name_of_methodNamed Bd.named Bd.method).1
  have X0 : Stand p l e ({ frames := 0, cells := 0, slots := 0, locals := 0 } : Room) s m #[(.int p1)] below meth c s₁ [] 0 0 := Stand.of_body Bd
  have e0 : s₁.heap = h0 := by rw [← hh, Bd.state]; rfl
  have N0 := Fr.nil n0
  have pre0 : ∀ t, Steps p.tables e below (s₁.setTop (mkF m 0 #[.val (.int p1), .unset] [])) t → Steps p.tables e below (s₁.setTop (entryFrame m #[(.int p1)] 2)) t := fun t k => castTop (ef_2 m p1) k
  have R2 : ∀ t, Steps p.tables e below (s₁.setTop (mkF m 3 #[.val (.int p1), .unset] [(.int (48 : Int32)), (.int p1)])) t → Steps p.tables e below (s₁.setTop (entryFrame m #[(.int p1)] 2)) t := by
    intro t kt
    refine pre0 _ ?_
    show Steps p.tables e below (s₁.setTop (mkF m 0 #[.val (.int p1), .unset] [])) _
    refine XS.iloadN X0.here hx rfl (hb hby d2_0) rfl ?_
    show Steps p.tables e below (s₁.setTop (mkF m 1 #[.val (.int p1), .unset] [(.int p1)])) _
    refine XS.bipush X0.here hx rfl (hb hby d2_1) ?_
    exact kt
  have J46 : ∃ (v44 : Int32), v44 = (if p1 < (48 : Int32) then (if p1 < (65 : Int32) then (if p1 < (97 : Int32) then (-1 : Int32) else (if (102 : Int32) < p1 then (-1 : Int32) else ((p1 - (97 : Int32)) + (10 : Int32)))) else (if (70 : Int32) < p1 then (if p1 < (97 : Int32) then (-1 : Int32) else (if (102 : Int32) < p1 then (-1 : Int32) else ((p1 - (97 : Int32)) + (10 : Int32)))) else ((p1 - (65 : Int32)) + (10 : Int32)))) else (if (57 : Int32) < p1 then (if p1 < (65 : Int32) then (if p1 < (97 : Int32) then (-1 : Int32) else (if (102 : Int32) < p1 then (-1 : Int32) else ((p1 - (97 : Int32)) + (10 : Int32)))) else (if (70 : Int32) < p1 then (if p1 < (97 : Int32) then (-1 : Int32) else (if (102 : Int32) < p1 then (-1 : Int32) else ((p1 - (97 : Int32)) + (10 : Int32)))) else ((p1 - (65 : Int32)) + (10 : Int32)))) else (p1 - (48 : Int32)))) ∧ ∀ t, Steps p.tables e below (s₁.setTop (mkF m 68 #[.val (.int p1), .val (.int v44)] [])) t → Steps p.tables e below (s₁.setTop (entryFrame m #[(.int p1)] 2)) t := by
    by_cases hc1 : p1 < (48 : Int32)
    · have R4 : ∀ t, Steps p.tables e below (s₁.setTop (mkF m 23 #[.val (.int p1), .unset] [(.int (65 : Int32)), (.int p1)])) t → Steps p.tables e below (s₁.setTop (entryFrame m #[(.int p1)] 2)) t := by
        intro t kt
        refine R2 _ ?_
        show Steps p.tables e below (s₁.setTop (mkF m 3 #[.val (.int p1), .unset] [(.int (48 : Int32)), (.int p1)])) _
        refine XS.icmpYes X0.here hx rfl (pc0 := 3) (pc' := 20) rfl (hb hby d2_3) rfl (tlt hc1).1 (by decide) (by decide) ?_
        show Steps p.tables e below (s₁.setTop (mkF m 20 #[.val (.int p1), .unset] [])) _
        refine XS.iloadN X0.here hx rfl (hb hby d2_20) rfl ?_
        show Steps p.tables e below (s₁.setTop (mkF m 21 #[.val (.int p1), .unset] [(.int p1)])) _
        refine XS.bipush X0.here hx rfl (hb hby d2_21) ?_
        exact kt
      by_cases hc3 : p1 < (65 : Int32)
      · have R6 : ∀ t, Steps p.tables e below (s₁.setTop (mkF m 46 #[.val (.int p1), .unset] [(.int (97 : Int32)), (.int p1)])) t → Steps p.tables e below (s₁.setTop (entryFrame m #[(.int p1)] 2)) t := by
          intro t kt
          refine R4 _ ?_
          show Steps p.tables e below (s₁.setTop (mkF m 23 #[.val (.int p1), .unset] [(.int (65 : Int32)), (.int p1)])) _
          refine XS.icmpYes X0.here hx rfl (pc0 := 23) (pc' := 43) rfl (hb hby d2_23) rfl (tlt hc3).1 (by decide) (by decide) ?_
          show Steps p.tables e below (s₁.setTop (mkF m 43 #[.val (.int p1), .unset] [])) _
          refine XS.iloadN X0.here hx rfl (hb hby d2_43) rfl ?_
          show Steps p.tables e below (s₁.setTop (mkF m 44 #[.val (.int p1), .unset] [(.int p1)])) _
          refine XS.bipush X0.here hx rfl (hb hby d2_44) ?_
          exact kt
        by_cases hc5 : p1 < (97 : Int32)
        · have R7 : ∀ t, Steps p.tables e below (s₁.setTop (mkF m 68 #[.val (.int p1), .val (.int (-1 : Int32))] [])) t → Steps p.tables e below (s₁.setTop (entryFrame m #[(.int p1)] 2)) t := by
            intro t kt
            refine R6 _ ?_
            show Steps p.tables e below (s₁.setTop (mkF m 46 #[.val (.int p1), .unset] [(.int (97 : Int32)), (.int p1)])) _
            refine XS.icmpYes X0.here hx rfl (pc0 := 46) (pc' := 66) rfl (hb hby d2_46) rfl (tlt hc5).1 (by decide) (by decide) ?_
            show Steps p.tables e below (s₁.setTop (mkF m 66 #[.val (.int p1), .unset] [])) _
            refine XS.iconst X0.here hx rfl (hb hby d2_66) ?_
            show Steps p.tables e below (s₁.setTop (mkF m 67 #[.val (.int p1), .unset] [(.int (-1 : Int32))])) _
            refine XS.istoreN X0.here hx rfl (hb hby d2_67) rfl (l' := #[.val (.int p1), .val (.int (-1 : Int32))]) rfl ?_
            exact kt
          exact ⟨(-1 : Int32), (by rw [if_pos hc1, if_pos hc3, if_pos hc5]), R7⟩
        · have R9 : ∀ t, Steps p.tables e below (s₁.setTop (mkF m 52 #[.val (.int p1), .unset] [(.int (102 : Int32)), (.int p1)])) t → Steps p.tables e below (s₁.setTop (entryFrame m #[(.int p1)] 2)) t := by
            intro t kt
            refine R6 _ ?_
            show Steps p.tables e below (s₁.setTop (mkF m 46 #[.val (.int p1), .unset] [(.int (97 : Int32)), (.int p1)])) _
            refine XS.icmpNo X0.here hx rfl (hb hby d2_46) rfl (flt hc5).1 ?_
            show Steps p.tables e below (s₁.setTop (mkF m 49 #[.val (.int p1), .unset] [])) _
            refine XS.iloadN X0.here hx rfl (hb hby d2_49) rfl ?_
            show Steps p.tables e below (s₁.setTop (mkF m 50 #[.val (.int p1), .unset] [(.int p1)])) _
            refine XS.bipush X0.here hx rfl (hb hby d2_50) ?_
            exact kt
          by_cases hc8 : (102 : Int32) < p1
          · have R10 : ∀ t, Steps p.tables e below (s₁.setTop (mkF m 68 #[.val (.int p1), .val (.int (-1 : Int32))] [])) t → Steps p.tables e below (s₁.setTop (entryFrame m #[(.int p1)] 2)) t := by
              intro t kt
              refine R9 _ ?_
              show Steps p.tables e below (s₁.setTop (mkF m 52 #[.val (.int p1), .unset] [(.int (102 : Int32)), (.int p1)])) _
              refine XS.icmpYes X0.here hx rfl (pc0 := 52) (pc' := 66) rfl (hb hby d2_52) rfl (tlt hc8).2.2.1 (by decide) (by decide) ?_
              show Steps p.tables e below (s₁.setTop (mkF m 66 #[.val (.int p1), .unset] [])) _
              refine XS.iconst X0.here hx rfl (hb hby d2_66) ?_
              show Steps p.tables e below (s₁.setTop (mkF m 67 #[.val (.int p1), .unset] [(.int (-1 : Int32))])) _
              refine XS.istoreN X0.here hx rfl (hb hby d2_67) rfl (l' := #[.val (.int p1), .val (.int (-1 : Int32))]) rfl ?_
              exact kt
            exact ⟨(-1 : Int32), (by rw [if_pos hc1, if_pos hc3, if_neg hc5, if_pos hc8]), R10⟩
          · have R11 : ∀ t, Steps p.tables e below (s₁.setTop (mkF m 68 #[.val (.int p1), .val (.int ((p1 - (97 : Int32)) + (10 : Int32)))] [])) t → Steps p.tables e below (s₁.setTop (entryFrame m #[(.int p1)] 2)) t := by
              intro t kt
              refine R9 _ ?_
              show Steps p.tables e below (s₁.setTop (mkF m 52 #[.val (.int p1), .unset] [(.int (102 : Int32)), (.int p1)])) _
              refine XS.icmpNo X0.here hx rfl (hb hby d2_52) rfl (flt hc8).2.2.1 ?_
              show Steps p.tables e below (s₁.setTop (mkF m 55 #[.val (.int p1), .unset] [])) _
              refine XS.iloadN X0.here hx rfl (hb hby d2_55) rfl ?_
              show Steps p.tables e below (s₁.setTop (mkF m 56 #[.val (.int p1), .unset] [(.int p1)])) _
              refine XS.bipush X0.here hx rfl (hb hby d2_56) ?_
              show Steps p.tables e below (s₁.setTop (mkF m 58 #[.val (.int p1), .unset] [(.int (97 : Int32)), (.int p1)])) _
              refine XS.isub X0.here hx rfl (hb hby d2_58) rfl ?_
              show Steps p.tables e below (s₁.setTop (mkF m 59 #[.val (.int p1), .unset] [(.int (p1 - (97 : Int32)))])) _
              refine XS.bipush X0.here hx rfl (hb hby d2_59) ?_
              show Steps p.tables e below (s₁.setTop (mkF m 61 #[.val (.int p1), .unset] [(.int (10 : Int32)), (.int (p1 - (97 : Int32)))])) _
              refine XS.iadd X0.here hx rfl (hb hby d2_61) rfl ?_
              show Steps p.tables e below (s₁.setTop (mkF m 62 #[.val (.int p1), .unset] [(.int ((p1 - (97 : Int32)) + (10 : Int32)))])) _
              refine XS.istoreN X0.here hx rfl (hb hby d2_62) rfl (l' := #[.val (.int p1), .val (.int ((p1 - (97 : Int32)) + (10 : Int32)))]) rfl ?_
              show Steps p.tables e below (s₁.setTop (mkF m 63 #[.val (.int p1), .val (.int ((p1 - (97 : Int32)) + (10 : Int32)))] [])) _
              refine XS.goto X0.here hx rfl (pc0 := 63) (pc' := 68) rfl (hb hby d2_63) (by decide) (by decide) ?_
              exact kt
            exact ⟨((p1 - (97 : Int32)) + (10 : Int32)), (by rw [if_pos hc1, if_pos hc3, if_neg hc5, if_neg hc8]), R11⟩
      · have R13 : ∀ t, Steps p.tables e below (s₁.setTop (mkF m 29 #[.val (.int p1), .unset] [(.int (70 : Int32)), (.int p1)])) t → Steps p.tables e below (s₁.setTop (entryFrame m #[(.int p1)] 2)) t := by
          intro t kt
          refine R4 _ ?_
          show Steps p.tables e below (s₁.setTop (mkF m 23 #[.val (.int p1), .unset] [(.int (65 : Int32)), (.int p1)])) _
          refine XS.icmpNo X0.here hx rfl (hb hby d2_23) rfl (flt hc3).1 ?_
          show Steps p.tables e below (s₁.setTop (mkF m 26 #[.val (.int p1), .unset] [])) _
          refine XS.iloadN X0.here hx rfl (hb hby d2_26) rfl ?_
          show Steps p.tables e below (s₁.setTop (mkF m 27 #[.val (.int p1), .unset] [(.int p1)])) _
          refine XS.bipush X0.here hx rfl (hb hby d2_27) ?_
          exact kt
        by_cases hc12 : (70 : Int32) < p1
        · have R15 : ∀ t, Steps p.tables e below (s₁.setTop (mkF m 46 #[.val (.int p1), .unset] [(.int (97 : Int32)), (.int p1)])) t → Steps p.tables e below (s₁.setTop (entryFrame m #[(.int p1)] 2)) t := by
            intro t kt
            refine R13 _ ?_
            show Steps p.tables e below (s₁.setTop (mkF m 29 #[.val (.int p1), .unset] [(.int (70 : Int32)), (.int p1)])) _
            refine XS.icmpYes X0.here hx rfl (pc0 := 29) (pc' := 43) rfl (hb hby d2_29) rfl (tlt hc12).2.2.1 (by decide) (by decide) ?_
            show Steps p.tables e below (s₁.setTop (mkF m 43 #[.val (.int p1), .unset] [])) _
            refine XS.iloadN X0.here hx rfl (hb hby d2_43) rfl ?_
            show Steps p.tables e below (s₁.setTop (mkF m 44 #[.val (.int p1), .unset] [(.int p1)])) _
            refine XS.bipush X0.here hx rfl (hb hby d2_44) ?_
            exact kt
          by_cases hc14 : p1 < (97 : Int32)
          · have R16 : ∀ t, Steps p.tables e below (s₁.setTop (mkF m 68 #[.val (.int p1), .val (.int (-1 : Int32))] [])) t → Steps p.tables e below (s₁.setTop (entryFrame m #[(.int p1)] 2)) t := by
              intro t kt
              refine R15 _ ?_
              show Steps p.tables e below (s₁.setTop (mkF m 46 #[.val (.int p1), .unset] [(.int (97 : Int32)), (.int p1)])) _
              refine XS.icmpYes X0.here hx rfl (pc0 := 46) (pc' := 66) rfl (hb hby d2_46) rfl (tlt hc14).1 (by decide) (by decide) ?_
              show Steps p.tables e below (s₁.setTop (mkF m 66 #[.val (.int p1), .unset] [])) _
              refine XS.iconst X0.here hx rfl (hb hby d2_66) ?_
              show Steps p.tables e below (s₁.setTop (mkF m 67 #[.val (.int p1), .unset] [(.int (-1 : Int32))])) _
              refine XS.istoreN X0.here hx rfl (hb hby d2_67) rfl (l' := #[.val (.int p1), .val (.int (-1 : Int32))]) rfl ?_
              exact kt
            exact ⟨(-1 : Int32), (by rw [if_pos hc1, if_neg hc3, if_pos hc12, if_pos hc14]), R16⟩
          · have R18 : ∀ t, Steps p.tables e below (s₁.setTop (mkF m 52 #[.val (.int p1), .unset] [(.int (102 : Int32)), (.int p1)])) t → Steps p.tables e below (s₁.setTop (entryFrame m #[(.int p1)] 2)) t := by
              intro t kt
              refine R15 _ ?_
              show Steps p.tables e below (s₁.setTop (mkF m 46 #[.val (.int p1), .unset] [(.int (97 : Int32)), (.int p1)])) _
              refine XS.icmpNo X0.here hx rfl (hb hby d2_46) rfl (flt hc14).1 ?_
              show Steps p.tables e below (s₁.setTop (mkF m 49 #[.val (.int p1), .unset] [])) _
              refine XS.iloadN X0.here hx rfl (hb hby d2_49) rfl ?_
              show Steps p.tables e below (s₁.setTop (mkF m 50 #[.val (.int p1), .unset] [(.int p1)])) _
              refine XS.bipush X0.here hx rfl (hb hby d2_50) ?_
              exact kt
            by_cases hc17 : (102 : Int32) < p1
            · have R19 : ∀ t, Steps p.tables e below (s₁.setTop (mkF m 68 #[.val (.int p1), .val (.int (-1 : Int32))] [])) t → Steps p.tables e below (s₁.setTop (entryFrame m #[(.int p1)] 2)) t := by
                intro t kt
                refine R18 _ ?_
                show Steps p.tables e below (s₁.setTop (mkF m 52 #[.val (.int p1), .unset] [(.int (102 : Int32)), (.int p1)])) _
                refine XS.icmpYes X0.here hx rfl (pc0 := 52) (pc' := 66) rfl (hb hby d2_52) rfl (tlt hc17).2.2.1 (by decide) (by decide) ?_
                show Steps p.tables e below (s₁.setTop (mkF m 66 #[.val (.int p1), .unset] [])) _
                refine XS.iconst X0.here hx rfl (hb hby d2_66) ?_
                show Steps p.tables e below (s₁.setTop (mkF m 67 #[.val (.int p1), .unset] [(.int (-1 : Int32))])) _
                refine XS.istoreN X0.here hx rfl (hb hby d2_67) rfl (l' := #[.val (.int p1), .val (.int (-1 : Int32))]) rfl ?_
                exact kt
              exact ⟨(-1 : Int32), (by rw [if_pos hc1, if_neg hc3, if_pos hc12, if_neg hc14, if_pos hc17]), R19⟩
            · have R20 : ∀ t, Steps p.tables e below (s₁.setTop (mkF m 68 #[.val (.int p1), .val (.int ((p1 - (97 : Int32)) + (10 : Int32)))] [])) t → Steps p.tables e below (s₁.setTop (entryFrame m #[(.int p1)] 2)) t := by
                intro t kt
                refine R18 _ ?_
                show Steps p.tables e below (s₁.setTop (mkF m 52 #[.val (.int p1), .unset] [(.int (102 : Int32)), (.int p1)])) _
                refine XS.icmpNo X0.here hx rfl (hb hby d2_52) rfl (flt hc17).2.2.1 ?_
                show Steps p.tables e below (s₁.setTop (mkF m 55 #[.val (.int p1), .unset] [])) _
                refine XS.iloadN X0.here hx rfl (hb hby d2_55) rfl ?_
                show Steps p.tables e below (s₁.setTop (mkF m 56 #[.val (.int p1), .unset] [(.int p1)])) _
                refine XS.bipush X0.here hx rfl (hb hby d2_56) ?_
                show Steps p.tables e below (s₁.setTop (mkF m 58 #[.val (.int p1), .unset] [(.int (97 : Int32)), (.int p1)])) _
                refine XS.isub X0.here hx rfl (hb hby d2_58) rfl ?_
                show Steps p.tables e below (s₁.setTop (mkF m 59 #[.val (.int p1), .unset] [(.int (p1 - (97 : Int32)))])) _
                refine XS.bipush X0.here hx rfl (hb hby d2_59) ?_
                show Steps p.tables e below (s₁.setTop (mkF m 61 #[.val (.int p1), .unset] [(.int (10 : Int32)), (.int (p1 - (97 : Int32)))])) _
                refine XS.iadd X0.here hx rfl (hb hby d2_61) rfl ?_
                show Steps p.tables e below (s₁.setTop (mkF m 62 #[.val (.int p1), .unset] [(.int ((p1 - (97 : Int32)) + (10 : Int32)))])) _
                refine XS.istoreN X0.here hx rfl (hb hby d2_62) rfl (l' := #[.val (.int p1), .val (.int ((p1 - (97 : Int32)) + (10 : Int32)))]) rfl ?_
                show Steps p.tables e below (s₁.setTop (mkF m 63 #[.val (.int p1), .val (.int ((p1 - (97 : Int32)) + (10 : Int32)))] [])) _
                refine XS.goto X0.here hx rfl (pc0 := 63) (pc' := 68) rfl (hb hby d2_63) (by decide) (by decide) ?_
                exact kt
              exact ⟨((p1 - (97 : Int32)) + (10 : Int32)), (by rw [if_pos hc1, if_neg hc3, if_pos hc12, if_neg hc14, if_neg hc17]), R20⟩
        · have R21 : ∀ t, Steps p.tables e below (s₁.setTop (mkF m 68 #[.val (.int p1), .val (.int ((p1 - (65 : Int32)) + (10 : Int32)))] [])) t → Steps p.tables e below (s₁.setTop (entryFrame m #[(.int p1)] 2)) t := by
            intro t kt
            refine R13 _ ?_
            show Steps p.tables e below (s₁.setTop (mkF m 29 #[.val (.int p1), .unset] [(.int (70 : Int32)), (.int p1)])) _
            refine XS.icmpNo X0.here hx rfl (hb hby d2_29) rfl (flt hc12).2.2.1 ?_
            show Steps p.tables e below (s₁.setTop (mkF m 32 #[.val (.int p1), .unset] [])) _
            refine XS.iloadN X0.here hx rfl (hb hby d2_32) rfl ?_
            show Steps p.tables e below (s₁.setTop (mkF m 33 #[.val (.int p1), .unset] [(.int p1)])) _
            refine XS.bipush X0.here hx rfl (hb hby d2_33) ?_
            show Steps p.tables e below (s₁.setTop (mkF m 35 #[.val (.int p1), .unset] [(.int (65 : Int32)), (.int p1)])) _
            refine XS.isub X0.here hx rfl (hb hby d2_35) rfl ?_
            show Steps p.tables e below (s₁.setTop (mkF m 36 #[.val (.int p1), .unset] [(.int (p1 - (65 : Int32)))])) _
            refine XS.bipush X0.here hx rfl (hb hby d2_36) ?_
            show Steps p.tables e below (s₁.setTop (mkF m 38 #[.val (.int p1), .unset] [(.int (10 : Int32)), (.int (p1 - (65 : Int32)))])) _
            refine XS.iadd X0.here hx rfl (hb hby d2_38) rfl ?_
            show Steps p.tables e below (s₁.setTop (mkF m 39 #[.val (.int p1), .unset] [(.int ((p1 - (65 : Int32)) + (10 : Int32)))])) _
            refine XS.istoreN X0.here hx rfl (hb hby d2_39) rfl (l' := #[.val (.int p1), .val (.int ((p1 - (65 : Int32)) + (10 : Int32)))]) rfl ?_
            show Steps p.tables e below (s₁.setTop (mkF m 40 #[.val (.int p1), .val (.int ((p1 - (65 : Int32)) + (10 : Int32)))] [])) _
            refine XS.goto X0.here hx rfl (pc0 := 40) (pc' := 68) rfl (hb hby d2_40) (by decide) (by decide) ?_
            exact kt
          exact ⟨((p1 - (65 : Int32)) + (10 : Int32)), (by rw [if_pos hc1, if_neg hc3, if_neg hc12]), R21⟩
    · have R23 : ∀ t, Steps p.tables e below (s₁.setTop (mkF m 9 #[.val (.int p1), .unset] [(.int (57 : Int32)), (.int p1)])) t → Steps p.tables e below (s₁.setTop (entryFrame m #[(.int p1)] 2)) t := by
        intro t kt
        refine R2 _ ?_
        show Steps p.tables e below (s₁.setTop (mkF m 3 #[.val (.int p1), .unset] [(.int (48 : Int32)), (.int p1)])) _
        refine XS.icmpNo X0.here hx rfl (hb hby d2_3) rfl (flt hc1).1 ?_
        show Steps p.tables e below (s₁.setTop (mkF m 6 #[.val (.int p1), .unset] [])) _
        refine XS.iloadN X0.here hx rfl (hb hby d2_6) rfl ?_
        show Steps p.tables e below (s₁.setTop (mkF m 7 #[.val (.int p1), .unset] [(.int p1)])) _
        refine XS.bipush X0.here hx rfl (hb hby d2_7) ?_
        exact kt
      by_cases hc22 : (57 : Int32) < p1
      · have R25 : ∀ t, Steps p.tables e below (s₁.setTop (mkF m 23 #[.val (.int p1), .unset] [(.int (65 : Int32)), (.int p1)])) t → Steps p.tables e below (s₁.setTop (entryFrame m #[(.int p1)] 2)) t := by
          intro t kt
          refine R23 _ ?_
          show Steps p.tables e below (s₁.setTop (mkF m 9 #[.val (.int p1), .unset] [(.int (57 : Int32)), (.int p1)])) _
          refine XS.icmpYes X0.here hx rfl (pc0 := 9) (pc' := 20) rfl (hb hby d2_9) rfl (tlt hc22).2.2.1 (by decide) (by decide) ?_
          show Steps p.tables e below (s₁.setTop (mkF m 20 #[.val (.int p1), .unset] [])) _
          refine XS.iloadN X0.here hx rfl (hb hby d2_20) rfl ?_
          show Steps p.tables e below (s₁.setTop (mkF m 21 #[.val (.int p1), .unset] [(.int p1)])) _
          refine XS.bipush X0.here hx rfl (hb hby d2_21) ?_
          exact kt
        by_cases hc24 : p1 < (65 : Int32)
        · have R27 : ∀ t, Steps p.tables e below (s₁.setTop (mkF m 46 #[.val (.int p1), .unset] [(.int (97 : Int32)), (.int p1)])) t → Steps p.tables e below (s₁.setTop (entryFrame m #[(.int p1)] 2)) t := by
            intro t kt
            refine R25 _ ?_
            show Steps p.tables e below (s₁.setTop (mkF m 23 #[.val (.int p1), .unset] [(.int (65 : Int32)), (.int p1)])) _
            refine XS.icmpYes X0.here hx rfl (pc0 := 23) (pc' := 43) rfl (hb hby d2_23) rfl (tlt hc24).1 (by decide) (by decide) ?_
            show Steps p.tables e below (s₁.setTop (mkF m 43 #[.val (.int p1), .unset] [])) _
            refine XS.iloadN X0.here hx rfl (hb hby d2_43) rfl ?_
            show Steps p.tables e below (s₁.setTop (mkF m 44 #[.val (.int p1), .unset] [(.int p1)])) _
            refine XS.bipush X0.here hx rfl (hb hby d2_44) ?_
            exact kt
          by_cases hc26 : p1 < (97 : Int32)
          · have R28 : ∀ t, Steps p.tables e below (s₁.setTop (mkF m 68 #[.val (.int p1), .val (.int (-1 : Int32))] [])) t → Steps p.tables e below (s₁.setTop (entryFrame m #[(.int p1)] 2)) t := by
              intro t kt
              refine R27 _ ?_
              show Steps p.tables e below (s₁.setTop (mkF m 46 #[.val (.int p1), .unset] [(.int (97 : Int32)), (.int p1)])) _
              refine XS.icmpYes X0.here hx rfl (pc0 := 46) (pc' := 66) rfl (hb hby d2_46) rfl (tlt hc26).1 (by decide) (by decide) ?_
              show Steps p.tables e below (s₁.setTop (mkF m 66 #[.val (.int p1), .unset] [])) _
              refine XS.iconst X0.here hx rfl (hb hby d2_66) ?_
              show Steps p.tables e below (s₁.setTop (mkF m 67 #[.val (.int p1), .unset] [(.int (-1 : Int32))])) _
              refine XS.istoreN X0.here hx rfl (hb hby d2_67) rfl (l' := #[.val (.int p1), .val (.int (-1 : Int32))]) rfl ?_
              exact kt
            exact ⟨(-1 : Int32), (by rw [if_neg hc1, if_pos hc22, if_pos hc24, if_pos hc26]), R28⟩
          · have R30 : ∀ t, Steps p.tables e below (s₁.setTop (mkF m 52 #[.val (.int p1), .unset] [(.int (102 : Int32)), (.int p1)])) t → Steps p.tables e below (s₁.setTop (entryFrame m #[(.int p1)] 2)) t := by
              intro t kt
              refine R27 _ ?_
              show Steps p.tables e below (s₁.setTop (mkF m 46 #[.val (.int p1), .unset] [(.int (97 : Int32)), (.int p1)])) _
              refine XS.icmpNo X0.here hx rfl (hb hby d2_46) rfl (flt hc26).1 ?_
              show Steps p.tables e below (s₁.setTop (mkF m 49 #[.val (.int p1), .unset] [])) _
              refine XS.iloadN X0.here hx rfl (hb hby d2_49) rfl ?_
              show Steps p.tables e below (s₁.setTop (mkF m 50 #[.val (.int p1), .unset] [(.int p1)])) _
              refine XS.bipush X0.here hx rfl (hb hby d2_50) ?_
              exact kt
            by_cases hc29 : (102 : Int32) < p1
            · have R31 : ∀ t, Steps p.tables e below (s₁.setTop (mkF m 68 #[.val (.int p1), .val (.int (-1 : Int32))] [])) t → Steps p.tables e below (s₁.setTop (entryFrame m #[(.int p1)] 2)) t := by
                intro t kt
                refine R30 _ ?_
                show Steps p.tables e below (s₁.setTop (mkF m 52 #[.val (.int p1), .unset] [(.int (102 : Int32)), (.int p1)])) _
                refine XS.icmpYes X0.here hx rfl (pc0 := 52) (pc' := 66) rfl (hb hby d2_52) rfl (tlt hc29).2.2.1 (by decide) (by decide) ?_
                show Steps p.tables e below (s₁.setTop (mkF m 66 #[.val (.int p1), .unset] [])) _
                refine XS.iconst X0.here hx rfl (hb hby d2_66) ?_
                show Steps p.tables e below (s₁.setTop (mkF m 67 #[.val (.int p1), .unset] [(.int (-1 : Int32))])) _
                refine XS.istoreN X0.here hx rfl (hb hby d2_67) rfl (l' := #[.val (.int p1), .val (.int (-1 : Int32))]) rfl ?_
                exact kt
              exact ⟨(-1 : Int32), (by rw [if_neg hc1, if_pos hc22, if_pos hc24, if_neg hc26, if_pos hc29]), R31⟩
            · have R32 : ∀ t, Steps p.tables e below (s₁.setTop (mkF m 68 #[.val (.int p1), .val (.int ((p1 - (97 : Int32)) + (10 : Int32)))] [])) t → Steps p.tables e below (s₁.setTop (entryFrame m #[(.int p1)] 2)) t := by
                intro t kt
                refine R30 _ ?_
                show Steps p.tables e below (s₁.setTop (mkF m 52 #[.val (.int p1), .unset] [(.int (102 : Int32)), (.int p1)])) _
                refine XS.icmpNo X0.here hx rfl (hb hby d2_52) rfl (flt hc29).2.2.1 ?_
                show Steps p.tables e below (s₁.setTop (mkF m 55 #[.val (.int p1), .unset] [])) _
                refine XS.iloadN X0.here hx rfl (hb hby d2_55) rfl ?_
                show Steps p.tables e below (s₁.setTop (mkF m 56 #[.val (.int p1), .unset] [(.int p1)])) _
                refine XS.bipush X0.here hx rfl (hb hby d2_56) ?_
                show Steps p.tables e below (s₁.setTop (mkF m 58 #[.val (.int p1), .unset] [(.int (97 : Int32)), (.int p1)])) _
                refine XS.isub X0.here hx rfl (hb hby d2_58) rfl ?_
                show Steps p.tables e below (s₁.setTop (mkF m 59 #[.val (.int p1), .unset] [(.int (p1 - (97 : Int32)))])) _
                refine XS.bipush X0.here hx rfl (hb hby d2_59) ?_
                show Steps p.tables e below (s₁.setTop (mkF m 61 #[.val (.int p1), .unset] [(.int (10 : Int32)), (.int (p1 - (97 : Int32)))])) _
                refine XS.iadd X0.here hx rfl (hb hby d2_61) rfl ?_
                show Steps p.tables e below (s₁.setTop (mkF m 62 #[.val (.int p1), .unset] [(.int ((p1 - (97 : Int32)) + (10 : Int32)))])) _
                refine XS.istoreN X0.here hx rfl (hb hby d2_62) rfl (l' := #[.val (.int p1), .val (.int ((p1 - (97 : Int32)) + (10 : Int32)))]) rfl ?_
                show Steps p.tables e below (s₁.setTop (mkF m 63 #[.val (.int p1), .val (.int ((p1 - (97 : Int32)) + (10 : Int32)))] [])) _
                refine XS.goto X0.here hx rfl (pc0 := 63) (pc' := 68) rfl (hb hby d2_63) (by decide) (by decide) ?_
                exact kt
              exact ⟨((p1 - (97 : Int32)) + (10 : Int32)), (by rw [if_neg hc1, if_pos hc22, if_pos hc24, if_neg hc26, if_neg hc29]), R32⟩
        · have R34 : ∀ t, Steps p.tables e below (s₁.setTop (mkF m 29 #[.val (.int p1), .unset] [(.int (70 : Int32)), (.int p1)])) t → Steps p.tables e below (s₁.setTop (entryFrame m #[(.int p1)] 2)) t := by
            intro t kt
            refine R25 _ ?_
            show Steps p.tables e below (s₁.setTop (mkF m 23 #[.val (.int p1), .unset] [(.int (65 : Int32)), (.int p1)])) _
            refine XS.icmpNo X0.here hx rfl (hb hby d2_23) rfl (flt hc24).1 ?_
            show Steps p.tables e below (s₁.setTop (mkF m 26 #[.val (.int p1), .unset] [])) _
            refine XS.iloadN X0.here hx rfl (hb hby d2_26) rfl ?_
            show Steps p.tables e below (s₁.setTop (mkF m 27 #[.val (.int p1), .unset] [(.int p1)])) _
            refine XS.bipush X0.here hx rfl (hb hby d2_27) ?_
            exact kt
          by_cases hc33 : (70 : Int32) < p1
          · have R36 : ∀ t, Steps p.tables e below (s₁.setTop (mkF m 46 #[.val (.int p1), .unset] [(.int (97 : Int32)), (.int p1)])) t → Steps p.tables e below (s₁.setTop (entryFrame m #[(.int p1)] 2)) t := by
              intro t kt
              refine R34 _ ?_
              show Steps p.tables e below (s₁.setTop (mkF m 29 #[.val (.int p1), .unset] [(.int (70 : Int32)), (.int p1)])) _
              refine XS.icmpYes X0.here hx rfl (pc0 := 29) (pc' := 43) rfl (hb hby d2_29) rfl (tlt hc33).2.2.1 (by decide) (by decide) ?_
              show Steps p.tables e below (s₁.setTop (mkF m 43 #[.val (.int p1), .unset] [])) _
              refine XS.iloadN X0.here hx rfl (hb hby d2_43) rfl ?_
              show Steps p.tables e below (s₁.setTop (mkF m 44 #[.val (.int p1), .unset] [(.int p1)])) _
              refine XS.bipush X0.here hx rfl (hb hby d2_44) ?_
              exact kt
            by_cases hc35 : p1 < (97 : Int32)
            · have R37 : ∀ t, Steps p.tables e below (s₁.setTop (mkF m 68 #[.val (.int p1), .val (.int (-1 : Int32))] [])) t → Steps p.tables e below (s₁.setTop (entryFrame m #[(.int p1)] 2)) t := by
                intro t kt
                refine R36 _ ?_
                show Steps p.tables e below (s₁.setTop (mkF m 46 #[.val (.int p1), .unset] [(.int (97 : Int32)), (.int p1)])) _
                refine XS.icmpYes X0.here hx rfl (pc0 := 46) (pc' := 66) rfl (hb hby d2_46) rfl (tlt hc35).1 (by decide) (by decide) ?_
                show Steps p.tables e below (s₁.setTop (mkF m 66 #[.val (.int p1), .unset] [])) _
                refine XS.iconst X0.here hx rfl (hb hby d2_66) ?_
                show Steps p.tables e below (s₁.setTop (mkF m 67 #[.val (.int p1), .unset] [(.int (-1 : Int32))])) _
                refine XS.istoreN X0.here hx rfl (hb hby d2_67) rfl (l' := #[.val (.int p1), .val (.int (-1 : Int32))]) rfl ?_
                exact kt
              exact ⟨(-1 : Int32), (by rw [if_neg hc1, if_pos hc22, if_neg hc24, if_pos hc33, if_pos hc35]), R37⟩
            · have R39 : ∀ t, Steps p.tables e below (s₁.setTop (mkF m 52 #[.val (.int p1), .unset] [(.int (102 : Int32)), (.int p1)])) t → Steps p.tables e below (s₁.setTop (entryFrame m #[(.int p1)] 2)) t := by
                intro t kt
                refine R36 _ ?_
                show Steps p.tables e below (s₁.setTop (mkF m 46 #[.val (.int p1), .unset] [(.int (97 : Int32)), (.int p1)])) _
                refine XS.icmpNo X0.here hx rfl (hb hby d2_46) rfl (flt hc35).1 ?_
                show Steps p.tables e below (s₁.setTop (mkF m 49 #[.val (.int p1), .unset] [])) _
                refine XS.iloadN X0.here hx rfl (hb hby d2_49) rfl ?_
                show Steps p.tables e below (s₁.setTop (mkF m 50 #[.val (.int p1), .unset] [(.int p1)])) _
                refine XS.bipush X0.here hx rfl (hb hby d2_50) ?_
                exact kt
              by_cases hc38 : (102 : Int32) < p1
              · have R40 : ∀ t, Steps p.tables e below (s₁.setTop (mkF m 68 #[.val (.int p1), .val (.int (-1 : Int32))] [])) t → Steps p.tables e below (s₁.setTop (entryFrame m #[(.int p1)] 2)) t := by
                  intro t kt
                  refine R39 _ ?_
                  show Steps p.tables e below (s₁.setTop (mkF m 52 #[.val (.int p1), .unset] [(.int (102 : Int32)), (.int p1)])) _
                  refine XS.icmpYes X0.here hx rfl (pc0 := 52) (pc' := 66) rfl (hb hby d2_52) rfl (tlt hc38).2.2.1 (by decide) (by decide) ?_
                  show Steps p.tables e below (s₁.setTop (mkF m 66 #[.val (.int p1), .unset] [])) _
                  refine XS.iconst X0.here hx rfl (hb hby d2_66) ?_
                  show Steps p.tables e below (s₁.setTop (mkF m 67 #[.val (.int p1), .unset] [(.int (-1 : Int32))])) _
                  refine XS.istoreN X0.here hx rfl (hb hby d2_67) rfl (l' := #[.val (.int p1), .val (.int (-1 : Int32))]) rfl ?_
                  exact kt
                exact ⟨(-1 : Int32), (by rw [if_neg hc1, if_pos hc22, if_neg hc24, if_pos hc33, if_neg hc35, if_pos hc38]), R40⟩
              · have R41 : ∀ t, Steps p.tables e below (s₁.setTop (mkF m 68 #[.val (.int p1), .val (.int ((p1 - (97 : Int32)) + (10 : Int32)))] [])) t → Steps p.tables e below (s₁.setTop (entryFrame m #[(.int p1)] 2)) t := by
                  intro t kt
                  refine R39 _ ?_
                  show Steps p.tables e below (s₁.setTop (mkF m 52 #[.val (.int p1), .unset] [(.int (102 : Int32)), (.int p1)])) _
                  refine XS.icmpNo X0.here hx rfl (hb hby d2_52) rfl (flt hc38).2.2.1 ?_
                  show Steps p.tables e below (s₁.setTop (mkF m 55 #[.val (.int p1), .unset] [])) _
                  refine XS.iloadN X0.here hx rfl (hb hby d2_55) rfl ?_
                  show Steps p.tables e below (s₁.setTop (mkF m 56 #[.val (.int p1), .unset] [(.int p1)])) _
                  refine XS.bipush X0.here hx rfl (hb hby d2_56) ?_
                  show Steps p.tables e below (s₁.setTop (mkF m 58 #[.val (.int p1), .unset] [(.int (97 : Int32)), (.int p1)])) _
                  refine XS.isub X0.here hx rfl (hb hby d2_58) rfl ?_
                  show Steps p.tables e below (s₁.setTop (mkF m 59 #[.val (.int p1), .unset] [(.int (p1 - (97 : Int32)))])) _
                  refine XS.bipush X0.here hx rfl (hb hby d2_59) ?_
                  show Steps p.tables e below (s₁.setTop (mkF m 61 #[.val (.int p1), .unset] [(.int (10 : Int32)), (.int (p1 - (97 : Int32)))])) _
                  refine XS.iadd X0.here hx rfl (hb hby d2_61) rfl ?_
                  show Steps p.tables e below (s₁.setTop (mkF m 62 #[.val (.int p1), .unset] [(.int ((p1 - (97 : Int32)) + (10 : Int32)))])) _
                  refine XS.istoreN X0.here hx rfl (hb hby d2_62) rfl (l' := #[.val (.int p1), .val (.int ((p1 - (97 : Int32)) + (10 : Int32)))]) rfl ?_
                  show Steps p.tables e below (s₁.setTop (mkF m 63 #[.val (.int p1), .val (.int ((p1 - (97 : Int32)) + (10 : Int32)))] [])) _
                  refine XS.goto X0.here hx rfl (pc0 := 63) (pc' := 68) rfl (hb hby d2_63) (by decide) (by decide) ?_
                  exact kt
                exact ⟨((p1 - (97 : Int32)) + (10 : Int32)), (by rw [if_neg hc1, if_pos hc22, if_neg hc24, if_pos hc33, if_neg hc35, if_neg hc38]), R41⟩
          · have R42 : ∀ t, Steps p.tables e below (s₁.setTop (mkF m 68 #[.val (.int p1), .val (.int ((p1 - (65 : Int32)) + (10 : Int32)))] [])) t → Steps p.tables e below (s₁.setTop (entryFrame m #[(.int p1)] 2)) t := by
              intro t kt
              refine R34 _ ?_
              show Steps p.tables e below (s₁.setTop (mkF m 29 #[.val (.int p1), .unset] [(.int (70 : Int32)), (.int p1)])) _
              refine XS.icmpNo X0.here hx rfl (hb hby d2_29) rfl (flt hc33).2.2.1 ?_
              show Steps p.tables e below (s₁.setTop (mkF m 32 #[.val (.int p1), .unset] [])) _
              refine XS.iloadN X0.here hx rfl (hb hby d2_32) rfl ?_
              show Steps p.tables e below (s₁.setTop (mkF m 33 #[.val (.int p1), .unset] [(.int p1)])) _
              refine XS.bipush X0.here hx rfl (hb hby d2_33) ?_
              show Steps p.tables e below (s₁.setTop (mkF m 35 #[.val (.int p1), .unset] [(.int (65 : Int32)), (.int p1)])) _
              refine XS.isub X0.here hx rfl (hb hby d2_35) rfl ?_
              show Steps p.tables e below (s₁.setTop (mkF m 36 #[.val (.int p1), .unset] [(.int (p1 - (65 : Int32)))])) _
              refine XS.bipush X0.here hx rfl (hb hby d2_36) ?_
              show Steps p.tables e below (s₁.setTop (mkF m 38 #[.val (.int p1), .unset] [(.int (10 : Int32)), (.int (p1 - (65 : Int32)))])) _
              refine XS.iadd X0.here hx rfl (hb hby d2_38) rfl ?_
              show Steps p.tables e below (s₁.setTop (mkF m 39 #[.val (.int p1), .unset] [(.int ((p1 - (65 : Int32)) + (10 : Int32)))])) _
              refine XS.istoreN X0.here hx rfl (hb hby d2_39) rfl (l' := #[.val (.int p1), .val (.int ((p1 - (65 : Int32)) + (10 : Int32)))]) rfl ?_
              show Steps p.tables e below (s₁.setTop (mkF m 40 #[.val (.int p1), .val (.int ((p1 - (65 : Int32)) + (10 : Int32)))] [])) _
              refine XS.goto X0.here hx rfl (pc0 := 40) (pc' := 68) rfl (hb hby d2_40) (by decide) (by decide) ?_
              exact kt
            exact ⟨((p1 - (65 : Int32)) + (10 : Int32)), (by rw [if_neg hc1, if_pos hc22, if_neg hc24, if_neg hc33]), R42⟩
      · have R43 : ∀ t, Steps p.tables e below (s₁.setTop (mkF m 68 #[.val (.int p1), .val (.int (p1 - (48 : Int32)))] [])) t → Steps p.tables e below (s₁.setTop (entryFrame m #[(.int p1)] 2)) t := by
          intro t kt
          refine R23 _ ?_
          show Steps p.tables e below (s₁.setTop (mkF m 9 #[.val (.int p1), .unset] [(.int (57 : Int32)), (.int p1)])) _
          refine XS.icmpNo X0.here hx rfl (hb hby d2_9) rfl (flt hc22).2.2.1 ?_
          show Steps p.tables e below (s₁.setTop (mkF m 12 #[.val (.int p1), .unset] [])) _
          refine XS.iloadN X0.here hx rfl (hb hby d2_12) rfl ?_
          show Steps p.tables e below (s₁.setTop (mkF m 13 #[.val (.int p1), .unset] [(.int p1)])) _
          refine XS.bipush X0.here hx rfl (hb hby d2_13) ?_
          show Steps p.tables e below (s₁.setTop (mkF m 15 #[.val (.int p1), .unset] [(.int (48 : Int32)), (.int p1)])) _
          refine XS.isub X0.here hx rfl (hb hby d2_15) rfl ?_
          show Steps p.tables e below (s₁.setTop (mkF m 16 #[.val (.int p1), .unset] [(.int (p1 - (48 : Int32)))])) _
          refine XS.istoreN X0.here hx rfl (hb hby d2_16) rfl (l' := #[.val (.int p1), .val (.int (p1 - (48 : Int32)))]) rfl ?_
          show Steps p.tables e below (s₁.setTop (mkF m 17 #[.val (.int p1), .val (.int (p1 - (48 : Int32)))] [])) _
          refine XS.goto X0.here hx rfl (pc0 := 17) (pc' := 68) rfl (hb hby d2_17) (by decide) (by decide) ?_
          exact kt
        exact ⟨(p1 - (48 : Int32)), (by rw [if_neg hc1, if_neg hc22]), R43⟩
  obtain ⟨v44, hv44, R45⟩ := J46
  have R47 : ∀ t, Steps p.tables e below (s₁.setTop (mkF m 69 #[.val (.int p1), .val (.int v44)] [(.int v44)])) t → Steps p.tables e below (s₁.setTop (entryFrame m #[(.int p1)] 2)) t := by
    intro t kt
    refine R45 _ ?_
    show Steps p.tables e below (s₁.setTop (mkF m 68 #[.val (.int p1), .val (.int v44)] [])) _
    refine XS.iloadN X0.here hx rfl (hb hby d2_68) rfl ?_
    exact kt
  obtain ⟨fs, hr, hrun, hended, hW, hsame⟩ := X0.leave (v := some (.int v44)) (fun h => by rw [Bd.returns] at h; cases h)
  refine ⟨_, _, R47 _ ?_, hrun, hended, _, _, rfl, ?_, ⟨_, rfl⟩, hW, hsame.mono (by decide) (by decide)⟩
  · show Steps p.tables e below (s₁.setTop (mkF m 69 #[.val (.int p1), .val (.int v44)] [(.int v44)])) _
    exact retI X0 hx Bd.returns (hb hby d2_69) hr
  · show Q2 Z p1 h0 n0 _ s₁.heap _
    rw [e0]
    refine ⟨?_, rfl, rfl⟩
    subst hv44; rfl
theorem d3_0 : decode method_3_code 0 = .ok (.iload_n 0, 1) := by decide +kernel
theorem d3_1 : decode method_3_code 1 = .ok (.bipush 10, 2) := by decide +kernel
theorem d3_3 : decode method_3_code 3 = .ok (.if_icmp .ge 11, 3) := by decide +kernel
theorem d3_6 : decode method_3_code 6 = .ok (.bipush 48, 2) := by decide +kernel
theorem d3_8 : decode method_3_code 8 = .ok (.iload_n 0, 1) := by decide +kernel
theorem d3_9 : decode method_3_code 9 = .ok (.iadd, 1) := by decide +kernel
theorem d3_10 : decode method_3_code 10 = .ok (.i2c, 1) := by decide +kernel
theorem d3_11 : decode method_3_code 11 = .ok (.goto 11, 3) := by decide +kernel
theorem d3_14 : decode method_3_code 14 = .ok (.bipush 97, 2) := by decide +kernel
theorem d3_16 : decode method_3_code 16 = .ok (.iload_n 0, 1) := by decide +kernel
theorem d3_17 : decode method_3_code 17 = .ok (.iadd, 1) := by decide +kernel
theorem d3_18 : decode method_3_code 18 = .ok (.bipush 10, 2) := by decide +kernel
theorem d3_20 : decode method_3_code 20 = .ok (.isub, 1) := by decide +kernel
theorem d3_21 : decode method_3_code 21 = .ok (.i2c, 1) := by decide +kernel
theorem d3_22 : decode method_3_code 22 = .ok (.ireturn, 1) := by decide +kernel
theorem pn_3 : plainName "com/example/notary_stamp/notarystamp/http/PercentEncodingHexDigitPinLaw" = true := by first | (simp [plainName, overriddenIn]; done) | decide +kernel
theorem ef_3 (m : MethodId) (x0 : Int32) : entryFrame m #[(.int x0)] 1 = mkF m 0 #[.val (.int x0)] [] := by first | (simp [entryFrame, mkF, argsToLocals, Value.category]; done) | rfl
def F3 (p1 : Int32) : Int32 :=
  let v5 : Int32 := (if p1 < (10 : Int32) then (((48 : Int32) + p1).toUInt32.toUInt16.toUInt32.toInt32) else ((((97 : Int32) + p1) - (10 : Int32)).toUInt32.toUInt16.toUInt32.toInt32))
  (nar .char v5)
def Q3 (Z : State) (p1 : Int32) (h0 : Heap) (n0 : Nat) (v : Option Value) (h : Heap) (L : List Loc) : Prop := v = some (.int (F3 p1)) ∧ L = [] ∧ h = h0
set_option maxRecDepth 65536 in
set_option maxHeartbeats 40000000 in
theorem rm3 (l : Launch) (Z : State) (a0 : Array Value) (hw : ∀ d ∈ tables_1, d.before a0 Z = true) (ws : List Jvm.Cond) (p1 : Int32) (h0 : Heap) (n0 : Nat) (Z0 : n0 ≤ h0.size) :
    MetFree l (⟨"com/example/notary_stamp/notarystamp/http/PercentEncodingHexDigitPinLaw", "lowerDigit", "(I)C"⟩ : MethodName) (head1 (Jvm.Cond.code (⟨"com/example/notary_stamp/notarystamp/http/PercentEncodingHexDigitPinLaw", "lowerDigit", "(I)C"⟩ : MethodName) method_3_code 1 (some .char) :: ws) ({ frames := 0, cells := 0, slots := 0, locals := 0 } : Room)) (fun a U => a = #[(.int p1)] ∧ Z.Warmed39 U.vm ∧ U.heap = h0) (fun _ _ _ _ _ => True) (fun _ U o U' => ∃ v L, o = .returned v ∧ Q3 Z p1 h0 n0 v U'.heap L ∧ FrameEnd U o U' L ({ frames := 0, cells := 0, slots := 0, locals := 0 } : Room).cells ({ frames := 0, cells := 0, slots := 0, locals := 0 } : Room).slots) := by
  refine MetFree.of_bodySF (plainFor_of_name pn_3) hisR ?_
  intro p e s m args below meth c s₁ Bd hml0 hP hK
  obtain ⟨rfl, hZ, hh⟩ := hP
  have hx := Bd.exec
  have hby := Bd.bytes
  have hml : c.maxLocals = 1 := hml0
  have hown : s.vm.findClass "com/example/notary_stamp/notarystamp/http/PercentEncodingHexDigitPinLaw" = some m.cls := findClass_of_methodNamed Bd.named
  have hnm := (name_of_methodNamed Bd.named Bd.method).1
  have X0 : Stand p l e ({ frames := 0, cells := 0, slots := 0, locals := 0 } : Room) s m #[(.int p1)] below meth c s₁ [] 0 0 := Stand.of_body Bd
  have e0 : s₁.heap = h0 := by rw [← hh, Bd.state]; rfl
  have N0 := Fr.nil n0
  have pre0 : ∀ t, Steps p.tables e below (s₁.setTop (mkF m 0 #[.val (.int p1)] [])) t → Steps p.tables e below (s₁.setTop (entryFrame m #[(.int p1)] 1)) t := fun t k => castTop (ef_3 m p1) k
  have R2 : ∀ t, Steps p.tables e below (s₁.setTop (mkF m 3 #[.val (.int p1)] [(.int (10 : Int32)), (.int p1)])) t → Steps p.tables e below (s₁.setTop (entryFrame m #[(.int p1)] 1)) t := by
    intro t kt
    refine pre0 _ ?_
    show Steps p.tables e below (s₁.setTop (mkF m 0 #[.val (.int p1)] [])) _
    refine XS.iloadN X0.here hx rfl (hb hby d3_0) rfl ?_
    show Steps p.tables e below (s₁.setTop (mkF m 1 #[.val (.int p1)] [(.int p1)])) _
    refine XS.bipush X0.here hx rfl (hb hby d3_1) ?_
    exact kt
  have J7 : ∃ (v5 : Int32), v5 = (if p1 < (10 : Int32) then (((48 : Int32) + p1).toUInt32.toUInt16.toUInt32.toInt32) else ((((97 : Int32) + p1) - (10 : Int32)).toUInt32.toUInt16.toUInt32.toInt32)) ∧ ∀ t, Steps p.tables e below (s₁.setTop (mkF m 22 #[.val (.int p1)] [(.int v5)])) t → Steps p.tables e below (s₁.setTop (entryFrame m #[(.int p1)] 1)) t := by
    by_cases hc1 : p1 < (10 : Int32)
    · have R3 : ∀ t, Steps p.tables e below (s₁.setTop (mkF m 22 #[.val (.int p1)] [(.int (((48 : Int32) + p1).toUInt32.toUInt16.toUInt32.toInt32))])) t → Steps p.tables e below (s₁.setTop (entryFrame m #[(.int p1)] 1)) t := by
        intro t kt
        refine R2 _ ?_
        show Steps p.tables e below (s₁.setTop (mkF m 3 #[.val (.int p1)] [(.int (10 : Int32)), (.int p1)])) _
        refine XS.icmpNo X0.here hx rfl (hb hby d3_3) rfl (tlt hc1).2.1 ?_
        show Steps p.tables e below (s₁.setTop (mkF m 6 #[.val (.int p1)] [])) _
        refine XS.bipush X0.here hx rfl (hb hby d3_6) ?_
        show Steps p.tables e below (s₁.setTop (mkF m 8 #[.val (.int p1)] [(.int (48 : Int32))])) _
        refine XS.iloadN X0.here hx rfl (hb hby d3_8) rfl ?_
        show Steps p.tables e below (s₁.setTop (mkF m 9 #[.val (.int p1)] [(.int p1), (.int (48 : Int32))])) _
        refine XS.iadd X0.here hx rfl (hb hby d3_9) rfl ?_
        show Steps p.tables e below (s₁.setTop (mkF m 10 #[.val (.int p1)] [(.int ((48 : Int32) + p1))])) _
        refine XS.i2c X0.here hx rfl (hb hby d3_10) rfl ?_
        show Steps p.tables e below (s₁.setTop (mkF m 11 #[.val (.int p1)] [(.int (((48 : Int32) + p1).toUInt32.toUInt16.toUInt32.toInt32))])) _
        refine XS.goto X0.here hx rfl (pc0 := 11) (pc' := 22) rfl (hb hby d3_11) (by decide) (by decide) ?_
        exact kt
      exact ⟨(((48 : Int32) + p1).toUInt32.toUInt16.toUInt32.toInt32), (by rw [if_pos hc1]), R3⟩
    · have R4 : ∀ t, Steps p.tables e below (s₁.setTop (mkF m 22 #[.val (.int p1)] [(.int ((((97 : Int32) + p1) - (10 : Int32)).toUInt32.toUInt16.toUInt32.toInt32))])) t → Steps p.tables e below (s₁.setTop (entryFrame m #[(.int p1)] 1)) t := by
        intro t kt
        refine R2 _ ?_
        show Steps p.tables e below (s₁.setTop (mkF m 3 #[.val (.int p1)] [(.int (10 : Int32)), (.int p1)])) _
        refine XS.icmpYes X0.here hx rfl (pc0 := 3) (pc' := 14) rfl (hb hby d3_3) rfl (flt hc1).2.1 (by decide) (by decide) ?_
        show Steps p.tables e below (s₁.setTop (mkF m 14 #[.val (.int p1)] [])) _
        refine XS.bipush X0.here hx rfl (hb hby d3_14) ?_
        show Steps p.tables e below (s₁.setTop (mkF m 16 #[.val (.int p1)] [(.int (97 : Int32))])) _
        refine XS.iloadN X0.here hx rfl (hb hby d3_16) rfl ?_
        show Steps p.tables e below (s₁.setTop (mkF m 17 #[.val (.int p1)] [(.int p1), (.int (97 : Int32))])) _
        refine XS.iadd X0.here hx rfl (hb hby d3_17) rfl ?_
        show Steps p.tables e below (s₁.setTop (mkF m 18 #[.val (.int p1)] [(.int ((97 : Int32) + p1))])) _
        refine XS.bipush X0.here hx rfl (hb hby d3_18) ?_
        show Steps p.tables e below (s₁.setTop (mkF m 20 #[.val (.int p1)] [(.int (10 : Int32)), (.int ((97 : Int32) + p1))])) _
        refine XS.isub X0.here hx rfl (hb hby d3_20) rfl ?_
        show Steps p.tables e below (s₁.setTop (mkF m 21 #[.val (.int p1)] [(.int (((97 : Int32) + p1) - (10 : Int32)))])) _
        refine XS.i2c X0.here hx rfl (hb hby d3_21) rfl ?_
        exact kt
      exact ⟨((((97 : Int32) + p1) - (10 : Int32)).toUInt32.toUInt16.toUInt32.toInt32), (by rw [if_neg hc1]), R4⟩
  obtain ⟨v5, hv5, R6⟩ := J7
  obtain ⟨fs, hr, hrun, hended, hW, hsame⟩ := X0.leave (v := some (.int (nar .char v5))) (fun h => by rw [Bd.returns] at h; cases h)
  refine ⟨_, _, R6 _ ?_, hrun, hended, _, _, rfl, ?_, ⟨_, rfl⟩, hW, hsame.mono (by decide) (by decide)⟩
  · show Steps p.tables e below (s₁.setTop (mkF m 22 #[.val (.int p1)] [(.int v5)])) _
    exact retN X0 hx (t := .char) Bd.returns (by simp) (hb hby d3_22) hr
  · show Q3 Z p1 h0 n0 _ s₁.heap _
    rw [e0]
    refine ⟨?_, rfl, rfl⟩
    subst hv5; rfl
theorem pn_0 : plainName "com/example/notary_stamp/notarystamp/http/PercentEncodingHexDigitPinLaw" = true := by first | (simp [plainName, overriddenIn]; done) | decide +kernel
theorem pd_0_1 : parseMethodDescriptor "(I)C" = some ⟨[.int], some .char⟩ := by decide +kernel
theorem pd_0_2 : parseMethodDescriptor "(C)I" = some ⟨[.char], some .int⟩ := by decide +kernel
theorem pd_0_3 : parseMethodDescriptor "(I)C" = some ⟨[.int], some .char⟩ := by decide +kernel
theorem ef_0 (m : MethodId) (x0 : Int32) (x1 : Int32) : entryFrame m #[(.int x0), (.int x1)] maxLocals = mkF m 0 #[.val (.int x0), .val (.int x1), .unset, .unset, .unset, .unset, .unset] [] := by first | (simp [entryFrame, mkF, argsToLocals, Value.category, maxLocals]; done) | rfl
def F0 (p1 : Int32) (p2 : Int32) : Int32 :=
  let v12 : Int32 := (if (F2 (F1 (p2 &&& (15 : Int32)))) = (p2 &&& (15 : Int32)) then (if (F2 (F3 (p2 &&& (15 : Int32)))) = (p2 &&& (15 : Int32)) then (1 : Int32) else (0 : Int32)) else (0 : Int32))
  let v55 : Int32 := (if (F2 (p1.toUInt32.toUInt16.toUInt32.toInt32)) < (0 : Int32) then (let v25 : Int32 := (if (F2 (p1.toUInt32.toUInt16.toUInt32.toInt32)) = (-1 : Int32) then (1 : Int32) else (0 : Int32)); v25) else (if (F2 (p1.toUInt32.toUInt16.toUInt32.toInt32)) < (16 : Int32) then (let v40 : Int32 := (if (p1.toUInt32.toUInt16.toUInt32.toInt32) = (F1 (F2 (p1.toUInt32.toUInt16.toUInt32.toInt32))) then (1 : Int32) else (if (p1.toUInt32.toUInt16.toUInt32.toInt32) = (F3 (F2 (p1.toUInt32.toUInt16.toUInt32.toInt32))) then (1 : Int32) else (0 : Int32))); v40) else (let v51 : Int32 := (if (F2 (p1.toUInt32.toUInt16.toUInt32.toInt32)) = (-1 : Int32) then (1 : Int32) else (0 : Int32)); v51)))
  let v68 : Int32 := (if v12 = (0 : Int32) then (0 : Int32) else (if v55 = (0 : Int32) then (0 : Int32) else (1 : Int32)))
  (nar .boolean v68)
def Q0 (Z : State) (p1 : Int32) (p2 : Int32) (h0 : Heap) (n0 : Nat) (v : Option Value) (h : Heap) (L : List Loc) : Prop := v = some (.int (F0 p1 p2)) ∧ L = [] ∧ h = h0
set_option maxRecDepth 65536 in
set_option maxHeartbeats 40000000 in
theorem rm0 (l : Launch) (Z : State) (a0 : Array Value) (hw : ∀ d ∈ tables_1, d.before a0 Z = true) (ws : List Jvm.Cond) (p1 : Int32) (p2 : Int32) (h0 : Heap) (n0 : Nat) (Z0 : n0 ≤ h0.size) :
    MetFree l x (head1 (Jvm.Cond.code x code maxLocals ret :: ws) room_1) (fun a U => a = #[(.int p1), (.int p2)] ∧ Z.Warmed39 U.vm ∧ U.heap = h0) (fun _ _ _ _ _ => True) (fun _ U o U' => ∃ v L, o = .returned v ∧ Q0 Z p1 p2 h0 n0 v U'.heap L ∧ FrameEnd U o U' L room_1.cells room_1.slots) := by
  refine MetFree.of_bodySF (plainFor_of_name pn_0) hisR ?_
  intro p e s m args below meth c s₁ Bd hml0 hP hK
  obtain ⟨rfl, hZ, hh⟩ := hP
  have hx := Bd.exec
  have hby := Bd.bytes
  have hml : c.maxLocals = 7 := hml0
  have hown : s.vm.findClass "com/example/notary_stamp/notarystamp/http/PercentEncodingHexDigitPinLaw" = some m.cls := findClass_of_methodNamed Bd.named
  have hnm := (name_of_methodNamed Bd.named Bd.method).1
  have X0 : Stand p l e room_1 s m #[(.int p1), (.int p2)] below meth c s₁ [] 0 0 := Stand.of_body Bd
  have e0 : s₁.heap = h0 := by rw [← hh, Bd.state]; rfl
  have N0 := Fr.nil n0
  have pre0 : ∀ t, Steps p.tables e below (s₁.setTop (mkF m 0 #[.val (.int p1), .val (.int p2), .unset, .unset, .unset, .unset, .unset] [])) t → Steps p.tables e below (s₁.setTop (entryFrame m #[(.int p1), (.int p2)] maxLocals)) t := fun t k => castTop (ef_0 m p1 p2) k
  obtain ⟨_, _, ⟨T1, L1, k1, n1⟩, -, X1, ⟨Lc1, hQ1, l1, y1, z1⟩, st1⟩ := Jvm.LawKit.callS X0 hx (y := (⟨"com/example/notary_stamp/notarystamp/http/PercentEncodingHexDigitPinLaw", "upperDigit", "(I)C"⟩ : MethodName)) hown (mvT hZ (hw _ (List.mem_of_getElem? (i := 0) rfl))) (mvT hZ (hw _ (List.mem_of_getElem? (i := 1) rfl))) (mvT hZ (hw _ (List.mem_of_getElem? (i := 2) rfl))) (mvT hZ (hw _ (List.mem_of_getElem? (i := 3) rfl))) (by decide) (backOf (W := 0) (rm1 l Z a0 hw [] (p2 &&& (15 : Int32)) h0 n0 Z0) hZ (hw _ (List.mem_of_getElem? (i := 3) rfl)) (hw _ (List.mem_of_getElem? (i := 2) rfl)) (by decide) (by decide)) (g := (mkF m 6 #[.val (.int p1), .val (.int p2), .val (.int (p2 &&& (15 : Int32))), .unset, .unset, .unset, .unset] [(.int (p2 &&& (15 : Int32)))])) rfl (by rw [hml]; rfl) (argsL := [(.int (p2 &&& (15 : Int32)))]) (rest := []) (lenOf pd_0_1 rfl) rfl (by show 2 * 0 + _ ≤ _; exact Nat.le_of_eq rfl) (hb hby at_6) (fun _ _ => ⟨rfl, e0, (by decide : 0 + 0 ≤ _), (by decide : 0 + 0 ≤ _)⟩)
  dsimp only [Pt.U, Pt.locs, Pt.cells, Pt.slots] at X1 l1 y1 z1 st1 hQ1
  subst l1 y1 z1
  obtain ⟨rfl, rfl, e1⟩ := hQ1
  replace X1 : Stand p l e room_1 s m #[(.int p1), (.int p2)] below meth c T1 [] 0 0 := X1
  obtain ⟨_, _, ⟨T2, L2, k2, n2⟩, -, X2, ⟨Lc2, hQ2, l2, y2, z2⟩, st2⟩ := Jvm.LawKit.callS X1 hx (y := (⟨"com/example/notary_stamp/notarystamp/http/PercentEncoding", "hexDigit", "(C)I"⟩ : MethodName)) hown (mvT hZ (hw _ (List.mem_of_getElem? (i := 4) rfl))) (mvT hZ (hw _ (List.mem_of_getElem? (i := 5) rfl))) (mvT hZ (hw _ (List.mem_of_getElem? (i := 6) rfl))) (mvT hZ (hw _ (List.mem_of_getElem? (i := 7) rfl))) (by decide) (backOf (W := 0) (rm2 l Z a0 hw [] (F1 (p2 &&& (15 : Int32))) h0 n0 Z0) hZ (hw _ (List.mem_of_getElem? (i := 7) rfl)) (hw _ (List.mem_of_getElem? (i := 6) rfl)) (by decide) (by decide)) (g := (mkF m 9 #[.val (.int p1), .val (.int p2), .val (.int (p2 &&& (15 : Int32))), .unset, .unset, .unset, .unset] [(.int (F1 (p2 &&& (15 : Int32))))])) rfl (by rw [hml]; rfl) (argsL := [(.int (F1 (p2 &&& (15 : Int32))))]) (rest := []) (lenOf pd_0_2 rfl) rfl (by show 2 * 0 + _ ≤ _; exact Nat.le_of_eq rfl) (hb hby at_9) (fun _ _ => ⟨rfl, e1, (by decide : 0 + 0 ≤ _), (by decide : 0 + 0 ≤ _)⟩)
  dsimp only [Pt.U, Pt.locs, Pt.cells, Pt.slots] at X2 l2 y2 z2 st2 hQ2
  subst l2 y2 z2
  obtain ⟨rfl, rfl, e2⟩ := hQ2
  replace X2 : Stand p l e room_1 s m #[(.int p1), (.int p2)] below meth c T2 [] 0 0 := X2
  have R4 : ∀ t, Steps p.tables e below (T2.setTop (mkF m 13 #[.val (.int p1), .val (.int p2), .val (.int (p2 &&& (15 : Int32))), .unset, .unset, .unset, .unset] [(.int (p2 &&& (15 : Int32))), (.int (F2 (F1 (p2 &&& (15 : Int32)))))])) t → Steps p.tables e below (s₁.setTop (entryFrame m #[(.int p1), (.int p2)] maxLocals)) t := by
    intro t kt
    refine pre0 _ ?_
    show Steps p.tables e below (s₁.setTop (mkF m 0 #[.val (.int p1), .val (.int p2), .unset, .unset, .unset, .unset, .unset] [])) _
    refine XS.iloadN X0.here hx rfl (hb hby at_0) rfl ?_
    show Steps p.tables e below (s₁.setTop (mkF m 1 #[.val (.int p1), .val (.int p2), .unset, .unset, .unset, .unset, .unset] [(.int p2)])) _
    refine XS.bipush X0.here hx rfl (hb hby at_1) ?_
    show Steps p.tables e below (s₁.setTop (mkF m 3 #[.val (.int p1), .val (.int p2), .unset, .unset, .unset, .unset, .unset] [(.int (15 : Int32)), (.int p2)])) _
    refine XS.iand X0.here hx rfl (hb hby at_3) rfl ?_
    show Steps p.tables e below (s₁.setTop (mkF m 4 #[.val (.int p1), .val (.int p2), .unset, .unset, .unset, .unset, .unset] [(.int (p2 &&& (15 : Int32)))])) _
    refine XS.istoreN X0.here hx rfl (hb hby at_4) rfl (l' := #[.val (.int p1), .val (.int p2), .val (.int (p2 &&& (15 : Int32))), .unset, .unset, .unset, .unset]) rfl ?_
    show Steps p.tables e below (s₁.setTop (mkF m 5 #[.val (.int p1), .val (.int p2), .val (.int (p2 &&& (15 : Int32))), .unset, .unset, .unset, .unset] [])) _
    refine XS.iloadN X0.here hx rfl (hb hby at_5) rfl ?_
    show Steps p.tables e below (s₁.setTop (mkF m 6 #[.val (.int p1), .val (.int p2), .val (.int (p2 &&& (15 : Int32))), .unset, .unset, .unset, .unset] [(.int (p2 &&& (15 : Int32)))])) _
    refine st1 _ ?_
    show Steps p.tables e below (T1.setTop (mkF m 9 #[.val (.int p1), .val (.int p2), .val (.int (p2 &&& (15 : Int32))), .unset, .unset, .unset, .unset] [(.int (F1 (p2 &&& (15 : Int32))))])) _
    refine st2 _ ?_
    show Steps p.tables e below (T2.setTop (mkF m 12 #[.val (.int p1), .val (.int p2), .val (.int (p2 &&& (15 : Int32))), .unset, .unset, .unset, .unset] [(.int (F2 (F1 (p2 &&& (15 : Int32)))))])) _
    refine XS.iloadN X2.here hx rfl (hb hby at_12) rfl ?_
    exact kt
  have J14 : ∃ (T' : State) (v12 : Int32), Stand p l e room_1 s m #[(.int p1), (.int p2)] below meth c T' [] 0 0 ∧ T'.heap = h0 ∧ v12 = (if (F2 (F1 (p2 &&& (15 : Int32)))) = (p2 &&& (15 : Int32)) then (if (F2 (F3 (p2 &&& (15 : Int32)))) = (p2 &&& (15 : Int32)) then (1 : Int32) else (0 : Int32)) else (0 : Int32)) ∧ ∀ t, Steps p.tables e below (T'.setTop (mkF m 32 #[.val (.int p1), .val (.int p2), .val (.int (p2 &&& (15 : Int32))), .unset, .unset, .unset, .unset] [(.int v12)])) t → Steps p.tables e below (s₁.setTop (entryFrame m #[(.int p1), (.int p2)] maxLocals)) t := by
    by_cases hc3 : (F2 (F1 (p2 &&& (15 : Int32)))) = (p2 &&& (15 : Int32))
    · obtain ⟨_, _, ⟨T5, L5, k5, n5⟩, -, X5, ⟨Lc5, hQ5, l5, y5, z5⟩, st5⟩ := Jvm.LawKit.callS X2 hx (y := (⟨"com/example/notary_stamp/notarystamp/http/PercentEncodingHexDigitPinLaw", "lowerDigit", "(I)C"⟩ : MethodName)) hown (mvT hZ (hw _ (List.mem_of_getElem? (i := 8) rfl))) (mvT hZ (hw _ (List.mem_of_getElem? (i := 9) rfl))) (mvT hZ (hw _ (List.mem_of_getElem? (i := 2) rfl))) (mvT hZ (hw _ (List.mem_of_getElem? (i := 10) rfl))) (by decide) (backOf (W := 0) (rm3 l Z a0 hw [] (p2 &&& (15 : Int32)) h0 n0 Z0) hZ (hw _ (List.mem_of_getElem? (i := 10) rfl)) (hw _ (List.mem_of_getElem? (i := 2) rfl)) (by decide) (by decide)) (g := (mkF m 17 #[.val (.int p1), .val (.int p2), .val (.int (p2 &&& (15 : Int32))), .unset, .unset, .unset, .unset] [(.int (p2 &&& (15 : Int32)))])) rfl (by rw [hml]; rfl) (argsL := [(.int (p2 &&& (15 : Int32)))]) (rest := []) (lenOf pd_0_3 rfl) rfl (by show 2 * 0 + _ ≤ _; exact Nat.le_of_eq rfl) (hb hby at_17) (fun _ _ => ⟨rfl, e2, (by decide : 0 + 0 ≤ _), (by decide : 0 + 0 ≤ _)⟩)
      dsimp only [Pt.U, Pt.locs, Pt.cells, Pt.slots] at X5 l5 y5 z5 st5 hQ5
      subst l5 y5 z5
      obtain ⟨rfl, rfl, e5⟩ := hQ5
      replace X5 : Stand p l e room_1 s m #[(.int p1), (.int p2)] below meth c T5 [] 0 0 := X5
      obtain ⟨_, _, ⟨T6, L6, k6, n6⟩, -, X6, ⟨Lc6, hQ6, l6, y6, z6⟩, st6⟩ := Jvm.LawKit.callS X5 hx (y := (⟨"com/example/notary_stamp/notarystamp/http/PercentEncoding", "hexDigit", "(C)I"⟩ : MethodName)) hown (mvT hZ (hw _ (List.mem_of_getElem? (i := 4) rfl))) (mvT hZ (hw _ (List.mem_of_getElem? (i := 5) rfl))) (mvT hZ (hw _ (List.mem_of_getElem? (i := 6) rfl))) (mvT hZ (hw _ (List.mem_of_getElem? (i := 7) rfl))) (by decide) (backOf (W := 0) (rm2 l Z a0 hw [] (F3 (p2 &&& (15 : Int32))) h0 n0 Z0) hZ (hw _ (List.mem_of_getElem? (i := 7) rfl)) (hw _ (List.mem_of_getElem? (i := 6) rfl)) (by decide) (by decide)) (g := (mkF m 20 #[.val (.int p1), .val (.int p2), .val (.int (p2 &&& (15 : Int32))), .unset, .unset, .unset, .unset] [(.int (F3 (p2 &&& (15 : Int32))))])) rfl (by rw [hml]; rfl) (argsL := [(.int (F3 (p2 &&& (15 : Int32))))]) (rest := []) (lenOf pd_0_2 rfl) rfl (by show 2 * 0 + _ ≤ _; exact Nat.le_of_eq rfl) (hb hby at_20) (fun _ _ => ⟨rfl, e5, (by decide : 0 + 0 ≤ _), (by decide : 0 + 0 ≤ _)⟩)
      dsimp only [Pt.U, Pt.locs, Pt.cells, Pt.slots] at X6 l6 y6 z6 st6 hQ6
      subst l6 y6 z6
      obtain ⟨rfl, rfl, e6⟩ := hQ6
      replace X6 : Stand p l e room_1 s m #[(.int p1), (.int p2)] below meth c T6 [] 0 0 := X6
      have R8 : ∀ t, Steps p.tables e below (T6.setTop (mkF m 24 #[.val (.int p1), .val (.int p2), .val (.int (p2 &&& (15 : Int32))), .unset, .unset, .unset, .unset] [(.int (p2 &&& (15 : Int32))), (.int (F2 (F3 (p2 &&& (15 : Int32)))))])) t → Steps p.tables e below (s₁.setTop (entryFrame m #[(.int p1), (.int p2)] maxLocals)) t := by
        intro t kt
        refine R4 _ ?_
        show Steps p.tables e below (T2.setTop (mkF m 13 #[.val (.int p1), .val (.int p2), .val (.int (p2 &&& (15 : Int32))), .unset, .unset, .unset, .unset] [(.int (p2 &&& (15 : Int32))), (.int (F2 (F1 (p2 &&& (15 : Int32)))))])) _
        refine XS.icmpNo X2.here hx rfl (hb hby at_13) rfl (teq hc3).2 ?_
        show Steps p.tables e below (T2.setTop (mkF m 16 #[.val (.int p1), .val (.int p2), .val (.int (p2 &&& (15 : Int32))), .unset, .unset, .unset, .unset] [])) _
        refine XS.iloadN X2.here hx rfl (hb hby at_16) rfl ?_
        show Steps p.tables e below (T2.setTop (mkF m 17 #[.val (.int p1), .val (.int p2), .val (.int (p2 &&& (15 : Int32))), .unset, .unset, .unset, .unset] [(.int (p2 &&& (15 : Int32)))])) _
        refine st5 _ ?_
        show Steps p.tables e below (T5.setTop (mkF m 20 #[.val (.int p1), .val (.int p2), .val (.int (p2 &&& (15 : Int32))), .unset, .unset, .unset, .unset] [(.int (F3 (p2 &&& (15 : Int32))))])) _
        refine st6 _ ?_
        show Steps p.tables e below (T6.setTop (mkF m 23 #[.val (.int p1), .val (.int p2), .val (.int (p2 &&& (15 : Int32))), .unset, .unset, .unset, .unset] [(.int (F2 (F3 (p2 &&& (15 : Int32)))))])) _
        refine XS.iloadN X6.here hx rfl (hb hby at_23) rfl ?_
        exact kt
      by_cases hc7 : (F2 (F3 (p2 &&& (15 : Int32)))) = (p2 &&& (15 : Int32))
      · have R9 : ∀ t, Steps p.tables e below (T6.setTop (mkF m 32 #[.val (.int p1), .val (.int p2), .val (.int (p2 &&& (15 : Int32))), .unset, .unset, .unset, .unset] [(.int (1 : Int32))])) t → Steps p.tables e below (s₁.setTop (entryFrame m #[(.int p1), (.int p2)] maxLocals)) t := by
          intro t kt
          refine R8 _ ?_
          show Steps p.tables e below (T6.setTop (mkF m 24 #[.val (.int p1), .val (.int p2), .val (.int (p2 &&& (15 : Int32))), .unset, .unset, .unset, .unset] [(.int (p2 &&& (15 : Int32))), (.int (F2 (F3 (p2 &&& (15 : Int32)))))])) _
          refine XS.icmpNo X6.here hx rfl (hb hby at_24) rfl (teq hc7).2 ?_
          show Steps p.tables e below (T6.setTop (mkF m 27 #[.val (.int p1), .val (.int p2), .val (.int (p2 &&& (15 : Int32))), .unset, .unset, .unset, .unset] [])) _
          refine XS.iconst X6.here hx rfl (hb hby at_27) ?_
          show Steps p.tables e below (T6.setTop (mkF m 28 #[.val (.int p1), .val (.int p2), .val (.int (p2 &&& (15 : Int32))), .unset, .unset, .unset, .unset] [(.int (1 : Int32))])) _
          refine XS.goto X6.here hx rfl (pc0 := 28) (pc' := 32) rfl (hb hby at_28) (by decide) (by decide) ?_
          exact kt
        exact ⟨T6, (1 : Int32), X6, e6, (by rw [if_pos hc3, if_pos hc7]), R9⟩
      · have R10 : ∀ t, Steps p.tables e below (T6.setTop (mkF m 32 #[.val (.int p1), .val (.int p2), .val (.int (p2 &&& (15 : Int32))), .unset, .unset, .unset, .unset] [(.int (0 : Int32))])) t → Steps p.tables e below (s₁.setTop (entryFrame m #[(.int p1), (.int p2)] maxLocals)) t := by
          intro t kt
          refine R8 _ ?_
          show Steps p.tables e below (T6.setTop (mkF m 24 #[.val (.int p1), .val (.int p2), .val (.int (p2 &&& (15 : Int32))), .unset, .unset, .unset, .unset] [(.int (p2 &&& (15 : Int32))), (.int (F2 (F3 (p2 &&& (15 : Int32)))))])) _
          refine XS.icmpYes X6.here hx rfl (pc0 := 24) (pc' := 31) rfl (hb hby at_24) rfl (feq hc7).2 (by decide) (by decide) ?_
          show Steps p.tables e below (T6.setTop (mkF m 31 #[.val (.int p1), .val (.int p2), .val (.int (p2 &&& (15 : Int32))), .unset, .unset, .unset, .unset] [])) _
          refine XS.iconst X6.here hx rfl (hb hby at_31) ?_
          exact kt
        exact ⟨T6, (0 : Int32), X6, e6, (by rw [if_pos hc3, if_neg hc7]), R10⟩
    · have R11 : ∀ t, Steps p.tables e below (T2.setTop (mkF m 32 #[.val (.int p1), .val (.int p2), .val (.int (p2 &&& (15 : Int32))), .unset, .unset, .unset, .unset] [(.int (0 : Int32))])) t → Steps p.tables e below (s₁.setTop (entryFrame m #[(.int p1), (.int p2)] maxLocals)) t := by
        intro t kt
        refine R4 _ ?_
        show Steps p.tables e below (T2.setTop (mkF m 13 #[.val (.int p1), .val (.int p2), .val (.int (p2 &&& (15 : Int32))), .unset, .unset, .unset, .unset] [(.int (p2 &&& (15 : Int32))), (.int (F2 (F1 (p2 &&& (15 : Int32)))))])) _
        refine XS.icmpYes X2.here hx rfl (pc0 := 13) (pc' := 31) rfl (hb hby at_13) rfl (feq hc3).2 (by decide) (by decide) ?_
        show Steps p.tables e below (T2.setTop (mkF m 31 #[.val (.int p1), .val (.int p2), .val (.int (p2 &&& (15 : Int32))), .unset, .unset, .unset, .unset] [])) _
        refine XS.iconst X2.here hx rfl (hb hby at_31) ?_
        exact kt
      exact ⟨T2, (0 : Int32), X2, e2, (by rw [if_neg hc3]), R11⟩
  obtain ⟨T15, v12, X16, e17, hv12, R13⟩ := J14
  obtain ⟨_, _, ⟨T18, L18, k18, n18⟩, -, X18, ⟨Lc18, hQ18, l18, y18, z18⟩, st18⟩ := Jvm.LawKit.callS X16 hx (y := (⟨"com/example/notary_stamp/notarystamp/http/PercentEncoding", "hexDigit", "(C)I"⟩ : MethodName)) hown (mvT hZ (hw _ (List.mem_of_getElem? (i := 4) rfl))) (mvT hZ (hw _ (List.mem_of_getElem? (i := 5) rfl))) (mvT hZ (hw _ (List.mem_of_getElem? (i := 6) rfl))) (mvT hZ (hw _ (List.mem_of_getElem? (i := 7) rfl))) (by decide) (backOf (W := 0) (rm2 l Z a0 hw [] (p1.toUInt32.toUInt16.toUInt32.toInt32) h0 n0 Z0) hZ (hw _ (List.mem_of_getElem? (i := 7) rfl)) (hw _ (List.mem_of_getElem? (i := 6) rfl)) (by decide) (by decide)) (g := (mkF m 39 #[.val (.int p1), .val (.int p2), .val (.int (p2 &&& (15 : Int32))), .val (.int v12), .val (.int (p1.toUInt32.toUInt16.toUInt32.toInt32)), .unset, .unset] [(.int (p1.toUInt32.toUInt16.toUInt32.toInt32))])) rfl (by rw [hml]; rfl) (argsL := [(.int (p1.toUInt32.toUInt16.toUInt32.toInt32))]) (rest := []) (lenOf pd_0_2 rfl) rfl (by show 2 * 0 + _ ≤ _; exact Nat.le_of_eq rfl) (hb hby at_39) (fun _ _ => ⟨rfl, e17, (by decide : 0 + 0 ≤ _), (by decide : 0 + 0 ≤ _)⟩)
  dsimp only [Pt.U, Pt.locs, Pt.cells, Pt.slots] at X18 l18 y18 z18 st18 hQ18
  subst l18 y18 z18
  obtain ⟨rfl, rfl, e18⟩ := hQ18
  replace X18 : Stand p l e room_1 s m #[(.int p1), (.int p2)] below meth c T18 [] 0 0 := X18
  have R20 : ∀ t, Steps p.tables e below (T18.setTop (mkF m 46 #[.val (.int p1), .val (.int p2), .val (.int (p2 &&& (15 : Int32))), .val (.int v12), .val (.int (p1.toUInt32.toUInt16.toUInt32.toInt32)), .val (.int (F2 (p1.toUInt32.toUInt16.toUInt32.toInt32))), .unset] [(.int (F2 (p1.toUInt32.toUInt16.toUInt32.toInt32)))])) t → Steps p.tables e below (s₁.setTop (entryFrame m #[(.int p1), (.int p2)] maxLocals)) t := by
    intro t kt
    refine R13 _ ?_
    show Steps p.tables e below (T15.setTop (mkF m 32 #[.val (.int p1), .val (.int p2), .val (.int (p2 &&& (15 : Int32))), .unset, .unset, .unset, .unset] [(.int v12)])) _
    refine XS.istoreN X16.here hx rfl (hb hby at_32) rfl (l' := #[.val (.int p1), .val (.int p2), .val (.int (p2 &&& (15 : Int32))), .val (.int v12), .unset, .unset, .unset]) rfl ?_
    show Steps p.tables e below (T15.setTop (mkF m 33 #[.val (.int p1), .val (.int p2), .val (.int (p2 &&& (15 : Int32))), .val (.int v12), .unset, .unset, .unset] [])) _
    refine XS.iloadN X16.here hx rfl (hb hby at_33) rfl ?_
    show Steps p.tables e below (T15.setTop (mkF m 34 #[.val (.int p1), .val (.int p2), .val (.int (p2 &&& (15 : Int32))), .val (.int v12), .unset, .unset, .unset] [(.int p1)])) _
    refine XS.i2c X16.here hx rfl (hb hby at_34) rfl ?_
    show Steps p.tables e below (T15.setTop (mkF m 35 #[.val (.int p1), .val (.int p2), .val (.int (p2 &&& (15 : Int32))), .val (.int v12), .unset, .unset, .unset] [(.int (p1.toUInt32.toUInt16.toUInt32.toInt32))])) _
    refine XS.istore X16.here hx rfl (hb hby at_35) rfl (l' := #[.val (.int p1), .val (.int p2), .val (.int (p2 &&& (15 : Int32))), .val (.int v12), .val (.int (p1.toUInt32.toUInt16.toUInt32.toInt32)), .unset, .unset]) rfl ?_
    show Steps p.tables e below (T15.setTop (mkF m 37 #[.val (.int p1), .val (.int p2), .val (.int (p2 &&& (15 : Int32))), .val (.int v12), .val (.int (p1.toUInt32.toUInt16.toUInt32.toInt32)), .unset, .unset] [])) _
    refine XS.iload X16.here hx rfl (hb hby at_37) rfl ?_
    show Steps p.tables e below (T15.setTop (mkF m 39 #[.val (.int p1), .val (.int p2), .val (.int (p2 &&& (15 : Int32))), .val (.int v12), .val (.int (p1.toUInt32.toUInt16.toUInt32.toInt32)), .unset, .unset] [(.int (p1.toUInt32.toUInt16.toUInt32.toInt32))])) _
    refine st18 _ ?_
    show Steps p.tables e below (T18.setTop (mkF m 42 #[.val (.int p1), .val (.int p2), .val (.int (p2 &&& (15 : Int32))), .val (.int v12), .val (.int (p1.toUInt32.toUInt16.toUInt32.toInt32)), .unset, .unset] [(.int (F2 (p1.toUInt32.toUInt16.toUInt32.toInt32)))])) _
    refine XS.istore X18.here hx rfl (hb hby at_42) rfl (l' := #[.val (.int p1), .val (.int p2), .val (.int (p2 &&& (15 : Int32))), .val (.int v12), .val (.int (p1.toUInt32.toUInt16.toUInt32.toInt32)), .val (.int (F2 (p1.toUInt32.toUInt16.toUInt32.toInt32))), .unset]) rfl ?_
    show Steps p.tables e below (T18.setTop (mkF m 44 #[.val (.int p1), .val (.int p2), .val (.int (p2 &&& (15 : Int32))), .val (.int v12), .val (.int (p1.toUInt32.toUInt16.toUInt32.toInt32)), .val (.int (F2 (p1.toUInt32.toUInt16.toUInt32.toInt32))), .unset] [])) _
    refine XS.iload X18.here hx rfl (hb hby at_44) rfl ?_
    exact kt
  have J57 : ∃ (T' : State) (v55 : Int32), Stand p l e room_1 s m #[(.int p1), (.int p2)] below meth c T' [] 0 0 ∧ T'.heap = h0 ∧ v55 = (if (F2 (p1.toUInt32.toUInt16.toUInt32.toInt32)) < (0 : Int32) then (let v25 : Int32 := (if (F2 (p1.toUInt32.toUInt16.toUInt32.toInt32)) = (-1 : Int32) then (1 : Int32) else (0 : Int32)); v25) else (if (F2 (p1.toUInt32.toUInt16.toUInt32.toInt32)) < (16 : Int32) then (let v40 : Int32 := (if (p1.toUInt32.toUInt16.toUInt32.toInt32) = (F1 (F2 (p1.toUInt32.toUInt16.toUInt32.toInt32))) then (1 : Int32) else (if (p1.toUInt32.toUInt16.toUInt32.toInt32) = (F3 (F2 (p1.toUInt32.toUInt16.toUInt32.toInt32))) then (1 : Int32) else (0 : Int32))); v40) else (let v51 : Int32 := (if (F2 (p1.toUInt32.toUInt16.toUInt32.toInt32)) = (-1 : Int32) then (1 : Int32) else (0 : Int32)); v51))) ∧ ∀ t, Steps p.tables e below (T'.setTop (mkF m 99 #[.val (.int p1), .val (.int p2), .val (.int (p2 &&& (15 : Int32))), .val (.int v12), .val (.int (p1.toUInt32.toUInt16.toUInt32.toInt32)), .val (.int (F2 (p1.toUInt32.toUInt16.toUInt32.toInt32))), .val (.int v55)] [])) t → Steps p.tables e below (s₁.setTop (entryFrame m #[(.int p1), (.int p2)] maxLocals)) t := by
    by_cases hc19 : (F2 (p1.toUInt32.toUInt16.toUInt32.toInt32)) < (0 : Int32)
    · have R22 : ∀ t, Steps p.tables e below (T18.setTop (mkF m 89 #[.val (.int p1), .val (.int p2), .val (.int (p2 &&& (15 : Int32))), .val (.int v12), .val (.int (p1.toUInt32.toUInt16.toUInt32.toInt32)), .val (.int (F2 (p1.toUInt32.toUInt16.toUInt32.toInt32))), .unset] [(.int (-1 : Int32)), (.int (F2 (p1.toUInt32.toUInt16.toUInt32.toInt32)))])) t → Steps p.tables e below (s₁.setTop (entryFrame m #[(.int p1), (.int p2)] maxLocals)) t := by
        intro t kt
        refine R20 _ ?_
        show Steps p.tables e below (T18.setTop (mkF m 46 #[.val (.int p1), .val (.int p2), .val (.int (p2 &&& (15 : Int32))), .val (.int v12), .val (.int (p1.toUInt32.toUInt16.toUInt32.toInt32)), .val (.int (F2 (p1.toUInt32.toUInt16.toUInt32.toInt32))), .unset] [(.int (F2 (p1.toUInt32.toUInt16.toUInt32.toInt32)))])) _
        refine XS.ifYes X18.here hx rfl (pc0 := 46) (pc' := 86) rfl (hb hby at_46) rfl ((if0 _ _).trans (tlt hc19).1) (by decide) (by decide) ?_
        show Steps p.tables e below (T18.setTop (mkF m 86 #[.val (.int p1), .val (.int p2), .val (.int (p2 &&& (15 : Int32))), .val (.int v12), .val (.int (p1.toUInt32.toUInt16.toUInt32.toInt32)), .val (.int (F2 (p1.toUInt32.toUInt16.toUInt32.toInt32))), .unset] [])) _
        refine XS.iload X18.here hx rfl (hb hby at_86) rfl ?_
        show Steps p.tables e below (T18.setTop (mkF m 88 #[.val (.int p1), .val (.int p2), .val (.int (p2 &&& (15 : Int32))), .val (.int v12), .val (.int (p1.toUInt32.toUInt16.toUInt32.toInt32)), .val (.int (F2 (p1.toUInt32.toUInt16.toUInt32.toInt32))), .unset] [(.int (F2 (p1.toUInt32.toUInt16.toUInt32.toInt32)))])) _
        refine XS.iconst X18.here hx rfl (hb hby at_88) ?_
        exact kt
      have J27 : ∃ (v25 : Int32), v25 = (if (F2 (p1.toUInt32.toUInt16.toUInt32.toInt32)) = (-1 : Int32) then (1 : Int32) else (0 : Int32)) ∧ ∀ t, Steps p.tables e below (T18.setTop (mkF m 97 #[.val (.int p1), .val (.int p2), .val (.int (p2 &&& (15 : Int32))), .val (.int v12), .val (.int (p1.toUInt32.toUInt16.toUInt32.toInt32)), .val (.int (F2 (p1.toUInt32.toUInt16.toUInt32.toInt32))), .unset] [(.int v25)])) t → Steps p.tables e below (s₁.setTop (entryFrame m #[(.int p1), (.int p2)] maxLocals)) t := by
        by_cases hc21 : (F2 (p1.toUInt32.toUInt16.toUInt32.toInt32)) = (-1 : Int32)
        · have R23 : ∀ t, Steps p.tables e below (T18.setTop (mkF m 97 #[.val (.int p1), .val (.int p2), .val (.int (p2 &&& (15 : Int32))), .val (.int v12), .val (.int (p1.toUInt32.toUInt16.toUInt32.toInt32)), .val (.int (F2 (p1.toUInt32.toUInt16.toUInt32.toInt32))), .unset] [(.int (1 : Int32))])) t → Steps p.tables e below (s₁.setTop (entryFrame m #[(.int p1), (.int p2)] maxLocals)) t := by
            intro t kt
            refine R22 _ ?_
            show Steps p.tables e below (T18.setTop (mkF m 89 #[.val (.int p1), .val (.int p2), .val (.int (p2 &&& (15 : Int32))), .val (.int v12), .val (.int (p1.toUInt32.toUInt16.toUInt32.toInt32)), .val (.int (F2 (p1.toUInt32.toUInt16.toUInt32.toInt32))), .unset] [(.int (-1 : Int32)), (.int (F2 (p1.toUInt32.toUInt16.toUInt32.toInt32)))])) _
            refine XS.icmpNo X18.here hx rfl (hb hby at_89) rfl (teq hc21).2 ?_
            show Steps p.tables e below (T18.setTop (mkF m 92 #[.val (.int p1), .val (.int p2), .val (.int (p2 &&& (15 : Int32))), .val (.int v12), .val (.int (p1.toUInt32.toUInt16.toUInt32.toInt32)), .val (.int (F2 (p1.toUInt32.toUInt16.toUInt32.toInt32))), .unset] [])) _
            refine XS.iconst X18.here hx rfl (hb hby at_92) ?_
            show Steps p.tables e below (T18.setTop (mkF m 93 #[.val (.int p1), .val (.int p2), .val (.int (p2 &&& (15 : Int32))), .val (.int v12), .val (.int (p1.toUInt32.toUInt16.toUInt32.toInt32)), .val (.int (F2 (p1.toUInt32.toUInt16.toUInt32.toInt32))), .unset] [(.int (1 : Int32))])) _
            refine XS.goto X18.here hx rfl (pc0 := 93) (pc' := 97) rfl (hb hby at_93) (by decide) (by decide) ?_
            exact kt
          exact ⟨(1 : Int32), (by rw [if_pos hc21]), R23⟩
        · have R24 : ∀ t, Steps p.tables e below (T18.setTop (mkF m 97 #[.val (.int p1), .val (.int p2), .val (.int (p2 &&& (15 : Int32))), .val (.int v12), .val (.int (p1.toUInt32.toUInt16.toUInt32.toInt32)), .val (.int (F2 (p1.toUInt32.toUInt16.toUInt32.toInt32))), .unset] [(.int (0 : Int32))])) t → Steps p.tables e below (s₁.setTop (entryFrame m #[(.int p1), (.int p2)] maxLocals)) t := by
            intro t kt
            refine R22 _ ?_
            show Steps p.tables e below (T18.setTop (mkF m 89 #[.val (.int p1), .val (.int p2), .val (.int (p2 &&& (15 : Int32))), .val (.int v12), .val (.int (p1.toUInt32.toUInt16.toUInt32.toInt32)), .val (.int (F2 (p1.toUInt32.toUInt16.toUInt32.toInt32))), .unset] [(.int (-1 : Int32)), (.int (F2 (p1.toUInt32.toUInt16.toUInt32.toInt32)))])) _
            refine XS.icmpYes X18.here hx rfl (pc0 := 89) (pc' := 96) rfl (hb hby at_89) rfl (feq hc21).2 (by decide) (by decide) ?_
            show Steps p.tables e below (T18.setTop (mkF m 96 #[.val (.int p1), .val (.int p2), .val (.int (p2 &&& (15 : Int32))), .val (.int v12), .val (.int (p1.toUInt32.toUInt16.toUInt32.toInt32)), .val (.int (F2 (p1.toUInt32.toUInt16.toUInt32.toInt32))), .unset] [])) _
            refine XS.iconst X18.here hx rfl (hb hby at_96) ?_
            exact kt
          exact ⟨(0 : Int32), (by rw [if_neg hc21]), R24⟩
      obtain ⟨v25, hv25, R26⟩ := J27
      have R28 : ∀ t, Steps p.tables e below (T18.setTop (mkF m 99 #[.val (.int p1), .val (.int p2), .val (.int (p2 &&& (15 : Int32))), .val (.int v12), .val (.int (p1.toUInt32.toUInt16.toUInt32.toInt32)), .val (.int (F2 (p1.toUInt32.toUInt16.toUInt32.toInt32))), .val (.int v25)] [])) t → Steps p.tables e below (s₁.setTop (entryFrame m #[(.int p1), (.int p2)] maxLocals)) t := by
        intro t kt
        refine R26 _ ?_
        show Steps p.tables e below (T18.setTop (mkF m 97 #[.val (.int p1), .val (.int p2), .val (.int (p2 &&& (15 : Int32))), .val (.int v12), .val (.int (p1.toUInt32.toUInt16.toUInt32.toInt32)), .val (.int (F2 (p1.toUInt32.toUInt16.toUInt32.toInt32))), .unset] [(.int v25)])) _
        refine XS.istore X18.here hx rfl (hb hby at_97) rfl (l' := #[.val (.int p1), .val (.int p2), .val (.int (p2 &&& (15 : Int32))), .val (.int v12), .val (.int (p1.toUInt32.toUInt16.toUInt32.toInt32)), .val (.int (F2 (p1.toUInt32.toUInt16.toUInt32.toInt32))), .val (.int v25)]) rfl ?_
        exact kt
      exact ⟨T18, v25, X18, e18, (by subst hv25; simp only [if_pos hc19]), R28⟩
    · have R30 : ∀ t, Steps p.tables e below (T18.setTop (mkF m 53 #[.val (.int p1), .val (.int p2), .val (.int (p2 &&& (15 : Int32))), .val (.int v12), .val (.int (p1.toUInt32.toUInt16.toUInt32.toInt32)), .val (.int (F2 (p1.toUInt32.toUInt16.toUInt32.toInt32))), .unset] [(.int (16 : Int32)), (.int (F2 (p1.toUInt32.toUInt16.toUInt32.toInt32)))])) t → Steps p.tables e below (s₁.setTop (entryFrame m #[(.int p1), (.int p2)] maxLocals)) t := by
        intro t kt
        refine R20 _ ?_
        show Steps p.tables e below (T18.setTop (mkF m 46 #[.val (.int p1), .val (.int p2), .val (.int (p2 &&& (15 : Int32))), .val (.int v12), .val (.int (p1.toUInt32.toUInt16.toUInt32.toInt32)), .val (.int (F2 (p1.toUInt32.toUInt16.toUInt32.toInt32))), .unset] [(.int (F2 (p1.toUInt32.toUInt16.toUInt32.toInt32)))])) _
        refine XS.ifNo X18.here hx rfl (hb hby at_46) rfl ((if0 _ _).trans (flt hc19).1) ?_
        show Steps p.tables e below (T18.setTop (mkF m 49 #[.val (.int p1), .val (.int p2), .val (.int (p2 &&& (15 : Int32))), .val (.int v12), .val (.int (p1.toUInt32.toUInt16.toUInt32.toInt32)), .val (.int (F2 (p1.toUInt32.toUInt16.toUInt32.toInt32))), .unset] [])) _
        refine XS.iload X18.here hx rfl (hb hby at_49) rfl ?_
        show Steps p.tables e below (T18.setTop (mkF m 51 #[.val (.int p1), .val (.int p2), .val (.int (p2 &&& (15 : Int32))), .val (.int v12), .val (.int (p1.toUInt32.toUInt16.toUInt32.toInt32)), .val (.int (F2 (p1.toUInt32.toUInt16.toUInt32.toInt32))), .unset] [(.int (F2 (p1.toUInt32.toUInt16.toUInt32.toInt32)))])) _
        refine XS.bipush X18.here hx rfl (hb hby at_51) ?_
        exact kt
      by_cases hc29 : (F2 (p1.toUInt32.toUInt16.toUInt32.toInt32)) < (16 : Int32)
      · obtain ⟨_, _, ⟨T31, L31, k31, n31⟩, -, X31, ⟨Lc31, hQ31, l31, y31, z31⟩, st31⟩ := Jvm.LawKit.callS X18 hx (y := (⟨"com/example/notary_stamp/notarystamp/http/PercentEncodingHexDigitPinLaw", "upperDigit", "(I)C"⟩ : MethodName)) hown (mvT hZ (hw _ (List.mem_of_getElem? (i := 0) rfl))) (mvT hZ (hw _ (List.mem_of_getElem? (i := 1) rfl))) (mvT hZ (hw _ (List.mem_of_getElem? (i := 2) rfl))) (mvT hZ (hw _ (List.mem_of_getElem? (i := 3) rfl))) (by decide) (backOf (W := 1) (rm1 l Z a0 hw [] (F2 (p1.toUInt32.toUInt16.toUInt32.toInt32)) h0 n0 Z0) hZ (hw _ (List.mem_of_getElem? (i := 3) rfl)) (hw _ (List.mem_of_getElem? (i := 2) rfl)) (by decide) (by decide)) (g := (mkF m 60 #[.val (.int p1), .val (.int p2), .val (.int (p2 &&& (15 : Int32))), .val (.int v12), .val (.int (p1.toUInt32.toUInt16.toUInt32.toInt32)), .val (.int (F2 (p1.toUInt32.toUInt16.toUInt32.toInt32))), .unset] [(.int (F2 (p1.toUInt32.toUInt16.toUInt32.toInt32))), (.int (p1.toUInt32.toUInt16.toUInt32.toInt32))])) rfl (by rw [hml]; rfl) (argsL := [(.int (F2 (p1.toUInt32.toUInt16.toUInt32.toInt32)))]) (rest := [(.int (p1.toUInt32.toUInt16.toUInt32.toInt32))]) (lenOf pd_0_1 rfl) rfl (by show 2 * 0 + _ ≤ _; exact Nat.le_of_eq rfl) (hb hby at_60) (fun _ _ => ⟨rfl, e18, (by decide : 0 + 0 ≤ _), (by decide : 0 + 0 ≤ _)⟩)
        dsimp only [Pt.U, Pt.locs, Pt.cells, Pt.slots] at X31 l31 y31 z31 st31 hQ31
        subst l31 y31 z31
        obtain ⟨rfl, rfl, e31⟩ := hQ31
        replace X31 : Stand p l e room_1 s m #[(.int p1), (.int p2)] below meth c T31 [] 0 0 := X31
        have R33 : ∀ t, Steps p.tables e below (T31.setTop (mkF m 63 #[.val (.int p1), .val (.int p2), .val (.int (p2 &&& (15 : Int32))), .val (.int v12), .val (.int (p1.toUInt32.toUInt16.toUInt32.toInt32)), .val (.int (F2 (p1.toUInt32.toUInt16.toUInt32.toInt32))), .unset] [(.int (F1 (F2 (p1.toUInt32.toUInt16.toUInt32.toInt32)))), (.int (p1.toUInt32.toUInt16.toUInt32.toInt32))])) t → Steps p.tables e below (s₁.setTop (entryFrame m #[(.int p1), (.int p2)] maxLocals)) t := by
          intro t kt
          refine R30 _ ?_
          show Steps p.tables e below (T18.setTop (mkF m 53 #[.val (.int p1), .val (.int p2), .val (.int (p2 &&& (15 : Int32))), .val (.int v12), .val (.int (p1.toUInt32.toUInt16.toUInt32.toInt32)), .val (.int (F2 (p1.toUInt32.toUInt16.toUInt32.toInt32))), .unset] [(.int (16 : Int32)), (.int (F2 (p1.toUInt32.toUInt16.toUInt32.toInt32)))])) _
          refine XS.icmpNo X18.here hx rfl (hb hby at_53) rfl (tlt hc29).2.1 ?_
          show Steps p.tables e below (T18.setTop (mkF m 56 #[.val (.int p1), .val (.int p2), .val (.int (p2 &&& (15 : Int32))), .val (.int v12), .val (.int (p1.toUInt32.toUInt16.toUInt32.toInt32)), .val (.int (F2 (p1.toUInt32.toUInt16.toUInt32.toInt32))), .unset] [])) _
          refine XS.iload X18.here hx rfl (hb hby at_56) rfl ?_
          show Steps p.tables e below (T18.setTop (mkF m 58 #[.val (.int p1), .val (.int p2), .val (.int (p2 &&& (15 : Int32))), .val (.int v12), .val (.int (p1.toUInt32.toUInt16.toUInt32.toInt32)), .val (.int (F2 (p1.toUInt32.toUInt16.toUInt32.toInt32))), .unset] [(.int (p1.toUInt32.toUInt16.toUInt32.toInt32))])) _
          refine XS.iload X18.here hx rfl (hb hby at_58) rfl ?_
          show Steps p.tables e below (T18.setTop (mkF m 60 #[.val (.int p1), .val (.int p2), .val (.int (p2 &&& (15 : Int32))), .val (.int v12), .val (.int (p1.toUInt32.toUInt16.toUInt32.toInt32)), .val (.int (F2 (p1.toUInt32.toUInt16.toUInt32.toInt32))), .unset] [(.int (F2 (p1.toUInt32.toUInt16.toUInt32.toInt32))), (.int (p1.toUInt32.toUInt16.toUInt32.toInt32))])) _
          refine st31 _ ?_
          exact kt
        have J42 : ∃ (T' : State) (v40 : Int32), Stand p l e room_1 s m #[(.int p1), (.int p2)] below meth c T' [] 0 0 ∧ T'.heap = h0 ∧ v40 = (if (p1.toUInt32.toUInt16.toUInt32.toInt32) = (F1 (F2 (p1.toUInt32.toUInt16.toUInt32.toInt32))) then (1 : Int32) else (if (p1.toUInt32.toUInt16.toUInt32.toInt32) = (F3 (F2 (p1.toUInt32.toUInt16.toUInt32.toInt32))) then (1 : Int32) else (0 : Int32))) ∧ ∀ t, Steps p.tables e below (T'.setTop (mkF m 81 #[.val (.int p1), .val (.int p2), .val (.int (p2 &&& (15 : Int32))), .val (.int v12), .val (.int (p1.toUInt32.toUInt16.toUInt32.toInt32)), .val (.int (F2 (p1.toUInt32.toUInt16.toUInt32.toInt32))), .unset] [(.int v40)])) t → Steps p.tables e below (s₁.setTop (entryFrame m #[(.int p1), (.int p2)] maxLocals)) t := by
          by_cases hc32 : (p1.toUInt32.toUInt16.toUInt32.toInt32) = (F1 (F2 (p1.toUInt32.toUInt16.toUInt32.toInt32)))
          · have R34 : ∀ t, Steps p.tables e below (T31.setTop (mkF m 81 #[.val (.int p1), .val (.int p2), .val (.int (p2 &&& (15 : Int32))), .val (.int v12), .val (.int (p1.toUInt32.toUInt16.toUInt32.toInt32)), .val (.int (F2 (p1.toUInt32.toUInt16.toUInt32.toInt32))), .unset] [(.int (1 : Int32))])) t → Steps p.tables e below (s₁.setTop (entryFrame m #[(.int p1), (.int p2)] maxLocals)) t := by
              intro t kt
              refine R33 _ ?_
              show Steps p.tables e below (T31.setTop (mkF m 63 #[.val (.int p1), .val (.int p2), .val (.int (p2 &&& (15 : Int32))), .val (.int v12), .val (.int (p1.toUInt32.toUInt16.toUInt32.toInt32)), .val (.int (F2 (p1.toUInt32.toUInt16.toUInt32.toInt32))), .unset] [(.int (F1 (F2 (p1.toUInt32.toUInt16.toUInt32.toInt32)))), (.int (p1.toUInt32.toUInt16.toUInt32.toInt32))])) _
              refine XS.icmpYes X31.here hx rfl (pc0 := 63) (pc' := 76) rfl (hb hby at_63) rfl (teq hc32).1 (by decide) (by decide) ?_
              show Steps p.tables e below (T31.setTop (mkF m 76 #[.val (.int p1), .val (.int p2), .val (.int (p2 &&& (15 : Int32))), .val (.int v12), .val (.int (p1.toUInt32.toUInt16.toUInt32.toInt32)), .val (.int (F2 (p1.toUInt32.toUInt16.toUInt32.toInt32))), .unset] [])) _
              refine XS.iconst X31.here hx rfl (hb hby at_76) ?_
              show Steps p.tables e below (T31.setTop (mkF m 77 #[.val (.int p1), .val (.int p2), .val (.int (p2 &&& (15 : Int32))), .val (.int v12), .val (.int (p1.toUInt32.toUInt16.toUInt32.toInt32)), .val (.int (F2 (p1.toUInt32.toUInt16.toUInt32.toInt32))), .unset] [(.int (1 : Int32))])) _
              refine XS.goto X31.here hx rfl (pc0 := 77) (pc' := 81) rfl (hb hby at_77) (by decide) (by decide) ?_
              exact kt
            exact ⟨T31, (1 : Int32), X31, e31, (by rw [if_pos hc32]), R34⟩
          · obtain ⟨_, _, ⟨T35, L35, k35, n35⟩, -, X35, ⟨Lc35, hQ35, l35, y35, z35⟩, st35⟩ := Jvm.LawKit.callS X31 hx (y := (⟨"com/example/notary_stamp/notarystamp/http/PercentEncodingHexDigitPinLaw", "lowerDigit", "(I)C"⟩ : MethodName)) hown (mvT hZ (hw _ (List.mem_of_getElem? (i := 8) rfl))) (mvT hZ (hw _ (List.mem_of_getElem? (i := 9) rfl))) (mvT hZ (hw _ (List.mem_of_getElem? (i := 2) rfl))) (mvT hZ (hw _ (List.mem_of_getElem? (i := 10) rfl))) (by decide) (backOf (W := 1) (rm3 l Z a0 hw [] (F2 (p1.toUInt32.toUInt16.toUInt32.toInt32)) h0 n0 Z0) hZ (hw _ (List.mem_of_getElem? (i := 10) rfl)) (hw _ (List.mem_of_getElem? (i := 2) rfl)) (by decide) (by decide)) (g := (mkF m 70 #[.val (.int p1), .val (.int p2), .val (.int (p2 &&& (15 : Int32))), .val (.int v12), .val (.int (p1.toUInt32.toUInt16.toUInt32.toInt32)), .val (.int (F2 (p1.toUInt32.toUInt16.toUInt32.toInt32))), .unset] [(.int (F2 (p1.toUInt32.toUInt16.toUInt32.toInt32))), (.int (p1.toUInt32.toUInt16.toUInt32.toInt32))])) rfl (by rw [hml]; rfl) (argsL := [(.int (F2 (p1.toUInt32.toUInt16.toUInt32.toInt32)))]) (rest := [(.int (p1.toUInt32.toUInt16.toUInt32.toInt32))]) (lenOf pd_0_3 rfl) rfl (by show 2 * 0 + _ ≤ _; exact Nat.le_of_eq rfl) (hb hby at_70) (fun _ _ => ⟨rfl, e31, (by decide : 0 + 0 ≤ _), (by decide : 0 + 0 ≤ _)⟩)
            dsimp only [Pt.U, Pt.locs, Pt.cells, Pt.slots] at X35 l35 y35 z35 st35 hQ35
            subst l35 y35 z35
            obtain ⟨rfl, rfl, e35⟩ := hQ35
            replace X35 : Stand p l e room_1 s m #[(.int p1), (.int p2)] below meth c T35 [] 0 0 := X35
            have R37 : ∀ t, Steps p.tables e below (T35.setTop (mkF m 73 #[.val (.int p1), .val (.int p2), .val (.int (p2 &&& (15 : Int32))), .val (.int v12), .val (.int (p1.toUInt32.toUInt16.toUInt32.toInt32)), .val (.int (F2 (p1.toUInt32.toUInt16.toUInt32.toInt32))), .unset] [(.int (F3 (F2 (p1.toUInt32.toUInt16.toUInt32.toInt32)))), (.int (p1.toUInt32.toUInt16.toUInt32.toInt32))])) t → Steps p.tables e below (s₁.setTop (entryFrame m #[(.int p1), (.int p2)] maxLocals)) t := by
              intro t kt
              refine R33 _ ?_
              show Steps p.tables e below (T31.setTop (mkF m 63 #[.val (.int p1), .val (.int p2), .val (.int (p2 &&& (15 : Int32))), .val (.int v12), .val (.int (p1.toUInt32.toUInt16.toUInt32.toInt32)), .val (.int (F2 (p1.toUInt32.toUInt16.toUInt32.toInt32))), .unset] [(.int (F1 (F2 (p1.toUInt32.toUInt16.toUInt32.toInt32)))), (.int (p1.toUInt32.toUInt16.toUInt32.toInt32))])) _
              refine XS.icmpNo X31.here hx rfl (hb hby at_63) rfl (feq hc32).1 ?_
              show Steps p.tables e below (T31.setTop (mkF m 66 #[.val (.int p1), .val (.int p2), .val (.int (p2 &&& (15 : Int32))), .val (.int v12), .val (.int (p1.toUInt32.toUInt16.toUInt32.toInt32)), .val (.int (F2 (p1.toUInt32.toUInt16.toUInt32.toInt32))), .unset] [])) _
              refine XS.iload X31.here hx rfl (hb hby at_66) rfl ?_
              show Steps p.tables e below (T31.setTop (mkF m 68 #[.val (.int p1), .val (.int p2), .val (.int (p2 &&& (15 : Int32))), .val (.int v12), .val (.int (p1.toUInt32.toUInt16.toUInt32.toInt32)), .val (.int (F2 (p1.toUInt32.toUInt16.toUInt32.toInt32))), .unset] [(.int (p1.toUInt32.toUInt16.toUInt32.toInt32))])) _
              refine XS.iload X31.here hx rfl (hb hby at_68) rfl ?_
              show Steps p.tables e below (T31.setTop (mkF m 70 #[.val (.int p1), .val (.int p2), .val (.int (p2 &&& (15 : Int32))), .val (.int v12), .val (.int (p1.toUInt32.toUInt16.toUInt32.toInt32)), .val (.int (F2 (p1.toUInt32.toUInt16.toUInt32.toInt32))), .unset] [(.int (F2 (p1.toUInt32.toUInt16.toUInt32.toInt32))), (.int (p1.toUInt32.toUInt16.toUInt32.toInt32))])) _
              refine st35 _ ?_
              exact kt
            by_cases hc36 : (p1.toUInt32.toUInt16.toUInt32.toInt32) = (F3 (F2 (p1.toUInt32.toUInt16.toUInt32.toInt32)))
            · have R38 : ∀ t, Steps p.tables e below (T35.setTop (mkF m 81 #[.val (.int p1), .val (.int p2), .val (.int (p2 &&& (15 : Int32))), .val (.int v12), .val (.int (p1.toUInt32.toUInt16.toUInt32.toInt32)), .val (.int (F2 (p1.toUInt32.toUInt16.toUInt32.toInt32))), .unset] [(.int (1 : Int32))])) t → Steps p.tables e below (s₁.setTop (entryFrame m #[(.int p1), (.int p2)] maxLocals)) t := by
                intro t kt
                refine R37 _ ?_
                show Steps p.tables e below (T35.setTop (mkF m 73 #[.val (.int p1), .val (.int p2), .val (.int (p2 &&& (15 : Int32))), .val (.int v12), .val (.int (p1.toUInt32.toUInt16.toUInt32.toInt32)), .val (.int (F2 (p1.toUInt32.toUInt16.toUInt32.toInt32))), .unset] [(.int (F3 (F2 (p1.toUInt32.toUInt16.toUInt32.toInt32)))), (.int (p1.toUInt32.toUInt16.toUInt32.toInt32))])) _
                refine XS.icmpNo X35.here hx rfl (hb hby at_73) rfl (teq hc36).2 ?_
                show Steps p.tables e below (T35.setTop (mkF m 76 #[.val (.int p1), .val (.int p2), .val (.int (p2 &&& (15 : Int32))), .val (.int v12), .val (.int (p1.toUInt32.toUInt16.toUInt32.toInt32)), .val (.int (F2 (p1.toUInt32.toUInt16.toUInt32.toInt32))), .unset] [])) _
                refine XS.iconst X35.here hx rfl (hb hby at_76) ?_
                show Steps p.tables e below (T35.setTop (mkF m 77 #[.val (.int p1), .val (.int p2), .val (.int (p2 &&& (15 : Int32))), .val (.int v12), .val (.int (p1.toUInt32.toUInt16.toUInt32.toInt32)), .val (.int (F2 (p1.toUInt32.toUInt16.toUInt32.toInt32))), .unset] [(.int (1 : Int32))])) _
                refine XS.goto X35.here hx rfl (pc0 := 77) (pc' := 81) rfl (hb hby at_77) (by decide) (by decide) ?_
                exact kt
              exact ⟨T35, (1 : Int32), X35, e35, (by rw [if_neg hc32, if_pos hc36]), R38⟩
            · have R39 : ∀ t, Steps p.tables e below (T35.setTop (mkF m 81 #[.val (.int p1), .val (.int p2), .val (.int (p2 &&& (15 : Int32))), .val (.int v12), .val (.int (p1.toUInt32.toUInt16.toUInt32.toInt32)), .val (.int (F2 (p1.toUInt32.toUInt16.toUInt32.toInt32))), .unset] [(.int (0 : Int32))])) t → Steps p.tables e below (s₁.setTop (entryFrame m #[(.int p1), (.int p2)] maxLocals)) t := by
                intro t kt
                refine R37 _ ?_
                show Steps p.tables e below (T35.setTop (mkF m 73 #[.val (.int p1), .val (.int p2), .val (.int (p2 &&& (15 : Int32))), .val (.int v12), .val (.int (p1.toUInt32.toUInt16.toUInt32.toInt32)), .val (.int (F2 (p1.toUInt32.toUInt16.toUInt32.toInt32))), .unset] [(.int (F3 (F2 (p1.toUInt32.toUInt16.toUInt32.toInt32)))), (.int (p1.toUInt32.toUInt16.toUInt32.toInt32))])) _
                refine XS.icmpYes X35.here hx rfl (pc0 := 73) (pc' := 80) rfl (hb hby at_73) rfl (feq hc36).2 (by decide) (by decide) ?_
                show Steps p.tables e below (T35.setTop (mkF m 80 #[.val (.int p1), .val (.int p2), .val (.int (p2 &&& (15 : Int32))), .val (.int v12), .val (.int (p1.toUInt32.toUInt16.toUInt32.toInt32)), .val (.int (F2 (p1.toUInt32.toUInt16.toUInt32.toInt32))), .unset] [])) _
                refine XS.iconst X35.here hx rfl (hb hby at_80) ?_
                exact kt
              exact ⟨T35, (0 : Int32), X35, e35, (by rw [if_neg hc32, if_neg hc36]), R39⟩
        obtain ⟨T43, v40, X44, e45, hv40, R41⟩ := J42
        have R46 : ∀ t, Steps p.tables e below (T43.setTop (mkF m 99 #[.val (.int p1), .val (.int p2), .val (.int (p2 &&& (15 : Int32))), .val (.int v12), .val (.int (p1.toUInt32.toUInt16.toUInt32.toInt32)), .val (.int (F2 (p1.toUInt32.toUInt16.toUInt32.toInt32))), .val (.int v40)] [])) t → Steps p.tables e below (s₁.setTop (entryFrame m #[(.int p1), (.int p2)] maxLocals)) t := by
          intro t kt
          refine R41 _ ?_
          show Steps p.tables e below (T43.setTop (mkF m 81 #[.val (.int p1), .val (.int p2), .val (.int (p2 &&& (15 : Int32))), .val (.int v12), .val (.int (p1.toUInt32.toUInt16.toUInt32.toInt32)), .val (.int (F2 (p1.toUInt32.toUInt16.toUInt32.toInt32))), .unset] [(.int v40)])) _
          refine XS.istore X44.here hx rfl (hb hby at_81) rfl (l' := #[.val (.int p1), .val (.int p2), .val (.int (p2 &&& (15 : Int32))), .val (.int v12), .val (.int (p1.toUInt32.toUInt16.toUInt32.toInt32)), .val (.int (F2 (p1.toUInt32.toUInt16.toUInt32.toInt32))), .val (.int v40)]) rfl ?_
          show Steps p.tables e below (T43.setTop (mkF m 83 #[.val (.int p1), .val (.int p2), .val (.int (p2 &&& (15 : Int32))), .val (.int v12), .val (.int (p1.toUInt32.toUInt16.toUInt32.toInt32)), .val (.int (F2 (p1.toUInt32.toUInt16.toUInt32.toInt32))), .val (.int v40)] [])) _
          refine XS.goto X44.here hx rfl (pc0 := 83) (pc' := 99) rfl (hb hby at_83) (by decide) (by decide) ?_
          exact kt
        exact ⟨T43, v40, X44, e45, (by subst hv40; simp only [if_neg hc19, if_pos hc29]), R46⟩
      · have R48 : ∀ t, Steps p.tables e below (T18.setTop (mkF m 89 #[.val (.int p1), .val (.int p2), .val (.int (p2 &&& (15 : Int32))), .val (.int v12), .val (.int (p1.toUInt32.toUInt16.toUInt32.toInt32)), .val (.int (F2 (p1.toUInt32.toUInt16.toUInt32.toInt32))), .unset] [(.int (-1 : Int32)), (.int (F2 (p1.toUInt32.toUInt16.toUInt32.toInt32)))])) t → Steps p.tables e below (s₁.setTop (entryFrame m #[(.int p1), (.int p2)] maxLocals)) t := by
          intro t kt
          refine R30 _ ?_
          show Steps p.tables e below (T18.setTop (mkF m 53 #[.val (.int p1), .val (.int p2), .val (.int (p2 &&& (15 : Int32))), .val (.int v12), .val (.int (p1.toUInt32.toUInt16.toUInt32.toInt32)), .val (.int (F2 (p1.toUInt32.toUInt16.toUInt32.toInt32))), .unset] [(.int (16 : Int32)), (.int (F2 (p1.toUInt32.toUInt16.toUInt32.toInt32)))])) _
          refine XS.icmpYes X18.here hx rfl (pc0 := 53) (pc' := 86) rfl (hb hby at_53) rfl (flt hc29).2.1 (by decide) (by decide) ?_
          show Steps p.tables e below (T18.setTop (mkF m 86 #[.val (.int p1), .val (.int p2), .val (.int (p2 &&& (15 : Int32))), .val (.int v12), .val (.int (p1.toUInt32.toUInt16.toUInt32.toInt32)), .val (.int (F2 (p1.toUInt32.toUInt16.toUInt32.toInt32))), .unset] [])) _
          refine XS.iload X18.here hx rfl (hb hby at_86) rfl ?_
          show Steps p.tables e below (T18.setTop (mkF m 88 #[.val (.int p1), .val (.int p2), .val (.int (p2 &&& (15 : Int32))), .val (.int v12), .val (.int (p1.toUInt32.toUInt16.toUInt32.toInt32)), .val (.int (F2 (p1.toUInt32.toUInt16.toUInt32.toInt32))), .unset] [(.int (F2 (p1.toUInt32.toUInt16.toUInt32.toInt32)))])) _
          refine XS.iconst X18.here hx rfl (hb hby at_88) ?_
          exact kt
        have J53 : ∃ (v51 : Int32), v51 = (if (F2 (p1.toUInt32.toUInt16.toUInt32.toInt32)) = (-1 : Int32) then (1 : Int32) else (0 : Int32)) ∧ ∀ t, Steps p.tables e below (T18.setTop (mkF m 97 #[.val (.int p1), .val (.int p2), .val (.int (p2 &&& (15 : Int32))), .val (.int v12), .val (.int (p1.toUInt32.toUInt16.toUInt32.toInt32)), .val (.int (F2 (p1.toUInt32.toUInt16.toUInt32.toInt32))), .unset] [(.int v51)])) t → Steps p.tables e below (s₁.setTop (entryFrame m #[(.int p1), (.int p2)] maxLocals)) t := by
          by_cases hc47 : (F2 (p1.toUInt32.toUInt16.toUInt32.toInt32)) = (-1 : Int32)
          · have R49 : ∀ t, Steps p.tables e below (T18.setTop (mkF m 97 #[.val (.int p1), .val (.int p2), .val (.int (p2 &&& (15 : Int32))), .val (.int v12), .val (.int (p1.toUInt32.toUInt16.toUInt32.toInt32)), .val (.int (F2 (p1.toUInt32.toUInt16.toUInt32.toInt32))), .unset] [(.int (1 : Int32))])) t → Steps p.tables e below (s₁.setTop (entryFrame m #[(.int p1), (.int p2)] maxLocals)) t := by
              intro t kt
              refine R48 _ ?_
              show Steps p.tables e below (T18.setTop (mkF m 89 #[.val (.int p1), .val (.int p2), .val (.int (p2 &&& (15 : Int32))), .val (.int v12), .val (.int (p1.toUInt32.toUInt16.toUInt32.toInt32)), .val (.int (F2 (p1.toUInt32.toUInt16.toUInt32.toInt32))), .unset] [(.int (-1 : Int32)), (.int (F2 (p1.toUInt32.toUInt16.toUInt32.toInt32)))])) _
              refine XS.icmpNo X18.here hx rfl (hb hby at_89) rfl (teq hc47).2 ?_
              show Steps p.tables e below (T18.setTop (mkF m 92 #[.val (.int p1), .val (.int p2), .val (.int (p2 &&& (15 : Int32))), .val (.int v12), .val (.int (p1.toUInt32.toUInt16.toUInt32.toInt32)), .val (.int (F2 (p1.toUInt32.toUInt16.toUInt32.toInt32))), .unset] [])) _
              refine XS.iconst X18.here hx rfl (hb hby at_92) ?_
              show Steps p.tables e below (T18.setTop (mkF m 93 #[.val (.int p1), .val (.int p2), .val (.int (p2 &&& (15 : Int32))), .val (.int v12), .val (.int (p1.toUInt32.toUInt16.toUInt32.toInt32)), .val (.int (F2 (p1.toUInt32.toUInt16.toUInt32.toInt32))), .unset] [(.int (1 : Int32))])) _
              refine XS.goto X18.here hx rfl (pc0 := 93) (pc' := 97) rfl (hb hby at_93) (by decide) (by decide) ?_
              exact kt
            exact ⟨(1 : Int32), (by rw [if_pos hc47]), R49⟩
          · have R50 : ∀ t, Steps p.tables e below (T18.setTop (mkF m 97 #[.val (.int p1), .val (.int p2), .val (.int (p2 &&& (15 : Int32))), .val (.int v12), .val (.int (p1.toUInt32.toUInt16.toUInt32.toInt32)), .val (.int (F2 (p1.toUInt32.toUInt16.toUInt32.toInt32))), .unset] [(.int (0 : Int32))])) t → Steps p.tables e below (s₁.setTop (entryFrame m #[(.int p1), (.int p2)] maxLocals)) t := by
              intro t kt
              refine R48 _ ?_
              show Steps p.tables e below (T18.setTop (mkF m 89 #[.val (.int p1), .val (.int p2), .val (.int (p2 &&& (15 : Int32))), .val (.int v12), .val (.int (p1.toUInt32.toUInt16.toUInt32.toInt32)), .val (.int (F2 (p1.toUInt32.toUInt16.toUInt32.toInt32))), .unset] [(.int (-1 : Int32)), (.int (F2 (p1.toUInt32.toUInt16.toUInt32.toInt32)))])) _
              refine XS.icmpYes X18.here hx rfl (pc0 := 89) (pc' := 96) rfl (hb hby at_89) rfl (feq hc47).2 (by decide) (by decide) ?_
              show Steps p.tables e below (T18.setTop (mkF m 96 #[.val (.int p1), .val (.int p2), .val (.int (p2 &&& (15 : Int32))), .val (.int v12), .val (.int (p1.toUInt32.toUInt16.toUInt32.toInt32)), .val (.int (F2 (p1.toUInt32.toUInt16.toUInt32.toInt32))), .unset] [])) _
              refine XS.iconst X18.here hx rfl (hb hby at_96) ?_
              exact kt
            exact ⟨(0 : Int32), (by rw [if_neg hc47]), R50⟩
        obtain ⟨v51, hv51, R52⟩ := J53
        have R54 : ∀ t, Steps p.tables e below (T18.setTop (mkF m 99 #[.val (.int p1), .val (.int p2), .val (.int (p2 &&& (15 : Int32))), .val (.int v12), .val (.int (p1.toUInt32.toUInt16.toUInt32.toInt32)), .val (.int (F2 (p1.toUInt32.toUInt16.toUInt32.toInt32))), .val (.int v51)] [])) t → Steps p.tables e below (s₁.setTop (entryFrame m #[(.int p1), (.int p2)] maxLocals)) t := by
          intro t kt
          refine R52 _ ?_
          show Steps p.tables e below (T18.setTop (mkF m 97 #[.val (.int p1), .val (.int p2), .val (.int (p2 &&& (15 : Int32))), .val (.int v12), .val (.int (p1.toUInt32.toUInt16.toUInt32.toInt32)), .val (.int (F2 (p1.toUInt32.toUInt16.toUInt32.toInt32))), .unset] [(.int v51)])) _
          refine XS.istore X18.here hx rfl (hb hby at_97) rfl (l' := #[.val (.int p1), .val (.int p2), .val (.int (p2 &&& (15 : Int32))), .val (.int v12), .val (.int (p1.toUInt32.toUInt16.toUInt32.toInt32)), .val (.int (F2 (p1.toUInt32.toUInt16.toUInt32.toInt32))), .val (.int v51)]) rfl ?_
          exact kt
        exact ⟨T18, v51, X18, e18, (by subst hv51; simp only [if_neg hc19, if_neg hc29]), R54⟩
  obtain ⟨T58, v55, X59, e60, hv55, R56⟩ := J57
  have R62 : ∀ t, Steps p.tables e below (T58.setTop (mkF m 100 #[.val (.int p1), .val (.int p2), .val (.int (p2 &&& (15 : Int32))), .val (.int v12), .val (.int (p1.toUInt32.toUInt16.toUInt32.toInt32)), .val (.int (F2 (p1.toUInt32.toUInt16.toUInt32.toInt32))), .val (.int v55)] [(.int v12)])) t → Steps p.tables e below (s₁.setTop (entryFrame m #[(.int p1), (.int p2)] maxLocals)) t := by
    intro t kt
    refine R56 _ ?_
    show Steps p.tables e below (T58.setTop (mkF m 99 #[.val (.int p1), .val (.int p2), .val (.int (p2 &&& (15 : Int32))), .val (.int v12), .val (.int (p1.toUInt32.toUInt16.toUInt32.toInt32)), .val (.int (F2 (p1.toUInt32.toUInt16.toUInt32.toInt32))), .val (.int v55)] [])) _
    refine XS.iloadN X59.here hx rfl (hb hby at_99) rfl ?_
    exact kt
  have J70 : ∃ (v68 : Int32), v68 = (if v12 = (0 : Int32) then (0 : Int32) else (if v55 = (0 : Int32) then (0 : Int32) else (1 : Int32))) ∧ ∀ t, Steps p.tables e below (T58.setTop (mkF m 113 #[.val (.int p1), .val (.int p2), .val (.int (p2 &&& (15 : Int32))), .val (.int v12), .val (.int (p1.toUInt32.toUInt16.toUInt32.toInt32)), .val (.int (F2 (p1.toUInt32.toUInt16.toUInt32.toInt32))), .val (.int v55)] [(.int v68)])) t → Steps p.tables e below (s₁.setTop (entryFrame m #[(.int p1), (.int p2)] maxLocals)) t := by
    by_cases hc61 : v12 = (0 : Int32)
    · have R63 : ∀ t, Steps p.tables e below (T58.setTop (mkF m 113 #[.val (.int p1), .val (.int p2), .val (.int (p2 &&& (15 : Int32))), .val (.int v12), .val (.int (p1.toUInt32.toUInt16.toUInt32.toInt32)), .val (.int (F2 (p1.toUInt32.toUInt16.toUInt32.toInt32))), .val (.int v55)] [(.int (0 : Int32))])) t → Steps p.tables e below (s₁.setTop (entryFrame m #[(.int p1), (.int p2)] maxLocals)) t := by
        intro t kt
        refine R62 _ ?_
        show Steps p.tables e below (T58.setTop (mkF m 100 #[.val (.int p1), .val (.int p2), .val (.int (p2 &&& (15 : Int32))), .val (.int v12), .val (.int (p1.toUInt32.toUInt16.toUInt32.toInt32)), .val (.int (F2 (p1.toUInt32.toUInt16.toUInt32.toInt32))), .val (.int v55)] [(.int v12)])) _
        refine XS.ifYes X59.here hx rfl (pc0 := 100) (pc' := 112) rfl (hb hby at_100) rfl ((if0 _ _).trans (teq hc61).1) (by decide) (by decide) ?_
        show Steps p.tables e below (T58.setTop (mkF m 112 #[.val (.int p1), .val (.int p2), .val (.int (p2 &&& (15 : Int32))), .val (.int v12), .val (.int (p1.toUInt32.toUInt16.toUInt32.toInt32)), .val (.int (F2 (p1.toUInt32.toUInt16.toUInt32.toInt32))), .val (.int v55)] [])) _
        refine XS.iconst X59.here hx rfl (hb hby at_112) ?_
        exact kt
      exact ⟨(0 : Int32), (by rw [if_pos hc61]), R63⟩
    · have R65 : ∀ t, Steps p.tables e below (T58.setTop (mkF m 105 #[.val (.int p1), .val (.int p2), .val (.int (p2 &&& (15 : Int32))), .val (.int v12), .val (.int (p1.toUInt32.toUInt16.toUInt32.toInt32)), .val (.int (F2 (p1.toUInt32.toUInt16.toUInt32.toInt32))), .val (.int v55)] [(.int v55)])) t → Steps p.tables e below (s₁.setTop (entryFrame m #[(.int p1), (.int p2)] maxLocals)) t := by
        intro t kt
        refine R62 _ ?_
        show Steps p.tables e below (T58.setTop (mkF m 100 #[.val (.int p1), .val (.int p2), .val (.int (p2 &&& (15 : Int32))), .val (.int v12), .val (.int (p1.toUInt32.toUInt16.toUInt32.toInt32)), .val (.int (F2 (p1.toUInt32.toUInt16.toUInt32.toInt32))), .val (.int v55)] [(.int v12)])) _
        refine XS.ifNo X59.here hx rfl (hb hby at_100) rfl ((if0 _ _).trans (feq hc61).1) ?_
        show Steps p.tables e below (T58.setTop (mkF m 103 #[.val (.int p1), .val (.int p2), .val (.int (p2 &&& (15 : Int32))), .val (.int v12), .val (.int (p1.toUInt32.toUInt16.toUInt32.toInt32)), .val (.int (F2 (p1.toUInt32.toUInt16.toUInt32.toInt32))), .val (.int v55)] [])) _
        refine XS.iload X59.here hx rfl (hb hby at_103) rfl ?_
        exact kt
      by_cases hc64 : v55 = (0 : Int32)
      · have R66 : ∀ t, Steps p.tables e below (T58.setTop (mkF m 113 #[.val (.int p1), .val (.int p2), .val (.int (p2 &&& (15 : Int32))), .val (.int v12), .val (.int (p1.toUInt32.toUInt16.toUInt32.toInt32)), .val (.int (F2 (p1.toUInt32.toUInt16.toUInt32.toInt32))), .val (.int v55)] [(.int (0 : Int32))])) t → Steps p.tables e below (s₁.setTop (entryFrame m #[(.int p1), (.int p2)] maxLocals)) t := by
          intro t kt
          refine R65 _ ?_
          show Steps p.tables e below (T58.setTop (mkF m 105 #[.val (.int p1), .val (.int p2), .val (.int (p2 &&& (15 : Int32))), .val (.int v12), .val (.int (p1.toUInt32.toUInt16.toUInt32.toInt32)), .val (.int (F2 (p1.toUInt32.toUInt16.toUInt32.toInt32))), .val (.int v55)] [(.int v55)])) _
          refine XS.ifYes X59.here hx rfl (pc0 := 105) (pc' := 112) rfl (hb hby at_105) rfl ((if0 _ _).trans (teq hc64).1) (by decide) (by decide) ?_
          show Steps p.tables e below (T58.setTop (mkF m 112 #[.val (.int p1), .val (.int p2), .val (.int (p2 &&& (15 : Int32))), .val (.int v12), .val (.int (p1.toUInt32.toUInt16.toUInt32.toInt32)), .val (.int (F2 (p1.toUInt32.toUInt16.toUInt32.toInt32))), .val (.int v55)] [])) _
          refine XS.iconst X59.here hx rfl (hb hby at_112) ?_
          exact kt
        exact ⟨(0 : Int32), (by rw [if_neg hc61, if_pos hc64]), R66⟩
      · have R67 : ∀ t, Steps p.tables e below (T58.setTop (mkF m 113 #[.val (.int p1), .val (.int p2), .val (.int (p2 &&& (15 : Int32))), .val (.int v12), .val (.int (p1.toUInt32.toUInt16.toUInt32.toInt32)), .val (.int (F2 (p1.toUInt32.toUInt16.toUInt32.toInt32))), .val (.int v55)] [(.int (1 : Int32))])) t → Steps p.tables e below (s₁.setTop (entryFrame m #[(.int p1), (.int p2)] maxLocals)) t := by
          intro t kt
          refine R65 _ ?_
          show Steps p.tables e below (T58.setTop (mkF m 105 #[.val (.int p1), .val (.int p2), .val (.int (p2 &&& (15 : Int32))), .val (.int v12), .val (.int (p1.toUInt32.toUInt16.toUInt32.toInt32)), .val (.int (F2 (p1.toUInt32.toUInt16.toUInt32.toInt32))), .val (.int v55)] [(.int v55)])) _
          refine XS.ifNo X59.here hx rfl (hb hby at_105) rfl ((if0 _ _).trans (feq hc64).1) ?_
          show Steps p.tables e below (T58.setTop (mkF m 108 #[.val (.int p1), .val (.int p2), .val (.int (p2 &&& (15 : Int32))), .val (.int v12), .val (.int (p1.toUInt32.toUInt16.toUInt32.toInt32)), .val (.int (F2 (p1.toUInt32.toUInt16.toUInt32.toInt32))), .val (.int v55)] [])) _
          refine XS.iconst X59.here hx rfl (hb hby at_108) ?_
          show Steps p.tables e below (T58.setTop (mkF m 109 #[.val (.int p1), .val (.int p2), .val (.int (p2 &&& (15 : Int32))), .val (.int v12), .val (.int (p1.toUInt32.toUInt16.toUInt32.toInt32)), .val (.int (F2 (p1.toUInt32.toUInt16.toUInt32.toInt32))), .val (.int v55)] [(.int (1 : Int32))])) _
          refine XS.goto X59.here hx rfl (pc0 := 109) (pc' := 113) rfl (hb hby at_109) (by decide) (by decide) ?_
          exact kt
        exact ⟨(1 : Int32), (by rw [if_neg hc61, if_neg hc64]), R67⟩
  obtain ⟨v68, hv68, R69⟩ := J70
  obtain ⟨fs, hr, hrun, hended, hW, hsame⟩ := X59.leave (v := some (.int (nar .boolean v68))) (fun h => by rw [Bd.returns] at h; cases h)
  refine ⟨_, _, R69 _ ?_, hrun, hended, _, _, rfl, ?_, ⟨_, rfl⟩, hW, hsame.mono (by decide) (by decide)⟩
  · show Steps p.tables e below (T58.setTop (mkF m 113 #[.val (.int p1), .val (.int p2), .val (.int (p2 &&& (15 : Int32))), .val (.int v12), .val (.int (p1.toUInt32.toUInt16.toUInt32.toInt32)), .val (.int (F2 (p1.toUInt32.toUInt16.toUInt32.toInt32))), .val (.int v55)] [(.int v68)])) _
    exact retN X59 hx (t := .boolean) Bd.returns (by simp) (hb hby at_113) hr
  · show Q0 Z p1 p2 h0 n0 _ T58.heap _
    rw [e60]
    refine ⟨?_, rfl, rfl⟩
    subst hv12 hv55 hv68; rfl
theorem own_enum (c : Int32) (lo : Int) (n : Nat) (h1 : lo ≤ c.toInt) (h2 : c.toInt < lo + n) : ∃ k : Fin n, c = Int32.ofInt (lo + k.val) :=
  ⟨⟨(c.toInt - lo).toNat, by omega⟩, by
    show c = Int32.ofInt (lo + ((c.toInt - lo).toNat : Int))
    rw [show lo + ((c.toInt - lo).toNat : Int) = c.toInt by omega, Int32.ofInt_toInt]⟩
def own_K (v : Int32) : Int32 := (if (F2 (F1 v)) = v then (if (F2 (F3 v)) = v then (1 : Int32) else (0 : Int32)) else (0 : Int32))
theorem own_known (y : Int32) : own_K (y &&& (15 : Int32)) = 1 := by
  have h := c_mask y 15 4 (by decide) (by decide)
  obtain ⟨k, hk⟩ := own_enum (y &&& (15 : Int32)) 0 16 (by omega) (by omega)
  rw [hk]
  clear hk h
  revert k
  decide +kernel
def own_S (c : Int32) : Int32 := (if (F2 c) < (0 : Int32) then (if (F2 c) = (-1 : Int32) then (1 : Int32) else (0 : Int32)) else (if (F2 c) < (16 : Int32) then (if c = (F1 (F2 c)) then (1 : Int32) else (if c = (F3 (F2 c)) then (1 : Int32) else (0 : Int32))) else (if (F2 c) = (-1 : Int32) then (1 : Int32) else (0 : Int32))))
theorem own_out (c : Int32) (h1 : ¬ (48 ≤ c.toInt ∧ c.toInt ≤ 57)) (h2 : ¬ (65 ≤ c.toInt ∧ c.toInt ≤ 70)) (h3 : ¬ (97 ≤ c.toInt ∧ c.toInt ≤ 102)) : F2 c = -1 := by
  have z1 : (48 : Int32).toInt = 48 := rfl
  have z2 : (57 : Int32).toInt = 57 := rfl
  have z3 : (65 : Int32).toInt = 65 := rfl
  have z4 : (70 : Int32).toInt = 70 := rfl
  have z5 : (97 : Int32).toInt = 97 := rfl
  have z6 : (102 : Int32).toInt = 102 := rfl
  simp only [F2, Int32.lt_iff_toInt_lt, z1, z2, z3, z4, z5, z6]
  repeat' split
  all_goals first | rfl | (exfalso; omega)
theorem own_sound (c : Int32) : own_S c = 1 := by
  by_cases h1 : 48 ≤ c.toInt ∧ c.toInt ≤ 57
  · obtain ⟨k, rfl⟩ := own_enum c 48 10 (by omega) (by omega)
    clear h1; revert k; decide +kernel
  · by_cases h2 : 65 ≤ c.toInt ∧ c.toInt ≤ 70
    · obtain ⟨k, rfl⟩ := own_enum c 65 6 (by omega) (by omega)
      clear h1 h2; revert k; decide +kernel
    · by_cases h3 : 97 ≤ c.toInt ∧ c.toInt ≤ 102
      · obtain ⟨k, rfl⟩ := own_enum c 97 6 (by omega) (by omega)
        clear h1 h2 h3; revert k; decide +kernel
      · unfold own_S; rw [own_out c h1 h2 h3, if_pos (by decide), if_pos rfl]
theorem own_end (a b : Int32) (ha : a = 1) (hb : b = 1) : nar .boolean (if a = (0 : Int32) then (0 : Int32) else (if b = (0 : Int32) then (0 : Int32) else (1 : Int32))) = 1 := by subst ha hb; decide
theorem own_plain (p1 p2 : Int32) : F0 p1 p2 = 1 := own_end _ _ (own_known p2) (own_sound (p1.toUInt32.toUInt16.toUInt32.toInt32))
theorem own_fin {Z : State} (p1 : Int32) (p2 : Int32) (h0 : Heap) (n0 : Nat) (h : Heap) (L : List Loc) {v : Option Value} (q : Q0 Z p1 p2 h0 n0 v h L) : v = some (.int (1 : Int32)) ∧ Fr n0 L := by
  obtain ⟨rfl, rfl, rfl⟩ := q
  exact ⟨by rw [own_plain], Fr.nil _⟩
set_option maxRecDepth 65536 in
set_option maxHeartbeats 40000000 in
theorem comes_1 {Post : Tables → Env → Array Value → State → Outcome → State → Prop} (hpost : ∀ tb e args s v u, (limb_1_1.after args s (.returned v) u = true ∧ limb_1_2.after args s (.returned v) u = true ∧ True) → FrameEnd s (.returned v) u (Jvm.fieldLocs frame_1_writes args s ++ Jvm.arrayLocs frame_1_arrays args s ++ Jvm.staticLocs frame_1_statics s) 0 0 → Post tb e args s (.returned v) u) :
    ArmFor flags0 classFile x code maxLocals ret World_1 tables_1 room_1 Calls_1 rest_1 Pre_1 Post := by
  intro l hfl _ _ p e ha hc hk s m args below hf hA hF happ hP
  obtain ⟨hcalls, hrest, hpre⟩ := hP
  obtain ⟨-, -, -, hnamed, -, -, -, hat⟩ := (Spec.applies_iff hf).mp happ
  obtain ⟨hg, hn⟩ := and_e (Cond.before_iff.mp (show (Jvm.Cond.and given_1 narrow_1).before args s = true from hpre))
  obtain ⟨ga0, gb0⟩ := and_e hg
  obtain ⟨ga1, gb1⟩ := and_e gb0
  obtain ⟨w0, w1, rfl⟩ : ∃ w0 w1 : Value, args = #[w0, w1] := by
    have hs : args.size = 2 := by simpa [Cond.value, given_1] using ga0
    obtain ⟨L⟩ := args
    match L, hs with
    | [w0, w1], _ => exact ⟨w0, w1, rfl⟩
  have hw := fun d (hd : d ∈ tables_1) => atoms_spec (ws := Jvm.Cond.code x code maxLocals ret :: tables_1) hat d (List.mem_cons_of_mem _ hd)
  have hfit : Fit s := fun {y c} hc i hi => by
    obtain ⟨ha, rfl⟩ := Array.getElem?_eq_some_iff.mp hc
    have q := List.all_eq_true.mp ((Array.all_eq_true_iff_forall_mem.mp hF) _ (Array.getElem_mem ha)) i (List.mem_range.mpr hi)
    simpa [Array.getElem?_eq_getElem hi] using q
  obtain ⟨i0, ei0⟩ := is_v ga1
  obtain rfl : w0 = (.int i0) := Option.some.inj ei0
  obtain ⟨i1, ei1⟩ := is_v gb1
  obtain rfl : w1 = (.int i1) := Option.some.inj ei1
  obtain ⟨n, o, h1, h2, h3, v, L, rfl, hQ, hq⟩ := rm0 l s _ hw tables_1 i0 i1 s.heap s.heap.size (Nat.le_refl _) p e ha hc hk s m _ below hf ((Spec.applies_iff_loose hf).mp happ).1 ⟨rfl, State.Warmed39.refl s, rfl⟩ trivial
  obtain ⟨rfl, N⟩ := own_fin i0 i1 _ _ _ _ hQ
  refine ⟨n, _, h1, h2, h3, hpost _ _ _ _ _ _ ⟨Cond.after_iff.mpr rfl, Cond.after_iff.mpr (eq_i res_at (Term.int_eval (1)) rfl), trivial⟩ ⟨hq.1, hq.2.1, (hq.2.2.sift fun y hy => Or.inr (N y hy)).mono (by decide) (by decide)⟩⟩
theorem main_1_1 : Claimed_1_1 := comes_1 fun _ _ _ _ _ _ h hF => ⟨h.1, hF⟩
theorem main_1_2 : Claimed_1_2 := comes_1 fun _ _ _ _ _ _ h hF => ⟨h.2.1, hF⟩
end Jvm.Pilot.@@N@@
namespace Jvm.Pilot.@@N@@
open Jvm Jvm.ClassFile Sem Op Lib Jvm.Free Jvm.Stand Jvm.Pilot.@@N@@.Jvm.D
/-! MADE BY PROGRAM (witnessworld.py) out of the Statement's table words and the real class files: 9 classes; the members and pool entries that the words name. The judged class is class 1, her method 3. -/
namespace start1
open Jvm.ClassFile
def u (s : String) : CpInfo := .utf8 (stringToUtf16 s)
/-- a pool by its gaps: so many unusable entries, then the entry; so many at the end -/
def gap : Nat → List CpInfo → List CpInfo
  | 0, r => r
  | n + 1, r => .unusable :: gap n r
def poolList (es : List (Nat × CpInfo)) (last : Nat) : List CpInfo := es.foldr (fun e r => gap e.1 (e.2 :: r)) (gap last [])
def pool (es : List (Nat × CpInfo)) (last : Nat) : Array CpInfo := ⟨poolList es last⟩
def fileOf (pool : Array CpInfo) (this : Nat) (attrs : Array Attribute := #[]) (ms : Array MethodInfo := #[]) (fl : Nat := 33) (sup : Nat := 0) (ifs : Array Nat := #[]) (fds : Array FieldInfo := #[]) : ClassFile where
  minorVersion := 0
  majorVersion := 65
  constantPool := pool
  accessFlags := fl
  thisClass := this
  superClass := sup
  interfaces := ifs
  fields := fds
  methods := ms
  attributes := attrs
def plain (name : String) (sup : Option ClassId) : Class where
  name := name
  kind := .ordinary
  loader := none
  accessFlags := 33
  super := sup
  interfaces := #[]
  cf := none
  fields := #[]
  methods := #[]
  instanceTypes := #[]
  staticTypes := #[]
  resolved := #[]
  callSites := []
  init := .initialized
  statics := none
  mirror := none

def pool0 : Array CpInfo := pool [(5, u "<init>"), (0, u "()V"), (1, .class_ 10), (1, u "java/lang/Object")] 113

def k0m0 : Method := { name := "<init>", desc := "()V", sig := { parameters := [], returnType := none }, accessFlags := 1, code := none }
/-- java/lang/Object -/
def k0 : Class := { plain "java/lang/Object" none with
  accessFlags := 33
  interfaces := #[]
  cf := some (fileOf pool0 8 #[] #[{ accessFlags := 1, nameIndex := 5, descriptorIndex := 6, attributes := #[] }] 33 0 #[] #[])
  fields := #[]
  methods := #[k0m0]
  instanceTypes := #[]
  staticTypes := #[]
  resolved := Array.replicate 124 none
  statics := none }

def pool1 : Array CpInfo := pool [(2, .class_ 4), (1, u "java/lang/Object"), (0, u "<init>"), (0, u "()V"), (0, .methodref 8 9), (0, .class_ 10), (0, .nameAndType 11 12), (0, u "com/example/notary_stamp/notarystamp/http/PercentEncodingHexDigitPinLaw"), (0, u "upperDigit"), (0, u "(I)C"), (0, .methodref 14 15), (0, .class_ 16), (0, .nameAndType 17 18), (0, u "com/example/notary_stamp/notarystamp/http/PercentEncoding"), (0, u "hexDigit"), (0, u "(C)I"), (0, .methodref 8 20), (0, .nameAndType 21 12), (0, u "lowerDigit"), (3, u "law"), (0, u "(II)Z")] 2

def k1m0 : Method := { name := "<init>", desc := "()V", sig := { parameters := [], returnType := none }, accessFlags := 2, code := none }
def k1c1 : Code := { maxStack := 2, maxLocals := 1, code := method_2_code, exceptionTable := #[], attributes := #[] }
def k1m1 : Method := { name := "upperDigit", desc := "(I)C", sig := { parameters := [.int], returnType := some .char }, accessFlags := 10, code := some k1c1 }
def k1c2 : Code := { maxStack := 2, maxLocals := 1, code := method_3_code, exceptionTable := #[], attributes := #[] }
def k1m2 : Method := { name := "lowerDigit", desc := "(I)C", sig := { parameters := [.int], returnType := some .char }, accessFlags := 10, code := some k1c2 }
def k1c3 : Code := { maxStack := 2, maxLocals := 7, code := code, exceptionTable := #[], attributes := #[] }
def k1m3 : Method := { name := "law", desc := "(II)Z", sig := { parameters := [.int, .int], returnType := some .boolean }, accessFlags := 9, code := some k1c3 }
/-- com/example/notary_stamp/notarystamp/http/PercentEncodingHexDigitPinLaw -/
def k1 : Class := { plain "com/example/notary_stamp/notarystamp/http/PercentEncodingHexDigitPinLaw" (some 0) with
  accessFlags := 49
  interfaces := #[]
  cf := some (fileOf pool1 8 #[] #[{ accessFlags := 2, nameIndex := 5, descriptorIndex := 6, attributes := #[] }, { accessFlags := 10, nameIndex := 11, descriptorIndex := 12, attributes := #[] }, { accessFlags := 10, nameIndex := 21, descriptorIndex := 12, attributes := #[] }, { accessFlags := 9, nameIndex := 25, descriptorIndex := 26, attributes := #[] }] 49 2 #[] #[])
  fields := #[]
  methods := #[k1m0, k1m1, k1m2, k1m3]
  instanceTypes := #[]
  staticTypes := #[]
  resolved := Array.replicate 29 none
  statics := none }

def pool2 : Array CpInfo := pool [(2, .class_ 4), (1, u "java/lang/Object"), (0, u "<init>"), (0, u "()V"), (20, .class_ 29), (1, u "com/example/notary_stamp/notarystamp/http/PercentEncoding"), (0, u "UPPER_HEX"), (0, u "[C"), (14, u "hexDigit"), (0, u "(C)I")] 17

def k2m0 : Method := { name := "<init>", desc := "()V", sig := { parameters := [], returnType := none }, accessFlags := 2, code := none }
def k2c1 : Code := { maxStack := 2, maxLocals := 2, code := prog_27_method_6_code, exceptionTable := #[], attributes := #[] }
def k2m1 : Method := { name := "hexDigit", desc := "(C)I", sig := { parameters := [.char], returnType := some .int }, accessFlags := 8, code := some k2c1 }
/-- com/example/notary_stamp/notarystamp/http/PercentEncoding -/
def k2 : Class := { plain "com/example/notary_stamp/notarystamp/http/PercentEncoding" (some 0) with
  accessFlags := 49
  interfaces := #[]
  cf := some (fileOf pool2 27 #[] #[{ accessFlags := 2, nameIndex := 5, descriptorIndex := 6, attributes := #[] }, { accessFlags := 8, nameIndex := 46, descriptorIndex := 47, attributes := #[] }] 49 2 #[] #[{ accessFlags := 26, nameIndex := 30, descriptorIndex := 31, attributes := #[] }])
  fields := #[{ name := "UPPER_HEX", type := (.array .char), accessFlags := 26, slot := 0, constantValue := 0 }]
  methods := #[k2m0, k2m1]
  instanceTypes := #[]
  staticTypes := #[(.array .char)]
  resolved := Array.replicate 65 none
  statics := none }

def pool3 : Array CpInfo := pool [(1, u "java/lang/Cloneable"), (0, .class_ 1), (0, u "java/lang/Object"), (0, .class_ 3)] 3

/-- java/lang/Cloneable -/
def k3 : Class := { plain "java/lang/Cloneable" (some 0) with
  accessFlags := 1537
  interfaces := #[]
  cf := some (fileOf pool3 2 #[] #[] 1537 4 #[] #[])
  fields := #[]
  methods := #[]
  instanceTypes := #[]
  staticTypes := #[]
  resolved := Array.replicate 8 none
  statics := none }

def pool4 : Array CpInfo := pool [(1, u "java/io/Serializable"), (0, .class_ 1), (0, u "java/lang/Object"), (0, .class_ 3)] 3

/-- java/io/Serializable -/
def k4 : Class := { plain "java/io/Serializable" (some 0) with
  accessFlags := 1537
  interfaces := #[]
  cf := some (fileOf pool4 2 #[] #[] 1537 4 #[] #[])
  fields := #[]
  methods := #[]
  instanceTypes := #[]
  staticTypes := #[]
  resolved := Array.replicate 8 none
  statics := none }

/-- the primitive byte -/
def k5 : Class := { plain "byte" none with kind := .primitive 'B', accessFlags := 0x411 }
/-- [B -/
def k6 : Class := { plain "[B" (some 0) with kind := .array 5 .byte, interfaces := #[3, 4], accessFlags := 1041 }

/-- the primitive int -/
def k7 : Class := { plain "int" none with kind := .primitive 'I', accessFlags := 0x411 }
/-- [I -/
def k8 : Class := { plain "[I" (some 0) with kind := .array 7 .int, interfaces := #[3, 4], accessFlags := 1041 }

def heap : Heap := #[]
def classes : Array Class := #[k0, k1, k2, k3, k4, k5, k6, k7, k8]
def interned : List (Array UInt16 × Addr) := []
def slotsUsed : Nat := 0
def theMethod : MethodId := ⟨1, 3⟩
def args0 : Array Value := #[.int 5, .int 3]
def aboutOver (below : List Frame) : State where
  vm := { classes := classes, interned := interned.toArray }
  heap := heap
  slotsUsed := slotsUsed
  threads := #[{ frames := .invoking theMethod args0 :: below }]
def below0 : List Frame := [.native { method := ⟨0, 0⟩, args := #[] }]
def about1 : State := aboutOver below0
def p0 : Program := .bare "" "" ""
def e0 : Env := launch0.env 0 0 0
theorem w_frames : about1.frames = Frame.invoking theMethod args0 :: below0 := rfl
set_option maxRecDepth 65536 in
theorem w_args : argsFit about1.vm theMethod args0 = true := by decide +kernel
set_option maxRecDepth 65536 in
theorem w_heap : heapFits about1 = true := by decide +kernel
set_option maxRecDepth 65536 in
theorem w_runnable : about1.curStatus? = some .runnable := by decide +kernel
set_option maxRecDepth 65536 in
theorem w_alone : about1.alone = true := by decide +kernel
set_option maxRecDepth 65536 in
theorem w_named : about1.methodNamed? x = some theMethod := by decide +kernel
set_option maxRecDepth 65536 in
theorem w_hears : about1.hears theMethod below0 = true := by decide +kernel
set_option maxRecDepth 65536 in
theorem w_ripe : about1.ripe theMethod args0 below0 = true := by decide +kernel
theorem w_running : about1.status = .running := rfl
set_option maxRecDepth 65536 in
theorem w_room : about1.hasRoom e0.platform room_1 = true :=
  launch0.hasRoom_least _ room_1 (by decide +kernel) (by decide +kernel) (by decide +kernel) (by decide +kernel) (by decide +kernel) (by decide +kernel)
theorem allAtoms_all (ts : List Jvm.Cond) (a : Array Jvm.Value) (st : Jvm.State) : (allAtoms ts).before a st = ts.all (fun c => c.before a st) := by
  induction ts with
  | nil => rfl
  | cons c t ih =>
    show (Jvm.Cond.and c (allAtoms t)).before a st = _
    rw [Jvm.Cond.before_and, ih, List.all_cons]
def words1 : List Jvm.Cond := Jvm.Cond.code x code maxLocals ret :: tables_1
/-- a 'code' word, met by the world's own term for the bytes: nothing is compared byte by byte -/
theorem code_word {y : MethodName} {bytes : ByteArray} {mx : Nat} {rt : Option FieldType} {a : Array Value} {s : State} {m : MethodId} {meth : Method} {c : Code} (h1 : s.methodNamed? y = some m) (h2 : s.vm.method? m = some meth) (h3 : meth.code = some c) (h4 : c.code = bytes)
    (h5 : (c.maxLocals == mx && c.exceptionTable.isEmpty && decide (c.maxStack ≤ mostOperands) && decide (meth.sig.returnType = rt) && !meth.locks && decide (parseMethodDescriptor y.desc = some meth.sig)) = true) : (Jvm.Cond.code y bytes mx rt).before a s = true := by
  simp only [Bool.and_eq_true, beq_iff_eq, Bool.not_eq_true', decide_eq_true_eq] at h5
  obtain ⟨⟨⟨⟨⟨g1, g2⟩, g3⟩, g4⟩, g5⟩, g6⟩ := h5
  simp [Cond.before, Cond.holds, Cond.value, h1, h2, h3, h4, g1, g2, g3, g4, g5, g6]
def isCode : Jvm.Cond → Bool
  | .code _ _ _ _ => true
  | _ => false
theorem all_split {L : List Jvm.Cond} {P : Jvm.Cond → Bool} (h1 : L.all (fun c => isCode c || P c) = true) (h2 : ∀ c ∈ L.filter isCode, P c = true) : L.all P = true := by
  refine List.all_eq_true.mpr fun c hc => ?_
  have h := List.all_eq_true.mp h1 c hc
  rcases Bool.eq_false_or_eq_true (isCode c) with hi | hi
  · exact h2 c (List.mem_filter.mpr ⟨hc, hi⟩)
  · simpa [hi] using h
set_option maxRecDepth 65536 in
theorem w_c0 : (Jvm.Cond.code x code maxLocals ret).before args0 about1 = true := code_word (m := ⟨1, 3⟩) (meth := k1m3) (c := k1c3) (by decide +kernel) rfl rfl rfl (by decide +kernel)
set_option maxRecDepth 65536 in
theorem w_c1 : (Jvm.Cond.code ({ cls := "com/example/notary_stamp/notarystamp/http/PercentEncodingHexDigitPinLaw", name := "upperDigit", desc := "(I)C" } : Jvm.MethodName) method_2_code (1 : Nat) (Option.some Jvm.ClassFile.FieldType.char)).before args0 about1 = true := code_word (m := ⟨1, 1⟩) (meth := k1m1) (c := k1c1) (by decide +kernel) rfl rfl rfl (by decide +kernel)
set_option maxRecDepth 65536 in
theorem w_c2 : (Jvm.Cond.code ({ cls := "com/example/notary_stamp/notarystamp/http/PercentEncoding", name := "hexDigit", desc := "(C)I" } : Jvm.MethodName) prog_27_method_6_code (2 : Nat) (Option.some Jvm.ClassFile.FieldType.int)).before args0 about1 = true := code_word (m := ⟨2, 1⟩) (meth := k2m1) (c := k2c1) (by decide +kernel) rfl rfl rfl (by decide +kernel)
set_option maxRecDepth 65536 in
theorem w_c3 : (Jvm.Cond.code ({ cls := "com/example/notary_stamp/notarystamp/http/PercentEncodingHexDigitPinLaw", name := "lowerDigit", desc := "(I)C" } : Jvm.MethodName) method_3_code (1 : Nat) (Option.some Jvm.ClassFile.FieldType.char)).before args0 about1 = true := code_word (m := ⟨1, 2⟩) (meth := k1m2) (c := k1c2) (by decide +kernel) rfl rfl rfl (by decide +kernel)
def codes1 : List Jvm.Cond := [Jvm.Cond.code x code maxLocals ret, Jvm.Cond.code ({ cls := "com/example/notary_stamp/notarystamp/http/PercentEncodingHexDigitPinLaw", name := "upperDigit", desc := "(I)C" } : Jvm.MethodName) method_2_code (1 : Nat) (Option.some Jvm.ClassFile.FieldType.char), Jvm.Cond.code ({ cls := "com/example/notary_stamp/notarystamp/http/PercentEncoding", name := "hexDigit", desc := "(C)I" } : Jvm.MethodName) prog_27_method_6_code (2 : Nat) (Option.some Jvm.ClassFile.FieldType.int), Jvm.Cond.code ({ cls := "com/example/notary_stamp/notarystamp/http/PercentEncodingHexDigitPinLaw", name := "lowerDigit", desc := "(I)C" } : Jvm.MethodName) method_3_code (1 : Nat) (Option.some Jvm.ClassFile.FieldType.char)]
set_option maxRecDepth 65536 in
theorem codes_eq : words1.filter isCode = codes1 := rfl
theorem w_codes : ∀ c ∈ words1.filter isCode, c.before args0 about1 = true := by
  rw [codes_eq]
  intro c hc
  simp only [codes1, List.mem_cons, List.not_mem_nil, or_false] at hc
  rcases hc with rfl | rfl | rfl | rfl
  · exact w_c0
  · exact w_c1
  · exact w_c2
  · exact w_c3
set_option maxRecDepth 65536 in
theorem w_t1 : words1.all (fun c => isCode c || c.before args0 about1) = true := by decide +kernel
theorem w_tables : (allAtoms (Jvm.Cond.code x code maxLocals ret :: tables_1)).before args0 about1 = true := by
  rw [allAtoms_all]
  show words1.all (fun c => c.before args0 about1) = true
  refine all_split ?_ w_codes
  rw [w_t1]
set_option maxRecDepth 65536 in
theorem w_case : (Jvm.Cond.and given_1 narrow_1).before args0 about1 = true := by decide +kernel
theorem w_applies : (headSpec (Jvm.Cond.code x code maxLocals ret :: tables_1) room_1).applies x e0.platform about1 = true :=
  (Spec.applies_iff w_frames).mpr ⟨w_running, w_runnable, w_alone, w_named, w_hears, w_ripe, w_room, w_tables⟩
theorem atStart : AtStart classFile x code maxLocals ret World_1 tables_1 room_1 Calls_1 rest_1 Pre_1 launch0 p0 e0 about1 theMethod args0 below0 :=
  ⟨lists_1, trivial, launch0.admits_env _ _ _, launch0.least_env, fairChoices_fair.cas, fairChoices_fair.clock, w_frames, w_args, w_heap, w_applies, trivial, trivial, w_case⟩
end start1
theorem witness_1 : WitnessClaimed_1 := ⟨start1.p0, start1.e0, start1.about1, start1.theMethod, start1.args0, start1.below0, start1.atStart⟩
end Jvm.Pilot.@@N@@
