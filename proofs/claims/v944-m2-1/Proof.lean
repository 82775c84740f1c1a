import JvmDerived
import JvmDerived.Pilot.@@N@@Statement
import JvmDerived.Pilot.@@N@@Code
set_option linter.unusedVariables false
set_option linter.unusedSimpArgs false
namespace Jvm.RoadKit
open Sem ClassFile Op Lib Jvm.Stand Jvm.Free Jvm.LawKit
section New
variable {p : Program} {l : Launch} {e : Env} {R : Room} {s : State} {m : MethodId} {args : Array Value} {below : List Frame} {meth : Method} {c : Code} {T : State} {locs : List Loc} {cells slots : Nat}
theorem retI (X : Stand p l e R s m args below meth c T locs cells slots) (hx : p.tables.exec = Jvm.exec) {pc : Nat} {Ls : Array Slot} {z : Int32} {rest : List Value} (hret : meth.sig.returnType = some .int) (hd : decode c.code pc = .ok (.ireturn, 1)) {fs : List Frame}
    (hl : ∀ (f : JFrame) (acts : List Action), f.method = m → f.locked = none → f.entered = [] → (doReturn e (T.setTop f) acts (some (.int z))).1 = T.setFrames fs) : Steps p.tables e below (T.setTop (mkF m pc Ls (.int z :: rest))) (T.setFrames fs) := by
  have hm' : T.vm.method? m = some meth := X.method'
  have hn : narrow .int (.int z) = .int z := rfl
  show Steps p.tables e below (T.setTop { method := m, pc := pc, locals := Ls, stack := _ :: rest, locked := none }) _
  jvm_step X.here [X.here.top, hx, hd, hm', hret, hn]
  first | (intro acts; rw [hl _ acts rfl rfl rfl]) | rw [hl _ _ rfl rfl rfl]
  exact Steps.refl _
end New
end Jvm.RoadKit
namespace Jvm.Pilot.@@N@@
open Jvm Jvm.ClassFile Sem Op Lib Jvm.Free Jvm.Stand Jvm.LawKit Jvm.RoadKit Bundle Jvm.Pilot.@@N@@.Jvm.D
section OwnArrays
variable {Z : State} {h h' : Heap} {a b : Addr} {ty : FieldType} {n sl : Nat} {f : Nat → Value} {v : Value} {ws : List Addr}
/-- an array of n places, by what each holds -/
def AF (Z : State) (h : Heap) (a : Addr) (ty : FieldType) (n : Nat) (f : Nat → Value) : Prop := ∃ c : Cell, Arr Z h a c ty ∧ c.slots.size = n ∧ ∀ j, j < n → c.slots[j]? = some (f j)
theorem AF.new {k : ClassId} {z : Int32} (A : Arr Z h a (newA k ty z) ty) (q : ¬ z < 0) : AF Z h a ty z.toNatClampNeg (fun _ => defaultValue ty) := by
  obtain ⟨c, A', -, S, -, H, -⟩ := Arv.new A q
  exact ⟨c, A', S, fun j hj => H j (by rw [S]; exact hj)⟩
theorem AF.lt (F : AF Z h a ty n f) : a < h.size := by obtain ⟨c, A, -⟩ := F; exact A.lt
theorem AF.ext (F : AF Z h a ty n f) (E : Ext h h') : AF Z h' a ty n f := by obtain ⟨c, A, r⟩ := F; exact ⟨c, A.ext E, r⟩
theorem AF.other (F : AF Z h b ty n f) (W : Wr h h' a sl v) (q : b ≠ a) : AF Z h' b ty n f := by obtain ⟨c, A, r⟩ := F; exact ⟨c, A.other W q, r⟩
theorem AF.keep (F : AF Z h a ty n f) (K : Keep h h' ws) (q : a ∉ ws) : AF Z h' a ty n f := by obtain ⟨c, A, r⟩ := F; exact ⟨c, ⟨K.2.1 a c A.1 q, A.2⟩, r⟩
theorem AF.congr {g : Nat → Value} (F : AF Z h a ty n f) (q : ∀ j, j < n → f j = g j) : AF Z h a ty n g := by
  obtain ⟨c, A, S, H⟩ := F
  exact ⟨c, A, S, fun j hj => by rw [← q j hj]; exact H j hj⟩
theorem AF.same {c : Cell} (A : Arr Z h a c ty) (S : c.slots.size = n) (H : ∀ j, j < n → c.slots[j]? = some (f j)) (W : Wr h h' a sl v) : AF Z h' a ty n (fun i => if i = sl then v else f i) := by
  refine ⟨_, A.same W, by rw [sz_set]; exact S, fun j hj => ?_⟩
  by_cases q : j = sl
  · subst q
    simp only [if_true]
    simp [Cell.setSlot, S, hj]
  · simp only [q, if_false]
    simp only [Cell.setSlot]
    rw [Array.getElem?_setIfInBounds_ne (fun z => q z.symm)]; exact H j hj
theorem AF_in {c : Cell} {j : Int32} (S : c.slots.size = n) (h1 : 0 ≤ j.toInt) (h2 : j.toInt < n) : ¬ (j < 0 ∨ c.slots.size ≤ j.toNatClampNeg) := by
  rw [S, Int32.lt_iff_toInt_lt, show (0 : Int32).toInt = 0 from rfl]
  simp only [Int32.toNatClampNeg]; omega
theorem AF_at {c : Cell} {j : Int32} {w : Value} (H : ∀ j, j < n → c.slots[j]? = some (f j)) (h1 : 0 ≤ j.toInt) (h2 : j.toInt < n) (e : f j.toNatClampNeg = w) : c.slots[j.toNatClampNeg]? = some w := by
  rw [← e]; exact H _ (by simp only [Int32.toNatClampNeg]; omega)
end OwnArrays
theorem d4_0 : decode method_5_code 0 = .ok (.iload_n 0, 1) := by decide +kernel
theorem d4_1 : decode method_5_code 1 = .ok (.bipush 10, 2) := by decide +kernel
theorem d4_3 : decode method_5_code 3 = .ok (.if_icmp .ge 9, 3) := by decide +kernel
theorem d4_6 : decode method_5_code 6 = .ok (.bipush 48, 2) := by decide +kernel
theorem d4_8 : decode method_5_code 8 = .ok (.iload_n 0, 1) := by decide +kernel
theorem d4_9 : decode method_5_code 9 = .ok (.iadd, 1) := by decide +kernel
theorem d4_10 : decode method_5_code 10 = .ok (.i2b, 1) := by decide +kernel
theorem d4_11 : decode method_5_code 11 = .ok (.ireturn, 1) := by decide +kernel
theorem d4_12 : decode method_5_code 12 = .ok (.bipush 97, 2) := by decide +kernel
theorem d4_14 : decode method_5_code 14 = .ok (.iload_n 0, 1) := by decide +kernel
theorem d4_15 : decode method_5_code 15 = .ok (.bipush 10, 2) := by decide +kernel
theorem d4_17 : decode method_5_code 17 = .ok (.isub, 1) := by decide +kernel
theorem d4_18 : decode method_5_code 18 = .ok (.iadd, 1) := by decide +kernel
theorem d4_19 : decode method_5_code 19 = .ok (.i2b, 1) := by decide +kernel
theorem d4_20 : decode method_5_code 20 = .ok (.ireturn, 1) := by decide +kernel
theorem pn_4 : plainName "com/example/relicary/relicary/siard/SiardTextEscapePinLaw" = true := by first | (simp [plainName, overriddenIn]; done) | decide +kernel
theorem ef_4 (m : MethodId) (x0 : Int32) : entryFrame m #[(.int x0)] 1 = mkF m 0 #[.val (.int x0)] [] := by first | (simp [entryFrame, mkF, argsToLocals, Value.category]; done) | rfl
def F4 (p1 : Int32) : Int32 :=
  (if p1 < (10 : Int32) then (nar .byte (((48 : Int32) + p1).toInt8.toInt32)) else (nar .byte (((97 : Int32) + (p1 - (10 : Int32))).toInt8.toInt32)))
def Q4 (Z : State) (p1 : Int32) (h0 : Heap) (n0 : Nat) (v : Option Value) (h : Heap) (L : List Loc) : Prop := v = some (.int (F4 p1)) ∧ L = [] ∧ h = h0
set_option maxRecDepth 65536 in
set_option maxHeartbeats 40000000 in
theorem rm4 (l : Launch) (Z : State) (a0 : Array Value) (hw : ∀ d ∈ tables_1, d.before a0 Z = true) (ws : List Jvm.Cond) (p1 : Int32) (h0 : Heap) (n0 : Nat) (Z0 : n0 ≤ h0.size) :
    MetFree l (⟨"com/example/relicary/relicary/siard/SiardTextEscapePinLaw", "hex", "(I)B"⟩ : MethodName) (head1 (Jvm.Cond.code (⟨"com/example/relicary/relicary/siard/SiardTextEscapePinLaw", "hex", "(I)B"⟩ : MethodName) method_5_code 1 (some .byte) :: ws) ({ frames := 0, cells := 0, slots := 0, locals := 0 } : Room)) (fun a U => a = #[(.int p1)] ∧ Z.Warmed39 U.vm ∧ U.heap = h0) (fun _ _ _ _ _ => True) (fun _ U o U' => ∃ v L, o = .returned v ∧ Q4 Z p1 h0 n0 v U'.heap L ∧ FrameEnd U o U' L ({ frames := 0, cells := 0, slots := 0, locals := 0 } : Room).cells ({ frames := 0, cells := 0, slots := 0, locals := 0 } : Room).slots) := by
  refine MetFree.of_bodySF (plainFor_of_name pn_4) hisR ?_
  intro p e s m args below meth c s₁ Bd hml0 hP hK
  obtain ⟨rfl, hZ, hh⟩ := hP
  have hx := Bd.exec
  have hby := Bd.bytes
  have hml : c.maxLocals = 1 := hml0
  have hown : s.vm.findClass "com/example/relicary/relicary/siard/SiardTextEscapePinLaw" = some m.cls := findClass_of_methodNamed Bd.named
  have hnm := (name_of_methodNamed Bd.named Bd.method).1
  have X0 : Stand p l e ({ frames := 0, cells := 0, slots := 0, locals := 0 } : Room) s m #[(.int p1)] below meth c s₁ [] 0 0 := Stand.of_body Bd
  have e0 : s₁.heap = h0 := by rw [← hh, Bd.state]; rfl
  have N0 := Fr.nil n0
  have pre0 : ∀ t, Steps p.tables e below (s₁.setTop (mkF m 0 #[.val (.int p1)] [])) t → Steps p.tables e below (s₁.setTop (entryFrame m #[(.int p1)] 1)) t := fun t k => castTop (ef_4 m p1) k
  have R2 : ∀ t, Steps p.tables e below (s₁.setTop (mkF m 3 #[.val (.int p1)] [(.int (10 : Int32)), (.int p1)])) t → Steps p.tables e below (s₁.setTop (entryFrame m #[(.int p1)] 1)) t := by
    intro t kt
    refine pre0 _ ?_
    show Steps p.tables e below (s₁.setTop (mkF m 0 #[.val (.int p1)] [])) _
    refine XS.iloadN X0.here hx rfl (hb hby d4_0) rfl ?_
    show Steps p.tables e below (s₁.setTop (mkF m 1 #[.val (.int p1)] [(.int p1)])) _
    refine XS.bipush X0.here hx rfl (hb hby d4_1) ?_
    exact kt
  by_cases hc1 : p1 < (10 : Int32)
  · have R3 : ∀ t, Steps p.tables e below (s₁.setTop (mkF m 11 #[.val (.int p1)] [(.int (((48 : Int32) + p1).toInt8.toInt32))])) t → Steps p.tables e below (s₁.setTop (entryFrame m #[(.int p1)] 1)) t := by
      intro t kt
      refine R2 _ ?_
      show Steps p.tables e below (s₁.setTop (mkF m 3 #[.val (.int p1)] [(.int (10 : Int32)), (.int p1)])) _
      refine XS.icmpNo X0.here hx rfl (hb hby d4_3) rfl (tlt hc1).2.1 ?_
      show Steps p.tables e below (s₁.setTop (mkF m 6 #[.val (.int p1)] [])) _
      refine XS.bipush X0.here hx rfl (hb hby d4_6) ?_
      show Steps p.tables e below (s₁.setTop (mkF m 8 #[.val (.int p1)] [(.int (48 : Int32))])) _
      refine XS.iloadN X0.here hx rfl (hb hby d4_8) rfl ?_
      show Steps p.tables e below (s₁.setTop (mkF m 9 #[.val (.int p1)] [(.int p1), (.int (48 : Int32))])) _
      refine XS.iadd X0.here hx rfl (hb hby d4_9) rfl ?_
      show Steps p.tables e below (s₁.setTop (mkF m 10 #[.val (.int p1)] [(.int ((48 : Int32) + p1))])) _
      refine XS.i2b X0.here hx rfl (hb hby d4_10) rfl ?_
      exact kt
    obtain ⟨fs, hr, hrun, hended, hW, hsame⟩ := X0.leave (v := some (.int (nar .byte (((48 : Int32) + p1).toInt8.toInt32)))) (fun h => by rw [Bd.returns] at h; cases h)
    refine ⟨_, _, R3 _ ?_, hrun, hended, _, _, rfl, ?_, ⟨_, rfl⟩, hW, hsame.mono (by decide) (by decide)⟩
    · show Steps p.tables e below (s₁.setTop (mkF m 11 #[.val (.int p1)] [(.int (((48 : Int32) + p1).toInt8.toInt32))])) _
      exact retN X0 hx (t := .byte) Bd.returns (by simp) (hb hby d4_11) hr
    · show Q4 Z p1 h0 n0 _ s₁.heap _
      rw [e0]
      refine ⟨?_, rfl, rfl⟩
      simp only [F4, if_pos hc1]
  · have R4 : ∀ t, Steps p.tables e below (s₁.setTop (mkF m 20 #[.val (.int p1)] [(.int (((97 : Int32) + (p1 - (10 : Int32))).toInt8.toInt32))])) t → Steps p.tables e below (s₁.setTop (entryFrame m #[(.int p1)] 1)) t := by
      intro t kt
      refine R2 _ ?_
      show Steps p.tables e below (s₁.setTop (mkF m 3 #[.val (.int p1)] [(.int (10 : Int32)), (.int p1)])) _
      refine XS.icmpYes X0.here hx rfl (pc0 := 3) (pc' := 12) rfl (hb hby d4_3) rfl (flt hc1).2.1 (by decide) (by decide) ?_
      show Steps p.tables e below (s₁.setTop (mkF m 12 #[.val (.int p1)] [])) _
      refine XS.bipush X0.here hx rfl (hb hby d4_12) ?_
      show Steps p.tables e below (s₁.setTop (mkF m 14 #[.val (.int p1)] [(.int (97 : Int32))])) _
      refine XS.iloadN X0.here hx rfl (hb hby d4_14) rfl ?_
      show Steps p.tables e below (s₁.setTop (mkF m 15 #[.val (.int p1)] [(.int p1), (.int (97 : Int32))])) _
      refine XS.bipush X0.here hx rfl (hb hby d4_15) ?_
      show Steps p.tables e below (s₁.setTop (mkF m 17 #[.val (.int p1)] [(.int (10 : Int32)), (.int p1), (.int (97 : Int32))])) _
      refine XS.isub X0.here hx rfl (hb hby d4_17) rfl ?_
      show Steps p.tables e below (s₁.setTop (mkF m 18 #[.val (.int p1)] [(.int (p1 - (10 : Int32))), (.int (97 : Int32))])) _
      refine XS.iadd X0.here hx rfl (hb hby d4_18) rfl ?_
      show Steps p.tables e below (s₁.setTop (mkF m 19 #[.val (.int p1)] [(.int ((97 : Int32) + (p1 - (10 : Int32))))])) _
      refine XS.i2b X0.here hx rfl (hb hby d4_19) rfl ?_
      exact kt
    obtain ⟨fs, hr, hrun, hended, hW, hsame⟩ := X0.leave (v := some (.int (nar .byte (((97 : Int32) + (p1 - (10 : Int32))).toInt8.toInt32)))) (fun h => by rw [Bd.returns] at h; cases h)
    refine ⟨_, _, R4 _ ?_, hrun, hended, _, _, rfl, ?_, ⟨_, rfl⟩, hW, hsame.mono (by decide) (by decide)⟩
    · show Steps p.tables e below (s₁.setTop (mkF m 20 #[.val (.int p1)] [(.int (((97 : Int32) + (p1 - (10 : Int32))).toInt8.toInt32))])) _
      exact retN X0 hx (t := .byte) Bd.returns (by simp) (hb hby d4_20) hr
    · show Q4 Z p1 h0 n0 _ s₁.heap _
      rw [e0]
      refine ⟨?_, rfl, rfl⟩
      simp only [F4, if_neg hc1]
theorem d3_0 : decode method_4_code 0 = .ok (.iload_n 0, 1) := by decide +kernel
theorem d3_1 : decode method_4_code 1 = .ok (.iload_n 1, 1) := by decide +kernel
theorem d3_2 : decode method_4_code 2 = .ok (.isub, 1) := by decide +kernel
theorem d3_3 : decode method_4_code 3 = .ok (.istore 4, 2) := by decide +kernel
theorem d3_5 : decode method_4_code 5 = .ok (.iload 4, 2) := by decide +kernel
theorem d3_7 : decode method_4_code 7 = .ok (.ifCond .lt 9, 3) := by decide +kernel
theorem d3_10 : decode method_4_code 10 = .ok (.iload 4, 2) := by decide +kernel
theorem d3_12 : decode method_4_code 12 = .ok (.iconst 5, 1) := by decide +kernel
theorem d3_13 : decode method_4_code 13 = .ok (.if_icmp .le 5, 3) := by decide +kernel
theorem d3_16 : decode method_4_code 16 = .ok (.iload_n 3, 1) := by decide +kernel
theorem d3_17 : decode method_4_code 17 = .ok (.ireturn, 1) := by decide +kernel
theorem d3_18 : decode method_4_code 18 = .ok (.iload 4, 2) := by decide +kernel
theorem d3_20 : decode method_4_code 20 = .ok (.ifCond .ne 6, 3) := by decide +kernel
theorem d3_23 : decode method_4_code 23 = .ok (.bipush 92, 2) := by decide +kernel
theorem d3_25 : decode method_4_code 25 = .ok (.ireturn, 1) := by decide +kernel
theorem d3_26 : decode method_4_code 26 = .ok (.iload 4, 2) := by decide +kernel
theorem d3_28 : decode method_4_code 28 = .ok (.iconst 1, 1) := by decide +kernel
theorem d3_29 : decode method_4_code 29 = .ok (.if_icmp .ne 6, 3) := by decide +kernel
theorem d3_32 : decode method_4_code 32 = .ok (.bipush 117, 2) := by decide +kernel
theorem d3_34 : decode method_4_code 34 = .ok (.ireturn, 1) := by decide +kernel
theorem d3_35 : decode method_4_code 35 = .ok (.iconst 4, 1) := by decide +kernel
theorem d3_36 : decode method_4_code 36 = .ok (.iconst 5, 1) := by decide +kernel
theorem d3_37 : decode method_4_code 37 = .ok (.iload 4, 2) := by decide +kernel
theorem d3_39 : decode method_4_code 39 = .ok (.isub, 1) := by decide +kernel
theorem d3_40 : decode method_4_code 40 = .ok (.imul, 1) := by decide +kernel
theorem d3_41 : decode method_4_code 41 = .ok (.istore 5, 2) := by decide +kernel
theorem d3_43 : decode method_4_code 43 = .ok (.iload_n 2, 1) := by decide +kernel
theorem d3_44 : decode method_4_code 44 = .ok (.iload 5, 2) := by decide +kernel
theorem d3_46 : decode method_4_code 46 = .ok (.ishr, 1) := by decide +kernel
theorem d3_47 : decode method_4_code 47 = .ok (.bipush 15, 2) := by decide +kernel
theorem d3_49 : decode method_4_code 49 = .ok (.iand, 1) := by decide +kernel
theorem d3_50 : decode method_4_code 50 = .ok (.istore 6, 2) := by decide +kernel
theorem d3_52 : decode method_4_code 52 = .ok (.iload 6, 2) := by decide +kernel
theorem d3_54 : decode method_4_code 54 = .ok (.invokestatic 23, 3) := by decide +kernel
theorem d3_57 : decode method_4_code 57 = .ok (.ireturn, 1) := by decide +kernel
theorem pn_3 : plainName "com/example/relicary/relicary/siard/SiardTextEscapePinLaw" = true := by first | (simp [plainName, overriddenIn]; done) | decide +kernel
theorem pd_3_4 : parseMethodDescriptor "(I)B" = some ⟨[.int], some .byte⟩ := by decide +kernel
theorem ef_3 (m : MethodId) (x0 : Int32) (x1 : Int32) (x2 : Int32) (x3 : Int32) : entryFrame m #[(.int x0), (.int x1), (.int x2), (.int x3)] 7 = mkF m 0 #[.val (.int x0), .val (.int x1), .val (.int x2), .val (.int x3), .unset, .unset, .unset] [] := by first | (simp [entryFrame, mkF, argsToLocals, Value.category]; done) | rfl
def F3 (p1 : Int32) (p2 : Int32) (p3 : Int32) (p4 : Int32) : Int32 :=
  (if (p1 - p2) < (0 : Int32) then (nar .byte p4) else (if (5 : Int32) < (p1 - p2) then (nar .byte p4) else (if (p1 - p2) = (0 : Int32) then (nar .byte (92 : Int32)) else (if (p1 - p2) = (1 : Int32) then (nar .byte (117 : Int32)) else (let v14 : Int32 := ((p3 >>> (((4 : Int32) * ((5 : Int32) - (p1 - p2))) &&& 31)) &&& (15 : Int32)); (nar .byte (F4 v14)))))))
def Q3 (Z : State) (p1 : Int32) (p2 : Int32) (p3 : Int32) (p4 : Int32) (h0 : Heap) (n0 : Nat) (v : Option Value) (h : Heap) (L : List Loc) : Prop := v = some (.int (F3 p1 p2 p3 p4)) ∧ L = [] ∧ h = h0
set_option maxRecDepth 65536 in
set_option maxHeartbeats 40000000 in
theorem rm3 (l : Launch) (Z : State) (a0 : Array Value) (hw : ∀ d ∈ tables_1, d.before a0 Z = true) (ws : List Jvm.Cond) (p1 : Int32) (p2 : Int32) (p3 : Int32) (p4 : Int32) (h0 : Heap) (n0 : Nat) (Z0 : n0 ≤ h0.size) :
    MetFree l (⟨"com/example/relicary/relicary/siard/SiardTextEscapePinLaw", "expected", "(IICB)B"⟩ : MethodName) (head1 (Jvm.Cond.code (⟨"com/example/relicary/relicary/siard/SiardTextEscapePinLaw", "expected", "(IICB)B"⟩ : MethodName) method_4_code 7 (some .byte) :: ws) ({ frames := 1, cells := 0, slots := 0, locals := 12 } : Room)) (fun a U => a = #[(.int p1), (.int p2), (.int p3), (.int p4)] ∧ Z.Warmed39 U.vm ∧ U.heap = h0) (fun _ _ _ _ _ => True) (fun _ U o U' => ∃ v L, o = .returned v ∧ Q3 Z p1 p2 p3 p4 h0 n0 v U'.heap L ∧ FrameEnd U o U' L ({ frames := 1, cells := 0, slots := 0, locals := 12 } : Room).cells ({ frames := 1, cells := 0, slots := 0, locals := 12 } : Room).slots) := by
  refine MetFree.of_bodySF (plainFor_of_name pn_3) hisR ?_
  intro p e s m args below meth c s₁ Bd hml0 hP hK
  obtain ⟨rfl, hZ, hh⟩ := hP
  have hx := Bd.exec
  have hby := Bd.bytes
  have hml : c.maxLocals = 7 := hml0
  have hown : s.vm.findClass "com/example/relicary/relicary/siard/SiardTextEscapePinLaw" = some m.cls := findClass_of_methodNamed Bd.named
  have hnm := (name_of_methodNamed Bd.named Bd.method).1
  have X0 : Stand p l e ({ frames := 1, cells := 0, slots := 0, locals := 12 } : Room) s m #[(.int p1), (.int p2), (.int p3), (.int p4)] below meth c s₁ [] 0 0 := Stand.of_body Bd
  have e0 : s₁.heap = h0 := by rw [← hh, Bd.state]; rfl
  have N0 := Fr.nil n0
  have pre0 : ∀ t, Steps p.tables e below (s₁.setTop (mkF m 0 #[.val (.int p1), .val (.int p2), .val (.int p3), .val (.int p4), .unset, .unset, .unset] [])) t → Steps p.tables e below (s₁.setTop (entryFrame m #[(.int p1), (.int p2), (.int p3), (.int p4)] 7)) t := fun t k => castTop (ef_3 m p1 p2 p3 p4) k
  have R2 : ∀ t, Steps p.tables e below (s₁.setTop (mkF m 7 #[.val (.int p1), .val (.int p2), .val (.int p3), .val (.int p4), .val (.int (p1 - p2)), .unset, .unset] [(.int (p1 - p2))])) t → Steps p.tables e below (s₁.setTop (entryFrame m #[(.int p1), (.int p2), (.int p3), (.int p4)] 7)) t := by
    intro t kt
    refine pre0 _ ?_
    show Steps p.tables e below (s₁.setTop (mkF m 0 #[.val (.int p1), .val (.int p2), .val (.int p3), .val (.int p4), .unset, .unset, .unset] [])) _
    refine XS.iloadN X0.here hx rfl (hb hby d3_0) rfl ?_
    show Steps p.tables e below (s₁.setTop (mkF m 1 #[.val (.int p1), .val (.int p2), .val (.int p3), .val (.int p4), .unset, .unset, .unset] [(.int p1)])) _
    refine XS.iloadN X0.here hx rfl (hb hby d3_1) rfl ?_
    show Steps p.tables e below (s₁.setTop (mkF m 2 #[.val (.int p1), .val (.int p2), .val (.int p3), .val (.int p4), .unset, .unset, .unset] [(.int p2), (.int p1)])) _
    refine XS.isub X0.here hx rfl (hb hby d3_2) rfl ?_
    show Steps p.tables e below (s₁.setTop (mkF m 3 #[.val (.int p1), .val (.int p2), .val (.int p3), .val (.int p4), .unset, .unset, .unset] [(.int (p1 - p2))])) _
    refine XS.istore X0.here hx rfl (hb hby d3_3) rfl (l' := #[.val (.int p1), .val (.int p2), .val (.int p3), .val (.int p4), .val (.int (p1 - p2)), .unset, .unset]) rfl ?_
    show Steps p.tables e below (s₁.setTop (mkF m 5 #[.val (.int p1), .val (.int p2), .val (.int p3), .val (.int p4), .val (.int (p1 - p2)), .unset, .unset] [])) _
    refine XS.iload X0.here hx rfl (hb hby d3_5) rfl ?_
    exact kt
  by_cases hc1 : (p1 - p2) < (0 : Int32)
  · have R3 : ∀ t, Steps p.tables e below (s₁.setTop (mkF m 17 #[.val (.int p1), .val (.int p2), .val (.int p3), .val (.int p4), .val (.int (p1 - p2)), .unset, .unset] [(.int p4)])) t → Steps p.tables e below (s₁.setTop (entryFrame m #[(.int p1), (.int p2), (.int p3), (.int p4)] 7)) t := by
      intro t kt
      refine R2 _ ?_
      show Steps p.tables e below (s₁.setTop (mkF m 7 #[.val (.int p1), .val (.int p2), .val (.int p3), .val (.int p4), .val (.int (p1 - p2)), .unset, .unset] [(.int (p1 - p2))])) _
      refine XS.ifYes X0.here hx rfl (pc0 := 7) (pc' := 16) rfl (hb hby d3_7) rfl ((if0 _ _).trans (tlt hc1).1) (by decide) (by decide) ?_
      show Steps p.tables e below (s₁.setTop (mkF m 16 #[.val (.int p1), .val (.int p2), .val (.int p3), .val (.int p4), .val (.int (p1 - p2)), .unset, .unset] [])) _
      refine XS.iloadN X0.here hx rfl (hb hby d3_16) rfl ?_
      exact kt
    obtain ⟨fs, hr, hrun, hended, hW, hsame⟩ := X0.leave (v := some (.int (nar .byte p4))) (fun h => by rw [Bd.returns] at h; cases h)
    refine ⟨_, _, R3 _ ?_, hrun, hended, _, _, rfl, ?_, ⟨_, rfl⟩, hW, hsame.mono (by decide) (by decide)⟩
    · show Steps p.tables e below (s₁.setTop (mkF m 17 #[.val (.int p1), .val (.int p2), .val (.int p3), .val (.int p4), .val (.int (p1 - p2)), .unset, .unset] [(.int p4)])) _
      exact retN X0 hx (t := .byte) Bd.returns (by simp) (hb hby d3_17) hr
    · show Q3 Z p1 p2 p3 p4 h0 n0 _ s₁.heap _
      rw [e0]
      refine ⟨?_, rfl, rfl⟩
      simp only [F3, if_pos hc1]
  · have R5 : ∀ t, Steps p.tables e below (s₁.setTop (mkF m 13 #[.val (.int p1), .val (.int p2), .val (.int p3), .val (.int p4), .val (.int (p1 - p2)), .unset, .unset] [(.int (5 : Int32)), (.int (p1 - p2))])) t → Steps p.tables e below (s₁.setTop (entryFrame m #[(.int p1), (.int p2), (.int p3), (.int p4)] 7)) t := by
      intro t kt
      refine R2 _ ?_
      show Steps p.tables e below (s₁.setTop (mkF m 7 #[.val (.int p1), .val (.int p2), .val (.int p3), .val (.int p4), .val (.int (p1 - p2)), .unset, .unset] [(.int (p1 - p2))])) _
      refine XS.ifNo X0.here hx rfl (hb hby d3_7) rfl ((if0 _ _).trans (flt hc1).1) ?_
      show Steps p.tables e below (s₁.setTop (mkF m 10 #[.val (.int p1), .val (.int p2), .val (.int p3), .val (.int p4), .val (.int (p1 - p2)), .unset, .unset] [])) _
      refine XS.iload X0.here hx rfl (hb hby d3_10) rfl ?_
      show Steps p.tables e below (s₁.setTop (mkF m 12 #[.val (.int p1), .val (.int p2), .val (.int p3), .val (.int p4), .val (.int (p1 - p2)), .unset, .unset] [(.int (p1 - p2))])) _
      refine XS.iconst X0.here hx rfl (hb hby d3_12) ?_
      exact kt
    by_cases hc4 : (5 : Int32) < (p1 - p2)
    · have R6 : ∀ t, Steps p.tables e below (s₁.setTop (mkF m 17 #[.val (.int p1), .val (.int p2), .val (.int p3), .val (.int p4), .val (.int (p1 - p2)), .unset, .unset] [(.int p4)])) t → Steps p.tables e below (s₁.setTop (entryFrame m #[(.int p1), (.int p2), (.int p3), (.int p4)] 7)) t := by
        intro t kt
        refine R5 _ ?_
        show Steps p.tables e below (s₁.setTop (mkF m 13 #[.val (.int p1), .val (.int p2), .val (.int p3), .val (.int p4), .val (.int (p1 - p2)), .unset, .unset] [(.int (5 : Int32)), (.int (p1 - p2))])) _
        refine XS.icmpNo X0.here hx rfl (hb hby d3_13) rfl (tlt hc4).2.2.2 ?_
        show Steps p.tables e below (s₁.setTop (mkF m 16 #[.val (.int p1), .val (.int p2), .val (.int p3), .val (.int p4), .val (.int (p1 - p2)), .unset, .unset] [])) _
        refine XS.iloadN X0.here hx rfl (hb hby d3_16) rfl ?_
        exact kt
      obtain ⟨fs, hr, hrun, hended, hW, hsame⟩ := X0.leave (v := some (.int (nar .byte p4))) (fun h => by rw [Bd.returns] at h; cases h)
      refine ⟨_, _, R6 _ ?_, hrun, hended, _, _, rfl, ?_, ⟨_, rfl⟩, hW, hsame.mono (by decide) (by decide)⟩
      · show Steps p.tables e below (s₁.setTop (mkF m 17 #[.val (.int p1), .val (.int p2), .val (.int p3), .val (.int p4), .val (.int (p1 - p2)), .unset, .unset] [(.int p4)])) _
        exact retN X0 hx (t := .byte) Bd.returns (by simp) (hb hby d3_17) hr
      · show Q3 Z p1 p2 p3 p4 h0 n0 _ s₁.heap _
        rw [e0]
        refine ⟨?_, rfl, rfl⟩
        simp only [F3, if_neg hc1, if_pos hc4]
    · have R8 : ∀ t, Steps p.tables e below (s₁.setTop (mkF m 20 #[.val (.int p1), .val (.int p2), .val (.int p3), .val (.int p4), .val (.int (p1 - p2)), .unset, .unset] [(.int (p1 - p2))])) t → Steps p.tables e below (s₁.setTop (entryFrame m #[(.int p1), (.int p2), (.int p3), (.int p4)] 7)) t := by
        intro t kt
        refine R5 _ ?_
        show Steps p.tables e below (s₁.setTop (mkF m 13 #[.val (.int p1), .val (.int p2), .val (.int p3), .val (.int p4), .val (.int (p1 - p2)), .unset, .unset] [(.int (5 : Int32)), (.int (p1 - p2))])) _
        refine XS.icmpYes X0.here hx rfl (pc0 := 13) (pc' := 18) rfl (hb hby d3_13) rfl (flt hc4).2.2.2 (by decide) (by decide) ?_
        show Steps p.tables e below (s₁.setTop (mkF m 18 #[.val (.int p1), .val (.int p2), .val (.int p3), .val (.int p4), .val (.int (p1 - p2)), .unset, .unset] [])) _
        refine XS.iload X0.here hx rfl (hb hby d3_18) rfl ?_
        exact kt
      by_cases hc7 : (p1 - p2) = (0 : Int32)
      · have R9 : ∀ t, Steps p.tables e below (s₁.setTop (mkF m 25 #[.val (.int p1), .val (.int p2), .val (.int p3), .val (.int p4), .val (.int (p1 - p2)), .unset, .unset] [(.int (92 : Int32))])) t → Steps p.tables e below (s₁.setTop (entryFrame m #[(.int p1), (.int p2), (.int p3), (.int p4)] 7)) t := by
          intro t kt
          refine R8 _ ?_
          show Steps p.tables e below (s₁.setTop (mkF m 20 #[.val (.int p1), .val (.int p2), .val (.int p3), .val (.int p4), .val (.int (p1 - p2)), .unset, .unset] [(.int (p1 - p2))])) _
          refine XS.ifNo X0.here hx rfl (hb hby d3_20) rfl ((if0 _ _).trans (teq hc7).2) ?_
          show Steps p.tables e below (s₁.setTop (mkF m 23 #[.val (.int p1), .val (.int p2), .val (.int p3), .val (.int p4), .val (.int (p1 - p2)), .unset, .unset] [])) _
          refine XS.bipush X0.here hx rfl (hb hby d3_23) ?_
          exact kt
        obtain ⟨fs, hr, hrun, hended, hW, hsame⟩ := X0.leave (v := some (.int (nar .byte (92 : Int32)))) (fun h => by rw [Bd.returns] at h; cases h)
        refine ⟨_, _, R9 _ ?_, hrun, hended, _, _, rfl, ?_, ⟨_, rfl⟩, hW, hsame.mono (by decide) (by decide)⟩
        · show Steps p.tables e below (s₁.setTop (mkF m 25 #[.val (.int p1), .val (.int p2), .val (.int p3), .val (.int p4), .val (.int (p1 - p2)), .unset, .unset] [(.int (92 : Int32))])) _
          exact retN X0 hx (t := .byte) Bd.returns (by simp) (hb hby d3_25) hr
        · show Q3 Z p1 p2 p3 p4 h0 n0 _ s₁.heap _
          rw [e0]
          refine ⟨?_, rfl, rfl⟩
          simp only [F3, if_neg hc1, if_neg hc4, if_pos hc7]
      · have R11 : ∀ t, Steps p.tables e below (s₁.setTop (mkF m 29 #[.val (.int p1), .val (.int p2), .val (.int p3), .val (.int p4), .val (.int (p1 - p2)), .unset, .unset] [(.int (1 : Int32)), (.int (p1 - p2))])) t → Steps p.tables e below (s₁.setTop (entryFrame m #[(.int p1), (.int p2), (.int p3), (.int p4)] 7)) t := by
          intro t kt
          refine R8 _ ?_
          show Steps p.tables e below (s₁.setTop (mkF m 20 #[.val (.int p1), .val (.int p2), .val (.int p3), .val (.int p4), .val (.int (p1 - p2)), .unset, .unset] [(.int (p1 - p2))])) _
          refine XS.ifYes X0.here hx rfl (pc0 := 20) (pc' := 26) rfl (hb hby d3_20) rfl ((if0 _ _).trans (feq hc7).2) (by decide) (by decide) ?_
          show Steps p.tables e below (s₁.setTop (mkF m 26 #[.val (.int p1), .val (.int p2), .val (.int p3), .val (.int p4), .val (.int (p1 - p2)), .unset, .unset] [])) _
          refine XS.iload X0.here hx rfl (hb hby d3_26) rfl ?_
          show Steps p.tables e below (s₁.setTop (mkF m 28 #[.val (.int p1), .val (.int p2), .val (.int p3), .val (.int p4), .val (.int (p1 - p2)), .unset, .unset] [(.int (p1 - p2))])) _
          refine XS.iconst X0.here hx rfl (hb hby d3_28) ?_
          exact kt
        by_cases hc10 : (p1 - p2) = (1 : Int32)
        · have R12 : ∀ t, Steps p.tables e below (s₁.setTop (mkF m 34 #[.val (.int p1), .val (.int p2), .val (.int p3), .val (.int p4), .val (.int (p1 - p2)), .unset, .unset] [(.int (117 : Int32))])) t → Steps p.tables e below (s₁.setTop (entryFrame m #[(.int p1), (.int p2), (.int p3), (.int p4)] 7)) t := by
            intro t kt
            refine R11 _ ?_
            show Steps p.tables e below (s₁.setTop (mkF m 29 #[.val (.int p1), .val (.int p2), .val (.int p3), .val (.int p4), .val (.int (p1 - p2)), .unset, .unset] [(.int (1 : Int32)), (.int (p1 - p2))])) _
            refine XS.icmpNo X0.here hx rfl (hb hby d3_29) rfl (teq hc10).2 ?_
            show Steps p.tables e below (s₁.setTop (mkF m 32 #[.val (.int p1), .val (.int p2), .val (.int p3), .val (.int p4), .val (.int (p1 - p2)), .unset, .unset] [])) _
            refine XS.bipush X0.here hx rfl (hb hby d3_32) ?_
            exact kt
          obtain ⟨fs, hr, hrun, hended, hW, hsame⟩ := X0.leave (v := some (.int (nar .byte (117 : Int32)))) (fun h => by rw [Bd.returns] at h; cases h)
          refine ⟨_, _, R12 _ ?_, hrun, hended, _, _, rfl, ?_, ⟨_, rfl⟩, hW, hsame.mono (by decide) (by decide)⟩
          · show Steps p.tables e below (s₁.setTop (mkF m 34 #[.val (.int p1), .val (.int p2), .val (.int p3), .val (.int p4), .val (.int (p1 - p2)), .unset, .unset] [(.int (117 : Int32))])) _
            exact retN X0 hx (t := .byte) Bd.returns (by simp) (hb hby d3_34) hr
          · show Q3 Z p1 p2 p3 p4 h0 n0 _ s₁.heap _
            rw [e0]
            refine ⟨?_, rfl, rfl⟩
            simp only [F3, if_neg hc1, if_neg hc4, if_neg hc7, if_pos hc10]
        · have R13 : ∀ t, Steps p.tables e below (s₁.setTop (mkF m 50 #[.val (.int p1), .val (.int p2), .val (.int p3), .val (.int p4), .val (.int (p1 - p2)), .val (.int ((4 : Int32) * ((5 : Int32) - (p1 - p2)))), .unset] [(.int ((p3 >>> (((4 : Int32) * ((5 : Int32) - (p1 - p2))) &&& 31)) &&& (15 : Int32)))])) t → Steps p.tables e below (s₁.setTop (entryFrame m #[(.int p1), (.int p2), (.int p3), (.int p4)] 7)) t := by
            intro t kt
            refine R11 _ ?_
            show Steps p.tables e below (s₁.setTop (mkF m 29 #[.val (.int p1), .val (.int p2), .val (.int p3), .val (.int p4), .val (.int (p1 - p2)), .unset, .unset] [(.int (1 : Int32)), (.int (p1 - p2))])) _
            refine XS.icmpYes X0.here hx rfl (pc0 := 29) (pc' := 35) rfl (hb hby d3_29) rfl (feq hc10).2 (by decide) (by decide) ?_
            show Steps p.tables e below (s₁.setTop (mkF m 35 #[.val (.int p1), .val (.int p2), .val (.int p3), .val (.int p4), .val (.int (p1 - p2)), .unset, .unset] [])) _
            refine XS.iconst X0.here hx rfl (hb hby d3_35) ?_
            show Steps p.tables e below (s₁.setTop (mkF m 36 #[.val (.int p1), .val (.int p2), .val (.int p3), .val (.int p4), .val (.int (p1 - p2)), .unset, .unset] [(.int (4 : Int32))])) _
            refine XS.iconst X0.here hx rfl (hb hby d3_36) ?_
            show Steps p.tables e below (s₁.setTop (mkF m 37 #[.val (.int p1), .val (.int p2), .val (.int p3), .val (.int p4), .val (.int (p1 - p2)), .unset, .unset] [(.int (5 : Int32)), (.int (4 : Int32))])) _
            refine XS.iload X0.here hx rfl (hb hby d3_37) rfl ?_
            show Steps p.tables e below (s₁.setTop (mkF m 39 #[.val (.int p1), .val (.int p2), .val (.int p3), .val (.int p4), .val (.int (p1 - p2)), .unset, .unset] [(.int (p1 - p2)), (.int (5 : Int32)), (.int (4 : Int32))])) _
            refine XS.isub X0.here hx rfl (hb hby d3_39) rfl ?_
            show Steps p.tables e below (s₁.setTop (mkF m 40 #[.val (.int p1), .val (.int p2), .val (.int p3), .val (.int p4), .val (.int (p1 - p2)), .unset, .unset] [(.int ((5 : Int32) - (p1 - p2))), (.int (4 : Int32))])) _
            refine XS.imul X0.here hx rfl (hb hby d3_40) rfl ?_
            show Steps p.tables e below (s₁.setTop (mkF m 41 #[.val (.int p1), .val (.int p2), .val (.int p3), .val (.int p4), .val (.int (p1 - p2)), .unset, .unset] [(.int ((4 : Int32) * ((5 : Int32) - (p1 - p2))))])) _
            refine XS.istore X0.here hx rfl (hb hby d3_41) rfl (l' := #[.val (.int p1), .val (.int p2), .val (.int p3), .val (.int p4), .val (.int (p1 - p2)), .val (.int ((4 : Int32) * ((5 : Int32) - (p1 - p2)))), .unset]) rfl ?_
            show Steps p.tables e below (s₁.setTop (mkF m 43 #[.val (.int p1), .val (.int p2), .val (.int p3), .val (.int p4), .val (.int (p1 - p2)), .val (.int ((4 : Int32) * ((5 : Int32) - (p1 - p2)))), .unset] [])) _
            refine XS.iloadN X0.here hx rfl (hb hby d3_43) rfl ?_
            show Steps p.tables e below (s₁.setTop (mkF m 44 #[.val (.int p1), .val (.int p2), .val (.int p3), .val (.int p4), .val (.int (p1 - p2)), .val (.int ((4 : Int32) * ((5 : Int32) - (p1 - p2)))), .unset] [(.int p3)])) _
            refine XS.iload X0.here hx rfl (hb hby d3_44) rfl ?_
            show Steps p.tables e below (s₁.setTop (mkF m 46 #[.val (.int p1), .val (.int p2), .val (.int p3), .val (.int p4), .val (.int (p1 - p2)), .val (.int ((4 : Int32) * ((5 : Int32) - (p1 - p2)))), .unset] [(.int ((4 : Int32) * ((5 : Int32) - (p1 - p2)))), (.int p3)])) _
            refine XS.ishr X0.here hx rfl (hb hby d3_46) rfl ?_
            show Steps p.tables e below (s₁.setTop (mkF m 47 #[.val (.int p1), .val (.int p2), .val (.int p3), .val (.int p4), .val (.int (p1 - p2)), .val (.int ((4 : Int32) * ((5 : Int32) - (p1 - p2)))), .unset] [(.int (p3 >>> (((4 : Int32) * ((5 : Int32) - (p1 - p2))) &&& 31)))])) _
            refine XS.bipush X0.here hx rfl (hb hby d3_47) ?_
            show Steps p.tables e below (s₁.setTop (mkF m 49 #[.val (.int p1), .val (.int p2), .val (.int p3), .val (.int p4), .val (.int (p1 - p2)), .val (.int ((4 : Int32) * ((5 : Int32) - (p1 - p2)))), .unset] [(.int (15 : Int32)), (.int (p3 >>> (((4 : Int32) * ((5 : Int32) - (p1 - p2))) &&& 31)))])) _
            refine XS.iand X0.here hx rfl (hb hby d3_49) rfl ?_
            exact kt
          obtain ⟨v14, hv14⟩ : ∃ zz9 : Int32, zz9 = ((p3 >>> (((4 : Int32) * ((5 : Int32) - (p1 - p2))) &&& 31)) &&& (15 : Int32)) := ⟨_, rfl⟩
          rw [← hv14] at R13
          obtain ⟨_, _, ⟨T15, L15, k15, n15⟩, -, X15, ⟨Lc15, hQ15, l15, y15, z15⟩, st15⟩ := Jvm.LawKit.callS X0 hx (y := (⟨"com/example/relicary/relicary/siard/SiardTextEscapePinLaw", "hex", "(I)B"⟩ : MethodName)) hown (mvT hZ (hw _ (List.mem_of_getElem? (i := 14) rfl))) (mvT hZ (hw _ (List.mem_of_getElem? (i := 15) rfl))) (mvT hZ (hw _ (List.mem_of_getElem? (i := 9) rfl))) (mvT hZ (hw _ (List.mem_of_getElem? (i := 16) rfl))) (by decide) (backOf (W := 0) (rm4 l Z a0 hw [] v14 h0 n0 Z0) hZ (hw _ (List.mem_of_getElem? (i := 16) rfl)) (hw _ (List.mem_of_getElem? (i := 9) rfl)) (by decide) (by decide)) (g := (mkF m 54 #[.val (.int p1), .val (.int p2), .val (.int p3), .val (.int p4), .val (.int (p1 - p2)), .val (.int ((4 : Int32) * ((5 : Int32) - (p1 - p2)))), .val (.int v14)] [(.int v14)])) rfl (by rw [hml]; rfl) (argsL := [(.int v14)]) (rest := []) (lenOf pd_3_4 rfl) rfl (by show 2 * 0 + _ ≤ _; exact Nat.le_of_eq rfl) (hb hby d3_54) (fun _ _ => ⟨rfl, e0, (by decide : 0 + 0 ≤ _), (by decide : 0 + 0 ≤ _)⟩)
          dsimp only [Pt.U, Pt.locs, Pt.cells, Pt.slots] at X15 l15 y15 z15 st15 hQ15
          subst l15 y15 z15
          obtain ⟨rfl, rfl, e15⟩ := hQ15
          replace X15 : Stand p l e ({ frames := 1, cells := 0, slots := 0, locals := 12 } : Room) s m #[(.int p1), (.int p2), (.int p3), (.int p4)] below meth c T15 [] 0 0 := X15
          have R16 : ∀ t, Steps p.tables e below (T15.setTop (mkF m 57 #[.val (.int p1), .val (.int p2), .val (.int p3), .val (.int p4), .val (.int (p1 - p2)), .val (.int ((4 : Int32) * ((5 : Int32) - (p1 - p2)))), .val (.int v14)] [(.int (F4 v14))])) t → Steps p.tables e below (s₁.setTop (entryFrame m #[(.int p1), (.int p2), (.int p3), (.int p4)] 7)) t := by
            intro t kt
            refine R13 _ ?_
            show Steps p.tables e below (s₁.setTop (mkF m 50 #[.val (.int p1), .val (.int p2), .val (.int p3), .val (.int p4), .val (.int (p1 - p2)), .val (.int ((4 : Int32) * ((5 : Int32) - (p1 - p2)))), .unset] [(.int v14)])) _
            refine XS.istore X0.here hx rfl (hb hby d3_50) rfl (l' := #[.val (.int p1), .val (.int p2), .val (.int p3), .val (.int p4), .val (.int (p1 - p2)), .val (.int ((4 : Int32) * ((5 : Int32) - (p1 - p2)))), .val (.int v14)]) rfl ?_
            show Steps p.tables e below (s₁.setTop (mkF m 52 #[.val (.int p1), .val (.int p2), .val (.int p3), .val (.int p4), .val (.int (p1 - p2)), .val (.int ((4 : Int32) * ((5 : Int32) - (p1 - p2)))), .val (.int v14)] [])) _
            refine XS.iload X0.here hx rfl (hb hby d3_52) rfl ?_
            show Steps p.tables e below (s₁.setTop (mkF m 54 #[.val (.int p1), .val (.int p2), .val (.int p3), .val (.int p4), .val (.int (p1 - p2)), .val (.int ((4 : Int32) * ((5 : Int32) - (p1 - p2)))), .val (.int v14)] [(.int v14)])) _
            refine st15 _ ?_
            exact kt
          obtain ⟨fs, hr, hrun, hended, hW, hsame⟩ := X15.leave (v := some (.int (nar .byte (F4 v14)))) (fun h => by rw [Bd.returns] at h; cases h)
          refine ⟨_, _, R16 _ ?_, hrun, hended, _, _, rfl, ?_, ⟨_, rfl⟩, hW, hsame.mono (by decide) (by decide)⟩
          · show Steps p.tables e below (T15.setTop (mkF m 57 #[.val (.int p1), .val (.int p2), .val (.int p3), .val (.int p4), .val (.int (p1 - p2)), .val (.int ((4 : Int32) * ((5 : Int32) - (p1 - p2)))), .val (.int v14)] [(.int (F4 v14))])) _
            exact retN X15 hx (t := .byte) Bd.returns (by simp) (hb hby d3_57) hr
          · show Q3 Z p1 p2 p3 p4 h0 n0 _ T15.heap _
            rw [e15]
            refine ⟨?_, rfl, rfl⟩
            subst hv14; simp only [F3, if_neg hc1, if_neg hc4, if_neg hc7, if_neg hc10]
def own_hx (k : Nat) : Int32 := Int32.ofNat (if k < 10 then 48 + k else 87 + k)
def own_w (p1 p3 : Int32) (g : Nat → Int32) (j : Nat) : Int32 :=
  if j = ((p3 + (2 : Int32)) + ((((0 : Int32) + (1 : Int32)) + (1 : Int32)) + (1 : Int32))).toNatClampNeg then (nar .byte (own_hx ((p1 >>> (((12 : Int32) - ((4 : Int32) * ((((0 : Int32) + (1 : Int32)) + (1 : Int32)) + (1 : Int32)))) &&& 31)) &&& (15 : Int32)).toNatClampNeg)) else
  if j = ((p3 + (2 : Int32)) + (((0 : Int32) + (1 : Int32)) + (1 : Int32))).toNatClampNeg then (nar .byte (own_hx ((p1 >>> (((12 : Int32) - ((4 : Int32) * (((0 : Int32) + (1 : Int32)) + (1 : Int32)))) &&& 31)) &&& (15 : Int32)).toNatClampNeg)) else
  if j = ((p3 + (2 : Int32)) + ((0 : Int32) + (1 : Int32))).toNatClampNeg then (nar .byte (own_hx ((p1 >>> (((12 : Int32) - ((4 : Int32) * ((0 : Int32) + (1 : Int32)))) &&& 31)) &&& (15 : Int32)).toNatClampNeg)) else
  if j = ((p3 + (2 : Int32)) + (0 : Int32)).toNatClampNeg then (nar .byte (own_hx ((p1 >>> (((12 : Int32) - ((4 : Int32) * (0 : Int32))) &&& 31)) &&& (15 : Int32)).toNatClampNeg)) else
  if j = (p3 + (1 : Int32)).toNatClampNeg then (nar .byte (117 : Int32)) else
  if j = p3.toNatClampNeg then (nar .byte (92 : Int32)) else g j
theorem own_15 (x : Int32) : 0 ≤ (x &&& (15 : Int32)).toInt ∧ (x &&& (15 : Int32)).toInt < ((16 : Nat) : Int) := by
  have h := c_mask x 15 4 (by decide) (by decide)
  omega
theorem own_at3 (x : Int32) : 0 ≤ (x &&& (3 : Int32)).toInt ∧ (x &&& (3 : Int32)).toInt ≤ 3 := by
  have h := c_mask x 3 2 (by decide) (by decide)
  omega
theorem own_a0 {p : Int32} (h : 0 ≤ p.toInt ∧ p.toInt ≤ 3) : p.toInt < ((10 : Nat) : Int) := by omega
theorem own_a1 {p : Int32} (h : 0 ≤ p.toInt ∧ p.toInt ≤ 3) : 0 ≤ (p + (1 : Int32)).toInt ∧ (p + (1 : Int32)).toInt < ((10 : Nat) : Int) := by
  have a := c_iadd p 1
  have r := rng32 (p + 1)
  rw [show (1 : Int32).toInt = 1 from rfl] at a
  omega
theorem own_a2 {p i : Int32} (h : 0 ≤ p.toInt ∧ p.toInt ≤ 3) (hi : 0 ≤ i.toInt ∧ i.toInt ≤ 3) : 0 ≤ ((p + (2 : Int32)) + i).toInt ∧ ((p + (2 : Int32)) + i).toInt < ((10 : Nat) : Int) := by
  have a := c_iadd p 2
  have r := rng32 (p + 2)
  have b := c_iadd (p + 2) i
  have r2 := rng32 ((p + 2) + i)
  rw [show (2 : Int32).toInt = 2 from rfl] at a
  omega
section OwnA
variable {Z : State} {h h' : Heap} {a b : Addr} {n : Nat}
theorem own_ext (K : Keep h h' []) : Ext h h' := ⟨K.1, fun x c q => K.2.1 x c q nin0⟩
theorem own_ne {ty : FieldType} {f : Nat → Value} (D : AF Z h a ty n f) (sz : h.size ≤ b) : a ≠ b := Nat.ne_of_lt (Nat.lt_of_lt_of_le D.lt sz)
theorem own_bb (y : Int32) : nar .byte (y.toInt8.toInt32) = y.toInt8.toInt32 := by simp [nar]
def own_fill (v d : Value) : Nat → Nat → Value
  | 0, _ => d
  | k + 1, i => if i = k then v else own_fill v d k i
theorem own_filled (v d : Value) : ∀ k i, i < k → own_fill v d k i = v
  | 0, _, q => by omega
  | k + 1, i, q => by
    unfold own_fill
    by_cases e : i = k
    · rw [if_pos e]
    · rw [if_neg e]; exact own_filled v d k i (by omega)
theorem own_init {y : Int32} (V : AF Z h a .byte 10 (own_fill (.int (nar .byte (y.toInt8.toInt32))) (.int (0 : Int32)) 10)) : AF Z h a .byte 10 (fun _ => .int (y.toInt8.toInt32)) := V.congr fun j hj => by
  rw [own_filled _ _ _ _ hj, own_bb]
theorem own_done {p1 p3 : Int32} {g : Nat → Int32} (hp : 0 ≤ p3.toInt ∧ p3.toInt ≤ 3) (V : AF Z h a .byte 10 (fun i => if i = ((p3 + (2 : Int32)) + ((((0 : Int32) + (1 : Int32)) + (1 : Int32)) + (1 : Int32))).toNatClampNeg then .int (nar .byte (own_hx ((p1 >>> (((12 : Int32) - ((4 : Int32) * ((((0 : Int32) + (1 : Int32)) + (1 : Int32)) + (1 : Int32)))) &&& 31)) &&& (15 : Int32)).toNatClampNeg)) else if i = ((p3 + (2 : Int32)) + (((0 : Int32) + (1 : Int32)) + (1 : Int32))).toNatClampNeg then .int (nar .byte (own_hx ((p1 >>> (((12 : Int32) - ((4 : Int32) * (((0 : Int32) + (1 : Int32)) + (1 : Int32)))) &&& 31)) &&& (15 : Int32)).toNatClampNeg)) else if i = ((p3 + (2 : Int32)) + ((0 : Int32) + (1 : Int32))).toNatClampNeg then .int (nar .byte (own_hx ((p1 >>> (((12 : Int32) - ((4 : Int32) * ((0 : Int32) + (1 : Int32)))) &&& 31)) &&& (15 : Int32)).toNatClampNeg)) else if i = ((p3 + (2 : Int32)) + (0 : Int32)).toNatClampNeg then .int (nar .byte (own_hx ((p1 >>> (((12 : Int32) - ((4 : Int32) * (0 : Int32))) &&& 31)) &&& (15 : Int32)).toNatClampNeg)) else if i = (p3 + (1 : Int32)).toNatClampNeg then .int (nar .byte (117 : Int32)) else if i = p3.toNatClampNeg then .int (nar .byte (92 : Int32)) else .int (g i))) : AF Z h a .byte 10 (fun j => .int (own_w p1 p3 g j)) := V.congr fun j _ => by
  simp only [own_w, apply_ite Value.int]
end OwnA
theorem d2_0 : decode method_3_code 0 = .ok (.aload_n 0, 1) := by decide +kernel
theorem d2_1 : decode method_3_code 1 = .ok (.iload_n 1, 1) := by decide +kernel
theorem d2_2 : decode method_3_code 2 = .ok (.baload, 1) := by decide +kernel
theorem d2_3 : decode method_3_code 3 = .ok (.iload_n 1, 1) := by decide +kernel
theorem d2_4 : decode method_3_code 4 = .ok (.iload_n 2, 1) := by decide +kernel
theorem d2_5 : decode method_3_code 5 = .ok (.iload_n 3, 1) := by decide +kernel
theorem d2_6 : decode method_3_code 6 = .ok (.iload 4, 2) := by decide +kernel
theorem d2_8 : decode method_3_code 8 = .ok (.invokestatic 19, 3) := by decide +kernel
theorem d2_11 : decode method_3_code 11 = .ok (.if_icmp .ne 7, 3) := by decide +kernel
theorem d2_14 : decode method_3_code 14 = .ok (.iconst 1, 1) := by decide +kernel
theorem d2_15 : decode method_3_code 15 = .ok (.goto 4, 3) := by decide +kernel
theorem d2_18 : decode method_3_code 18 = .ok (.iconst 0, 1) := by decide +kernel
theorem d2_19 : decode method_3_code 19 = .ok (.ireturn, 1) := by decide +kernel
theorem pn_2 : plainName "com/example/relicary/relicary/siard/SiardTextEscapePinLaw" = true := by first | (simp [plainName, overriddenIn]; done) | decide +kernel
theorem pd_2_3 : parseMethodDescriptor "(IICB)B" = some ⟨[.int, .int, .char, .byte], some .byte⟩ := by decide +kernel
theorem ef_2 (m : MethodId) (x0 : Addr) (x1 : Int32) (x2 : Int32) (x3 : Int32) (x4 : Int32) : entryFrame m #[(.ref x0), (.int x1), (.int x2), (.int x3), (.int x4)] 5 = mkF m 0 #[.val (.ref x0), .val (.int x1), .val (.int x2), .val (.int x3), .val (.int x4)] [] := by first | (simp [entryFrame, mkF, argsToLocals, Value.category]; done) | rfl
def F2 (p2 : Int32) (p3 : Int32) (p4 : Int32) (p5 : Int32) (u : Nat → Int32) : Int32 :=
  let v7 : Int32 := (if (u p2.toNatClampNeg) = (F3 p2 p3 p4 p5) then (1 : Int32) else (0 : Int32))
  (nar .boolean v7)
def Q2 (Z : State) (a1 : Addr) (p2 : Int32) (p3 : Int32) (p4 : Int32) (p5 : Int32) (u : Nat → Int32) (h0 : Heap) (n0 : Nat) (v : Option Value) (h : Heap) (L : List Loc) : Prop := v = some (.int (F2 p2 p3 p4 p5 u)) ∧ L = [] ∧ h = h0
set_option maxRecDepth 65536 in
set_option maxHeartbeats 40000000 in
theorem rm2 (l : Launch) (Z : State) (a0 : Array Value) (hw : ∀ d ∈ tables_1, d.before a0 Z = true) (ws : List Jvm.Cond) (a1 : Addr) (p2 : Int32) (p3 : Int32) (p4 : Int32) (p5 : Int32) (u : Nat → Int32) (h0 : Heap) (n0 : Nat) (Z0 : n0 ≤ h0.size) (V : AF Z h0 a1 .byte 10 (fun j => .int (u j))) (hp : 0 ≤ p2.toInt ∧ p2.toInt < 10) :
    MetFree l (⟨"com/example/relicary/relicary/siard/SiardTextEscapePinLaw", "ok", "([BIICB)Z"⟩ : MethodName) (head1 (Jvm.Cond.code (⟨"com/example/relicary/relicary/siard/SiardTextEscapePinLaw", "ok", "([BIICB)Z"⟩ : MethodName) method_3_code 5 (some .boolean) :: ws) ({ frames := 2, cells := 0, slots := 0, locals := 31 } : Room)) (fun a U => a = #[(.ref a1), (.int p2), (.int p3), (.int p4), (.int p5)] ∧ Z.Warmed39 U.vm ∧ U.heap = h0) (fun _ _ _ _ _ => True) (fun _ U o U' => ∃ v L, o = .returned v ∧ Q2 Z a1 p2 p3 p4 p5 u h0 n0 v U'.heap L ∧ FrameEnd U o U' L ({ frames := 2, cells := 0, slots := 0, locals := 31 } : Room).cells ({ frames := 2, cells := 0, slots := 0, locals := 31 } : Room).slots) := by
  refine MetFree.of_bodySF (plainFor_of_name pn_2) hisR ?_
  intro p e s m args below meth c s₁ Bd hml0 hP hK
  obtain ⟨rfl, hZ, hh⟩ := hP
  have hx := Bd.exec
  have hby := Bd.bytes
  have hml : c.maxLocals = 5 := hml0
  have hown : s.vm.findClass "com/example/relicary/relicary/siard/SiardTextEscapePinLaw" = some m.cls := findClass_of_methodNamed Bd.named
  have hnm := (name_of_methodNamed Bd.named Bd.method).1
  have X0 : Stand p l e ({ frames := 2, cells := 0, slots := 0, locals := 31 } : Room) s m #[(.ref a1), (.int p2), (.int p3), (.int p4), (.int p5)] below meth c s₁ [] 0 0 := Stand.of_body Bd
  have e0 : s₁.heap = h0 := by rw [← hh, Bd.state]; rfl
  have N0 := Fr.nil n0
  have pre0 : ∀ t, Steps p.tables e below (s₁.setTop (mkF m 0 #[.val (.ref a1), .val (.int p2), .val (.int p3), .val (.int p4), .val (.int p5)] [])) t → Steps p.tables e below (s₁.setTop (entryFrame m #[(.ref a1), (.int p2), (.int p3), (.int p4), (.int p5)] 5)) t := fun t k => castTop (ef_2 m a1 p2 p3 p4 p5) k
  obtain ⟨cl1, Ar1, S1, H1⟩ := id V
  have hin1 := AF_in (j := p2) S1 hp.1 hp.2
  have hat1 := AF_at (j := p2) (w := (.int (u p2.toNatClampNeg))) H1 hp.1 hp.2 rfl
  obtain ⟨_, _, ⟨T2, L2, k2, n2⟩, -, X2, ⟨Lc2, hQ2, l2, y2, z2⟩, st2⟩ := Jvm.LawKit.callS X0 hx (y := (⟨"com/example/relicary/relicary/siard/SiardTextEscapePinLaw", "expected", "(IICB)B"⟩ : MethodName)) hown (mvT hZ (hw _ (List.mem_of_getElem? (i := 11) rfl))) (mvT hZ (hw _ (List.mem_of_getElem? (i := 12) rfl))) (mvT hZ (hw _ (List.mem_of_getElem? (i := 9) rfl))) (mvT hZ (hw _ (List.mem_of_getElem? (i := 13) rfl))) (by decide) (backOf (W := 1) (rm3 l Z a0 hw [] p2 p3 p4 p5 h0 n0 Z0) hZ (hw _ (List.mem_of_getElem? (i := 13) rfl)) (hw _ (List.mem_of_getElem? (i := 9) rfl)) (by decide) (by decide)) (g := (mkF m 8 #[.val (.ref a1), .val (.int p2), .val (.int p3), .val (.int p4), .val (.int p5)] [(.int p5), (.int p4), (.int p3), (.int p2), (.int (u p2.toNatClampNeg))])) rfl (by rw [hml]; rfl) (argsL := [(.int p2), (.int p3), (.int p4), (.int p5)]) (rest := [(.int (u p2.toNatClampNeg))]) (lenOf pd_2_3 rfl) rfl (by show 2 * 0 + _ ≤ _; exact Nat.le_of_eq rfl) (hb hby d2_8) (fun _ _ => ⟨rfl, e0, (by decide : 0 + 0 ≤ _), (by decide : 0 + 0 ≤ _)⟩)
  dsimp only [Pt.U, Pt.locs, Pt.cells, Pt.slots] at X2 l2 y2 z2 st2 hQ2
  subst l2 y2 z2
  obtain ⟨rfl, rfl, e2⟩ := hQ2
  replace X2 : Stand p l e ({ frames := 2, cells := 0, slots := 0, locals := 31 } : Room) s m #[(.ref a1), (.int p2), (.int p3), (.int p4), (.int p5)] below meth c T2 [] 0 0 := X2
  have R4 : ∀ t, Steps p.tables e below (T2.setTop (mkF m 11 #[.val (.ref a1), .val (.int p2), .val (.int p3), .val (.int p4), .val (.int p5)] [(.int (F3 p2 p3 p4 p5)), (.int (u p2.toNatClampNeg))])) t → Steps p.tables e below (s₁.setTop (entryFrame m #[(.ref a1), (.int p2), (.int p3), (.int p4), (.int p5)] 5)) t := by
    intro t kt
    refine pre0 _ ?_
    show Steps p.tables e below (s₁.setTop (mkF m 0 #[.val (.ref a1), .val (.int p2), .val (.int p3), .val (.int p4), .val (.int p5)] [])) _
    refine XS.aloadN X0.here hx rfl (hb hby d2_0) rfl rfl ?_
    show Steps p.tables e below (s₁.setTop (mkF m 1 #[.val (.ref a1), .val (.int p2), .val (.int p3), .val (.int p4), .val (.int p5)] [(.ref a1)])) _
    refine XS.iloadN X0.here hx rfl (hb hby d2_1) rfl ?_
    show Steps p.tables e below (s₁.setTop (mkF m 2 #[.val (.ref a1), .val (.int p2), .val (.int p3), .val (.int p4), .val (.int p5)] [(.int p2), (.ref a1)])) _
    refine X0.baloadBytes hx (j := p2) (v := (.int (u p2.toNatClampNeg))) (by rw [e0]; exact Ar1.1) (State.isArrayOf_alike hZ.alike Ar1.2.1) Ar1.2.2 hin1 hat1 (g := (mkF m 2 #[.val (.ref a1), .val (.int p2), .val (.int p3), .val (.int p4), .val (.int p5)] [(.int p2), (.ref a1)])) rfl rfl (hb hby d2_2) _ ?_
    show Steps p.tables e below (s₁.setTop (mkF m 3 #[.val (.ref a1), .val (.int p2), .val (.int p3), .val (.int p4), .val (.int p5)] [(.int (u p2.toNatClampNeg))])) _
    refine XS.iloadN X0.here hx rfl (hb hby d2_3) rfl ?_
    show Steps p.tables e below (s₁.setTop (mkF m 4 #[.val (.ref a1), .val (.int p2), .val (.int p3), .val (.int p4), .val (.int p5)] [(.int p2), (.int (u p2.toNatClampNeg))])) _
    refine XS.iloadN X0.here hx rfl (hb hby d2_4) rfl ?_
    show Steps p.tables e below (s₁.setTop (mkF m 5 #[.val (.ref a1), .val (.int p2), .val (.int p3), .val (.int p4), .val (.int p5)] [(.int p3), (.int p2), (.int (u p2.toNatClampNeg))])) _
    refine XS.iloadN X0.here hx rfl (hb hby d2_5) rfl ?_
    show Steps p.tables e below (s₁.setTop (mkF m 6 #[.val (.ref a1), .val (.int p2), .val (.int p3), .val (.int p4), .val (.int p5)] [(.int p4), (.int p3), (.int p2), (.int (u p2.toNatClampNeg))])) _
    refine XS.iload X0.here hx rfl (hb hby d2_6) rfl ?_
    show Steps p.tables e below (s₁.setTop (mkF m 8 #[.val (.ref a1), .val (.int p2), .val (.int p3), .val (.int p4), .val (.int p5)] [(.int p5), (.int p4), (.int p3), (.int p2), (.int (u p2.toNatClampNeg))])) _
    refine st2 _ ?_
    exact kt
  have J9 : ∃ (v7 : Int32), v7 = (if (u p2.toNatClampNeg) = (F3 p2 p3 p4 p5) then (1 : Int32) else (0 : Int32)) ∧ ∀ t, Steps p.tables e below (T2.setTop (mkF m 19 #[.val (.ref a1), .val (.int p2), .val (.int p3), .val (.int p4), .val (.int p5)] [(.int v7)])) t → Steps p.tables e below (s₁.setTop (entryFrame m #[(.ref a1), (.int p2), (.int p3), (.int p4), (.int p5)] 5)) t := by
    by_cases hc3 : (u p2.toNatClampNeg) = (F3 p2 p3 p4 p5)
    · have R5 : ∀ t, Steps p.tables e below (T2.setTop (mkF m 19 #[.val (.ref a1), .val (.int p2), .val (.int p3), .val (.int p4), .val (.int p5)] [(.int (1 : Int32))])) t → Steps p.tables e below (s₁.setTop (entryFrame m #[(.ref a1), (.int p2), (.int p3), (.int p4), (.int p5)] 5)) t := by
        intro t kt
        refine R4 _ ?_
        show Steps p.tables e below (T2.setTop (mkF m 11 #[.val (.ref a1), .val (.int p2), .val (.int p3), .val (.int p4), .val (.int p5)] [(.int (F3 p2 p3 p4 p5)), (.int (u p2.toNatClampNeg))])) _
        refine XS.icmpNo X2.here hx rfl (hb hby d2_11) rfl (teq hc3).2 ?_
        show Steps p.tables e below (T2.setTop (mkF m 14 #[.val (.ref a1), .val (.int p2), .val (.int p3), .val (.int p4), .val (.int p5)] [])) _
        refine XS.iconst X2.here hx rfl (hb hby d2_14) ?_
        show Steps p.tables e below (T2.setTop (mkF m 15 #[.val (.ref a1), .val (.int p2), .val (.int p3), .val (.int p4), .val (.int p5)] [(.int (1 : Int32))])) _
        refine XS.goto X2.here hx rfl (pc0 := 15) (pc' := 19) rfl (hb hby d2_15) (by decide) (by decide) ?_
        exact kt
      exact ⟨(1 : Int32), (by rw [if_pos hc3]), R5⟩
    · have R6 : ∀ t, Steps p.tables e below (T2.setTop (mkF m 19 #[.val (.ref a1), .val (.int p2), .val (.int p3), .val (.int p4), .val (.int p5)] [(.int (0 : Int32))])) t → Steps p.tables e below (s₁.setTop (entryFrame m #[(.ref a1), (.int p2), (.int p3), (.int p4), (.int p5)] 5)) t := by
        intro t kt
        refine R4 _ ?_
        show Steps p.tables e below (T2.setTop (mkF m 11 #[.val (.ref a1), .val (.int p2), .val (.int p3), .val (.int p4), .val (.int p5)] [(.int (F3 p2 p3 p4 p5)), (.int (u p2.toNatClampNeg))])) _
        refine XS.icmpYes X2.here hx rfl (pc0 := 11) (pc' := 18) rfl (hb hby d2_11) rfl (feq hc3).2 (by decide) (by decide) ?_
        show Steps p.tables e below (T2.setTop (mkF m 18 #[.val (.ref a1), .val (.int p2), .val (.int p3), .val (.int p4), .val (.int p5)] [])) _
        refine XS.iconst X2.here hx rfl (hb hby d2_18) ?_
        exact kt
      exact ⟨(0 : Int32), (by rw [if_neg hc3]), R6⟩
  obtain ⟨v7, hv7, R8⟩ := J9
  obtain ⟨fs, hr, hrun, hended, hW, hsame⟩ := X2.leave (v := some (.int (nar .boolean v7))) (fun h => by rw [Bd.returns] at h; cases h)
  refine ⟨_, _, R8 _ ?_, hrun, hended, _, _, rfl, ?_, ⟨_, rfl⟩, hW, hsame.mono (by decide) (by decide)⟩
  · show Steps p.tables e below (T2.setTop (mkF m 19 #[.val (.ref a1), .val (.int p2), .val (.int p3), .val (.int p4), .val (.int p5)] [(.int v7)])) _
    exact retN X2 hx (t := .boolean) Bd.returns (by simp) (hb hby d2_19) hr
  · show Q2 Z a1 p2 p3 p4 p5 u h0 n0 _ T2.heap _
    rw [e2]
    refine ⟨?_, rfl, rfl⟩
    subst hv7; rfl
theorem d1_0 : decode prog_101_method_7_code 0 = .ok (.aload_n 1, 1) := by decide +kernel
theorem d1_1 : decode prog_101_method_7_code 1 = .ok (.iload_n 2, 1) := by decide +kernel
theorem d1_2 : decode prog_101_method_7_code 2 = .ok (.bipush 92, 2) := by decide +kernel
theorem d1_4 : decode prog_101_method_7_code 4 = .ok (.bastore, 1) := by decide +kernel
theorem d1_5 : decode prog_101_method_7_code 5 = .ok (.aload_n 1, 1) := by decide +kernel
theorem d1_6 : decode prog_101_method_7_code 6 = .ok (.iload_n 2, 1) := by decide +kernel
theorem d1_7 : decode prog_101_method_7_code 7 = .ok (.iconst 1, 1) := by decide +kernel
theorem d1_8 : decode prog_101_method_7_code 8 = .ok (.iadd, 1) := by decide +kernel
theorem d1_9 : decode prog_101_method_7_code 9 = .ok (.bipush 117, 2) := by decide +kernel
theorem d1_11 : decode prog_101_method_7_code 11 = .ok (.bastore, 1) := by decide +kernel
theorem d1_12 : decode prog_101_method_7_code 12 = .ok (.iconst 0, 1) := by decide +kernel
theorem d1_13 : decode prog_101_method_7_code 13 = .ok (.istore_n 3, 1) := by decide +kernel
theorem d1_14 : decode prog_101_method_7_code 14 = .ok (.iload_n 3, 1) := by decide +kernel
theorem d1_15 : decode prog_101_method_7_code 15 = .ok (.iconst 4, 1) := by decide +kernel
theorem d1_16 : decode prog_101_method_7_code 16 = .ok (.if_icmp .ge 31, 3) := by decide +kernel
theorem d1_19 : decode prog_101_method_7_code 19 = .ok (.aload_n 1, 1) := by decide +kernel
theorem d1_20 : decode prog_101_method_7_code 20 = .ok (.iload_n 2, 1) := by decide +kernel
theorem d1_21 : decode prog_101_method_7_code 21 = .ok (.iconst 2, 1) := by decide +kernel
theorem d1_22 : decode prog_101_method_7_code 22 = .ok (.iadd, 1) := by decide +kernel
theorem d1_23 : decode prog_101_method_7_code 23 = .ok (.iload_n 3, 1) := by decide +kernel
theorem d1_24 : decode prog_101_method_7_code 24 = .ok (.iadd, 1) := by decide +kernel
theorem d1_25 : decode prog_101_method_7_code 25 = .ok (.getstatic 100, 3) := by decide +kernel
theorem d1_28 : decode prog_101_method_7_code 28 = .ok (.iload_n 0, 1) := by decide +kernel
theorem d1_29 : decode prog_101_method_7_code 29 = .ok (.bipush 12, 2) := by decide +kernel
theorem d1_31 : decode prog_101_method_7_code 31 = .ok (.iconst 4, 1) := by decide +kernel
theorem d1_32 : decode prog_101_method_7_code 32 = .ok (.iload_n 3, 1) := by decide +kernel
theorem d1_33 : decode prog_101_method_7_code 33 = .ok (.imul, 1) := by decide +kernel
theorem d1_34 : decode prog_101_method_7_code 34 = .ok (.isub, 1) := by decide +kernel
theorem d1_35 : decode prog_101_method_7_code 35 = .ok (.ishr, 1) := by decide +kernel
theorem d1_36 : decode prog_101_method_7_code 36 = .ok (.bipush 15, 2) := by decide +kernel
theorem d1_38 : decode prog_101_method_7_code 38 = .ok (.iand, 1) := by decide +kernel
theorem d1_39 : decode prog_101_method_7_code 39 = .ok (.baload, 1) := by decide +kernel
theorem d1_40 : decode prog_101_method_7_code 40 = .ok (.bastore, 1) := by decide +kernel
theorem d1_41 : decode prog_101_method_7_code 41 = .ok (.iinc 3 1, 3) := by decide +kernel
theorem d1_44 : decode prog_101_method_7_code 44 = .ok (.goto (-30), 3) := by decide +kernel
theorem d1_47 : decode prog_101_method_7_code 47 = .ok (.return_, 1) := by decide +kernel
theorem pn_1 : plainName "com/example/relicary/relicary/siard/SiardText" = true := by first | (simp [plainName, overriddenIn]; done) | decide +kernel
theorem ef_1 (m : MethodId) (x0 : Int32) (x1 : Addr) (x2 : Int32) : entryFrame m #[(.int x0), (.ref x1), (.int x2)] 4 = mkF m 0 #[.val (.int x0), .val (.ref x1), .val (.int x2), .unset] [] := by first | (simp [entryFrame, mkF, argsToLocals, Value.category]; done) | rfl
def Q1 (Z : State) (p1 : Int32) (a2 : Addr) (p3 : Int32) (g : Nat → Int32) (w : Addr) (h0 : Heap) (n0 : Nat) (v : Option Value) (h : Heap) (L : List Loc) : Prop := v = none ∧ Fr n0 L ∧ Keep h0 h [a2] ∧ AF Z h a2 .byte 10 (fun j => .int (own_w p1 p3 g j))
set_option maxRecDepth 65536 in
set_option maxHeartbeats 40000000 in
theorem rm1 (l : Launch) (Z : State) (a0 : Array Value) (hw : ∀ d ∈ tables_1, d.before a0 Z = true) (ws : List Jvm.Cond) (p1 : Int32) (a2 : Addr) (p3 : Int32) (g : Nat → Int32) (w : Addr) (h0 : Heap) (n0 : Nat) (Z0 : n0 ≤ h0.size) (V : AF Z h0 a2 .byte 10 (fun j => .int (g j))) (gb : n0 ≤ a2) (hp : 0 ≤ p3.toInt ∧ p3.toInt ≤ 3) (SS : Sta Z h0 "com/example/relicary/relicary/siard/SiardText" "HEX_DIGITS" "[B" (.ref w)) (DD : AF Z h0 w .byte 16 (fun j => .int (own_hx j))) (ne : w ≠ a2) :
    MetFree l (⟨"com/example/relicary/relicary/siard/SiardText", "escape", "(C[BI)V"⟩ : MethodName) (head1 (Jvm.Cond.code (⟨"com/example/relicary/relicary/siard/SiardText", "escape", "(C[BI)V"⟩ : MethodName) prog_101_method_7_code 4 none :: ws) ({ frames := 0, cells := 0, slots := 0, locals := 0 } : Room)) (fun a U => a = #[(.int p1), (.ref a2), (.int p3)] ∧ Z.Warmed39 U.vm ∧ U.heap = h0) (fun _ _ _ _ _ => True) (fun _ U o U' => ∃ v L, o = .returned v ∧ Q1 Z p1 a2 p3 g w h0 n0 v U'.heap L ∧ FrameEnd U o U' L ({ frames := 0, cells := 0, slots := 0, locals := 0 } : Room).cells ({ frames := 0, cells := 0, slots := 0, locals := 0 } : Room).slots) := by
  refine MetFree.of_bodySF (plainFor_of_name pn_1) hisR ?_
  intro p e s m args below meth c s₁ Bd hml0 hP hK
  obtain ⟨rfl, hZ, hh⟩ := hP
  have hx := Bd.exec
  have hby := Bd.bytes
  have hml : c.maxLocals = 4 := hml0
  have hown : s.vm.findClass "com/example/relicary/relicary/siard/SiardText" = some m.cls := findClass_of_methodNamed Bd.named
  have hnm := (name_of_methodNamed Bd.named Bd.method).1
  have X0 : Stand p l e ({ frames := 0, cells := 0, slots := 0, locals := 0 } : Room) s m #[(.int p1), (.ref a2), (.int p3)] below meth c s₁ [] 0 0 := Stand.of_body Bd
  have e0 : s₁.heap = h0 := by rw [← hh, Bd.state]; rfl
  have N0 := Fr.nil n0
  have pre0 : ∀ t, Steps p.tables e below (s₁.setTop (mkF m 0 #[.val (.int p1), .val (.ref a2), .val (.int p3), .unset] [])) t → Steps p.tables e below (s₁.setTop (entryFrame m #[(.int p1), (.ref a2), (.int p3)] 4)) t := fun t k => castTop (ef_1 m p1 a2 p3) k
  obtain ⟨cl1, Ar1, S1, H1⟩ := V
  have hin1 := AF_in (j := p3) S1 hp.1 (own_a0 hp)
  obtain ⟨T1, h1, X1, e1, W1, st1⟩ := stB X0 hx hZ e0 Ar1 (j := p3) hin1 (g := (mkF m 4 #[.val (.int p1), .val (.ref a2), .val (.int p3), .unset] [(.int (92 : Int32)), (.int p3), (.ref a2)])) rfl rfl (hb hby d1_4)
  have V1 := AF.same Ar1 S1 H1 W1
  have N1 := Fr.snoc X1 (Fr.nil n0) gb
  have KK1 : Keep h0 h1 [a2] := (Keep.refl h0 [a2]).wr W1 (Or.inl (List.mem_of_getElem? (i := 0) rfl))
  obtain ⟨L1, l1⟩ : ∃ z, z = [] ++ [(⟨a2, (p3 : Int32).toNatClampNeg⟩ : Loc)] := ⟨_, rfl⟩
  rw [← l1] at X1 N1
  have D1 := DD.other W1 ne
  have St1 := SS.wr W1
  obtain ⟨cl2, Ar2, S2, H2⟩ := V1
  have hin2 := AF_in (j := (p3 + (1 : Int32))) S2 (own_a1 hp).1 (own_a1 hp).2
  obtain ⟨T2, h2, X2, e2, W2, st2⟩ := stB X1 hx hZ e1 Ar2 (j := (p3 + (1 : Int32))) hin2 (g := (mkF m 11 #[.val (.int p1), .val (.ref a2), .val (.int p3), .unset] [(.int (117 : Int32)), (.int (p3 + (1 : Int32))), (.ref a2)])) rfl rfl (hb hby d1_11)
  have V2 := AF.same Ar2 S2 H2 W2
  have N2 := Fr.snoc X2 N1 gb
  have KK2 : Keep h0 h2 [a2] := KK1.wr W2 (Or.inl (List.mem_of_getElem? (i := 0) rfl))
  obtain ⟨L2, l2⟩ : ∃ z, z = L1 ++ [(⟨a2, ((p3 + (1 : Int32)) : Int32).toNatClampNeg⟩ : Loc)] := ⟨_, rfl⟩
  rw [← l2] at X2 N2
  have D2 := D1.other W2 ne
  have St2 := St1.wr W2
  obtain ⟨T3, X3, e3, st3⟩ := getS2 X2 hx hZ hown (host := "") (Or.inl (hw _ (List.mem_of_getElem? (i := 5) rfl))) Via.refl e2 St2 (g := (mkF m 25 #[.val (.int p1), .val (.ref a2), .val (.int p3), .val (.int (0 : Int32))] [(.int ((p3 + (2 : Int32)) + (0 : Int32))), (.ref a2)])) rfl (hb hby d1_25)
  obtain ⟨cl4, Ar4, S4, H4⟩ := id D2
  have hin4 := AF_in (j := ((p1 >>> (((12 : Int32) - ((4 : Int32) * (0 : Int32))) &&& 31)) &&& (15 : Int32))) S4 (own_15 _).1 (own_15 _).2
  have hat4 := AF_at (j := ((p1 >>> (((12 : Int32) - ((4 : Int32) * (0 : Int32))) &&& 31)) &&& (15 : Int32))) (w := (.int (own_hx (((p1 >>> (((12 : Int32) - ((4 : Int32) * (0 : Int32))) &&& 31)) &&& (15 : Int32))).toNatClampNeg))) H4 (own_15 _).1 (own_15 _).2 rfl
  obtain ⟨cl5, Ar5, S5, H5⟩ := V2
  have hin5 := AF_in (j := ((p3 + (2 : Int32)) + (0 : Int32))) S5 (own_a2 (i := (0 : Int32)) hp (by decide)).1 (own_a2 (i := (0 : Int32)) hp (by decide)).2
  obtain ⟨T5, h5, X5, e5, W5, st5⟩ := stB X3 hx hZ e3 Ar5 (j := ((p3 + (2 : Int32)) + (0 : Int32))) hin5 (g := (mkF m 40 #[.val (.int p1), .val (.ref a2), .val (.int p3), .val (.int (0 : Int32))] [(.int (own_hx (((p1 >>> (((12 : Int32) - ((4 : Int32) * (0 : Int32))) &&& 31)) &&& (15 : Int32))).toNatClampNeg)), (.int ((p3 + (2 : Int32)) + (0 : Int32))), (.ref a2)])) rfl rfl (hb hby d1_40)
  have V5 := AF.same Ar5 S5 H5 W5
  have N5 := Fr.snoc X5 N2 gb
  have KK5 : Keep h0 h5 [a2] := KK2.wr W5 (Or.inl (List.mem_of_getElem? (i := 0) rfl))
  obtain ⟨L5, l5⟩ : ∃ z, z = L2 ++ [(⟨a2, (((p3 + (2 : Int32)) + (0 : Int32)) : Int32).toNatClampNeg⟩ : Loc)] := ⟨_, rfl⟩
  rw [← l5] at X5 N5
  have D5 := D2.other W5 ne
  have St5 := St2.wr W5
  obtain ⟨T6, X6, e6, st6⟩ := getS2 X5 hx hZ hown (host := "") (Or.inl (hw _ (List.mem_of_getElem? (i := 5) rfl))) Via.refl e5 St5 (g := (mkF m 25 #[.val (.int p1), .val (.ref a2), .val (.int p3), .val (.int ((0 : Int32) + (1 : Int32)))] [(.int ((p3 + (2 : Int32)) + ((0 : Int32) + (1 : Int32)))), (.ref a2)])) rfl (hb hby d1_25)
  obtain ⟨cl7, Ar7, S7, H7⟩ := id D5
  have hin7 := AF_in (j := ((p1 >>> (((12 : Int32) - ((4 : Int32) * ((0 : Int32) + (1 : Int32)))) &&& 31)) &&& (15 : Int32))) S7 (own_15 _).1 (own_15 _).2
  have hat7 := AF_at (j := ((p1 >>> (((12 : Int32) - ((4 : Int32) * ((0 : Int32) + (1 : Int32)))) &&& 31)) &&& (15 : Int32))) (w := (.int (own_hx (((p1 >>> (((12 : Int32) - ((4 : Int32) * ((0 : Int32) + (1 : Int32)))) &&& 31)) &&& (15 : Int32))).toNatClampNeg))) H7 (own_15 _).1 (own_15 _).2 rfl
  obtain ⟨cl8, Ar8, S8, H8⟩ := V5
  have hin8 := AF_in (j := ((p3 + (2 : Int32)) + ((0 : Int32) + (1 : Int32)))) S8 (own_a2 (i := ((0 : Int32) + (1 : Int32))) hp (by decide)).1 (own_a2 (i := ((0 : Int32) + (1 : Int32))) hp (by decide)).2
  obtain ⟨T8, h8, X8, e8, W8, st8⟩ := stB X6 hx hZ e6 Ar8 (j := ((p3 + (2 : Int32)) + ((0 : Int32) + (1 : Int32)))) hin8 (g := (mkF m 40 #[.val (.int p1), .val (.ref a2), .val (.int p3), .val (.int ((0 : Int32) + (1 : Int32)))] [(.int (own_hx (((p1 >>> (((12 : Int32) - ((4 : Int32) * ((0 : Int32) + (1 : Int32)))) &&& 31)) &&& (15 : Int32))).toNatClampNeg)), (.int ((p3 + (2 : Int32)) + ((0 : Int32) + (1 : Int32)))), (.ref a2)])) rfl rfl (hb hby d1_40)
  have V8 := AF.same Ar8 S8 H8 W8
  have N8 := Fr.snoc X8 N5 gb
  have KK8 : Keep h0 h8 [a2] := KK5.wr W8 (Or.inl (List.mem_of_getElem? (i := 0) rfl))
  obtain ⟨L8, l8⟩ : ∃ z, z = L5 ++ [(⟨a2, (((p3 + (2 : Int32)) + ((0 : Int32) + (1 : Int32))) : Int32).toNatClampNeg⟩ : Loc)] := ⟨_, rfl⟩
  rw [← l8] at X8 N8
  have D8 := D5.other W8 ne
  have St8 := St5.wr W8
  obtain ⟨T9, X9, e9, st9⟩ := getS2 X8 hx hZ hown (host := "") (Or.inl (hw _ (List.mem_of_getElem? (i := 5) rfl))) Via.refl e8 St8 (g := (mkF m 25 #[.val (.int p1), .val (.ref a2), .val (.int p3), .val (.int (((0 : Int32) + (1 : Int32)) + (1 : Int32)))] [(.int ((p3 + (2 : Int32)) + (((0 : Int32) + (1 : Int32)) + (1 : Int32)))), (.ref a2)])) rfl (hb hby d1_25)
  obtain ⟨cl10, Ar10, S10, H10⟩ := id D8
  have hin10 := AF_in (j := ((p1 >>> (((12 : Int32) - ((4 : Int32) * (((0 : Int32) + (1 : Int32)) + (1 : Int32)))) &&& 31)) &&& (15 : Int32))) S10 (own_15 _).1 (own_15 _).2
  have hat10 := AF_at (j := ((p1 >>> (((12 : Int32) - ((4 : Int32) * (((0 : Int32) + (1 : Int32)) + (1 : Int32)))) &&& 31)) &&& (15 : Int32))) (w := (.int (own_hx (((p1 >>> (((12 : Int32) - ((4 : Int32) * (((0 : Int32) + (1 : Int32)) + (1 : Int32)))) &&& 31)) &&& (15 : Int32))).toNatClampNeg))) H10 (own_15 _).1 (own_15 _).2 rfl
  obtain ⟨cl11, Ar11, S11, H11⟩ := V8
  have hin11 := AF_in (j := ((p3 + (2 : Int32)) + (((0 : Int32) + (1 : Int32)) + (1 : Int32)))) S11 (own_a2 (i := (((0 : Int32) + (1 : Int32)) + (1 : Int32))) hp (by decide)).1 (own_a2 (i := (((0 : Int32) + (1 : Int32)) + (1 : Int32))) hp (by decide)).2
  obtain ⟨T11, h11, X11, e11, W11, st11⟩ := stB X9 hx hZ e9 Ar11 (j := ((p3 + (2 : Int32)) + (((0 : Int32) + (1 : Int32)) + (1 : Int32)))) hin11 (g := (mkF m 40 #[.val (.int p1), .val (.ref a2), .val (.int p3), .val (.int (((0 : Int32) + (1 : Int32)) + (1 : Int32)))] [(.int (own_hx (((p1 >>> (((12 : Int32) - ((4 : Int32) * (((0 : Int32) + (1 : Int32)) + (1 : Int32)))) &&& 31)) &&& (15 : Int32))).toNatClampNeg)), (.int ((p3 + (2 : Int32)) + (((0 : Int32) + (1 : Int32)) + (1 : Int32)))), (.ref a2)])) rfl rfl (hb hby d1_40)
  have V11 := AF.same Ar11 S11 H11 W11
  have N11 := Fr.snoc X11 N8 gb
  have KK11 : Keep h0 h11 [a2] := KK8.wr W11 (Or.inl (List.mem_of_getElem? (i := 0) rfl))
  obtain ⟨L11, l11⟩ : ∃ z, z = L8 ++ [(⟨a2, (((p3 + (2 : Int32)) + (((0 : Int32) + (1 : Int32)) + (1 : Int32))) : Int32).toNatClampNeg⟩ : Loc)] := ⟨_, rfl⟩
  rw [← l11] at X11 N11
  have D11 := D8.other W11 ne
  have St11 := St8.wr W11
  obtain ⟨T12, X12, e12, st12⟩ := getS2 X11 hx hZ hown (host := "") (Or.inl (hw _ (List.mem_of_getElem? (i := 5) rfl))) Via.refl e11 St11 (g := (mkF m 25 #[.val (.int p1), .val (.ref a2), .val (.int p3), .val (.int ((((0 : Int32) + (1 : Int32)) + (1 : Int32)) + (1 : Int32)))] [(.int ((p3 + (2 : Int32)) + ((((0 : Int32) + (1 : Int32)) + (1 : Int32)) + (1 : Int32)))), (.ref a2)])) rfl (hb hby d1_25)
  obtain ⟨cl13, Ar13, S13, H13⟩ := id D11
  have hin13 := AF_in (j := ((p1 >>> (((12 : Int32) - ((4 : Int32) * ((((0 : Int32) + (1 : Int32)) + (1 : Int32)) + (1 : Int32)))) &&& 31)) &&& (15 : Int32))) S13 (own_15 _).1 (own_15 _).2
  have hat13 := AF_at (j := ((p1 >>> (((12 : Int32) - ((4 : Int32) * ((((0 : Int32) + (1 : Int32)) + (1 : Int32)) + (1 : Int32)))) &&& 31)) &&& (15 : Int32))) (w := (.int (own_hx (((p1 >>> (((12 : Int32) - ((4 : Int32) * ((((0 : Int32) + (1 : Int32)) + (1 : Int32)) + (1 : Int32)))) &&& 31)) &&& (15 : Int32))).toNatClampNeg))) H13 (own_15 _).1 (own_15 _).2 rfl
  obtain ⟨cl14, Ar14, S14, H14⟩ := V11
  have hin14 := AF_in (j := ((p3 + (2 : Int32)) + ((((0 : Int32) + (1 : Int32)) + (1 : Int32)) + (1 : Int32)))) S14 (own_a2 (i := ((((0 : Int32) + (1 : Int32)) + (1 : Int32)) + (1 : Int32))) hp (by decide)).1 (own_a2 (i := ((((0 : Int32) + (1 : Int32)) + (1 : Int32)) + (1 : Int32))) hp (by decide)).2
  obtain ⟨T14, h14, X14, e14, W14, st14⟩ := stB X12 hx hZ e12 Ar14 (j := ((p3 + (2 : Int32)) + ((((0 : Int32) + (1 : Int32)) + (1 : Int32)) + (1 : Int32)))) hin14 (g := (mkF m 40 #[.val (.int p1), .val (.ref a2), .val (.int p3), .val (.int ((((0 : Int32) + (1 : Int32)) + (1 : Int32)) + (1 : Int32)))] [(.int (own_hx (((p1 >>> (((12 : Int32) - ((4 : Int32) * ((((0 : Int32) + (1 : Int32)) + (1 : Int32)) + (1 : Int32)))) &&& 31)) &&& (15 : Int32))).toNatClampNeg)), (.int ((p3 + (2 : Int32)) + ((((0 : Int32) + (1 : Int32)) + (1 : Int32)) + (1 : Int32)))), (.ref a2)])) rfl rfl (hb hby d1_40)
  have V14 := AF.same Ar14 S14 H14 W14
  have N14 := Fr.snoc X14 N11 gb
  have KK14 : Keep h0 h14 [a2] := KK11.wr W14 (Or.inl (List.mem_of_getElem? (i := 0) rfl))
  obtain ⟨L14, l14⟩ : ∃ z, z = L11 ++ [(⟨a2, (((p3 + (2 : Int32)) + ((((0 : Int32) + (1 : Int32)) + (1 : Int32)) + (1 : Int32))) : Int32).toNatClampNeg⟩ : Loc)] := ⟨_, rfl⟩
  rw [← l14] at X14 N14
  have D14 := D11.other W14 ne
  have St14 := St11.wr W14
  have R15 : ∀ t, Steps p.tables e below (T14.setTop (mkF m 47 #[.val (.int p1), .val (.ref a2), .val (.int p3), .val (.int (((((0 : Int32) + (1 : Int32)) + (1 : Int32)) + (1 : Int32)) + (1 : Int32)))] [])) t → Steps p.tables e below (s₁.setTop (entryFrame m #[(.int p1), (.ref a2), (.int p3)] 4)) t := by
    intro t kt
    refine pre0 _ ?_
    show Steps p.tables e below (s₁.setTop (mkF m 0 #[.val (.int p1), .val (.ref a2), .val (.int p3), .unset] [])) _
    refine XS.aloadN X0.here hx rfl (hb hby d1_0) rfl rfl ?_
    show Steps p.tables e below (s₁.setTop (mkF m 1 #[.val (.int p1), .val (.ref a2), .val (.int p3), .unset] [(.ref a2)])) _
    refine XS.iloadN X0.here hx rfl (hb hby d1_1) rfl ?_
    show Steps p.tables e below (s₁.setTop (mkF m 2 #[.val (.int p1), .val (.ref a2), .val (.int p3), .unset] [(.int p3), (.ref a2)])) _
    refine XS.bipush X0.here hx rfl (hb hby d1_2) ?_
    show Steps p.tables e below (s₁.setTop (mkF m 4 #[.val (.int p1), .val (.ref a2), .val (.int p3), .unset] [(.int (92 : Int32)), (.int p3), (.ref a2)])) _
    refine st1 _ ?_
    show Steps p.tables e below (T1.setTop (mkF m 5 #[.val (.int p1), .val (.ref a2), .val (.int p3), .unset] [])) _
    refine XS.aloadN X1.here hx rfl (hb hby d1_5) rfl rfl ?_
    show Steps p.tables e below (T1.setTop (mkF m 6 #[.val (.int p1), .val (.ref a2), .val (.int p3), .unset] [(.ref a2)])) _
    refine XS.iloadN X1.here hx rfl (hb hby d1_6) rfl ?_
    show Steps p.tables e below (T1.setTop (mkF m 7 #[.val (.int p1), .val (.ref a2), .val (.int p3), .unset] [(.int p3), (.ref a2)])) _
    refine XS.iconst X1.here hx rfl (hb hby d1_7) ?_
    show Steps p.tables e below (T1.setTop (mkF m 8 #[.val (.int p1), .val (.ref a2), .val (.int p3), .unset] [(.int (1 : Int32)), (.int p3), (.ref a2)])) _
    refine XS.iadd X1.here hx rfl (hb hby d1_8) rfl ?_
    show Steps p.tables e below (T1.setTop (mkF m 9 #[.val (.int p1), .val (.ref a2), .val (.int p3), .unset] [(.int (p3 + (1 : Int32))), (.ref a2)])) _
    refine XS.bipush X1.here hx rfl (hb hby d1_9) ?_
    show Steps p.tables e below (T1.setTop (mkF m 11 #[.val (.int p1), .val (.ref a2), .val (.int p3), .unset] [(.int (117 : Int32)), (.int (p3 + (1 : Int32))), (.ref a2)])) _
    refine st2 _ ?_
    show Steps p.tables e below (T2.setTop (mkF m 12 #[.val (.int p1), .val (.ref a2), .val (.int p3), .unset] [])) _
    refine XS.iconst X2.here hx rfl (hb hby d1_12) ?_
    show Steps p.tables e below (T2.setTop (mkF m 13 #[.val (.int p1), .val (.ref a2), .val (.int p3), .unset] [(.int (0 : Int32))])) _
    refine XS.istoreN X2.here hx rfl (hb hby d1_13) rfl (l' := #[.val (.int p1), .val (.ref a2), .val (.int p3), .val (.int (0 : Int32))]) rfl ?_
    show Steps p.tables e below (T2.setTop (mkF m 14 #[.val (.int p1), .val (.ref a2), .val (.int p3), .val (.int (0 : Int32))] [])) _
    refine XS.iloadN X2.here hx rfl (hb hby d1_14) rfl ?_
    show Steps p.tables e below (T2.setTop (mkF m 15 #[.val (.int p1), .val (.ref a2), .val (.int p3), .val (.int (0 : Int32))] [(.int (0 : Int32))])) _
    refine XS.iconst X2.here hx rfl (hb hby d1_15) ?_
    show Steps p.tables e below (T2.setTop (mkF m 16 #[.val (.int p1), .val (.ref a2), .val (.int p3), .val (.int (0 : Int32))] [(.int (4 : Int32)), (.int (0 : Int32))])) _
    refine XS.icmpNo X2.here hx rfl (hb hby d1_16) rfl (tlt (by decide : (0 : Int32) < (4 : Int32))).2.1 ?_
    show Steps p.tables e below (T2.setTop (mkF m 19 #[.val (.int p1), .val (.ref a2), .val (.int p3), .val (.int (0 : Int32))] [])) _
    refine XS.aloadN X2.here hx rfl (hb hby d1_19) rfl rfl ?_
    show Steps p.tables e below (T2.setTop (mkF m 20 #[.val (.int p1), .val (.ref a2), .val (.int p3), .val (.int (0 : Int32))] [(.ref a2)])) _
    refine XS.iloadN X2.here hx rfl (hb hby d1_20) rfl ?_
    show Steps p.tables e below (T2.setTop (mkF m 21 #[.val (.int p1), .val (.ref a2), .val (.int p3), .val (.int (0 : Int32))] [(.int p3), (.ref a2)])) _
    refine XS.iconst X2.here hx rfl (hb hby d1_21) ?_
    show Steps p.tables e below (T2.setTop (mkF m 22 #[.val (.int p1), .val (.ref a2), .val (.int p3), .val (.int (0 : Int32))] [(.int (2 : Int32)), (.int p3), (.ref a2)])) _
    refine XS.iadd X2.here hx rfl (hb hby d1_22) rfl ?_
    show Steps p.tables e below (T2.setTop (mkF m 23 #[.val (.int p1), .val (.ref a2), .val (.int p3), .val (.int (0 : Int32))] [(.int (p3 + (2 : Int32))), (.ref a2)])) _
    refine XS.iloadN X2.here hx rfl (hb hby d1_23) rfl ?_
    show Steps p.tables e below (T2.setTop (mkF m 24 #[.val (.int p1), .val (.ref a2), .val (.int p3), .val (.int (0 : Int32))] [(.int (0 : Int32)), (.int (p3 + (2 : Int32))), (.ref a2)])) _
    refine XS.iadd X2.here hx rfl (hb hby d1_24) rfl ?_
    show Steps p.tables e below (T2.setTop (mkF m 25 #[.val (.int p1), .val (.ref a2), .val (.int p3), .val (.int (0 : Int32))] [(.int ((p3 + (2 : Int32)) + (0 : Int32))), (.ref a2)])) _
    refine st3 _ ?_
    show Steps p.tables e below (T3.setTop (mkF m 28 #[.val (.int p1), .val (.ref a2), .val (.int p3), .val (.int (0 : Int32))] [(.ref w), (.int ((p3 + (2 : Int32)) + (0 : Int32))), (.ref a2)])) _
    refine XS.iloadN X3.here hx rfl (hb hby d1_28) rfl ?_
    show Steps p.tables e below (T3.setTop (mkF m 29 #[.val (.int p1), .val (.ref a2), .val (.int p3), .val (.int (0 : Int32))] [(.int p1), (.ref w), (.int ((p3 + (2 : Int32)) + (0 : Int32))), (.ref a2)])) _
    refine XS.bipush X3.here hx rfl (hb hby d1_29) ?_
    show Steps p.tables e below (T3.setTop (mkF m 31 #[.val (.int p1), .val (.ref a2), .val (.int p3), .val (.int (0 : Int32))] [(.int (12 : Int32)), (.int p1), (.ref w), (.int ((p3 + (2 : Int32)) + (0 : Int32))), (.ref a2)])) _
    refine XS.iconst X3.here hx rfl (hb hby d1_31) ?_
    show Steps p.tables e below (T3.setTop (mkF m 32 #[.val (.int p1), .val (.ref a2), .val (.int p3), .val (.int (0 : Int32))] [(.int (4 : Int32)), (.int (12 : Int32)), (.int p1), (.ref w), (.int ((p3 + (2 : Int32)) + (0 : Int32))), (.ref a2)])) _
    refine XS.iloadN X3.here hx rfl (hb hby d1_32) rfl ?_
    show Steps p.tables e below (T3.setTop (mkF m 33 #[.val (.int p1), .val (.ref a2), .val (.int p3), .val (.int (0 : Int32))] [(.int (0 : Int32)), (.int (4 : Int32)), (.int (12 : Int32)), (.int p1), (.ref w), (.int ((p3 + (2 : Int32)) + (0 : Int32))), (.ref a2)])) _
    refine XS.imul X3.here hx rfl (hb hby d1_33) rfl ?_
    show Steps p.tables e below (T3.setTop (mkF m 34 #[.val (.int p1), .val (.ref a2), .val (.int p3), .val (.int (0 : Int32))] [(.int ((4 : Int32) * (0 : Int32))), (.int (12 : Int32)), (.int p1), (.ref w), (.int ((p3 + (2 : Int32)) + (0 : Int32))), (.ref a2)])) _
    refine XS.isub X3.here hx rfl (hb hby d1_34) rfl ?_
    show Steps p.tables e below (T3.setTop (mkF m 35 #[.val (.int p1), .val (.ref a2), .val (.int p3), .val (.int (0 : Int32))] [(.int ((12 : Int32) - ((4 : Int32) * (0 : Int32)))), (.int p1), (.ref w), (.int ((p3 + (2 : Int32)) + (0 : Int32))), (.ref a2)])) _
    refine XS.ishr X3.here hx rfl (hb hby d1_35) rfl ?_
    show Steps p.tables e below (T3.setTop (mkF m 36 #[.val (.int p1), .val (.ref a2), .val (.int p3), .val (.int (0 : Int32))] [(.int (p1 >>> (((12 : Int32) - ((4 : Int32) * (0 : Int32))) &&& 31))), (.ref w), (.int ((p3 + (2 : Int32)) + (0 : Int32))), (.ref a2)])) _
    refine XS.bipush X3.here hx rfl (hb hby d1_36) ?_
    show Steps p.tables e below (T3.setTop (mkF m 38 #[.val (.int p1), .val (.ref a2), .val (.int p3), .val (.int (0 : Int32))] [(.int (15 : Int32)), (.int (p1 >>> (((12 : Int32) - ((4 : Int32) * (0 : Int32))) &&& 31))), (.ref w), (.int ((p3 + (2 : Int32)) + (0 : Int32))), (.ref a2)])) _
    refine XS.iand X3.here hx rfl (hb hby d1_38) rfl ?_
    show Steps p.tables e below (T3.setTop (mkF m 39 #[.val (.int p1), .val (.ref a2), .val (.int p3), .val (.int (0 : Int32))] [(.int ((p1 >>> (((12 : Int32) - ((4 : Int32) * (0 : Int32))) &&& 31)) &&& (15 : Int32))), (.ref w), (.int ((p3 + (2 : Int32)) + (0 : Int32))), (.ref a2)])) _
    refine X3.baloadBytes hx (j := ((p1 >>> (((12 : Int32) - ((4 : Int32) * (0 : Int32))) &&& 31)) &&& (15 : Int32))) (v := (.int (own_hx (((p1 >>> (((12 : Int32) - ((4 : Int32) * (0 : Int32))) &&& 31)) &&& (15 : Int32))).toNatClampNeg))) (by rw [e3]; exact Ar4.1) (State.isArrayOf_alike hZ.alike Ar4.2.1) Ar4.2.2 hin4 hat4 (g := (mkF m 39 #[.val (.int p1), .val (.ref a2), .val (.int p3), .val (.int (0 : Int32))] [(.int ((p1 >>> (((12 : Int32) - ((4 : Int32) * (0 : Int32))) &&& 31)) &&& (15 : Int32))), (.ref w), (.int ((p3 + (2 : Int32)) + (0 : Int32))), (.ref a2)])) rfl rfl (hb hby d1_39) _ ?_
    show Steps p.tables e below (T3.setTop (mkF m 40 #[.val (.int p1), .val (.ref a2), .val (.int p3), .val (.int (0 : Int32))] [(.int (own_hx (((p1 >>> (((12 : Int32) - ((4 : Int32) * (0 : Int32))) &&& 31)) &&& (15 : Int32))).toNatClampNeg)), (.int ((p3 + (2 : Int32)) + (0 : Int32))), (.ref a2)])) _
    refine st5 _ ?_
    show Steps p.tables e below (T5.setTop (mkF m 41 #[.val (.int p1), .val (.ref a2), .val (.int p3), .val (.int (0 : Int32))] [])) _
    refine XS.iinc X5.here hx rfl (hb hby d1_41) rfl (l' := #[.val (.int p1), .val (.ref a2), .val (.int p3), .val (.int ((0 : Int32) + (1 : Int32)))]) rfl ?_
    show Steps p.tables e below (T5.setTop (mkF m 44 #[.val (.int p1), .val (.ref a2), .val (.int p3), .val (.int ((0 : Int32) + (1 : Int32)))] [])) _
    refine XS.goto X5.here hx rfl (pc0 := 44) (pc' := 14) rfl (hb hby d1_44) (by decide) (by decide) ?_
    show Steps p.tables e below (T5.setTop (mkF m 14 #[.val (.int p1), .val (.ref a2), .val (.int p3), .val (.int ((0 : Int32) + (1 : Int32)))] [])) _
    refine XS.iloadN X5.here hx rfl (hb hby d1_14) rfl ?_
    show Steps p.tables e below (T5.setTop (mkF m 15 #[.val (.int p1), .val (.ref a2), .val (.int p3), .val (.int ((0 : Int32) + (1 : Int32)))] [(.int ((0 : Int32) + (1 : Int32)))])) _
    refine XS.iconst X5.here hx rfl (hb hby d1_15) ?_
    show Steps p.tables e below (T5.setTop (mkF m 16 #[.val (.int p1), .val (.ref a2), .val (.int p3), .val (.int ((0 : Int32) + (1 : Int32)))] [(.int (4 : Int32)), (.int ((0 : Int32) + (1 : Int32)))])) _
    refine XS.icmpNo X5.here hx rfl (hb hby d1_16) rfl (tlt (by decide : ((0 : Int32) + (1 : Int32)) < (4 : Int32))).2.1 ?_
    show Steps p.tables e below (T5.setTop (mkF m 19 #[.val (.int p1), .val (.ref a2), .val (.int p3), .val (.int ((0 : Int32) + (1 : Int32)))] [])) _
    refine XS.aloadN X5.here hx rfl (hb hby d1_19) rfl rfl ?_
    show Steps p.tables e below (T5.setTop (mkF m 20 #[.val (.int p1), .val (.ref a2), .val (.int p3), .val (.int ((0 : Int32) + (1 : Int32)))] [(.ref a2)])) _
    refine XS.iloadN X5.here hx rfl (hb hby d1_20) rfl ?_
    show Steps p.tables e below (T5.setTop (mkF m 21 #[.val (.int p1), .val (.ref a2), .val (.int p3), .val (.int ((0 : Int32) + (1 : Int32)))] [(.int p3), (.ref a2)])) _
    refine XS.iconst X5.here hx rfl (hb hby d1_21) ?_
    show Steps p.tables e below (T5.setTop (mkF m 22 #[.val (.int p1), .val (.ref a2), .val (.int p3), .val (.int ((0 : Int32) + (1 : Int32)))] [(.int (2 : Int32)), (.int p3), (.ref a2)])) _
    refine XS.iadd X5.here hx rfl (hb hby d1_22) rfl ?_
    show Steps p.tables e below (T5.setTop (mkF m 23 #[.val (.int p1), .val (.ref a2), .val (.int p3), .val (.int ((0 : Int32) + (1 : Int32)))] [(.int (p3 + (2 : Int32))), (.ref a2)])) _
    refine XS.iloadN X5.here hx rfl (hb hby d1_23) rfl ?_
    show Steps p.tables e below (T5.setTop (mkF m 24 #[.val (.int p1), .val (.ref a2), .val (.int p3), .val (.int ((0 : Int32) + (1 : Int32)))] [(.int ((0 : Int32) + (1 : Int32))), (.int (p3 + (2 : Int32))), (.ref a2)])) _
    refine XS.iadd X5.here hx rfl (hb hby d1_24) rfl ?_
    show Steps p.tables e below (T5.setTop (mkF m 25 #[.val (.int p1), .val (.ref a2), .val (.int p3), .val (.int ((0 : Int32) + (1 : Int32)))] [(.int ((p3 + (2 : Int32)) + ((0 : Int32) + (1 : Int32)))), (.ref a2)])) _
    refine st6 _ ?_
    show Steps p.tables e below (T6.setTop (mkF m 28 #[.val (.int p1), .val (.ref a2), .val (.int p3), .val (.int ((0 : Int32) + (1 : Int32)))] [(.ref w), (.int ((p3 + (2 : Int32)) + ((0 : Int32) + (1 : Int32)))), (.ref a2)])) _
    refine XS.iloadN X6.here hx rfl (hb hby d1_28) rfl ?_
    show Steps p.tables e below (T6.setTop (mkF m 29 #[.val (.int p1), .val (.ref a2), .val (.int p3), .val (.int ((0 : Int32) + (1 : Int32)))] [(.int p1), (.ref w), (.int ((p3 + (2 : Int32)) + ((0 : Int32) + (1 : Int32)))), (.ref a2)])) _
    refine XS.bipush X6.here hx rfl (hb hby d1_29) ?_
    show Steps p.tables e below (T6.setTop (mkF m 31 #[.val (.int p1), .val (.ref a2), .val (.int p3), .val (.int ((0 : Int32) + (1 : Int32)))] [(.int (12 : Int32)), (.int p1), (.ref w), (.int ((p3 + (2 : Int32)) + ((0 : Int32) + (1 : Int32)))), (.ref a2)])) _
    refine XS.iconst X6.here hx rfl (hb hby d1_31) ?_
    show Steps p.tables e below (T6.setTop (mkF m 32 #[.val (.int p1), .val (.ref a2), .val (.int p3), .val (.int ((0 : Int32) + (1 : Int32)))] [(.int (4 : Int32)), (.int (12 : Int32)), (.int p1), (.ref w), (.int ((p3 + (2 : Int32)) + ((0 : Int32) + (1 : Int32)))), (.ref a2)])) _
    refine XS.iloadN X6.here hx rfl (hb hby d1_32) rfl ?_
    show Steps p.tables e below (T6.setTop (mkF m 33 #[.val (.int p1), .val (.ref a2), .val (.int p3), .val (.int ((0 : Int32) + (1 : Int32)))] [(.int ((0 : Int32) + (1 : Int32))), (.int (4 : Int32)), (.int (12 : Int32)), (.int p1), (.ref w), (.int ((p3 + (2 : Int32)) + ((0 : Int32) + (1 : Int32)))), (.ref a2)])) _
    refine XS.imul X6.here hx rfl (hb hby d1_33) rfl ?_
    show Steps p.tables e below (T6.setTop (mkF m 34 #[.val (.int p1), .val (.ref a2), .val (.int p3), .val (.int ((0 : Int32) + (1 : Int32)))] [(.int ((4 : Int32) * ((0 : Int32) + (1 : Int32)))), (.int (12 : Int32)), (.int p1), (.ref w), (.int ((p3 + (2 : Int32)) + ((0 : Int32) + (1 : Int32)))), (.ref a2)])) _
    refine XS.isub X6.here hx rfl (hb hby d1_34) rfl ?_
    show Steps p.tables e below (T6.setTop (mkF m 35 #[.val (.int p1), .val (.ref a2), .val (.int p3), .val (.int ((0 : Int32) + (1 : Int32)))] [(.int ((12 : Int32) - ((4 : Int32) * ((0 : Int32) + (1 : Int32))))), (.int p1), (.ref w), (.int ((p3 + (2 : Int32)) + ((0 : Int32) + (1 : Int32)))), (.ref a2)])) _
    refine XS.ishr X6.here hx rfl (hb hby d1_35) rfl ?_
    show Steps p.tables e below (T6.setTop (mkF m 36 #[.val (.int p1), .val (.ref a2), .val (.int p3), .val (.int ((0 : Int32) + (1 : Int32)))] [(.int (p1 >>> (((12 : Int32) - ((4 : Int32) * ((0 : Int32) + (1 : Int32)))) &&& 31))), (.ref w), (.int ((p3 + (2 : Int32)) + ((0 : Int32) + (1 : Int32)))), (.ref a2)])) _
    refine XS.bipush X6.here hx rfl (hb hby d1_36) ?_
    show Steps p.tables e below (T6.setTop (mkF m 38 #[.val (.int p1), .val (.ref a2), .val (.int p3), .val (.int ((0 : Int32) + (1 : Int32)))] [(.int (15 : Int32)), (.int (p1 >>> (((12 : Int32) - ((4 : Int32) * ((0 : Int32) + (1 : Int32)))) &&& 31))), (.ref w), (.int ((p3 + (2 : Int32)) + ((0 : Int32) + (1 : Int32)))), (.ref a2)])) _
    refine XS.iand X6.here hx rfl (hb hby d1_38) rfl ?_
    show Steps p.tables e below (T6.setTop (mkF m 39 #[.val (.int p1), .val (.ref a2), .val (.int p3), .val (.int ((0 : Int32) + (1 : Int32)))] [(.int ((p1 >>> (((12 : Int32) - ((4 : Int32) * ((0 : Int32) + (1 : Int32)))) &&& 31)) &&& (15 : Int32))), (.ref w), (.int ((p3 + (2 : Int32)) + ((0 : Int32) + (1 : Int32)))), (.ref a2)])) _
    refine X6.baloadBytes hx (j := ((p1 >>> (((12 : Int32) - ((4 : Int32) * ((0 : Int32) + (1 : Int32)))) &&& 31)) &&& (15 : Int32))) (v := (.int (own_hx (((p1 >>> (((12 : Int32) - ((4 : Int32) * ((0 : Int32) + (1 : Int32)))) &&& 31)) &&& (15 : Int32))).toNatClampNeg))) (by rw [e6]; exact Ar7.1) (State.isArrayOf_alike hZ.alike Ar7.2.1) Ar7.2.2 hin7 hat7 (g := (mkF m 39 #[.val (.int p1), .val (.ref a2), .val (.int p3), .val (.int ((0 : Int32) + (1 : Int32)))] [(.int ((p1 >>> (((12 : Int32) - ((4 : Int32) * ((0 : Int32) + (1 : Int32)))) &&& 31)) &&& (15 : Int32))), (.ref w), (.int ((p3 + (2 : Int32)) + ((0 : Int32) + (1 : Int32)))), (.ref a2)])) rfl rfl (hb hby d1_39) _ ?_
    show Steps p.tables e below (T6.setTop (mkF m 40 #[.val (.int p1), .val (.ref a2), .val (.int p3), .val (.int ((0 : Int32) + (1 : Int32)))] [(.int (own_hx (((p1 >>> (((12 : Int32) - ((4 : Int32) * ((0 : Int32) + (1 : Int32)))) &&& 31)) &&& (15 : Int32))).toNatClampNeg)), (.int ((p3 + (2 : Int32)) + ((0 : Int32) + (1 : Int32)))), (.ref a2)])) _
    refine st8 _ ?_
    show Steps p.tables e below (T8.setTop (mkF m 41 #[.val (.int p1), .val (.ref a2), .val (.int p3), .val (.int ((0 : Int32) + (1 : Int32)))] [])) _
    refine XS.iinc X8.here hx rfl (hb hby d1_41) rfl (l' := #[.val (.int p1), .val (.ref a2), .val (.int p3), .val (.int (((0 : Int32) + (1 : Int32)) + (1 : Int32)))]) rfl ?_
    show Steps p.tables e below (T8.setTop (mkF m 44 #[.val (.int p1), .val (.ref a2), .val (.int p3), .val (.int (((0 : Int32) + (1 : Int32)) + (1 : Int32)))] [])) _
    refine XS.goto X8.here hx rfl (pc0 := 44) (pc' := 14) rfl (hb hby d1_44) (by decide) (by decide) ?_
    show Steps p.tables e below (T8.setTop (mkF m 14 #[.val (.int p1), .val (.ref a2), .val (.int p3), .val (.int (((0 : Int32) + (1 : Int32)) + (1 : Int32)))] [])) _
    refine XS.iloadN X8.here hx rfl (hb hby d1_14) rfl ?_
    show Steps p.tables e below (T8.setTop (mkF m 15 #[.val (.int p1), .val (.ref a2), .val (.int p3), .val (.int (((0 : Int32) + (1 : Int32)) + (1 : Int32)))] [(.int (((0 : Int32) + (1 : Int32)) + (1 : Int32)))])) _
    refine XS.iconst X8.here hx rfl (hb hby d1_15) ?_
    show Steps p.tables e below (T8.setTop (mkF m 16 #[.val (.int p1), .val (.ref a2), .val (.int p3), .val (.int (((0 : Int32) + (1 : Int32)) + (1 : Int32)))] [(.int (4 : Int32)), (.int (((0 : Int32) + (1 : Int32)) + (1 : Int32)))])) _
    refine XS.icmpNo X8.here hx rfl (hb hby d1_16) rfl (tlt (by decide : (((0 : Int32) + (1 : Int32)) + (1 : Int32)) < (4 : Int32))).2.1 ?_
    show Steps p.tables e below (T8.setTop (mkF m 19 #[.val (.int p1), .val (.ref a2), .val (.int p3), .val (.int (((0 : Int32) + (1 : Int32)) + (1 : Int32)))] [])) _
    refine XS.aloadN X8.here hx rfl (hb hby d1_19) rfl rfl ?_
    show Steps p.tables e below (T8.setTop (mkF m 20 #[.val (.int p1), .val (.ref a2), .val (.int p3), .val (.int (((0 : Int32) + (1 : Int32)) + (1 : Int32)))] [(.ref a2)])) _
    refine XS.iloadN X8.here hx rfl (hb hby d1_20) rfl ?_
    show Steps p.tables e below (T8.setTop (mkF m 21 #[.val (.int p1), .val (.ref a2), .val (.int p3), .val (.int (((0 : Int32) + (1 : Int32)) + (1 : Int32)))] [(.int p3), (.ref a2)])) _
    refine XS.iconst X8.here hx rfl (hb hby d1_21) ?_
    show Steps p.tables e below (T8.setTop (mkF m 22 #[.val (.int p1), .val (.ref a2), .val (.int p3), .val (.int (((0 : Int32) + (1 : Int32)) + (1 : Int32)))] [(.int (2 : Int32)), (.int p3), (.ref a2)])) _
    refine XS.iadd X8.here hx rfl (hb hby d1_22) rfl ?_
    show Steps p.tables e below (T8.setTop (mkF m 23 #[.val (.int p1), .val (.ref a2), .val (.int p3), .val (.int (((0 : Int32) + (1 : Int32)) + (1 : Int32)))] [(.int (p3 + (2 : Int32))), (.ref a2)])) _
    refine XS.iloadN X8.here hx rfl (hb hby d1_23) rfl ?_
    show Steps p.tables e below (T8.setTop (mkF m 24 #[.val (.int p1), .val (.ref a2), .val (.int p3), .val (.int (((0 : Int32) + (1 : Int32)) + (1 : Int32)))] [(.int (((0 : Int32) + (1 : Int32)) + (1 : Int32))), (.int (p3 + (2 : Int32))), (.ref a2)])) _
    refine XS.iadd X8.here hx rfl (hb hby d1_24) rfl ?_
    show Steps p.tables e below (T8.setTop (mkF m 25 #[.val (.int p1), .val (.ref a2), .val (.int p3), .val (.int (((0 : Int32) + (1 : Int32)) + (1 : Int32)))] [(.int ((p3 + (2 : Int32)) + (((0 : Int32) + (1 : Int32)) + (1 : Int32)))), (.ref a2)])) _
    refine st9 _ ?_
    show Steps p.tables e below (T9.setTop (mkF m 28 #[.val (.int p1), .val (.ref a2), .val (.int p3), .val (.int (((0 : Int32) + (1 : Int32)) + (1 : Int32)))] [(.ref w), (.int ((p3 + (2 : Int32)) + (((0 : Int32) + (1 : Int32)) + (1 : Int32)))), (.ref a2)])) _
    refine XS.iloadN X9.here hx rfl (hb hby d1_28) rfl ?_
    show Steps p.tables e below (T9.setTop (mkF m 29 #[.val (.int p1), .val (.ref a2), .val (.int p3), .val (.int (((0 : Int32) + (1 : Int32)) + (1 : Int32)))] [(.int p1), (.ref w), (.int ((p3 + (2 : Int32)) + (((0 : Int32) + (1 : Int32)) + (1 : Int32)))), (.ref a2)])) _
    refine XS.bipush X9.here hx rfl (hb hby d1_29) ?_
    show Steps p.tables e below (T9.setTop (mkF m 31 #[.val (.int p1), .val (.ref a2), .val (.int p3), .val (.int (((0 : Int32) + (1 : Int32)) + (1 : Int32)))] [(.int (12 : Int32)), (.int p1), (.ref w), (.int ((p3 + (2 : Int32)) + (((0 : Int32) + (1 : Int32)) + (1 : Int32)))), (.ref a2)])) _
    refine XS.iconst X9.here hx rfl (hb hby d1_31) ?_
    show Steps p.tables e below (T9.setTop (mkF m 32 #[.val (.int p1), .val (.ref a2), .val (.int p3), .val (.int (((0 : Int32) + (1 : Int32)) + (1 : Int32)))] [(.int (4 : Int32)), (.int (12 : Int32)), (.int p1), (.ref w), (.int ((p3 + (2 : Int32)) + (((0 : Int32) + (1 : Int32)) + (1 : Int32)))), (.ref a2)])) _
    refine XS.iloadN X9.here hx rfl (hb hby d1_32) rfl ?_
    show Steps p.tables e below (T9.setTop (mkF m 33 #[.val (.int p1), .val (.ref a2), .val (.int p3), .val (.int (((0 : Int32) + (1 : Int32)) + (1 : Int32)))] [(.int (((0 : Int32) + (1 : Int32)) + (1 : Int32))), (.int (4 : Int32)), (.int (12 : Int32)), (.int p1), (.ref w), (.int ((p3 + (2 : Int32)) + (((0 : Int32) + (1 : Int32)) + (1 : Int32)))), (.ref a2)])) _
    refine XS.imul X9.here hx rfl (hb hby d1_33) rfl ?_
    show Steps p.tables e below (T9.setTop (mkF m 34 #[.val (.int p1), .val (.ref a2), .val (.int p3), .val (.int (((0 : Int32) + (1 : Int32)) + (1 : Int32)))] [(.int ((4 : Int32) * (((0 : Int32) + (1 : Int32)) + (1 : Int32)))), (.int (12 : Int32)), (.int p1), (.ref w), (.int ((p3 + (2 : Int32)) + (((0 : Int32) + (1 : Int32)) + (1 : Int32)))), (.ref a2)])) _
    refine XS.isub X9.here hx rfl (hb hby d1_34) rfl ?_
    show Steps p.tables e below (T9.setTop (mkF m 35 #[.val (.int p1), .val (.ref a2), .val (.int p3), .val (.int (((0 : Int32) + (1 : Int32)) + (1 : Int32)))] [(.int ((12 : Int32) - ((4 : Int32) * (((0 : Int32) + (1 : Int32)) + (1 : Int32))))), (.int p1), (.ref w), (.int ((p3 + (2 : Int32)) + (((0 : Int32) + (1 : Int32)) + (1 : Int32)))), (.ref a2)])) _
    refine XS.ishr X9.here hx rfl (hb hby d1_35) rfl ?_
    show Steps p.tables e below (T9.setTop (mkF m 36 #[.val (.int p1), .val (.ref a2), .val (.int p3), .val (.int (((0 : Int32) + (1 : Int32)) + (1 : Int32)))] [(.int (p1 >>> (((12 : Int32) - ((4 : Int32) * (((0 : Int32) + (1 : Int32)) + (1 : Int32)))) &&& 31))), (.ref w), (.int ((p3 + (2 : Int32)) + (((0 : Int32) + (1 : Int32)) + (1 : Int32)))), (.ref a2)])) _
    refine XS.bipush X9.here hx rfl (hb hby d1_36) ?_
    show Steps p.tables e below (T9.setTop (mkF m 38 #[.val (.int p1), .val (.ref a2), .val (.int p3), .val (.int (((0 : Int32) + (1 : Int32)) + (1 : Int32)))] [(.int (15 : Int32)), (.int (p1 >>> (((12 : Int32) - ((4 : Int32) * (((0 : Int32) + (1 : Int32)) + (1 : Int32)))) &&& 31))), (.ref w), (.int ((p3 + (2 : Int32)) + (((0 : Int32) + (1 : Int32)) + (1 : Int32)))), (.ref a2)])) _
    refine XS.iand X9.here hx rfl (hb hby d1_38) rfl ?_
    show Steps p.tables e below (T9.setTop (mkF m 39 #[.val (.int p1), .val (.ref a2), .val (.int p3), .val (.int (((0 : Int32) + (1 : Int32)) + (1 : Int32)))] [(.int ((p1 >>> (((12 : Int32) - ((4 : Int32) * (((0 : Int32) + (1 : Int32)) + (1 : Int32)))) &&& 31)) &&& (15 : Int32))), (.ref w), (.int ((p3 + (2 : Int32)) + (((0 : Int32) + (1 : Int32)) + (1 : Int32)))), (.ref a2)])) _
    refine X9.baloadBytes hx (j := ((p1 >>> (((12 : Int32) - ((4 : Int32) * (((0 : Int32) + (1 : Int32)) + (1 : Int32)))) &&& 31)) &&& (15 : Int32))) (v := (.int (own_hx (((p1 >>> (((12 : Int32) - ((4 : Int32) * (((0 : Int32) + (1 : Int32)) + (1 : Int32)))) &&& 31)) &&& (15 : Int32))).toNatClampNeg))) (by rw [e9]; exact Ar10.1) (State.isArrayOf_alike hZ.alike Ar10.2.1) Ar10.2.2 hin10 hat10 (g := (mkF m 39 #[.val (.int p1), .val (.ref a2), .val (.int p3), .val (.int (((0 : Int32) + (1 : Int32)) + (1 : Int32)))] [(.int ((p1 >>> (((12 : Int32) - ((4 : Int32) * (((0 : Int32) + (1 : Int32)) + (1 : Int32)))) &&& 31)) &&& (15 : Int32))), (.ref w), (.int ((p3 + (2 : Int32)) + (((0 : Int32) + (1 : Int32)) + (1 : Int32)))), (.ref a2)])) rfl rfl (hb hby d1_39) _ ?_
    show Steps p.tables e below (T9.setTop (mkF m 40 #[.val (.int p1), .val (.ref a2), .val (.int p3), .val (.int (((0 : Int32) + (1 : Int32)) + (1 : Int32)))] [(.int (own_hx (((p1 >>> (((12 : Int32) - ((4 : Int32) * (((0 : Int32) + (1 : Int32)) + (1 : Int32)))) &&& 31)) &&& (15 : Int32))).toNatClampNeg)), (.int ((p3 + (2 : Int32)) + (((0 : Int32) + (1 : Int32)) + (1 : Int32)))), (.ref a2)])) _
    refine st11 _ ?_
    show Steps p.tables e below (T11.setTop (mkF m 41 #[.val (.int p1), .val (.ref a2), .val (.int p3), .val (.int (((0 : Int32) + (1 : Int32)) + (1 : Int32)))] [])) _
    refine XS.iinc X11.here hx rfl (hb hby d1_41) rfl (l' := #[.val (.int p1), .val (.ref a2), .val (.int p3), .val (.int ((((0 : Int32) + (1 : Int32)) + (1 : Int32)) + (1 : Int32)))]) rfl ?_
    show Steps p.tables e below (T11.setTop (mkF m 44 #[.val (.int p1), .val (.ref a2), .val (.int p3), .val (.int ((((0 : Int32) + (1 : Int32)) + (1 : Int32)) + (1 : Int32)))] [])) _
    refine XS.goto X11.here hx rfl (pc0 := 44) (pc' := 14) rfl (hb hby d1_44) (by decide) (by decide) ?_
    show Steps p.tables e below (T11.setTop (mkF m 14 #[.val (.int p1), .val (.ref a2), .val (.int p3), .val (.int ((((0 : Int32) + (1 : Int32)) + (1 : Int32)) + (1 : Int32)))] [])) _
    refine XS.iloadN X11.here hx rfl (hb hby d1_14) rfl ?_
    show Steps p.tables e below (T11.setTop (mkF m 15 #[.val (.int p1), .val (.ref a2), .val (.int p3), .val (.int ((((0 : Int32) + (1 : Int32)) + (1 : Int32)) + (1 : Int32)))] [(.int ((((0 : Int32) + (1 : Int32)) + (1 : Int32)) + (1 : Int32)))])) _
    refine XS.iconst X11.here hx rfl (hb hby d1_15) ?_
    show Steps p.tables e below (T11.setTop (mkF m 16 #[.val (.int p1), .val (.ref a2), .val (.int p3), .val (.int ((((0 : Int32) + (1 : Int32)) + (1 : Int32)) + (1 : Int32)))] [(.int (4 : Int32)), (.int ((((0 : Int32) + (1 : Int32)) + (1 : Int32)) + (1 : Int32)))])) _
    refine XS.icmpNo X11.here hx rfl (hb hby d1_16) rfl (tlt (by decide : ((((0 : Int32) + (1 : Int32)) + (1 : Int32)) + (1 : Int32)) < (4 : Int32))).2.1 ?_
    show Steps p.tables e below (T11.setTop (mkF m 19 #[.val (.int p1), .val (.ref a2), .val (.int p3), .val (.int ((((0 : Int32) + (1 : Int32)) + (1 : Int32)) + (1 : Int32)))] [])) _
    refine XS.aloadN X11.here hx rfl (hb hby d1_19) rfl rfl ?_
    show Steps p.tables e below (T11.setTop (mkF m 20 #[.val (.int p1), .val (.ref a2), .val (.int p3), .val (.int ((((0 : Int32) + (1 : Int32)) + (1 : Int32)) + (1 : Int32)))] [(.ref a2)])) _
    refine XS.iloadN X11.here hx rfl (hb hby d1_20) rfl ?_
    show Steps p.tables e below (T11.setTop (mkF m 21 #[.val (.int p1), .val (.ref a2), .val (.int p3), .val (.int ((((0 : Int32) + (1 : Int32)) + (1 : Int32)) + (1 : Int32)))] [(.int p3), (.ref a2)])) _
    refine XS.iconst X11.here hx rfl (hb hby d1_21) ?_
    show Steps p.tables e below (T11.setTop (mkF m 22 #[.val (.int p1), .val (.ref a2), .val (.int p3), .val (.int ((((0 : Int32) + (1 : Int32)) + (1 : Int32)) + (1 : Int32)))] [(.int (2 : Int32)), (.int p3), (.ref a2)])) _
    refine XS.iadd X11.here hx rfl (hb hby d1_22) rfl ?_
    show Steps p.tables e below (T11.setTop (mkF m 23 #[.val (.int p1), .val (.ref a2), .val (.int p3), .val (.int ((((0 : Int32) + (1 : Int32)) + (1 : Int32)) + (1 : Int32)))] [(.int (p3 + (2 : Int32))), (.ref a2)])) _
    refine XS.iloadN X11.here hx rfl (hb hby d1_23) rfl ?_
    show Steps p.tables e below (T11.setTop (mkF m 24 #[.val (.int p1), .val (.ref a2), .val (.int p3), .val (.int ((((0 : Int32) + (1 : Int32)) + (1 : Int32)) + (1 : Int32)))] [(.int ((((0 : Int32) + (1 : Int32)) + (1 : Int32)) + (1 : Int32))), (.int (p3 + (2 : Int32))), (.ref a2)])) _
    refine XS.iadd X11.here hx rfl (hb hby d1_24) rfl ?_
    show Steps p.tables e below (T11.setTop (mkF m 25 #[.val (.int p1), .val (.ref a2), .val (.int p3), .val (.int ((((0 : Int32) + (1 : Int32)) + (1 : Int32)) + (1 : Int32)))] [(.int ((p3 + (2 : Int32)) + ((((0 : Int32) + (1 : Int32)) + (1 : Int32)) + (1 : Int32)))), (.ref a2)])) _
    refine st12 _ ?_
    show Steps p.tables e below (T12.setTop (mkF m 28 #[.val (.int p1), .val (.ref a2), .val (.int p3), .val (.int ((((0 : Int32) + (1 : Int32)) + (1 : Int32)) + (1 : Int32)))] [(.ref w), (.int ((p3 + (2 : Int32)) + ((((0 : Int32) + (1 : Int32)) + (1 : Int32)) + (1 : Int32)))), (.ref a2)])) _
    refine XS.iloadN X12.here hx rfl (hb hby d1_28) rfl ?_
    show Steps p.tables e below (T12.setTop (mkF m 29 #[.val (.int p1), .val (.ref a2), .val (.int p3), .val (.int ((((0 : Int32) + (1 : Int32)) + (1 : Int32)) + (1 : Int32)))] [(.int p1), (.ref w), (.int ((p3 + (2 : Int32)) + ((((0 : Int32) + (1 : Int32)) + (1 : Int32)) + (1 : Int32)))), (.ref a2)])) _
    refine XS.bipush X12.here hx rfl (hb hby d1_29) ?_
    show Steps p.tables e below (T12.setTop (mkF m 31 #[.val (.int p1), .val (.ref a2), .val (.int p3), .val (.int ((((0 : Int32) + (1 : Int32)) + (1 : Int32)) + (1 : Int32)))] [(.int (12 : Int32)), (.int p1), (.ref w), (.int ((p3 + (2 : Int32)) + ((((0 : Int32) + (1 : Int32)) + (1 : Int32)) + (1 : Int32)))), (.ref a2)])) _
    refine XS.iconst X12.here hx rfl (hb hby d1_31) ?_
    show Steps p.tables e below (T12.setTop (mkF m 32 #[.val (.int p1), .val (.ref a2), .val (.int p3), .val (.int ((((0 : Int32) + (1 : Int32)) + (1 : Int32)) + (1 : Int32)))] [(.int (4 : Int32)), (.int (12 : Int32)), (.int p1), (.ref w), (.int ((p3 + (2 : Int32)) + ((((0 : Int32) + (1 : Int32)) + (1 : Int32)) + (1 : Int32)))), (.ref a2)])) _
    refine XS.iloadN X12.here hx rfl (hb hby d1_32) rfl ?_
    show Steps p.tables e below (T12.setTop (mkF m 33 #[.val (.int p1), .val (.ref a2), .val (.int p3), .val (.int ((((0 : Int32) + (1 : Int32)) + (1 : Int32)) + (1 : Int32)))] [(.int ((((0 : Int32) + (1 : Int32)) + (1 : Int32)) + (1 : Int32))), (.int (4 : Int32)), (.int (12 : Int32)), (.int p1), (.ref w), (.int ((p3 + (2 : Int32)) + ((((0 : Int32) + (1 : Int32)) + (1 : Int32)) + (1 : Int32)))), (.ref a2)])) _
    refine XS.imul X12.here hx rfl (hb hby d1_33) rfl ?_
    show Steps p.tables e below (T12.setTop (mkF m 34 #[.val (.int p1), .val (.ref a2), .val (.int p3), .val (.int ((((0 : Int32) + (1 : Int32)) + (1 : Int32)) + (1 : Int32)))] [(.int ((4 : Int32) * ((((0 : Int32) + (1 : Int32)) + (1 : Int32)) + (1 : Int32)))), (.int (12 : Int32)), (.int p1), (.ref w), (.int ((p3 + (2 : Int32)) + ((((0 : Int32) + (1 : Int32)) + (1 : Int32)) + (1 : Int32)))), (.ref a2)])) _
    refine XS.isub X12.here hx rfl (hb hby d1_34) rfl ?_
    show Steps p.tables e below (T12.setTop (mkF m 35 #[.val (.int p1), .val (.ref a2), .val (.int p3), .val (.int ((((0 : Int32) + (1 : Int32)) + (1 : Int32)) + (1 : Int32)))] [(.int ((12 : Int32) - ((4 : Int32) * ((((0 : Int32) + (1 : Int32)) + (1 : Int32)) + (1 : Int32))))), (.int p1), (.ref w), (.int ((p3 + (2 : Int32)) + ((((0 : Int32) + (1 : Int32)) + (1 : Int32)) + (1 : Int32)))), (.ref a2)])) _
    refine XS.ishr X12.here hx rfl (hb hby d1_35) rfl ?_
    show Steps p.tables e below (T12.setTop (mkF m 36 #[.val (.int p1), .val (.ref a2), .val (.int p3), .val (.int ((((0 : Int32) + (1 : Int32)) + (1 : Int32)) + (1 : Int32)))] [(.int (p1 >>> (((12 : Int32) - ((4 : Int32) * ((((0 : Int32) + (1 : Int32)) + (1 : Int32)) + (1 : Int32)))) &&& 31))), (.ref w), (.int ((p3 + (2 : Int32)) + ((((0 : Int32) + (1 : Int32)) + (1 : Int32)) + (1 : Int32)))), (.ref a2)])) _
    refine XS.bipush X12.here hx rfl (hb hby d1_36) ?_
    show Steps p.tables e below (T12.setTop (mkF m 38 #[.val (.int p1), .val (.ref a2), .val (.int p3), .val (.int ((((0 : Int32) + (1 : Int32)) + (1 : Int32)) + (1 : Int32)))] [(.int (15 : Int32)), (.int (p1 >>> (((12 : Int32) - ((4 : Int32) * ((((0 : Int32) + (1 : Int32)) + (1 : Int32)) + (1 : Int32)))) &&& 31))), (.ref w), (.int ((p3 + (2 : Int32)) + ((((0 : Int32) + (1 : Int32)) + (1 : Int32)) + (1 : Int32)))), (.ref a2)])) _
    refine XS.iand X12.here hx rfl (hb hby d1_38) rfl ?_
    show Steps p.tables e below (T12.setTop (mkF m 39 #[.val (.int p1), .val (.ref a2), .val (.int p3), .val (.int ((((0 : Int32) + (1 : Int32)) + (1 : Int32)) + (1 : Int32)))] [(.int ((p1 >>> (((12 : Int32) - ((4 : Int32) * ((((0 : Int32) + (1 : Int32)) + (1 : Int32)) + (1 : Int32)))) &&& 31)) &&& (15 : Int32))), (.ref w), (.int ((p3 + (2 : Int32)) + ((((0 : Int32) + (1 : Int32)) + (1 : Int32)) + (1 : Int32)))), (.ref a2)])) _
    refine X12.baloadBytes hx (j := ((p1 >>> (((12 : Int32) - ((4 : Int32) * ((((0 : Int32) + (1 : Int32)) + (1 : Int32)) + (1 : Int32)))) &&& 31)) &&& (15 : Int32))) (v := (.int (own_hx (((p1 >>> (((12 : Int32) - ((4 : Int32) * ((((0 : Int32) + (1 : Int32)) + (1 : Int32)) + (1 : Int32)))) &&& 31)) &&& (15 : Int32))).toNatClampNeg))) (by rw [e12]; exact Ar13.1) (State.isArrayOf_alike hZ.alike Ar13.2.1) Ar13.2.2 hin13 hat13 (g := (mkF m 39 #[.val (.int p1), .val (.ref a2), .val (.int p3), .val (.int ((((0 : Int32) + (1 : Int32)) + (1 : Int32)) + (1 : Int32)))] [(.int ((p1 >>> (((12 : Int32) - ((4 : Int32) * ((((0 : Int32) + (1 : Int32)) + (1 : Int32)) + (1 : Int32)))) &&& 31)) &&& (15 : Int32))), (.ref w), (.int ((p3 + (2 : Int32)) + ((((0 : Int32) + (1 : Int32)) + (1 : Int32)) + (1 : Int32)))), (.ref a2)])) rfl rfl (hb hby d1_39) _ ?_
    show Steps p.tables e below (T12.setTop (mkF m 40 #[.val (.int p1), .val (.ref a2), .val (.int p3), .val (.int ((((0 : Int32) + (1 : Int32)) + (1 : Int32)) + (1 : Int32)))] [(.int (own_hx (((p1 >>> (((12 : Int32) - ((4 : Int32) * ((((0 : Int32) + (1 : Int32)) + (1 : Int32)) + (1 : Int32)))) &&& 31)) &&& (15 : Int32))).toNatClampNeg)), (.int ((p3 + (2 : Int32)) + ((((0 : Int32) + (1 : Int32)) + (1 : Int32)) + (1 : Int32)))), (.ref a2)])) _
    refine st14 _ ?_
    show Steps p.tables e below (T14.setTop (mkF m 41 #[.val (.int p1), .val (.ref a2), .val (.int p3), .val (.int ((((0 : Int32) + (1 : Int32)) + (1 : Int32)) + (1 : Int32)))] [])) _
    refine XS.iinc X14.here hx rfl (hb hby d1_41) rfl (l' := #[.val (.int p1), .val (.ref a2), .val (.int p3), .val (.int (((((0 : Int32) + (1 : Int32)) + (1 : Int32)) + (1 : Int32)) + (1 : Int32)))]) rfl ?_
    show Steps p.tables e below (T14.setTop (mkF m 44 #[.val (.int p1), .val (.ref a2), .val (.int p3), .val (.int (((((0 : Int32) + (1 : Int32)) + (1 : Int32)) + (1 : Int32)) + (1 : Int32)))] [])) _
    refine XS.goto X14.here hx rfl (pc0 := 44) (pc' := 14) rfl (hb hby d1_44) (by decide) (by decide) ?_
    show Steps p.tables e below (T14.setTop (mkF m 14 #[.val (.int p1), .val (.ref a2), .val (.int p3), .val (.int (((((0 : Int32) + (1 : Int32)) + (1 : Int32)) + (1 : Int32)) + (1 : Int32)))] [])) _
    refine XS.iloadN X14.here hx rfl (hb hby d1_14) rfl ?_
    show Steps p.tables e below (T14.setTop (mkF m 15 #[.val (.int p1), .val (.ref a2), .val (.int p3), .val (.int (((((0 : Int32) + (1 : Int32)) + (1 : Int32)) + (1 : Int32)) + (1 : Int32)))] [(.int (((((0 : Int32) + (1 : Int32)) + (1 : Int32)) + (1 : Int32)) + (1 : Int32)))])) _
    refine XS.iconst X14.here hx rfl (hb hby d1_15) ?_
    show Steps p.tables e below (T14.setTop (mkF m 16 #[.val (.int p1), .val (.ref a2), .val (.int p3), .val (.int (((((0 : Int32) + (1 : Int32)) + (1 : Int32)) + (1 : Int32)) + (1 : Int32)))] [(.int (4 : Int32)), (.int (((((0 : Int32) + (1 : Int32)) + (1 : Int32)) + (1 : Int32)) + (1 : Int32)))])) _
    refine XS.icmpYes X14.here hx rfl (pc0 := 16) (pc' := 47) rfl (hb hby d1_16) rfl (flt (by decide : ¬ ((((((0 : Int32) + (1 : Int32)) + (1 : Int32)) + (1 : Int32)) + (1 : Int32)) < (4 : Int32)))).2.1 (by decide) (by decide) ?_
    exact kt
  obtain ⟨fs, hr, hrun, hended, hW, hsame⟩ := X14.leave (v := none) (fun _ => rfl)
  refine ⟨_, _, R15 _ ?_, hrun, hended, _, _, rfl, ?_, ⟨_, rfl⟩, hW, hsame.mono (by decide) (by decide)⟩
  · show Steps p.tables e below (T14.setTop (mkF m 47 #[.val (.int p1), .val (.ref a2), .val (.int p3), .val (.int (((((0 : Int32) + (1 : Int32)) + (1 : Int32)) + (1 : Int32)) + (1 : Int32)))] [])) _
    exact X14.returnOut hx Bd.returns (hb hby d1_47) hr
  · show Q1 Z p1 a2 p3 g w h0 n0 _ T14.heap _
    rw [e14]
    exact ⟨rfl, N14, KK14, own_done hp V14⟩
theorem pn_0 : plainName "com/example/relicary/relicary/siard/SiardTextEscapePinLaw" = true := by first | (simp [plainName, overriddenIn]; done) | decide +kernel
theorem pd_0_1 : parseMethodDescriptor "(C[BI)V" = some ⟨[.char, (.array .byte), .int], none⟩ := by decide +kernel
theorem pd_0_2 : parseMethodDescriptor "([BIICB)Z" = some ⟨[(.array .byte), .int, .int, .char, .byte], some .boolean⟩ := by decide +kernel
theorem ef_0 (m : MethodId) (x0 : Int32) (x1 : Int32) (x2 : Int32) : entryFrame m #[(.int x0), (.int x1), (.int x2)] maxLocals = mkF m 0 #[.val (.int x0), .val (.int x1), .val (.int x2), .unset, .unset, .unset, .unset] [] := by first | (simp [entryFrame, mkF, argsToLocals, Value.category, maxLocals]; done) | rfl
def F0 (p1 : Int32) (p2 : Int32) (p3 : Int32) : Int32 :=
  let v2 : Int32 := (p1.toUInt32.toUInt16.toUInt32.toInt32)
  let v57 : Int32 := (if (F2 (0 : Int32) (p2 &&& (3 : Int32)) v2 (p3.toInt8.toInt32) (own_w v2 (p2 &&& (3 : Int32)) (fun _ => (p3.toInt8.toInt32)))) = (0 : Int32) then (0 : Int32) else (if (F2 (1 : Int32) (p2 &&& (3 : Int32)) v2 (p3.toInt8.toInt32) (own_w v2 (p2 &&& (3 : Int32)) (fun _ => (p3.toInt8.toInt32)))) = (0 : Int32) then (0 : Int32) else (if (F2 (2 : Int32) (p2 &&& (3 : Int32)) v2 (p3.toInt8.toInt32) (own_w v2 (p2 &&& (3 : Int32)) (fun _ => (p3.toInt8.toInt32)))) = (0 : Int32) then (0 : Int32) else (if (F2 (3 : Int32) (p2 &&& (3 : Int32)) v2 (p3.toInt8.toInt32) (own_w v2 (p2 &&& (3 : Int32)) (fun _ => (p3.toInt8.toInt32)))) = (0 : Int32) then (0 : Int32) else (if (F2 (4 : Int32) (p2 &&& (3 : Int32)) v2 (p3.toInt8.toInt32) (own_w v2 (p2 &&& (3 : Int32)) (fun _ => (p3.toInt8.toInt32)))) = (0 : Int32) then (0 : Int32) else (if (F2 (5 : Int32) (p2 &&& (3 : Int32)) v2 (p3.toInt8.toInt32) (own_w v2 (p2 &&& (3 : Int32)) (fun _ => (p3.toInt8.toInt32)))) = (0 : Int32) then (0 : Int32) else (if (F2 (6 : Int32) (p2 &&& (3 : Int32)) v2 (p3.toInt8.toInt32) (own_w v2 (p2 &&& (3 : Int32)) (fun _ => (p3.toInt8.toInt32)))) = (0 : Int32) then (0 : Int32) else (if (F2 (7 : Int32) (p2 &&& (3 : Int32)) v2 (p3.toInt8.toInt32) (own_w v2 (p2 &&& (3 : Int32)) (fun _ => (p3.toInt8.toInt32)))) = (0 : Int32) then (0 : Int32) else (if (F2 (8 : Int32) (p2 &&& (3 : Int32)) v2 (p3.toInt8.toInt32) (own_w v2 (p2 &&& (3 : Int32)) (fun _ => (p3.toInt8.toInt32)))) = (0 : Int32) then (0 : Int32) else (if (F2 (9 : Int32) (p2 &&& (3 : Int32)) v2 (p3.toInt8.toInt32) (own_w v2 (p2 &&& (3 : Int32)) (fun _ => (p3.toInt8.toInt32)))) = (0 : Int32) then (0 : Int32) else (1 : Int32)))))))))))
  (nar .boolean v57)
def Q0 (Z : State) (p1 : Int32) (p2 : Int32) (p3 : Int32) (w : Addr) (h0 : Heap) (n0 : Nat) (v : Option Value) (h : Heap) (L : List Loc) : Prop := v = some (.int (F0 p1 p2 p3)) ∧ Fr n0 L
set_option maxRecDepth 65536 in
set_option maxHeartbeats 40000000 in
theorem rm0 (l : Launch) (Z : State) (a0 : Array Value) (hw : ∀ d ∈ tables_1, d.before a0 Z = true) (ws : List Jvm.Cond) (p1 : Int32) (p2 : Int32) (p3 : Int32) (w : Addr) (h0 : Heap) (n0 : Nat) (Z0 : n0 ≤ h0.size) (SS : Sta Z h0 "com/example/relicary/relicary/siard/SiardText" "HEX_DIGITS" "[B" (.ref w)) (DD : AF Z h0 w .byte 16 (fun j => .int (own_hx j))) :
    MetFree l x (head1 (Jvm.Cond.code x code maxLocals ret :: ws) room_1) (fun a U => a = #[(.int p1), (.int p2), (.int p3)] ∧ Z.Warmed39 U.vm ∧ U.heap = h0) (fun _ _ _ _ _ => True) (fun _ U o U' => ∃ v L, o = .returned v ∧ Q0 Z p1 p2 p3 w h0 n0 v U'.heap L ∧ FrameEnd U o U' L room_1.cells room_1.slots) := by
  refine MetFree.of_bodySF (plainFor_of_name pn_0) hisR ?_
  intro p e s m args below meth c s₁ Bd hml0 hP hK
  obtain ⟨rfl, hZ, hh⟩ := hP
  have hx := Bd.exec
  have hby := Bd.bytes
  have hml : c.maxLocals = 7 := hml0
  have hown : s.vm.findClass "com/example/relicary/relicary/siard/SiardTextEscapePinLaw" = some m.cls := findClass_of_methodNamed Bd.named
  have hnm := (name_of_methodNamed Bd.named Bd.method).1
  have X0 : Stand p l e room_1 s m #[(.int p1), (.int p2), (.int p3)] below meth c s₁ [] 0 0 := Stand.of_body Bd
  have e0 : s₁.heap = h0 := by rw [← hh, Bd.state]; rfl
  have N0 := Fr.nil n0
  have pre0 : ∀ t, Steps p.tables e below (s₁.setTop (mkF m 0 #[.val (.int p1), .val (.int p2), .val (.int p3), .unset, .unset, .unset, .unset] [])) t → Steps p.tables e below (s₁.setTop (entryFrame m #[(.int p1), (.int p2), (.int p3)] maxLocals)) t := fun t k => castTop (ef_0 m p1 p2 p3) k
  have R1 : ∀ t, Steps p.tables e below (s₁.setTop (mkF m 2 #[.val (.int p1), .val (.int p2), .val (.int p3), .unset, .unset, .unset, .unset] [(.int (p1.toUInt32.toUInt16.toUInt32.toInt32))])) t → Steps p.tables e below (s₁.setTop (entryFrame m #[(.int p1), (.int p2), (.int p3)] maxLocals)) t := by
    intro t kt
    refine pre0 _ ?_
    show Steps p.tables e below (s₁.setTop (mkF m 0 #[.val (.int p1), .val (.int p2), .val (.int p3), .unset, .unset, .unset, .unset] [])) _
    refine XS.iloadN X0.here hx rfl (hb hby at_0) rfl ?_
    show Steps p.tables e below (s₁.setTop (mkF m 1 #[.val (.int p1), .val (.int p2), .val (.int p3), .unset, .unset, .unset, .unset] [(.int p1)])) _
    refine XS.i2c X0.here hx rfl (hb hby at_1) rfl ?_
    exact kt
  obtain ⟨v2, hv2⟩ : ∃ zz9 : Int32, zz9 = (p1.toUInt32.toUInt16.toUInt32.toInt32) := ⟨_, rfl⟩
  rw [← hv2] at R1
  obtain ⟨T3, h3, k3, X3, e3, E3, A3, st3⟩ := newP X0 hx hZ (hw _ (List.mem_of_getElem? (i := 0) rfl)) e0 (g := (mkF m 14 #[.val (.int p1), .val (.int p2), .val (.int p3), .val (.int v2), .val (.int (p2 &&& (3 : Int32))), .val (.int (p3.toInt8.toInt32)), .unset] [(.int (10 : Int32))])) rfl (hb hby at_14) rfl (by decide) (cap := 10) (by decide) (by decide) (by decide) (by decide)
  obtain ⟨b3, g3⟩ : ∃ z, z = h0.size := ⟨_, rfl⟩
  rw [← g3] at A3 st3
  have V3 := AF.new A3 (by decide)
  have Z3 : n0 ≤ h3.size := Nat.le_trans Z0 E3.1
  have gb3 : n0 ≤ b3 := Nat.le_trans Z0 (Nat.le_of_eq g3.symm)
  have sz3 : h0.size ≤ b3 := Nat.le_trans (Keep.refl h0 []).1 (Nat.le_of_eq g3.symm)
  have KK3 : Keep h0 h3 [] := (Keep.refl h0 []).ext E3
  replace X3 : Stand p l e room_1 s m #[(.int p1), (.int p2), (.int p3)] below meth c T3 [] 1 10 := X3
  obtain ⟨cl4, Ar4, S4, H4⟩ := V3
  have hin4 := AF_in (j := (0 : Int32)) S4 (by decide) (by decide)
  obtain ⟨T4, h4, X4, e4, W4, st4⟩ := stB X3 hx hZ e3 Ar4 (j := (0 : Int32)) hin4 (g := (mkF m 20 #[.val (.int p1), .val (.int p2), .val (.int p3), .val (.int v2), .val (.int (p2 &&& (3 : Int32))), .val (.int (p3.toInt8.toInt32)), .unset] [(.int (p3.toInt8.toInt32)), (.int (0 : Int32)), (.ref b3), (.ref b3)])) rfl rfl (hb hby at_20)
  have V4 := AF.same Ar4 S4 H4 W4
  have N4 := Fr.snoc X4 (Fr.nil n0) gb3
  have KK4 : Keep h0 h4 [] := KK3.wr W4 (Or.inr sz3)
  obtain ⟨L4, l4⟩ : ∃ z, z = [] ++ [(⟨b3, ((0 : Int32) : Int32).toNatClampNeg⟩ : Loc)] := ⟨_, rfl⟩
  rw [← l4] at X4 N4
  obtain ⟨cl5, Ar5, S5, H5⟩ := V4
  have hin5 := AF_in (j := (1 : Int32)) S5 (by decide) (by decide)
  obtain ⟨T5, h5, X5, e5, W5, st5⟩ := stB X4 hx hZ e4 Ar5 (j := (1 : Int32)) hin5 (g := (mkF m 25 #[.val (.int p1), .val (.int p2), .val (.int p3), .val (.int v2), .val (.int (p2 &&& (3 : Int32))), .val (.int (p3.toInt8.toInt32)), .unset] [(.int (p3.toInt8.toInt32)), (.int (1 : Int32)), (.ref b3), (.ref b3)])) rfl rfl (hb hby at_25)
  have V5 := AF.same Ar5 S5 H5 W5
  have N5 := Fr.snoc X5 N4 gb3
  have KK5 : Keep h0 h5 [] := KK4.wr W5 (Or.inr sz3)
  obtain ⟨L5, l5⟩ : ∃ z, z = L4 ++ [(⟨b3, ((1 : Int32) : Int32).toNatClampNeg⟩ : Loc)] := ⟨_, rfl⟩
  rw [← l5] at X5 N5
  obtain ⟨cl6, Ar6, S6, H6⟩ := V5
  have hin6 := AF_in (j := (2 : Int32)) S6 (by decide) (by decide)
  obtain ⟨T6, h6, X6, e6, W6, st6⟩ := stB X5 hx hZ e5 Ar6 (j := (2 : Int32)) hin6 (g := (mkF m 30 #[.val (.int p1), .val (.int p2), .val (.int p3), .val (.int v2), .val (.int (p2 &&& (3 : Int32))), .val (.int (p3.toInt8.toInt32)), .unset] [(.int (p3.toInt8.toInt32)), (.int (2 : Int32)), (.ref b3), (.ref b3)])) rfl rfl (hb hby at_30)
  have V6 := AF.same Ar6 S6 H6 W6
  have N6 := Fr.snoc X6 N5 gb3
  have KK6 : Keep h0 h6 [] := KK5.wr W6 (Or.inr sz3)
  obtain ⟨L6, l6⟩ : ∃ z, z = L5 ++ [(⟨b3, ((2 : Int32) : Int32).toNatClampNeg⟩ : Loc)] := ⟨_, rfl⟩
  rw [← l6] at X6 N6
  obtain ⟨cl7, Ar7, S7, H7⟩ := V6
  have hin7 := AF_in (j := (3 : Int32)) S7 (by decide) (by decide)
  obtain ⟨T7, h7, X7, e7, W7, st7⟩ := stB X6 hx hZ e6 Ar7 (j := (3 : Int32)) hin7 (g := (mkF m 35 #[.val (.int p1), .val (.int p2), .val (.int p3), .val (.int v2), .val (.int (p2 &&& (3 : Int32))), .val (.int (p3.toInt8.toInt32)), .unset] [(.int (p3.toInt8.toInt32)), (.int (3 : Int32)), (.ref b3), (.ref b3)])) rfl rfl (hb hby at_35)
  have V7 := AF.same Ar7 S7 H7 W7
  have N7 := Fr.snoc X7 N6 gb3
  have KK7 : Keep h0 h7 [] := KK6.wr W7 (Or.inr sz3)
  obtain ⟨L7, l7⟩ : ∃ z, z = L6 ++ [(⟨b3, ((3 : Int32) : Int32).toNatClampNeg⟩ : Loc)] := ⟨_, rfl⟩
  rw [← l7] at X7 N7
  obtain ⟨cl8, Ar8, S8, H8⟩ := V7
  have hin8 := AF_in (j := (4 : Int32)) S8 (by decide) (by decide)
  obtain ⟨T8, h8, X8, e8, W8, st8⟩ := stB X7 hx hZ e7 Ar8 (j := (4 : Int32)) hin8 (g := (mkF m 40 #[.val (.int p1), .val (.int p2), .val (.int p3), .val (.int v2), .val (.int (p2 &&& (3 : Int32))), .val (.int (p3.toInt8.toInt32)), .unset] [(.int (p3.toInt8.toInt32)), (.int (4 : Int32)), (.ref b3), (.ref b3)])) rfl rfl (hb hby at_40)
  have V8 := AF.same Ar8 S8 H8 W8
  have N8 := Fr.snoc X8 N7 gb3
  have KK8 : Keep h0 h8 [] := KK7.wr W8 (Or.inr sz3)
  obtain ⟨L8, l8⟩ : ∃ z, z = L7 ++ [(⟨b3, ((4 : Int32) : Int32).toNatClampNeg⟩ : Loc)] := ⟨_, rfl⟩
  rw [← l8] at X8 N8
  obtain ⟨cl9, Ar9, S9, H9⟩ := V8
  have hin9 := AF_in (j := (5 : Int32)) S9 (by decide) (by decide)
  obtain ⟨T9, h9, X9, e9, W9, st9⟩ := stB X8 hx hZ e8 Ar9 (j := (5 : Int32)) hin9 (g := (mkF m 45 #[.val (.int p1), .val (.int p2), .val (.int p3), .val (.int v2), .val (.int (p2 &&& (3 : Int32))), .val (.int (p3.toInt8.toInt32)), .unset] [(.int (p3.toInt8.toInt32)), (.int (5 : Int32)), (.ref b3), (.ref b3)])) rfl rfl (hb hby at_45)
  have V9 := AF.same Ar9 S9 H9 W9
  have N9 := Fr.snoc X9 N8 gb3
  have KK9 : Keep h0 h9 [] := KK8.wr W9 (Or.inr sz3)
  obtain ⟨L9, l9⟩ : ∃ z, z = L8 ++ [(⟨b3, ((5 : Int32) : Int32).toNatClampNeg⟩ : Loc)] := ⟨_, rfl⟩
  rw [← l9] at X9 N9
  obtain ⟨cl10, Ar10, S10, H10⟩ := V9
  have hin10 := AF_in (j := (6 : Int32)) S10 (by decide) (by decide)
  obtain ⟨T10, h10, X10, e10, W10, st10⟩ := stB X9 hx hZ e9 Ar10 (j := (6 : Int32)) hin10 (g := (mkF m 51 #[.val (.int p1), .val (.int p2), .val (.int p3), .val (.int v2), .val (.int (p2 &&& (3 : Int32))), .val (.int (p3.toInt8.toInt32)), .unset] [(.int (p3.toInt8.toInt32)), (.int (6 : Int32)), (.ref b3), (.ref b3)])) rfl rfl (hb hby at_51)
  have V10 := AF.same Ar10 S10 H10 W10
  have N10 := Fr.snoc X10 N9 gb3
  have KK10 : Keep h0 h10 [] := KK9.wr W10 (Or.inr sz3)
  obtain ⟨L10, l10⟩ : ∃ z, z = L9 ++ [(⟨b3, ((6 : Int32) : Int32).toNatClampNeg⟩ : Loc)] := ⟨_, rfl⟩
  rw [← l10] at X10 N10
  obtain ⟨cl11, Ar11, S11, H11⟩ := V10
  have hin11 := AF_in (j := (7 : Int32)) S11 (by decide) (by decide)
  obtain ⟨T11, h11, X11, e11, W11, st11⟩ := stB X10 hx hZ e10 Ar11 (j := (7 : Int32)) hin11 (g := (mkF m 57 #[.val (.int p1), .val (.int p2), .val (.int p3), .val (.int v2), .val (.int (p2 &&& (3 : Int32))), .val (.int (p3.toInt8.toInt32)), .unset] [(.int (p3.toInt8.toInt32)), (.int (7 : Int32)), (.ref b3), (.ref b3)])) rfl rfl (hb hby at_57)
  have V11 := AF.same Ar11 S11 H11 W11
  have N11 := Fr.snoc X11 N10 gb3
  have KK11 : Keep h0 h11 [] := KK10.wr W11 (Or.inr sz3)
  obtain ⟨L11, l11⟩ : ∃ z, z = L10 ++ [(⟨b3, ((7 : Int32) : Int32).toNatClampNeg⟩ : Loc)] := ⟨_, rfl⟩
  rw [← l11] at X11 N11
  obtain ⟨cl12, Ar12, S12, H12⟩ := V11
  have hin12 := AF_in (j := (8 : Int32)) S12 (by decide) (by decide)
  obtain ⟨T12, h12, X12, e12, W12, st12⟩ := stB X11 hx hZ e11 Ar12 (j := (8 : Int32)) hin12 (g := (mkF m 63 #[.val (.int p1), .val (.int p2), .val (.int p3), .val (.int v2), .val (.int (p2 &&& (3 : Int32))), .val (.int (p3.toInt8.toInt32)), .unset] [(.int (p3.toInt8.toInt32)), (.int (8 : Int32)), (.ref b3), (.ref b3)])) rfl rfl (hb hby at_63)
  have V12 := AF.same Ar12 S12 H12 W12
  have N12 := Fr.snoc X12 N11 gb3
  have KK12 : Keep h0 h12 [] := KK11.wr W12 (Or.inr sz3)
  obtain ⟨L12, l12⟩ : ∃ z, z = L11 ++ [(⟨b3, ((8 : Int32) : Int32).toNatClampNeg⟩ : Loc)] := ⟨_, rfl⟩
  rw [← l12] at X12 N12
  obtain ⟨cl13, Ar13, S13, H13⟩ := V12
  have hin13 := AF_in (j := (9 : Int32)) S13 (by decide) (by decide)
  obtain ⟨T13, h13, X13, e13, W13, st13⟩ := stB X12 hx hZ e12 Ar13 (j := (9 : Int32)) hin13 (g := (mkF m 69 #[.val (.int p1), .val (.int p2), .val (.int p3), .val (.int v2), .val (.int (p2 &&& (3 : Int32))), .val (.int (p3.toInt8.toInt32)), .unset] [(.int (p3.toInt8.toInt32)), (.int (9 : Int32)), (.ref b3), (.ref b3)])) rfl rfl (hb hby at_69)
  have V13 := AF.same Ar13 S13 H13 W13
  have N13 := Fr.snoc X13 N12 gb3
  have KK13 : Keep h0 h13 [] := KK12.wr W13 (Or.inr sz3)
  obtain ⟨L13, l13⟩ : ∃ z, z = L12 ++ [(⟨b3, ((9 : Int32) : Int32).toNatClampNeg⟩ : Loc)] := ⟨_, rfl⟩
  rw [← l13] at X13 N13
  have VI14 := own_init V13
  obtain ⟨_, _, ⟨T15, L15, k15, n15⟩, -, X15, ⟨Lc15, hQ15, l15, y15, z15⟩, st15⟩ := Jvm.LawKit.callS X13 hx (y := (⟨"com/example/relicary/relicary/siard/SiardText", "escape", "(C[BI)V"⟩ : MethodName)) hown (mvT hZ (hw _ (List.mem_of_getElem? (i := 1) rfl))) (mvT hZ (hw _ (List.mem_of_getElem? (i := 2) rfl))) (mvT hZ (hw _ (List.mem_of_getElem? (i := 3) rfl))) (mvT hZ (hw _ (List.mem_of_getElem? (i := 4) rfl))) (by decide) (backOf (W := 0) (rm1 l Z a0 hw [] v2 b3 (p2 &&& (3 : Int32)) (fun _ => (p3.toInt8.toInt32)) w h13 n0 (Nat.le_trans Z0 KK13.1) VI14 gb3 (own_at3 _) (SS.ext (own_ext KK13)) (DD.ext (own_ext KK13)) (own_ne DD sz3)) hZ (hw _ (List.mem_of_getElem? (i := 4) rfl)) (hw _ (List.mem_of_getElem? (i := 3) rfl)) (by decide) (by decide)) (g := (mkF m 77 #[.val (.int p1), .val (.int p2), .val (.int p3), .val (.int v2), .val (.int (p2 &&& (3 : Int32))), .val (.int (p3.toInt8.toInt32)), .val (.ref b3)] [(.int (p2 &&& (3 : Int32))), (.ref b3), (.int v2)])) rfl (by rw [hml]; rfl) (argsL := [(.int v2), (.ref b3), (.int (p2 &&& (3 : Int32)))]) (rest := []) (lenOf pd_0_1 rfl) rfl (by show 2 * 0 + _ ≤ _; exact Nat.le_of_eq rfl) (hb hby at_77) (fun _ _ => ⟨rfl, e13, (by decide : 1 + 0 ≤ _), (by decide : 10 + 0 ≤ _)⟩)
  dsimp only [Pt.U, Pt.locs, Pt.cells, Pt.slots] at X15 l15 y15 z15 st15 hQ15
  subst l15 y15 z15
  obtain ⟨rfl, N15q, K15, V15⟩ := hQ15
  have N15 := Fr.app N13 N15q
  have KK15 : Keep h0 T15.heap [] := KK13.trans K15 (fun x hx => by cases List.mem_singleton.mp hx; exact Or.inr sz3)
  have Z15 : n0 ≤ T15.heap.size := Nat.le_trans (Nat.le_trans Z0 KK13.1) K15.1
  replace X15 : Stand p l e room_1 s m #[(.int p1), (.int p2), (.int p3)] below meth c T15 (L13 ++ Lc15) 1 10 := X15
  obtain ⟨_, _, ⟨T16, L16, k16, n16⟩, -, X16, ⟨Lc16, hQ16, l16, y16, z16⟩, st16⟩ := Jvm.LawKit.callS X15 hx (y := (⟨"com/example/relicary/relicary/siard/SiardTextEscapePinLaw", "ok", "([BIICB)Z"⟩ : MethodName)) hown (mvT hZ (hw _ (List.mem_of_getElem? (i := 7) rfl))) (mvT hZ (hw _ (List.mem_of_getElem? (i := 8) rfl))) (mvT hZ (hw _ (List.mem_of_getElem? (i := 9) rfl))) (mvT hZ (hw _ (List.mem_of_getElem? (i := 10) rfl))) (by decide) (backOf (W := 0) (rm2 l Z a0 hw [] b3 (0 : Int32) (p2 &&& (3 : Int32)) v2 (p3.toInt8.toInt32) (own_w v2 (p2 &&& (3 : Int32)) (fun _ => (p3.toInt8.toInt32))) T15.heap n0 Z15 V15 (by decide)) hZ (hw _ (List.mem_of_getElem? (i := 10) rfl)) (hw _ (List.mem_of_getElem? (i := 9) rfl)) (by decide) (by decide)) (g := (mkF m 88 #[.val (.int p1), .val (.int p2), .val (.int p3), .val (.int v2), .val (.int (p2 &&& (3 : Int32))), .val (.int (p3.toInt8.toInt32)), .val (.ref b3)] [(.int (p3.toInt8.toInt32)), (.int v2), (.int (p2 &&& (3 : Int32))), (.int (0 : Int32)), (.ref b3)])) rfl (by rw [hml]; rfl) (argsL := [(.ref b3), (.int (0 : Int32)), (.int (p2 &&& (3 : Int32))), (.int v2), (.int (p3.toInt8.toInt32))]) (rest := []) (lenOf pd_0_2 rfl) rfl (by show 2 * 0 + _ ≤ _; exact Nat.le_of_eq rfl) (hb hby at_88) (fun _ _ => ⟨rfl, rfl, (by decide : 1 + 0 ≤ _), (by decide : 10 + 0 ≤ _)⟩)
  dsimp only [Pt.U, Pt.locs, Pt.cells, Pt.slots] at X16 l16 y16 z16 st16 hQ16
  subst l16 y16 z16
  obtain ⟨rfl, rfl, e16⟩ := hQ16
  rw [List.append_nil] at X16
  replace X16 : Stand p l e room_1 s m #[(.int p1), (.int p2), (.int p3)] below meth c T16 (L13 ++ Lc15) 1 10 := X16
  have R18 : ∀ t, Steps p.tables e below (T16.setTop (mkF m 91 #[.val (.int p1), .val (.int p2), .val (.int p3), .val (.int v2), .val (.int (p2 &&& (3 : Int32))), .val (.int (p3.toInt8.toInt32)), .val (.ref b3)] [(.int (F2 (0 : Int32) (p2 &&& (3 : Int32)) v2 (p3.toInt8.toInt32) (own_w v2 (p2 &&& (3 : Int32)) (fun _ => (p3.toInt8.toInt32)))))])) t → Steps p.tables e below (s₁.setTop (entryFrame m #[(.int p1), (.int p2), (.int p3)] maxLocals)) t := by
    intro t kt
    refine R1 _ ?_
    show Steps p.tables e below (s₁.setTop (mkF m 2 #[.val (.int p1), .val (.int p2), .val (.int p3), .unset, .unset, .unset, .unset] [(.int v2)])) _
    refine XS.istoreN X0.here hx rfl (hb hby at_2) rfl (l' := #[.val (.int p1), .val (.int p2), .val (.int p3), .val (.int v2), .unset, .unset, .unset]) rfl ?_
    show Steps p.tables e below (s₁.setTop (mkF m 3 #[.val (.int p1), .val (.int p2), .val (.int p3), .val (.int v2), .unset, .unset, .unset] [])) _
    refine XS.iloadN X0.here hx rfl (hb hby at_3) rfl ?_
    show Steps p.tables e below (s₁.setTop (mkF m 4 #[.val (.int p1), .val (.int p2), .val (.int p3), .val (.int v2), .unset, .unset, .unset] [(.int p2)])) _
    refine XS.iconst X0.here hx rfl (hb hby at_4) ?_
    show Steps p.tables e below (s₁.setTop (mkF m 5 #[.val (.int p1), .val (.int p2), .val (.int p3), .val (.int v2), .unset, .unset, .unset] [(.int (3 : Int32)), (.int p2)])) _
    refine XS.iand X0.here hx rfl (hb hby at_5) rfl ?_
    show Steps p.tables e below (s₁.setTop (mkF m 6 #[.val (.int p1), .val (.int p2), .val (.int p3), .val (.int v2), .unset, .unset, .unset] [(.int (p2 &&& (3 : Int32)))])) _
    refine XS.istore X0.here hx rfl (hb hby at_6) rfl (l' := #[.val (.int p1), .val (.int p2), .val (.int p3), .val (.int v2), .val (.int (p2 &&& (3 : Int32))), .unset, .unset]) rfl ?_
    show Steps p.tables e below (s₁.setTop (mkF m 8 #[.val (.int p1), .val (.int p2), .val (.int p3), .val (.int v2), .val (.int (p2 &&& (3 : Int32))), .unset, .unset] [])) _
    refine XS.iloadN X0.here hx rfl (hb hby at_8) rfl ?_
    show Steps p.tables e below (s₁.setTop (mkF m 9 #[.val (.int p1), .val (.int p2), .val (.int p3), .val (.int v2), .val (.int (p2 &&& (3 : Int32))), .unset, .unset] [(.int p3)])) _
    refine XS.i2b X0.here hx rfl (hb hby at_9) rfl ?_
    show Steps p.tables e below (s₁.setTop (mkF m 10 #[.val (.int p1), .val (.int p2), .val (.int p3), .val (.int v2), .val (.int (p2 &&& (3 : Int32))), .unset, .unset] [(.int (p3.toInt8.toInt32))])) _
    refine XS.istore X0.here hx rfl (hb hby at_10) rfl (l' := #[.val (.int p1), .val (.int p2), .val (.int p3), .val (.int v2), .val (.int (p2 &&& (3 : Int32))), .val (.int (p3.toInt8.toInt32)), .unset]) rfl ?_
    show Steps p.tables e below (s₁.setTop (mkF m 12 #[.val (.int p1), .val (.int p2), .val (.int p3), .val (.int v2), .val (.int (p2 &&& (3 : Int32))), .val (.int (p3.toInt8.toInt32)), .unset] [])) _
    refine XS.bipush X0.here hx rfl (hb hby at_12) ?_
    show Steps p.tables e below (s₁.setTop (mkF m 14 #[.val (.int p1), .val (.int p2), .val (.int p3), .val (.int v2), .val (.int (p2 &&& (3 : Int32))), .val (.int (p3.toInt8.toInt32)), .unset] [(.int (10 : Int32))])) _
    refine st3 _ ?_
    show Steps p.tables e below (T3.setTop (mkF m 16 #[.val (.int p1), .val (.int p2), .val (.int p3), .val (.int v2), .val (.int (p2 &&& (3 : Int32))), .val (.int (p3.toInt8.toInt32)), .unset] [(.ref b3)])) _
    refine XS.dup X3.here hx rfl (hb hby at_16) rfl rfl ?_
    show Steps p.tables e below (T3.setTop (mkF m 17 #[.val (.int p1), .val (.int p2), .val (.int p3), .val (.int v2), .val (.int (p2 &&& (3 : Int32))), .val (.int (p3.toInt8.toInt32)), .unset] [(.ref b3), (.ref b3)])) _
    refine XS.iconst X3.here hx rfl (hb hby at_17) ?_
    show Steps p.tables e below (T3.setTop (mkF m 18 #[.val (.int p1), .val (.int p2), .val (.int p3), .val (.int v2), .val (.int (p2 &&& (3 : Int32))), .val (.int (p3.toInt8.toInt32)), .unset] [(.int (0 : Int32)), (.ref b3), (.ref b3)])) _
    refine XS.iload X3.here hx rfl (hb hby at_18) rfl ?_
    show Steps p.tables e below (T3.setTop (mkF m 20 #[.val (.int p1), .val (.int p2), .val (.int p3), .val (.int v2), .val (.int (p2 &&& (3 : Int32))), .val (.int (p3.toInt8.toInt32)), .unset] [(.int (p3.toInt8.toInt32)), (.int (0 : Int32)), (.ref b3), (.ref b3)])) _
    refine st4 _ ?_
    show Steps p.tables e below (T4.setTop (mkF m 21 #[.val (.int p1), .val (.int p2), .val (.int p3), .val (.int v2), .val (.int (p2 &&& (3 : Int32))), .val (.int (p3.toInt8.toInt32)), .unset] [(.ref b3)])) _
    refine XS.dup X4.here hx rfl (hb hby at_21) rfl rfl ?_
    show Steps p.tables e below (T4.setTop (mkF m 22 #[.val (.int p1), .val (.int p2), .val (.int p3), .val (.int v2), .val (.int (p2 &&& (3 : Int32))), .val (.int (p3.toInt8.toInt32)), .unset] [(.ref b3), (.ref b3)])) _
    refine XS.iconst X4.here hx rfl (hb hby at_22) ?_
    show Steps p.tables e below (T4.setTop (mkF m 23 #[.val (.int p1), .val (.int p2), .val (.int p3), .val (.int v2), .val (.int (p2 &&& (3 : Int32))), .val (.int (p3.toInt8.toInt32)), .unset] [(.int (1 : Int32)), (.ref b3), (.ref b3)])) _
    refine XS.iload X4.here hx rfl (hb hby at_23) rfl ?_
    show Steps p.tables e below (T4.setTop (mkF m 25 #[.val (.int p1), .val (.int p2), .val (.int p3), .val (.int v2), .val (.int (p2 &&& (3 : Int32))), .val (.int (p3.toInt8.toInt32)), .unset] [(.int (p3.toInt8.toInt32)), (.int (1 : Int32)), (.ref b3), (.ref b3)])) _
    refine st5 _ ?_
    show Steps p.tables e below (T5.setTop (mkF m 26 #[.val (.int p1), .val (.int p2), .val (.int p3), .val (.int v2), .val (.int (p2 &&& (3 : Int32))), .val (.int (p3.toInt8.toInt32)), .unset] [(.ref b3)])) _
    refine XS.dup X5.here hx rfl (hb hby at_26) rfl rfl ?_
    show Steps p.tables e below (T5.setTop (mkF m 27 #[.val (.int p1), .val (.int p2), .val (.int p3), .val (.int v2), .val (.int (p2 &&& (3 : Int32))), .val (.int (p3.toInt8.toInt32)), .unset] [(.ref b3), (.ref b3)])) _
    refine XS.iconst X5.here hx rfl (hb hby at_27) ?_
    show Steps p.tables e below (T5.setTop (mkF m 28 #[.val (.int p1), .val (.int p2), .val (.int p3), .val (.int v2), .val (.int (p2 &&& (3 : Int32))), .val (.int (p3.toInt8.toInt32)), .unset] [(.int (2 : Int32)), (.ref b3), (.ref b3)])) _
    refine XS.iload X5.here hx rfl (hb hby at_28) rfl ?_
    show Steps p.tables e below (T5.setTop (mkF m 30 #[.val (.int p1), .val (.int p2), .val (.int p3), .val (.int v2), .val (.int (p2 &&& (3 : Int32))), .val (.int (p3.toInt8.toInt32)), .unset] [(.int (p3.toInt8.toInt32)), (.int (2 : Int32)), (.ref b3), (.ref b3)])) _
    refine st6 _ ?_
    show Steps p.tables e below (T6.setTop (mkF m 31 #[.val (.int p1), .val (.int p2), .val (.int p3), .val (.int v2), .val (.int (p2 &&& (3 : Int32))), .val (.int (p3.toInt8.toInt32)), .unset] [(.ref b3)])) _
    refine XS.dup X6.here hx rfl (hb hby at_31) rfl rfl ?_
    show Steps p.tables e below (T6.setTop (mkF m 32 #[.val (.int p1), .val (.int p2), .val (.int p3), .val (.int v2), .val (.int (p2 &&& (3 : Int32))), .val (.int (p3.toInt8.toInt32)), .unset] [(.ref b3), (.ref b3)])) _
    refine XS.iconst X6.here hx rfl (hb hby at_32) ?_
    show Steps p.tables e below (T6.setTop (mkF m 33 #[.val (.int p1), .val (.int p2), .val (.int p3), .val (.int v2), .val (.int (p2 &&& (3 : Int32))), .val (.int (p3.toInt8.toInt32)), .unset] [(.int (3 : Int32)), (.ref b3), (.ref b3)])) _
    refine XS.iload X6.here hx rfl (hb hby at_33) rfl ?_
    show Steps p.tables e below (T6.setTop (mkF m 35 #[.val (.int p1), .val (.int p2), .val (.int p3), .val (.int v2), .val (.int (p2 &&& (3 : Int32))), .val (.int (p3.toInt8.toInt32)), .unset] [(.int (p3.toInt8.toInt32)), (.int (3 : Int32)), (.ref b3), (.ref b3)])) _
    refine st7 _ ?_
    show Steps p.tables e below (T7.setTop (mkF m 36 #[.val (.int p1), .val (.int p2), .val (.int p3), .val (.int v2), .val (.int (p2 &&& (3 : Int32))), .val (.int (p3.toInt8.toInt32)), .unset] [(.ref b3)])) _
    refine XS.dup X7.here hx rfl (hb hby at_36) rfl rfl ?_
    show Steps p.tables e below (T7.setTop (mkF m 37 #[.val (.int p1), .val (.int p2), .val (.int p3), .val (.int v2), .val (.int (p2 &&& (3 : Int32))), .val (.int (p3.toInt8.toInt32)), .unset] [(.ref b3), (.ref b3)])) _
    refine XS.iconst X7.here hx rfl (hb hby at_37) ?_
    show Steps p.tables e below (T7.setTop (mkF m 38 #[.val (.int p1), .val (.int p2), .val (.int p3), .val (.int v2), .val (.int (p2 &&& (3 : Int32))), .val (.int (p3.toInt8.toInt32)), .unset] [(.int (4 : Int32)), (.ref b3), (.ref b3)])) _
    refine XS.iload X7.here hx rfl (hb hby at_38) rfl ?_
    show Steps p.tables e below (T7.setTop (mkF m 40 #[.val (.int p1), .val (.int p2), .val (.int p3), .val (.int v2), .val (.int (p2 &&& (3 : Int32))), .val (.int (p3.toInt8.toInt32)), .unset] [(.int (p3.toInt8.toInt32)), (.int (4 : Int32)), (.ref b3), (.ref b3)])) _
    refine st8 _ ?_
    show Steps p.tables e below (T8.setTop (mkF m 41 #[.val (.int p1), .val (.int p2), .val (.int p3), .val (.int v2), .val (.int (p2 &&& (3 : Int32))), .val (.int (p3.toInt8.toInt32)), .unset] [(.ref b3)])) _
    refine XS.dup X8.here hx rfl (hb hby at_41) rfl rfl ?_
    show Steps p.tables e below (T8.setTop (mkF m 42 #[.val (.int p1), .val (.int p2), .val (.int p3), .val (.int v2), .val (.int (p2 &&& (3 : Int32))), .val (.int (p3.toInt8.toInt32)), .unset] [(.ref b3), (.ref b3)])) _
    refine XS.iconst X8.here hx rfl (hb hby at_42) ?_
    show Steps p.tables e below (T8.setTop (mkF m 43 #[.val (.int p1), .val (.int p2), .val (.int p3), .val (.int v2), .val (.int (p2 &&& (3 : Int32))), .val (.int (p3.toInt8.toInt32)), .unset] [(.int (5 : Int32)), (.ref b3), (.ref b3)])) _
    refine XS.iload X8.here hx rfl (hb hby at_43) rfl ?_
    show Steps p.tables e below (T8.setTop (mkF m 45 #[.val (.int p1), .val (.int p2), .val (.int p3), .val (.int v2), .val (.int (p2 &&& (3 : Int32))), .val (.int (p3.toInt8.toInt32)), .unset] [(.int (p3.toInt8.toInt32)), (.int (5 : Int32)), (.ref b3), (.ref b3)])) _
    refine st9 _ ?_
    show Steps p.tables e below (T9.setTop (mkF m 46 #[.val (.int p1), .val (.int p2), .val (.int p3), .val (.int v2), .val (.int (p2 &&& (3 : Int32))), .val (.int (p3.toInt8.toInt32)), .unset] [(.ref b3)])) _
    refine XS.dup X9.here hx rfl (hb hby at_46) rfl rfl ?_
    show Steps p.tables e below (T9.setTop (mkF m 47 #[.val (.int p1), .val (.int p2), .val (.int p3), .val (.int v2), .val (.int (p2 &&& (3 : Int32))), .val (.int (p3.toInt8.toInt32)), .unset] [(.ref b3), (.ref b3)])) _
    refine XS.bipush X9.here hx rfl (hb hby at_47) ?_
    show Steps p.tables e below (T9.setTop (mkF m 49 #[.val (.int p1), .val (.int p2), .val (.int p3), .val (.int v2), .val (.int (p2 &&& (3 : Int32))), .val (.int (p3.toInt8.toInt32)), .unset] [(.int (6 : Int32)), (.ref b3), (.ref b3)])) _
    refine XS.iload X9.here hx rfl (hb hby at_49) rfl ?_
    show Steps p.tables e below (T9.setTop (mkF m 51 #[.val (.int p1), .val (.int p2), .val (.int p3), .val (.int v2), .val (.int (p2 &&& (3 : Int32))), .val (.int (p3.toInt8.toInt32)), .unset] [(.int (p3.toInt8.toInt32)), (.int (6 : Int32)), (.ref b3), (.ref b3)])) _
    refine st10 _ ?_
    show Steps p.tables e below (T10.setTop (mkF m 52 #[.val (.int p1), .val (.int p2), .val (.int p3), .val (.int v2), .val (.int (p2 &&& (3 : Int32))), .val (.int (p3.toInt8.toInt32)), .unset] [(.ref b3)])) _
    refine XS.dup X10.here hx rfl (hb hby at_52) rfl rfl ?_
    show Steps p.tables e below (T10.setTop (mkF m 53 #[.val (.int p1), .val (.int p2), .val (.int p3), .val (.int v2), .val (.int (p2 &&& (3 : Int32))), .val (.int (p3.toInt8.toInt32)), .unset] [(.ref b3), (.ref b3)])) _
    refine XS.bipush X10.here hx rfl (hb hby at_53) ?_
    show Steps p.tables e below (T10.setTop (mkF m 55 #[.val (.int p1), .val (.int p2), .val (.int p3), .val (.int v2), .val (.int (p2 &&& (3 : Int32))), .val (.int (p3.toInt8.toInt32)), .unset] [(.int (7 : Int32)), (.ref b3), (.ref b3)])) _
    refine XS.iload X10.here hx rfl (hb hby at_55) rfl ?_
    show Steps p.tables e below (T10.setTop (mkF m 57 #[.val (.int p1), .val (.int p2), .val (.int p3), .val (.int v2), .val (.int (p2 &&& (3 : Int32))), .val (.int (p3.toInt8.toInt32)), .unset] [(.int (p3.toInt8.toInt32)), (.int (7 : Int32)), (.ref b3), (.ref b3)])) _
    refine st11 _ ?_
    show Steps p.tables e below (T11.setTop (mkF m 58 #[.val (.int p1), .val (.int p2), .val (.int p3), .val (.int v2), .val (.int (p2 &&& (3 : Int32))), .val (.int (p3.toInt8.toInt32)), .unset] [(.ref b3)])) _
    refine XS.dup X11.here hx rfl (hb hby at_58) rfl rfl ?_
    show Steps p.tables e below (T11.setTop (mkF m 59 #[.val (.int p1), .val (.int p2), .val (.int p3), .val (.int v2), .val (.int (p2 &&& (3 : Int32))), .val (.int (p3.toInt8.toInt32)), .unset] [(.ref b3), (.ref b3)])) _
    refine XS.bipush X11.here hx rfl (hb hby at_59) ?_
    show Steps p.tables e below (T11.setTop (mkF m 61 #[.val (.int p1), .val (.int p2), .val (.int p3), .val (.int v2), .val (.int (p2 &&& (3 : Int32))), .val (.int (p3.toInt8.toInt32)), .unset] [(.int (8 : Int32)), (.ref b3), (.ref b3)])) _
    refine XS.iload X11.here hx rfl (hb hby at_61) rfl ?_
    show Steps p.tables e below (T11.setTop (mkF m 63 #[.val (.int p1), .val (.int p2), .val (.int p3), .val (.int v2), .val (.int (p2 &&& (3 : Int32))), .val (.int (p3.toInt8.toInt32)), .unset] [(.int (p3.toInt8.toInt32)), (.int (8 : Int32)), (.ref b3), (.ref b3)])) _
    refine st12 _ ?_
    show Steps p.tables e below (T12.setTop (mkF m 64 #[.val (.int p1), .val (.int p2), .val (.int p3), .val (.int v2), .val (.int (p2 &&& (3 : Int32))), .val (.int (p3.toInt8.toInt32)), .unset] [(.ref b3)])) _
    refine XS.dup X12.here hx rfl (hb hby at_64) rfl rfl ?_
    show Steps p.tables e below (T12.setTop (mkF m 65 #[.val (.int p1), .val (.int p2), .val (.int p3), .val (.int v2), .val (.int (p2 &&& (3 : Int32))), .val (.int (p3.toInt8.toInt32)), .unset] [(.ref b3), (.ref b3)])) _
    refine XS.bipush X12.here hx rfl (hb hby at_65) ?_
    show Steps p.tables e below (T12.setTop (mkF m 67 #[.val (.int p1), .val (.int p2), .val (.int p3), .val (.int v2), .val (.int (p2 &&& (3 : Int32))), .val (.int (p3.toInt8.toInt32)), .unset] [(.int (9 : Int32)), (.ref b3), (.ref b3)])) _
    refine XS.iload X12.here hx rfl (hb hby at_67) rfl ?_
    show Steps p.tables e below (T12.setTop (mkF m 69 #[.val (.int p1), .val (.int p2), .val (.int p3), .val (.int v2), .val (.int (p2 &&& (3 : Int32))), .val (.int (p3.toInt8.toInt32)), .unset] [(.int (p3.toInt8.toInt32)), (.int (9 : Int32)), (.ref b3), (.ref b3)])) _
    refine st13 _ ?_
    show Steps p.tables e below (T13.setTop (mkF m 70 #[.val (.int p1), .val (.int p2), .val (.int p3), .val (.int v2), .val (.int (p2 &&& (3 : Int32))), .val (.int (p3.toInt8.toInt32)), .unset] [(.ref b3)])) _
    refine XS.astore X13.here hx rfl (hb hby at_70) rfl rfl (l' := #[.val (.int p1), .val (.int p2), .val (.int p3), .val (.int v2), .val (.int (p2 &&& (3 : Int32))), .val (.int (p3.toInt8.toInt32)), .val (.ref b3)]) rfl ?_
    show Steps p.tables e below (T13.setTop (mkF m 72 #[.val (.int p1), .val (.int p2), .val (.int p3), .val (.int v2), .val (.int (p2 &&& (3 : Int32))), .val (.int (p3.toInt8.toInt32)), .val (.ref b3)] [])) _
    refine XS.iloadN X13.here hx rfl (hb hby at_72) rfl ?_
    show Steps p.tables e below (T13.setTop (mkF m 73 #[.val (.int p1), .val (.int p2), .val (.int p3), .val (.int v2), .val (.int (p2 &&& (3 : Int32))), .val (.int (p3.toInt8.toInt32)), .val (.ref b3)] [(.int v2)])) _
    refine XS.aload X13.here hx rfl (hb hby at_73) rfl rfl ?_
    show Steps p.tables e below (T13.setTop (mkF m 75 #[.val (.int p1), .val (.int p2), .val (.int p3), .val (.int v2), .val (.int (p2 &&& (3 : Int32))), .val (.int (p3.toInt8.toInt32)), .val (.ref b3)] [(.ref b3), (.int v2)])) _
    refine XS.iload X13.here hx rfl (hb hby at_75) rfl ?_
    show Steps p.tables e below (T13.setTop (mkF m 77 #[.val (.int p1), .val (.int p2), .val (.int p3), .val (.int v2), .val (.int (p2 &&& (3 : Int32))), .val (.int (p3.toInt8.toInt32)), .val (.ref b3)] [(.int (p2 &&& (3 : Int32))), (.ref b3), (.int v2)])) _
    refine st15 _ ?_
    show Steps p.tables e below (T15.setTop (mkF m 80 #[.val (.int p1), .val (.int p2), .val (.int p3), .val (.int v2), .val (.int (p2 &&& (3 : Int32))), .val (.int (p3.toInt8.toInt32)), .val (.ref b3)] [])) _
    refine XS.aload X15.here hx rfl (hb hby at_80) rfl rfl ?_
    show Steps p.tables e below (T15.setTop (mkF m 82 #[.val (.int p1), .val (.int p2), .val (.int p3), .val (.int v2), .val (.int (p2 &&& (3 : Int32))), .val (.int (p3.toInt8.toInt32)), .val (.ref b3)] [(.ref b3)])) _
    refine XS.iconst X15.here hx rfl (hb hby at_82) ?_
    show Steps p.tables e below (T15.setTop (mkF m 83 #[.val (.int p1), .val (.int p2), .val (.int p3), .val (.int v2), .val (.int (p2 &&& (3 : Int32))), .val (.int (p3.toInt8.toInt32)), .val (.ref b3)] [(.int (0 : Int32)), (.ref b3)])) _
    refine XS.iload X15.here hx rfl (hb hby at_83) rfl ?_
    show Steps p.tables e below (T15.setTop (mkF m 85 #[.val (.int p1), .val (.int p2), .val (.int p3), .val (.int v2), .val (.int (p2 &&& (3 : Int32))), .val (.int (p3.toInt8.toInt32)), .val (.ref b3)] [(.int (p2 &&& (3 : Int32))), (.int (0 : Int32)), (.ref b3)])) _
    refine XS.iloadN X15.here hx rfl (hb hby at_85) rfl ?_
    show Steps p.tables e below (T15.setTop (mkF m 86 #[.val (.int p1), .val (.int p2), .val (.int p3), .val (.int v2), .val (.int (p2 &&& (3 : Int32))), .val (.int (p3.toInt8.toInt32)), .val (.ref b3)] [(.int v2), (.int (p2 &&& (3 : Int32))), (.int (0 : Int32)), (.ref b3)])) _
    refine XS.iload X15.here hx rfl (hb hby at_86) rfl ?_
    show Steps p.tables e below (T15.setTop (mkF m 88 #[.val (.int p1), .val (.int p2), .val (.int p3), .val (.int v2), .val (.int (p2 &&& (3 : Int32))), .val (.int (p3.toInt8.toInt32)), .val (.ref b3)] [(.int (p3.toInt8.toInt32)), (.int v2), (.int (p2 &&& (3 : Int32))), (.int (0 : Int32)), (.ref b3)])) _
    refine st16 _ ?_
    exact kt
  have J59 : ∃ (T' : State) (v57 : Int32), Stand p l e room_1 s m #[(.int p1), (.int p2), (.int p3)] below meth c T' (L13 ++ Lc15) 1 10 ∧ T'.heap = T15.heap ∧ v57 = (if (F2 (0 : Int32) (p2 &&& (3 : Int32)) v2 (p3.toInt8.toInt32) (own_w v2 (p2 &&& (3 : Int32)) (fun _ => (p3.toInt8.toInt32)))) = (0 : Int32) then (0 : Int32) else (if (F2 (1 : Int32) (p2 &&& (3 : Int32)) v2 (p3.toInt8.toInt32) (own_w v2 (p2 &&& (3 : Int32)) (fun _ => (p3.toInt8.toInt32)))) = (0 : Int32) then (0 : Int32) else (if (F2 (2 : Int32) (p2 &&& (3 : Int32)) v2 (p3.toInt8.toInt32) (own_w v2 (p2 &&& (3 : Int32)) (fun _ => (p3.toInt8.toInt32)))) = (0 : Int32) then (0 : Int32) else (if (F2 (3 : Int32) (p2 &&& (3 : Int32)) v2 (p3.toInt8.toInt32) (own_w v2 (p2 &&& (3 : Int32)) (fun _ => (p3.toInt8.toInt32)))) = (0 : Int32) then (0 : Int32) else (if (F2 (4 : Int32) (p2 &&& (3 : Int32)) v2 (p3.toInt8.toInt32) (own_w v2 (p2 &&& (3 : Int32)) (fun _ => (p3.toInt8.toInt32)))) = (0 : Int32) then (0 : Int32) else (if (F2 (5 : Int32) (p2 &&& (3 : Int32)) v2 (p3.toInt8.toInt32) (own_w v2 (p2 &&& (3 : Int32)) (fun _ => (p3.toInt8.toInt32)))) = (0 : Int32) then (0 : Int32) else (if (F2 (6 : Int32) (p2 &&& (3 : Int32)) v2 (p3.toInt8.toInt32) (own_w v2 (p2 &&& (3 : Int32)) (fun _ => (p3.toInt8.toInt32)))) = (0 : Int32) then (0 : Int32) else (if (F2 (7 : Int32) (p2 &&& (3 : Int32)) v2 (p3.toInt8.toInt32) (own_w v2 (p2 &&& (3 : Int32)) (fun _ => (p3.toInt8.toInt32)))) = (0 : Int32) then (0 : Int32) else (if (F2 (8 : Int32) (p2 &&& (3 : Int32)) v2 (p3.toInt8.toInt32) (own_w v2 (p2 &&& (3 : Int32)) (fun _ => (p3.toInt8.toInt32)))) = (0 : Int32) then (0 : Int32) else (if (F2 (9 : Int32) (p2 &&& (3 : Int32)) v2 (p3.toInt8.toInt32) (own_w v2 (p2 &&& (3 : Int32)) (fun _ => (p3.toInt8.toInt32)))) = (0 : Int32) then (0 : Int32) else (1 : Int32))))))))))) ∧ ∀ t, Steps p.tables e below (T'.setTop (mkF m 229 #[.val (.int p1), .val (.int p2), .val (.int p3), .val (.int v2), .val (.int (p2 &&& (3 : Int32))), .val (.int (p3.toInt8.toInt32)), .val (.ref b3)] [(.int v57)])) t → Steps p.tables e below (s₁.setTop (entryFrame m #[(.int p1), (.int p2), (.int p3)] maxLocals)) t := by
    by_cases hc17 : (F2 (0 : Int32) (p2 &&& (3 : Int32)) v2 (p3.toInt8.toInt32) (own_w v2 (p2 &&& (3 : Int32)) (fun _ => (p3.toInt8.toInt32)))) = (0 : Int32)
    · have R19 : ∀ t, Steps p.tables e below (T16.setTop (mkF m 229 #[.val (.int p1), .val (.int p2), .val (.int p3), .val (.int v2), .val (.int (p2 &&& (3 : Int32))), .val (.int (p3.toInt8.toInt32)), .val (.ref b3)] [(.int (0 : Int32))])) t → Steps p.tables e below (s₁.setTop (entryFrame m #[(.int p1), (.int p2), (.int p3)] maxLocals)) t := by
        intro t kt
        refine R18 _ ?_
        show Steps p.tables e below (T16.setTop (mkF m 91 #[.val (.int p1), .val (.int p2), .val (.int p3), .val (.int v2), .val (.int (p2 &&& (3 : Int32))), .val (.int (p3.toInt8.toInt32)), .val (.ref b3)] [(.int (F2 (0 : Int32) (p2 &&& (3 : Int32)) v2 (p3.toInt8.toInt32) (own_w v2 (p2 &&& (3 : Int32)) (fun _ => (p3.toInt8.toInt32)))))])) _
        refine XS.ifYes X16.here hx rfl (pc0 := 91) (pc' := 228) rfl (hb hby at_91) rfl ((if0 _ _).trans (teq hc17).1) (by decide) (by decide) ?_
        show Steps p.tables e below (T16.setTop (mkF m 228 #[.val (.int p1), .val (.int p2), .val (.int p3), .val (.int v2), .val (.int (p2 &&& (3 : Int32))), .val (.int (p3.toInt8.toInt32)), .val (.ref b3)] [])) _
        refine XS.iconst X16.here hx rfl (hb hby at_228) ?_
        exact kt
      exact ⟨T16, (0 : Int32), X16, e16, (by rw [if_pos hc17]), R19⟩
    · obtain ⟨_, _, ⟨T20, L20, k20, n20⟩, -, X20, ⟨Lc20, hQ20, l20, y20, z20⟩, st20⟩ := Jvm.LawKit.callS X16 hx (y := (⟨"com/example/relicary/relicary/siard/SiardTextEscapePinLaw", "ok", "([BIICB)Z"⟩ : MethodName)) hown (mvT hZ (hw _ (List.mem_of_getElem? (i := 7) rfl))) (mvT hZ (hw _ (List.mem_of_getElem? (i := 8) rfl))) (mvT hZ (hw _ (List.mem_of_getElem? (i := 9) rfl))) (mvT hZ (hw _ (List.mem_of_getElem? (i := 10) rfl))) (by decide) (backOf (W := 0) (rm2 l Z a0 hw [] b3 (1 : Int32) (p2 &&& (3 : Int32)) v2 (p3.toInt8.toInt32) (own_w v2 (p2 &&& (3 : Int32)) (fun _ => (p3.toInt8.toInt32))) T15.heap n0 Z15 V15 (by decide)) hZ (hw _ (List.mem_of_getElem? (i := 10) rfl)) (hw _ (List.mem_of_getElem? (i := 9) rfl)) (by decide) (by decide)) (g := (mkF m 102 #[.val (.int p1), .val (.int p2), .val (.int p3), .val (.int v2), .val (.int (p2 &&& (3 : Int32))), .val (.int (p3.toInt8.toInt32)), .val (.ref b3)] [(.int (p3.toInt8.toInt32)), (.int v2), (.int (p2 &&& (3 : Int32))), (.int (1 : Int32)), (.ref b3)])) rfl (by rw [hml]; rfl) (argsL := [(.ref b3), (.int (1 : Int32)), (.int (p2 &&& (3 : Int32))), (.int v2), (.int (p3.toInt8.toInt32))]) (rest := []) (lenOf pd_0_2 rfl) rfl (by show 2 * 0 + _ ≤ _; exact Nat.le_of_eq rfl) (hb hby at_102) (fun _ _ => ⟨rfl, e16, (by decide : 1 + 0 ≤ _), (by decide : 10 + 0 ≤ _)⟩)
      dsimp only [Pt.U, Pt.locs, Pt.cells, Pt.slots] at X20 l20 y20 z20 st20 hQ20
      subst l20 y20 z20
      obtain ⟨rfl, rfl, e20⟩ := hQ20
      rw [List.append_nil] at X20
      replace X20 : Stand p l e room_1 s m #[(.int p1), (.int p2), (.int p3)] below meth c T20 (L13 ++ Lc15) 1 10 := X20
      have R22 : ∀ t, Steps p.tables e below (T20.setTop (mkF m 105 #[.val (.int p1), .val (.int p2), .val (.int p3), .val (.int v2), .val (.int (p2 &&& (3 : Int32))), .val (.int (p3.toInt8.toInt32)), .val (.ref b3)] [(.int (F2 (1 : Int32) (p2 &&& (3 : Int32)) v2 (p3.toInt8.toInt32) (own_w v2 (p2 &&& (3 : Int32)) (fun _ => (p3.toInt8.toInt32)))))])) t → Steps p.tables e below (s₁.setTop (entryFrame m #[(.int p1), (.int p2), (.int p3)] maxLocals)) t := by
        intro t kt
        refine R18 _ ?_
        show Steps p.tables e below (T16.setTop (mkF m 91 #[.val (.int p1), .val (.int p2), .val (.int p3), .val (.int v2), .val (.int (p2 &&& (3 : Int32))), .val (.int (p3.toInt8.toInt32)), .val (.ref b3)] [(.int (F2 (0 : Int32) (p2 &&& (3 : Int32)) v2 (p3.toInt8.toInt32) (own_w v2 (p2 &&& (3 : Int32)) (fun _ => (p3.toInt8.toInt32)))))])) _
        refine XS.ifNo X16.here hx rfl (hb hby at_91) rfl ((if0 _ _).trans (feq hc17).1) ?_
        show Steps p.tables e below (T16.setTop (mkF m 94 #[.val (.int p1), .val (.int p2), .val (.int p3), .val (.int v2), .val (.int (p2 &&& (3 : Int32))), .val (.int (p3.toInt8.toInt32)), .val (.ref b3)] [])) _
        refine XS.aload X16.here hx rfl (hb hby at_94) rfl rfl ?_
        show Steps p.tables e below (T16.setTop (mkF m 96 #[.val (.int p1), .val (.int p2), .val (.int p3), .val (.int v2), .val (.int (p2 &&& (3 : Int32))), .val (.int (p3.toInt8.toInt32)), .val (.ref b3)] [(.ref b3)])) _
        refine XS.iconst X16.here hx rfl (hb hby at_96) ?_
        show Steps p.tables e below (T16.setTop (mkF m 97 #[.val (.int p1), .val (.int p2), .val (.int p3), .val (.int v2), .val (.int (p2 &&& (3 : Int32))), .val (.int (p3.toInt8.toInt32)), .val (.ref b3)] [(.int (1 : Int32)), (.ref b3)])) _
        refine XS.iload X16.here hx rfl (hb hby at_97) rfl ?_
        show Steps p.tables e below (T16.setTop (mkF m 99 #[.val (.int p1), .val (.int p2), .val (.int p3), .val (.int v2), .val (.int (p2 &&& (3 : Int32))), .val (.int (p3.toInt8.toInt32)), .val (.ref b3)] [(.int (p2 &&& (3 : Int32))), (.int (1 : Int32)), (.ref b3)])) _
        refine XS.iloadN X16.here hx rfl (hb hby at_99) rfl ?_
        show Steps p.tables e below (T16.setTop (mkF m 100 #[.val (.int p1), .val (.int p2), .val (.int p3), .val (.int v2), .val (.int (p2 &&& (3 : Int32))), .val (.int (p3.toInt8.toInt32)), .val (.ref b3)] [(.int v2), (.int (p2 &&& (3 : Int32))), (.int (1 : Int32)), (.ref b3)])) _
        refine XS.iload X16.here hx rfl (hb hby at_100) rfl ?_
        show Steps p.tables e below (T16.setTop (mkF m 102 #[.val (.int p1), .val (.int p2), .val (.int p3), .val (.int v2), .val (.int (p2 &&& (3 : Int32))), .val (.int (p3.toInt8.toInt32)), .val (.ref b3)] [(.int (p3.toInt8.toInt32)), (.int v2), (.int (p2 &&& (3 : Int32))), (.int (1 : Int32)), (.ref b3)])) _
        refine st20 _ ?_
        exact kt
      by_cases hc21 : (F2 (1 : Int32) (p2 &&& (3 : Int32)) v2 (p3.toInt8.toInt32) (own_w v2 (p2 &&& (3 : Int32)) (fun _ => (p3.toInt8.toInt32)))) = (0 : Int32)
      · have R23 : ∀ t, Steps p.tables e below (T20.setTop (mkF m 229 #[.val (.int p1), .val (.int p2), .val (.int p3), .val (.int v2), .val (.int (p2 &&& (3 : Int32))), .val (.int (p3.toInt8.toInt32)), .val (.ref b3)] [(.int (0 : Int32))])) t → Steps p.tables e below (s₁.setTop (entryFrame m #[(.int p1), (.int p2), (.int p3)] maxLocals)) t := by
          intro t kt
          refine R22 _ ?_
          show Steps p.tables e below (T20.setTop (mkF m 105 #[.val (.int p1), .val (.int p2), .val (.int p3), .val (.int v2), .val (.int (p2 &&& (3 : Int32))), .val (.int (p3.toInt8.toInt32)), .val (.ref b3)] [(.int (F2 (1 : Int32) (p2 &&& (3 : Int32)) v2 (p3.toInt8.toInt32) (own_w v2 (p2 &&& (3 : Int32)) (fun _ => (p3.toInt8.toInt32)))))])) _
          refine XS.ifYes X20.here hx rfl (pc0 := 105) (pc' := 228) rfl (hb hby at_105) rfl ((if0 _ _).trans (teq hc21).1) (by decide) (by decide) ?_
          show Steps p.tables e below (T20.setTop (mkF m 228 #[.val (.int p1), .val (.int p2), .val (.int p3), .val (.int v2), .val (.int (p2 &&& (3 : Int32))), .val (.int (p3.toInt8.toInt32)), .val (.ref b3)] [])) _
          refine XS.iconst X20.here hx rfl (hb hby at_228) ?_
          exact kt
        exact ⟨T20, (0 : Int32), X20, e20, (by rw [if_neg hc17, if_pos hc21]), R23⟩
      · obtain ⟨_, _, ⟨T24, L24, k24, n24⟩, -, X24, ⟨Lc24, hQ24, l24, y24, z24⟩, st24⟩ := Jvm.LawKit.callS X20 hx (y := (⟨"com/example/relicary/relicary/siard/SiardTextEscapePinLaw", "ok", "([BIICB)Z"⟩ : MethodName)) hown (mvT hZ (hw _ (List.mem_of_getElem? (i := 7) rfl))) (mvT hZ (hw _ (List.mem_of_getElem? (i := 8) rfl))) (mvT hZ (hw _ (List.mem_of_getElem? (i := 9) rfl))) (mvT hZ (hw _ (List.mem_of_getElem? (i := 10) rfl))) (by decide) (backOf (W := 0) (rm2 l Z a0 hw [] b3 (2 : Int32) (p2 &&& (3 : Int32)) v2 (p3.toInt8.toInt32) (own_w v2 (p2 &&& (3 : Int32)) (fun _ => (p3.toInt8.toInt32))) T15.heap n0 Z15 V15 (by decide)) hZ (hw _ (List.mem_of_getElem? (i := 10) rfl)) (hw _ (List.mem_of_getElem? (i := 9) rfl)) (by decide) (by decide)) (g := (mkF m 116 #[.val (.int p1), .val (.int p2), .val (.int p3), .val (.int v2), .val (.int (p2 &&& (3 : Int32))), .val (.int (p3.toInt8.toInt32)), .val (.ref b3)] [(.int (p3.toInt8.toInt32)), (.int v2), (.int (p2 &&& (3 : Int32))), (.int (2 : Int32)), (.ref b3)])) rfl (by rw [hml]; rfl) (argsL := [(.ref b3), (.int (2 : Int32)), (.int (p2 &&& (3 : Int32))), (.int v2), (.int (p3.toInt8.toInt32))]) (rest := []) (lenOf pd_0_2 rfl) rfl (by show 2 * 0 + _ ≤ _; exact Nat.le_of_eq rfl) (hb hby at_116) (fun _ _ => ⟨rfl, e20, (by decide : 1 + 0 ≤ _), (by decide : 10 + 0 ≤ _)⟩)
        dsimp only [Pt.U, Pt.locs, Pt.cells, Pt.slots] at X24 l24 y24 z24 st24 hQ24
        subst l24 y24 z24
        obtain ⟨rfl, rfl, e24⟩ := hQ24
        rw [List.append_nil] at X24
        replace X24 : Stand p l e room_1 s m #[(.int p1), (.int p2), (.int p3)] below meth c T24 (L13 ++ Lc15) 1 10 := X24
        have R26 : ∀ t, Steps p.tables e below (T24.setTop (mkF m 119 #[.val (.int p1), .val (.int p2), .val (.int p3), .val (.int v2), .val (.int (p2 &&& (3 : Int32))), .val (.int (p3.toInt8.toInt32)), .val (.ref b3)] [(.int (F2 (2 : Int32) (p2 &&& (3 : Int32)) v2 (p3.toInt8.toInt32) (own_w v2 (p2 &&& (3 : Int32)) (fun _ => (p3.toInt8.toInt32)))))])) t → Steps p.tables e below (s₁.setTop (entryFrame m #[(.int p1), (.int p2), (.int p3)] maxLocals)) t := by
          intro t kt
          refine R22 _ ?_
          show Steps p.tables e below (T20.setTop (mkF m 105 #[.val (.int p1), .val (.int p2), .val (.int p3), .val (.int v2), .val (.int (p2 &&& (3 : Int32))), .val (.int (p3.toInt8.toInt32)), .val (.ref b3)] [(.int (F2 (1 : Int32) (p2 &&& (3 : Int32)) v2 (p3.toInt8.toInt32) (own_w v2 (p2 &&& (3 : Int32)) (fun _ => (p3.toInt8.toInt32)))))])) _
          refine XS.ifNo X20.here hx rfl (hb hby at_105) rfl ((if0 _ _).trans (feq hc21).1) ?_
          show Steps p.tables e below (T20.setTop (mkF m 108 #[.val (.int p1), .val (.int p2), .val (.int p3), .val (.int v2), .val (.int (p2 &&& (3 : Int32))), .val (.int (p3.toInt8.toInt32)), .val (.ref b3)] [])) _
          refine XS.aload X20.here hx rfl (hb hby at_108) rfl rfl ?_
          show Steps p.tables e below (T20.setTop (mkF m 110 #[.val (.int p1), .val (.int p2), .val (.int p3), .val (.int v2), .val (.int (p2 &&& (3 : Int32))), .val (.int (p3.toInt8.toInt32)), .val (.ref b3)] [(.ref b3)])) _
          refine XS.iconst X20.here hx rfl (hb hby at_110) ?_
          show Steps p.tables e below (T20.setTop (mkF m 111 #[.val (.int p1), .val (.int p2), .val (.int p3), .val (.int v2), .val (.int (p2 &&& (3 : Int32))), .val (.int (p3.toInt8.toInt32)), .val (.ref b3)] [(.int (2 : Int32)), (.ref b3)])) _
          refine XS.iload X20.here hx rfl (hb hby at_111) rfl ?_
          show Steps p.tables e below (T20.setTop (mkF m 113 #[.val (.int p1), .val (.int p2), .val (.int p3), .val (.int v2), .val (.int (p2 &&& (3 : Int32))), .val (.int (p3.toInt8.toInt32)), .val (.ref b3)] [(.int (p2 &&& (3 : Int32))), (.int (2 : Int32)), (.ref b3)])) _
          refine XS.iloadN X20.here hx rfl (hb hby at_113) rfl ?_
          show Steps p.tables e below (T20.setTop (mkF m 114 #[.val (.int p1), .val (.int p2), .val (.int p3), .val (.int v2), .val (.int (p2 &&& (3 : Int32))), .val (.int (p3.toInt8.toInt32)), .val (.ref b3)] [(.int v2), (.int (p2 &&& (3 : Int32))), (.int (2 : Int32)), (.ref b3)])) _
          refine XS.iload X20.here hx rfl (hb hby at_114) rfl ?_
          show Steps p.tables e below (T20.setTop (mkF m 116 #[.val (.int p1), .val (.int p2), .val (.int p3), .val (.int v2), .val (.int (p2 &&& (3 : Int32))), .val (.int (p3.toInt8.toInt32)), .val (.ref b3)] [(.int (p3.toInt8.toInt32)), (.int v2), (.int (p2 &&& (3 : Int32))), (.int (2 : Int32)), (.ref b3)])) _
          refine st24 _ ?_
          exact kt
        by_cases hc25 : (F2 (2 : Int32) (p2 &&& (3 : Int32)) v2 (p3.toInt8.toInt32) (own_w v2 (p2 &&& (3 : Int32)) (fun _ => (p3.toInt8.toInt32)))) = (0 : Int32)
        · have R27 : ∀ t, Steps p.tables e below (T24.setTop (mkF m 229 #[.val (.int p1), .val (.int p2), .val (.int p3), .val (.int v2), .val (.int (p2 &&& (3 : Int32))), .val (.int (p3.toInt8.toInt32)), .val (.ref b3)] [(.int (0 : Int32))])) t → Steps p.tables e below (s₁.setTop (entryFrame m #[(.int p1), (.int p2), (.int p3)] maxLocals)) t := by
            intro t kt
            refine R26 _ ?_
            show Steps p.tables e below (T24.setTop (mkF m 119 #[.val (.int p1), .val (.int p2), .val (.int p3), .val (.int v2), .val (.int (p2 &&& (3 : Int32))), .val (.int (p3.toInt8.toInt32)), .val (.ref b3)] [(.int (F2 (2 : Int32) (p2 &&& (3 : Int32)) v2 (p3.toInt8.toInt32) (own_w v2 (p2 &&& (3 : Int32)) (fun _ => (p3.toInt8.toInt32)))))])) _
            refine XS.ifYes X24.here hx rfl (pc0 := 119) (pc' := 228) rfl (hb hby at_119) rfl ((if0 _ _).trans (teq hc25).1) (by decide) (by decide) ?_
            show Steps p.tables e below (T24.setTop (mkF m 228 #[.val (.int p1), .val (.int p2), .val (.int p3), .val (.int v2), .val (.int (p2 &&& (3 : Int32))), .val (.int (p3.toInt8.toInt32)), .val (.ref b3)] [])) _
            refine XS.iconst X24.here hx rfl (hb hby at_228) ?_
            exact kt
          exact ⟨T24, (0 : Int32), X24, e24, (by rw [if_neg hc17, if_neg hc21, if_pos hc25]), R27⟩
        · obtain ⟨_, _, ⟨T28, L28, k28, n28⟩, -, X28, ⟨Lc28, hQ28, l28, y28, z28⟩, st28⟩ := Jvm.LawKit.callS X24 hx (y := (⟨"com/example/relicary/relicary/siard/SiardTextEscapePinLaw", "ok", "([BIICB)Z"⟩ : MethodName)) hown (mvT hZ (hw _ (List.mem_of_getElem? (i := 7) rfl))) (mvT hZ (hw _ (List.mem_of_getElem? (i := 8) rfl))) (mvT hZ (hw _ (List.mem_of_getElem? (i := 9) rfl))) (mvT hZ (hw _ (List.mem_of_getElem? (i := 10) rfl))) (by decide) (backOf (W := 0) (rm2 l Z a0 hw [] b3 (3 : Int32) (p2 &&& (3 : Int32)) v2 (p3.toInt8.toInt32) (own_w v2 (p2 &&& (3 : Int32)) (fun _ => (p3.toInt8.toInt32))) T15.heap n0 Z15 V15 (by decide)) hZ (hw _ (List.mem_of_getElem? (i := 10) rfl)) (hw _ (List.mem_of_getElem? (i := 9) rfl)) (by decide) (by decide)) (g := (mkF m 130 #[.val (.int p1), .val (.int p2), .val (.int p3), .val (.int v2), .val (.int (p2 &&& (3 : Int32))), .val (.int (p3.toInt8.toInt32)), .val (.ref b3)] [(.int (p3.toInt8.toInt32)), (.int v2), (.int (p2 &&& (3 : Int32))), (.int (3 : Int32)), (.ref b3)])) rfl (by rw [hml]; rfl) (argsL := [(.ref b3), (.int (3 : Int32)), (.int (p2 &&& (3 : Int32))), (.int v2), (.int (p3.toInt8.toInt32))]) (rest := []) (lenOf pd_0_2 rfl) rfl (by show 2 * 0 + _ ≤ _; exact Nat.le_of_eq rfl) (hb hby at_130) (fun _ _ => ⟨rfl, e24, (by decide : 1 + 0 ≤ _), (by decide : 10 + 0 ≤ _)⟩)
          dsimp only [Pt.U, Pt.locs, Pt.cells, Pt.slots] at X28 l28 y28 z28 st28 hQ28
          subst l28 y28 z28
          obtain ⟨rfl, rfl, e28⟩ := hQ28
          rw [List.append_nil] at X28
          replace X28 : Stand p l e room_1 s m #[(.int p1), (.int p2), (.int p3)] below meth c T28 (L13 ++ Lc15) 1 10 := X28
          have R30 : ∀ t, Steps p.tables e below (T28.setTop (mkF m 133 #[.val (.int p1), .val (.int p2), .val (.int p3), .val (.int v2), .val (.int (p2 &&& (3 : Int32))), .val (.int (p3.toInt8.toInt32)), .val (.ref b3)] [(.int (F2 (3 : Int32) (p2 &&& (3 : Int32)) v2 (p3.toInt8.toInt32) (own_w v2 (p2 &&& (3 : Int32)) (fun _ => (p3.toInt8.toInt32)))))])) t → Steps p.tables e below (s₁.setTop (entryFrame m #[(.int p1), (.int p2), (.int p3)] maxLocals)) t := by
            intro t kt
            refine R26 _ ?_
            show Steps p.tables e below (T24.setTop (mkF m 119 #[.val (.int p1), .val (.int p2), .val (.int p3), .val (.int v2), .val (.int (p2 &&& (3 : Int32))), .val (.int (p3.toInt8.toInt32)), .val (.ref b3)] [(.int (F2 (2 : Int32) (p2 &&& (3 : Int32)) v2 (p3.toInt8.toInt32) (own_w v2 (p2 &&& (3 : Int32)) (fun _ => (p3.toInt8.toInt32)))))])) _
            refine XS.ifNo X24.here hx rfl (hb hby at_119) rfl ((if0 _ _).trans (feq hc25).1) ?_
            show Steps p.tables e below (T24.setTop (mkF m 122 #[.val (.int p1), .val (.int p2), .val (.int p3), .val (.int v2), .val (.int (p2 &&& (3 : Int32))), .val (.int (p3.toInt8.toInt32)), .val (.ref b3)] [])) _
            refine XS.aload X24.here hx rfl (hb hby at_122) rfl rfl ?_
            show Steps p.tables e below (T24.setTop (mkF m 124 #[.val (.int p1), .val (.int p2), .val (.int p3), .val (.int v2), .val (.int (p2 &&& (3 : Int32))), .val (.int (p3.toInt8.toInt32)), .val (.ref b3)] [(.ref b3)])) _
            refine XS.iconst X24.here hx rfl (hb hby at_124) ?_
            show Steps p.tables e below (T24.setTop (mkF m 125 #[.val (.int p1), .val (.int p2), .val (.int p3), .val (.int v2), .val (.int (p2 &&& (3 : Int32))), .val (.int (p3.toInt8.toInt32)), .val (.ref b3)] [(.int (3 : Int32)), (.ref b3)])) _
            refine XS.iload X24.here hx rfl (hb hby at_125) rfl ?_
            show Steps p.tables e below (T24.setTop (mkF m 127 #[.val (.int p1), .val (.int p2), .val (.int p3), .val (.int v2), .val (.int (p2 &&& (3 : Int32))), .val (.int (p3.toInt8.toInt32)), .val (.ref b3)] [(.int (p2 &&& (3 : Int32))), (.int (3 : Int32)), (.ref b3)])) _
            refine XS.iloadN X24.here hx rfl (hb hby at_127) rfl ?_
            show Steps p.tables e below (T24.setTop (mkF m 128 #[.val (.int p1), .val (.int p2), .val (.int p3), .val (.int v2), .val (.int (p2 &&& (3 : Int32))), .val (.int (p3.toInt8.toInt32)), .val (.ref b3)] [(.int v2), (.int (p2 &&& (3 : Int32))), (.int (3 : Int32)), (.ref b3)])) _
            refine XS.iload X24.here hx rfl (hb hby at_128) rfl ?_
            show Steps p.tables e below (T24.setTop (mkF m 130 #[.val (.int p1), .val (.int p2), .val (.int p3), .val (.int v2), .val (.int (p2 &&& (3 : Int32))), .val (.int (p3.toInt8.toInt32)), .val (.ref b3)] [(.int (p3.toInt8.toInt32)), (.int v2), (.int (p2 &&& (3 : Int32))), (.int (3 : Int32)), (.ref b3)])) _
            refine st28 _ ?_
            exact kt
          by_cases hc29 : (F2 (3 : Int32) (p2 &&& (3 : Int32)) v2 (p3.toInt8.toInt32) (own_w v2 (p2 &&& (3 : Int32)) (fun _ => (p3.toInt8.toInt32)))) = (0 : Int32)
          · have R31 : ∀ t, Steps p.tables e below (T28.setTop (mkF m 229 #[.val (.int p1), .val (.int p2), .val (.int p3), .val (.int v2), .val (.int (p2 &&& (3 : Int32))), .val (.int (p3.toInt8.toInt32)), .val (.ref b3)] [(.int (0 : Int32))])) t → Steps p.tables e below (s₁.setTop (entryFrame m #[(.int p1), (.int p2), (.int p3)] maxLocals)) t := by
              intro t kt
              refine R30 _ ?_
              show Steps p.tables e below (T28.setTop (mkF m 133 #[.val (.int p1), .val (.int p2), .val (.int p3), .val (.int v2), .val (.int (p2 &&& (3 : Int32))), .val (.int (p3.toInt8.toInt32)), .val (.ref b3)] [(.int (F2 (3 : Int32) (p2 &&& (3 : Int32)) v2 (p3.toInt8.toInt32) (own_w v2 (p2 &&& (3 : Int32)) (fun _ => (p3.toInt8.toInt32)))))])) _
              refine XS.ifYes X28.here hx rfl (pc0 := 133) (pc' := 228) rfl (hb hby at_133) rfl ((if0 _ _).trans (teq hc29).1) (by decide) (by decide) ?_
              show Steps p.tables e below (T28.setTop (mkF m 228 #[.val (.int p1), .val (.int p2), .val (.int p3), .val (.int v2), .val (.int (p2 &&& (3 : Int32))), .val (.int (p3.toInt8.toInt32)), .val (.ref b3)] [])) _
              refine XS.iconst X28.here hx rfl (hb hby at_228) ?_
              exact kt
            exact ⟨T28, (0 : Int32), X28, e28, (by rw [if_neg hc17, if_neg hc21, if_neg hc25, if_pos hc29]), R31⟩
          · obtain ⟨_, _, ⟨T32, L32, k32, n32⟩, -, X32, ⟨Lc32, hQ32, l32, y32, z32⟩, st32⟩ := Jvm.LawKit.callS X28 hx (y := (⟨"com/example/relicary/relicary/siard/SiardTextEscapePinLaw", "ok", "([BIICB)Z"⟩ : MethodName)) hown (mvT hZ (hw _ (List.mem_of_getElem? (i := 7) rfl))) (mvT hZ (hw _ (List.mem_of_getElem? (i := 8) rfl))) (mvT hZ (hw _ (List.mem_of_getElem? (i := 9) rfl))) (mvT hZ (hw _ (List.mem_of_getElem? (i := 10) rfl))) (by decide) (backOf (W := 0) (rm2 l Z a0 hw [] b3 (4 : Int32) (p2 &&& (3 : Int32)) v2 (p3.toInt8.toInt32) (own_w v2 (p2 &&& (3 : Int32)) (fun _ => (p3.toInt8.toInt32))) T15.heap n0 Z15 V15 (by decide)) hZ (hw _ (List.mem_of_getElem? (i := 10) rfl)) (hw _ (List.mem_of_getElem? (i := 9) rfl)) (by decide) (by decide)) (g := (mkF m 144 #[.val (.int p1), .val (.int p2), .val (.int p3), .val (.int v2), .val (.int (p2 &&& (3 : Int32))), .val (.int (p3.toInt8.toInt32)), .val (.ref b3)] [(.int (p3.toInt8.toInt32)), (.int v2), (.int (p2 &&& (3 : Int32))), (.int (4 : Int32)), (.ref b3)])) rfl (by rw [hml]; rfl) (argsL := [(.ref b3), (.int (4 : Int32)), (.int (p2 &&& (3 : Int32))), (.int v2), (.int (p3.toInt8.toInt32))]) (rest := []) (lenOf pd_0_2 rfl) rfl (by show 2 * 0 + _ ≤ _; exact Nat.le_of_eq rfl) (hb hby at_144) (fun _ _ => ⟨rfl, e28, (by decide : 1 + 0 ≤ _), (by decide : 10 + 0 ≤ _)⟩)
            dsimp only [Pt.U, Pt.locs, Pt.cells, Pt.slots] at X32 l32 y32 z32 st32 hQ32
            subst l32 y32 z32
            obtain ⟨rfl, rfl, e32⟩ := hQ32
            rw [List.append_nil] at X32
            replace X32 : Stand p l e room_1 s m #[(.int p1), (.int p2), (.int p3)] below meth c T32 (L13 ++ Lc15) 1 10 := X32
            have R34 : ∀ t, Steps p.tables e below (T32.setTop (mkF m 147 #[.val (.int p1), .val (.int p2), .val (.int p3), .val (.int v2), .val (.int (p2 &&& (3 : Int32))), .val (.int (p3.toInt8.toInt32)), .val (.ref b3)] [(.int (F2 (4 : Int32) (p2 &&& (3 : Int32)) v2 (p3.toInt8.toInt32) (own_w v2 (p2 &&& (3 : Int32)) (fun _ => (p3.toInt8.toInt32)))))])) t → Steps p.tables e below (s₁.setTop (entryFrame m #[(.int p1), (.int p2), (.int p3)] maxLocals)) t := by
              intro t kt
              refine R30 _ ?_
              show Steps p.tables e below (T28.setTop (mkF m 133 #[.val (.int p1), .val (.int p2), .val (.int p3), .val (.int v2), .val (.int (p2 &&& (3 : Int32))), .val (.int (p3.toInt8.toInt32)), .val (.ref b3)] [(.int (F2 (3 : Int32) (p2 &&& (3 : Int32)) v2 (p3.toInt8.toInt32) (own_w v2 (p2 &&& (3 : Int32)) (fun _ => (p3.toInt8.toInt32)))))])) _
              refine XS.ifNo X28.here hx rfl (hb hby at_133) rfl ((if0 _ _).trans (feq hc29).1) ?_
              show Steps p.tables e below (T28.setTop (mkF m 136 #[.val (.int p1), .val (.int p2), .val (.int p3), .val (.int v2), .val (.int (p2 &&& (3 : Int32))), .val (.int (p3.toInt8.toInt32)), .val (.ref b3)] [])) _
              refine XS.aload X28.here hx rfl (hb hby at_136) rfl rfl ?_
              show Steps p.tables e below (T28.setTop (mkF m 138 #[.val (.int p1), .val (.int p2), .val (.int p3), .val (.int v2), .val (.int (p2 &&& (3 : Int32))), .val (.int (p3.toInt8.toInt32)), .val (.ref b3)] [(.ref b3)])) _
              refine XS.iconst X28.here hx rfl (hb hby at_138) ?_
              show Steps p.tables e below (T28.setTop (mkF m 139 #[.val (.int p1), .val (.int p2), .val (.int p3), .val (.int v2), .val (.int (p2 &&& (3 : Int32))), .val (.int (p3.toInt8.toInt32)), .val (.ref b3)] [(.int (4 : Int32)), (.ref b3)])) _
              refine XS.iload X28.here hx rfl (hb hby at_139) rfl ?_
              show Steps p.tables e below (T28.setTop (mkF m 141 #[.val (.int p1), .val (.int p2), .val (.int p3), .val (.int v2), .val (.int (p2 &&& (3 : Int32))), .val (.int (p3.toInt8.toInt32)), .val (.ref b3)] [(.int (p2 &&& (3 : Int32))), (.int (4 : Int32)), (.ref b3)])) _
              refine XS.iloadN X28.here hx rfl (hb hby at_141) rfl ?_
              show Steps p.tables e below (T28.setTop (mkF m 142 #[.val (.int p1), .val (.int p2), .val (.int p3), .val (.int v2), .val (.int (p2 &&& (3 : Int32))), .val (.int (p3.toInt8.toInt32)), .val (.ref b3)] [(.int v2), (.int (p2 &&& (3 : Int32))), (.int (4 : Int32)), (.ref b3)])) _
              refine XS.iload X28.here hx rfl (hb hby at_142) rfl ?_
              show Steps p.tables e below (T28.setTop (mkF m 144 #[.val (.int p1), .val (.int p2), .val (.int p3), .val (.int v2), .val (.int (p2 &&& (3 : Int32))), .val (.int (p3.toInt8.toInt32)), .val (.ref b3)] [(.int (p3.toInt8.toInt32)), (.int v2), (.int (p2 &&& (3 : Int32))), (.int (4 : Int32)), (.ref b3)])) _
              refine st32 _ ?_
              exact kt
            by_cases hc33 : (F2 (4 : Int32) (p2 &&& (3 : Int32)) v2 (p3.toInt8.toInt32) (own_w v2 (p2 &&& (3 : Int32)) (fun _ => (p3.toInt8.toInt32)))) = (0 : Int32)
            · have R35 : ∀ t, Steps p.tables e below (T32.setTop (mkF m 229 #[.val (.int p1), .val (.int p2), .val (.int p3), .val (.int v2), .val (.int (p2 &&& (3 : Int32))), .val (.int (p3.toInt8.toInt32)), .val (.ref b3)] [(.int (0 : Int32))])) t → Steps p.tables e below (s₁.setTop (entryFrame m #[(.int p1), (.int p2), (.int p3)] maxLocals)) t := by
                intro t kt
                refine R34 _ ?_
                show Steps p.tables e below (T32.setTop (mkF m 147 #[.val (.int p1), .val (.int p2), .val (.int p3), .val (.int v2), .val (.int (p2 &&& (3 : Int32))), .val (.int (p3.toInt8.toInt32)), .val (.ref b3)] [(.int (F2 (4 : Int32) (p2 &&& (3 : Int32)) v2 (p3.toInt8.toInt32) (own_w v2 (p2 &&& (3 : Int32)) (fun _ => (p3.toInt8.toInt32)))))])) _
                refine XS.ifYes X32.here hx rfl (pc0 := 147) (pc' := 228) rfl (hb hby at_147) rfl ((if0 _ _).trans (teq hc33).1) (by decide) (by decide) ?_
                show Steps p.tables e below (T32.setTop (mkF m 228 #[.val (.int p1), .val (.int p2), .val (.int p3), .val (.int v2), .val (.int (p2 &&& (3 : Int32))), .val (.int (p3.toInt8.toInt32)), .val (.ref b3)] [])) _
                refine XS.iconst X32.here hx rfl (hb hby at_228) ?_
                exact kt
              exact ⟨T32, (0 : Int32), X32, e32, (by rw [if_neg hc17, if_neg hc21, if_neg hc25, if_neg hc29, if_pos hc33]), R35⟩
            · obtain ⟨_, _, ⟨T36, L36, k36, n36⟩, -, X36, ⟨Lc36, hQ36, l36, y36, z36⟩, st36⟩ := Jvm.LawKit.callS X32 hx (y := (⟨"com/example/relicary/relicary/siard/SiardTextEscapePinLaw", "ok", "([BIICB)Z"⟩ : MethodName)) hown (mvT hZ (hw _ (List.mem_of_getElem? (i := 7) rfl))) (mvT hZ (hw _ (List.mem_of_getElem? (i := 8) rfl))) (mvT hZ (hw _ (List.mem_of_getElem? (i := 9) rfl))) (mvT hZ (hw _ (List.mem_of_getElem? (i := 10) rfl))) (by decide) (backOf (W := 0) (rm2 l Z a0 hw [] b3 (5 : Int32) (p2 &&& (3 : Int32)) v2 (p3.toInt8.toInt32) (own_w v2 (p2 &&& (3 : Int32)) (fun _ => (p3.toInt8.toInt32))) T15.heap n0 Z15 V15 (by decide)) hZ (hw _ (List.mem_of_getElem? (i := 10) rfl)) (hw _ (List.mem_of_getElem? (i := 9) rfl)) (by decide) (by decide)) (g := (mkF m 158 #[.val (.int p1), .val (.int p2), .val (.int p3), .val (.int v2), .val (.int (p2 &&& (3 : Int32))), .val (.int (p3.toInt8.toInt32)), .val (.ref b3)] [(.int (p3.toInt8.toInt32)), (.int v2), (.int (p2 &&& (3 : Int32))), (.int (5 : Int32)), (.ref b3)])) rfl (by rw [hml]; rfl) (argsL := [(.ref b3), (.int (5 : Int32)), (.int (p2 &&& (3 : Int32))), (.int v2), (.int (p3.toInt8.toInt32))]) (rest := []) (lenOf pd_0_2 rfl) rfl (by show 2 * 0 + _ ≤ _; exact Nat.le_of_eq rfl) (hb hby at_158) (fun _ _ => ⟨rfl, e32, (by decide : 1 + 0 ≤ _), (by decide : 10 + 0 ≤ _)⟩)
              dsimp only [Pt.U, Pt.locs, Pt.cells, Pt.slots] at X36 l36 y36 z36 st36 hQ36
              subst l36 y36 z36
              obtain ⟨rfl, rfl, e36⟩ := hQ36
              rw [List.append_nil] at X36
              replace X36 : Stand p l e room_1 s m #[(.int p1), (.int p2), (.int p3)] below meth c T36 (L13 ++ Lc15) 1 10 := X36
              have R38 : ∀ t, Steps p.tables e below (T36.setTop (mkF m 161 #[.val (.int p1), .val (.int p2), .val (.int p3), .val (.int v2), .val (.int (p2 &&& (3 : Int32))), .val (.int (p3.toInt8.toInt32)), .val (.ref b3)] [(.int (F2 (5 : Int32) (p2 &&& (3 : Int32)) v2 (p3.toInt8.toInt32) (own_w v2 (p2 &&& (3 : Int32)) (fun _ => (p3.toInt8.toInt32)))))])) t → Steps p.tables e below (s₁.setTop (entryFrame m #[(.int p1), (.int p2), (.int p3)] maxLocals)) t := by
                intro t kt
                refine R34 _ ?_
                show Steps p.tables e below (T32.setTop (mkF m 147 #[.val (.int p1), .val (.int p2), .val (.int p3), .val (.int v2), .val (.int (p2 &&& (3 : Int32))), .val (.int (p3.toInt8.toInt32)), .val (.ref b3)] [(.int (F2 (4 : Int32) (p2 &&& (3 : Int32)) v2 (p3.toInt8.toInt32) (own_w v2 (p2 &&& (3 : Int32)) (fun _ => (p3.toInt8.toInt32)))))])) _
                refine XS.ifNo X32.here hx rfl (hb hby at_147) rfl ((if0 _ _).trans (feq hc33).1) ?_
                show Steps p.tables e below (T32.setTop (mkF m 150 #[.val (.int p1), .val (.int p2), .val (.int p3), .val (.int v2), .val (.int (p2 &&& (3 : Int32))), .val (.int (p3.toInt8.toInt32)), .val (.ref b3)] [])) _
                refine XS.aload X32.here hx rfl (hb hby at_150) rfl rfl ?_
                show Steps p.tables e below (T32.setTop (mkF m 152 #[.val (.int p1), .val (.int p2), .val (.int p3), .val (.int v2), .val (.int (p2 &&& (3 : Int32))), .val (.int (p3.toInt8.toInt32)), .val (.ref b3)] [(.ref b3)])) _
                refine XS.iconst X32.here hx rfl (hb hby at_152) ?_
                show Steps p.tables e below (T32.setTop (mkF m 153 #[.val (.int p1), .val (.int p2), .val (.int p3), .val (.int v2), .val (.int (p2 &&& (3 : Int32))), .val (.int (p3.toInt8.toInt32)), .val (.ref b3)] [(.int (5 : Int32)), (.ref b3)])) _
                refine XS.iload X32.here hx rfl (hb hby at_153) rfl ?_
                show Steps p.tables e below (T32.setTop (mkF m 155 #[.val (.int p1), .val (.int p2), .val (.int p3), .val (.int v2), .val (.int (p2 &&& (3 : Int32))), .val (.int (p3.toInt8.toInt32)), .val (.ref b3)] [(.int (p2 &&& (3 : Int32))), (.int (5 : Int32)), (.ref b3)])) _
                refine XS.iloadN X32.here hx rfl (hb hby at_155) rfl ?_
                show Steps p.tables e below (T32.setTop (mkF m 156 #[.val (.int p1), .val (.int p2), .val (.int p3), .val (.int v2), .val (.int (p2 &&& (3 : Int32))), .val (.int (p3.toInt8.toInt32)), .val (.ref b3)] [(.int v2), (.int (p2 &&& (3 : Int32))), (.int (5 : Int32)), (.ref b3)])) _
                refine XS.iload X32.here hx rfl (hb hby at_156) rfl ?_
                show Steps p.tables e below (T32.setTop (mkF m 158 #[.val (.int p1), .val (.int p2), .val (.int p3), .val (.int v2), .val (.int (p2 &&& (3 : Int32))), .val (.int (p3.toInt8.toInt32)), .val (.ref b3)] [(.int (p3.toInt8.toInt32)), (.int v2), (.int (p2 &&& (3 : Int32))), (.int (5 : Int32)), (.ref b3)])) _
                refine st36 _ ?_
                exact kt
              by_cases hc37 : (F2 (5 : Int32) (p2 &&& (3 : Int32)) v2 (p3.toInt8.toInt32) (own_w v2 (p2 &&& (3 : Int32)) (fun _ => (p3.toInt8.toInt32)))) = (0 : Int32)
              · have R39 : ∀ t, Steps p.tables e below (T36.setTop (mkF m 229 #[.val (.int p1), .val (.int p2), .val (.int p3), .val (.int v2), .val (.int (p2 &&& (3 : Int32))), .val (.int (p3.toInt8.toInt32)), .val (.ref b3)] [(.int (0 : Int32))])) t → Steps p.tables e below (s₁.setTop (entryFrame m #[(.int p1), (.int p2), (.int p3)] maxLocals)) t := by
                  intro t kt
                  refine R38 _ ?_
                  show Steps p.tables e below (T36.setTop (mkF m 161 #[.val (.int p1), .val (.int p2), .val (.int p3), .val (.int v2), .val (.int (p2 &&& (3 : Int32))), .val (.int (p3.toInt8.toInt32)), .val (.ref b3)] [(.int (F2 (5 : Int32) (p2 &&& (3 : Int32)) v2 (p3.toInt8.toInt32) (own_w v2 (p2 &&& (3 : Int32)) (fun _ => (p3.toInt8.toInt32)))))])) _
                  refine XS.ifYes X36.here hx rfl (pc0 := 161) (pc' := 228) rfl (hb hby at_161) rfl ((if0 _ _).trans (teq hc37).1) (by decide) (by decide) ?_
                  show Steps p.tables e below (T36.setTop (mkF m 228 #[.val (.int p1), .val (.int p2), .val (.int p3), .val (.int v2), .val (.int (p2 &&& (3 : Int32))), .val (.int (p3.toInt8.toInt32)), .val (.ref b3)] [])) _
                  refine XS.iconst X36.here hx rfl (hb hby at_228) ?_
                  exact kt
                exact ⟨T36, (0 : Int32), X36, e36, (by rw [if_neg hc17, if_neg hc21, if_neg hc25, if_neg hc29, if_neg hc33, if_pos hc37]), R39⟩
              · obtain ⟨_, _, ⟨T40, L40, k40, n40⟩, -, X40, ⟨Lc40, hQ40, l40, y40, z40⟩, st40⟩ := Jvm.LawKit.callS X36 hx (y := (⟨"com/example/relicary/relicary/siard/SiardTextEscapePinLaw", "ok", "([BIICB)Z"⟩ : MethodName)) hown (mvT hZ (hw _ (List.mem_of_getElem? (i := 7) rfl))) (mvT hZ (hw _ (List.mem_of_getElem? (i := 8) rfl))) (mvT hZ (hw _ (List.mem_of_getElem? (i := 9) rfl))) (mvT hZ (hw _ (List.mem_of_getElem? (i := 10) rfl))) (by decide) (backOf (W := 0) (rm2 l Z a0 hw [] b3 (6 : Int32) (p2 &&& (3 : Int32)) v2 (p3.toInt8.toInt32) (own_w v2 (p2 &&& (3 : Int32)) (fun _ => (p3.toInt8.toInt32))) T15.heap n0 Z15 V15 (by decide)) hZ (hw _ (List.mem_of_getElem? (i := 10) rfl)) (hw _ (List.mem_of_getElem? (i := 9) rfl)) (by decide) (by decide)) (g := (mkF m 173 #[.val (.int p1), .val (.int p2), .val (.int p3), .val (.int v2), .val (.int (p2 &&& (3 : Int32))), .val (.int (p3.toInt8.toInt32)), .val (.ref b3)] [(.int (p3.toInt8.toInt32)), (.int v2), (.int (p2 &&& (3 : Int32))), (.int (6 : Int32)), (.ref b3)])) rfl (by rw [hml]; rfl) (argsL := [(.ref b3), (.int (6 : Int32)), (.int (p2 &&& (3 : Int32))), (.int v2), (.int (p3.toInt8.toInt32))]) (rest := []) (lenOf pd_0_2 rfl) rfl (by show 2 * 0 + _ ≤ _; exact Nat.le_of_eq rfl) (hb hby at_173) (fun _ _ => ⟨rfl, e36, (by decide : 1 + 0 ≤ _), (by decide : 10 + 0 ≤ _)⟩)
                dsimp only [Pt.U, Pt.locs, Pt.cells, Pt.slots] at X40 l40 y40 z40 st40 hQ40
                subst l40 y40 z40
                obtain ⟨rfl, rfl, e40⟩ := hQ40
                rw [List.append_nil] at X40
                replace X40 : Stand p l e room_1 s m #[(.int p1), (.int p2), (.int p3)] below meth c T40 (L13 ++ Lc15) 1 10 := X40
                have R42 : ∀ t, Steps p.tables e below (T40.setTop (mkF m 176 #[.val (.int p1), .val (.int p2), .val (.int p3), .val (.int v2), .val (.int (p2 &&& (3 : Int32))), .val (.int (p3.toInt8.toInt32)), .val (.ref b3)] [(.int (F2 (6 : Int32) (p2 &&& (3 : Int32)) v2 (p3.toInt8.toInt32) (own_w v2 (p2 &&& (3 : Int32)) (fun _ => (p3.toInt8.toInt32)))))])) t → Steps p.tables e below (s₁.setTop (entryFrame m #[(.int p1), (.int p2), (.int p3)] maxLocals)) t := by
                  intro t kt
                  refine R38 _ ?_
                  show Steps p.tables e below (T36.setTop (mkF m 161 #[.val (.int p1), .val (.int p2), .val (.int p3), .val (.int v2), .val (.int (p2 &&& (3 : Int32))), .val (.int (p3.toInt8.toInt32)), .val (.ref b3)] [(.int (F2 (5 : Int32) (p2 &&& (3 : Int32)) v2 (p3.toInt8.toInt32) (own_w v2 (p2 &&& (3 : Int32)) (fun _ => (p3.toInt8.toInt32)))))])) _
                  refine XS.ifNo X36.here hx rfl (hb hby at_161) rfl ((if0 _ _).trans (feq hc37).1) ?_
                  show Steps p.tables e below (T36.setTop (mkF m 164 #[.val (.int p1), .val (.int p2), .val (.int p3), .val (.int v2), .val (.int (p2 &&& (3 : Int32))), .val (.int (p3.toInt8.toInt32)), .val (.ref b3)] [])) _
                  refine XS.aload X36.here hx rfl (hb hby at_164) rfl rfl ?_
                  show Steps p.tables e below (T36.setTop (mkF m 166 #[.val (.int p1), .val (.int p2), .val (.int p3), .val (.int v2), .val (.int (p2 &&& (3 : Int32))), .val (.int (p3.toInt8.toInt32)), .val (.ref b3)] [(.ref b3)])) _
                  refine XS.bipush X36.here hx rfl (hb hby at_166) ?_
                  show Steps p.tables e below (T36.setTop (mkF m 168 #[.val (.int p1), .val (.int p2), .val (.int p3), .val (.int v2), .val (.int (p2 &&& (3 : Int32))), .val (.int (p3.toInt8.toInt32)), .val (.ref b3)] [(.int (6 : Int32)), (.ref b3)])) _
                  refine XS.iload X36.here hx rfl (hb hby at_168) rfl ?_
                  show Steps p.tables e below (T36.setTop (mkF m 170 #[.val (.int p1), .val (.int p2), .val (.int p3), .val (.int v2), .val (.int (p2 &&& (3 : Int32))), .val (.int (p3.toInt8.toInt32)), .val (.ref b3)] [(.int (p2 &&& (3 : Int32))), (.int (6 : Int32)), (.ref b3)])) _
                  refine XS.iloadN X36.here hx rfl (hb hby at_170) rfl ?_
                  show Steps p.tables e below (T36.setTop (mkF m 171 #[.val (.int p1), .val (.int p2), .val (.int p3), .val (.int v2), .val (.int (p2 &&& (3 : Int32))), .val (.int (p3.toInt8.toInt32)), .val (.ref b3)] [(.int v2), (.int (p2 &&& (3 : Int32))), (.int (6 : Int32)), (.ref b3)])) _
                  refine XS.iload X36.here hx rfl (hb hby at_171) rfl ?_
                  show Steps p.tables e below (T36.setTop (mkF m 173 #[.val (.int p1), .val (.int p2), .val (.int p3), .val (.int v2), .val (.int (p2 &&& (3 : Int32))), .val (.int (p3.toInt8.toInt32)), .val (.ref b3)] [(.int (p3.toInt8.toInt32)), (.int v2), (.int (p2 &&& (3 : Int32))), (.int (6 : Int32)), (.ref b3)])) _
                  refine st40 _ ?_
                  exact kt
                by_cases hc41 : (F2 (6 : Int32) (p2 &&& (3 : Int32)) v2 (p3.toInt8.toInt32) (own_w v2 (p2 &&& (3 : Int32)) (fun _ => (p3.toInt8.toInt32)))) = (0 : Int32)
                · have R43 : ∀ t, Steps p.tables e below (T40.setTop (mkF m 229 #[.val (.int p1), .val (.int p2), .val (.int p3), .val (.int v2), .val (.int (p2 &&& (3 : Int32))), .val (.int (p3.toInt8.toInt32)), .val (.ref b3)] [(.int (0 : Int32))])) t → Steps p.tables e below (s₁.setTop (entryFrame m #[(.int p1), (.int p2), (.int p3)] maxLocals)) t := by
                    intro t kt
                    refine R42 _ ?_
                    show Steps p.tables e below (T40.setTop (mkF m 176 #[.val (.int p1), .val (.int p2), .val (.int p3), .val (.int v2), .val (.int (p2 &&& (3 : Int32))), .val (.int (p3.toInt8.toInt32)), .val (.ref b3)] [(.int (F2 (6 : Int32) (p2 &&& (3 : Int32)) v2 (p3.toInt8.toInt32) (own_w v2 (p2 &&& (3 : Int32)) (fun _ => (p3.toInt8.toInt32)))))])) _
                    refine XS.ifYes X40.here hx rfl (pc0 := 176) (pc' := 228) rfl (hb hby at_176) rfl ((if0 _ _).trans (teq hc41).1) (by decide) (by decide) ?_
                    show Steps p.tables e below (T40.setTop (mkF m 228 #[.val (.int p1), .val (.int p2), .val (.int p3), .val (.int v2), .val (.int (p2 &&& (3 : Int32))), .val (.int (p3.toInt8.toInt32)), .val (.ref b3)] [])) _
                    refine XS.iconst X40.here hx rfl (hb hby at_228) ?_
                    exact kt
                  exact ⟨T40, (0 : Int32), X40, e40, (by rw [if_neg hc17, if_neg hc21, if_neg hc25, if_neg hc29, if_neg hc33, if_neg hc37, if_pos hc41]), R43⟩
                · obtain ⟨_, _, ⟨T44, L44, k44, n44⟩, -, X44, ⟨Lc44, hQ44, l44, y44, z44⟩, st44⟩ := Jvm.LawKit.callS X40 hx (y := (⟨"com/example/relicary/relicary/siard/SiardTextEscapePinLaw", "ok", "([BIICB)Z"⟩ : MethodName)) hown (mvT hZ (hw _ (List.mem_of_getElem? (i := 7) rfl))) (mvT hZ (hw _ (List.mem_of_getElem? (i := 8) rfl))) (mvT hZ (hw _ (List.mem_of_getElem? (i := 9) rfl))) (mvT hZ (hw _ (List.mem_of_getElem? (i := 10) rfl))) (by decide) (backOf (W := 0) (rm2 l Z a0 hw [] b3 (7 : Int32) (p2 &&& (3 : Int32)) v2 (p3.toInt8.toInt32) (own_w v2 (p2 &&& (3 : Int32)) (fun _ => (p3.toInt8.toInt32))) T15.heap n0 Z15 V15 (by decide)) hZ (hw _ (List.mem_of_getElem? (i := 10) rfl)) (hw _ (List.mem_of_getElem? (i := 9) rfl)) (by decide) (by decide)) (g := (mkF m 188 #[.val (.int p1), .val (.int p2), .val (.int p3), .val (.int v2), .val (.int (p2 &&& (3 : Int32))), .val (.int (p3.toInt8.toInt32)), .val (.ref b3)] [(.int (p3.toInt8.toInt32)), (.int v2), (.int (p2 &&& (3 : Int32))), (.int (7 : Int32)), (.ref b3)])) rfl (by rw [hml]; rfl) (argsL := [(.ref b3), (.int (7 : Int32)), (.int (p2 &&& (3 : Int32))), (.int v2), (.int (p3.toInt8.toInt32))]) (rest := []) (lenOf pd_0_2 rfl) rfl (by show 2 * 0 + _ ≤ _; exact Nat.le_of_eq rfl) (hb hby at_188) (fun _ _ => ⟨rfl, e40, (by decide : 1 + 0 ≤ _), (by decide : 10 + 0 ≤ _)⟩)
                  dsimp only [Pt.U, Pt.locs, Pt.cells, Pt.slots] at X44 l44 y44 z44 st44 hQ44
                  subst l44 y44 z44
                  obtain ⟨rfl, rfl, e44⟩ := hQ44
                  rw [List.append_nil] at X44
                  replace X44 : Stand p l e room_1 s m #[(.int p1), (.int p2), (.int p3)] below meth c T44 (L13 ++ Lc15) 1 10 := X44
                  have R46 : ∀ t, Steps p.tables e below (T44.setTop (mkF m 191 #[.val (.int p1), .val (.int p2), .val (.int p3), .val (.int v2), .val (.int (p2 &&& (3 : Int32))), .val (.int (p3.toInt8.toInt32)), .val (.ref b3)] [(.int (F2 (7 : Int32) (p2 &&& (3 : Int32)) v2 (p3.toInt8.toInt32) (own_w v2 (p2 &&& (3 : Int32)) (fun _ => (p3.toInt8.toInt32)))))])) t → Steps p.tables e below (s₁.setTop (entryFrame m #[(.int p1), (.int p2), (.int p3)] maxLocals)) t := by
                    intro t kt
                    refine R42 _ ?_
                    show Steps p.tables e below (T40.setTop (mkF m 176 #[.val (.int p1), .val (.int p2), .val (.int p3), .val (.int v2), .val (.int (p2 &&& (3 : Int32))), .val (.int (p3.toInt8.toInt32)), .val (.ref b3)] [(.int (F2 (6 : Int32) (p2 &&& (3 : Int32)) v2 (p3.toInt8.toInt32) (own_w v2 (p2 &&& (3 : Int32)) (fun _ => (p3.toInt8.toInt32)))))])) _
                    refine XS.ifNo X40.here hx rfl (hb hby at_176) rfl ((if0 _ _).trans (feq hc41).1) ?_
                    show Steps p.tables e below (T40.setTop (mkF m 179 #[.val (.int p1), .val (.int p2), .val (.int p3), .val (.int v2), .val (.int (p2 &&& (3 : Int32))), .val (.int (p3.toInt8.toInt32)), .val (.ref b3)] [])) _
                    refine XS.aload X40.here hx rfl (hb hby at_179) rfl rfl ?_
                    show Steps p.tables e below (T40.setTop (mkF m 181 #[.val (.int p1), .val (.int p2), .val (.int p3), .val (.int v2), .val (.int (p2 &&& (3 : Int32))), .val (.int (p3.toInt8.toInt32)), .val (.ref b3)] [(.ref b3)])) _
                    refine XS.bipush X40.here hx rfl (hb hby at_181) ?_
                    show Steps p.tables e below (T40.setTop (mkF m 183 #[.val (.int p1), .val (.int p2), .val (.int p3), .val (.int v2), .val (.int (p2 &&& (3 : Int32))), .val (.int (p3.toInt8.toInt32)), .val (.ref b3)] [(.int (7 : Int32)), (.ref b3)])) _
                    refine XS.iload X40.here hx rfl (hb hby at_183) rfl ?_
                    show Steps p.tables e below (T40.setTop (mkF m 185 #[.val (.int p1), .val (.int p2), .val (.int p3), .val (.int v2), .val (.int (p2 &&& (3 : Int32))), .val (.int (p3.toInt8.toInt32)), .val (.ref b3)] [(.int (p2 &&& (3 : Int32))), (.int (7 : Int32)), (.ref b3)])) _
                    refine XS.iloadN X40.here hx rfl (hb hby at_185) rfl ?_
                    show Steps p.tables e below (T40.setTop (mkF m 186 #[.val (.int p1), .val (.int p2), .val (.int p3), .val (.int v2), .val (.int (p2 &&& (3 : Int32))), .val (.int (p3.toInt8.toInt32)), .val (.ref b3)] [(.int v2), (.int (p2 &&& (3 : Int32))), (.int (7 : Int32)), (.ref b3)])) _
                    refine XS.iload X40.here hx rfl (hb hby at_186) rfl ?_
                    show Steps p.tables e below (T40.setTop (mkF m 188 #[.val (.int p1), .val (.int p2), .val (.int p3), .val (.int v2), .val (.int (p2 &&& (3 : Int32))), .val (.int (p3.toInt8.toInt32)), .val (.ref b3)] [(.int (p3.toInt8.toInt32)), (.int v2), (.int (p2 &&& (3 : Int32))), (.int (7 : Int32)), (.ref b3)])) _
                    refine st44 _ ?_
                    exact kt
                  by_cases hc45 : (F2 (7 : Int32) (p2 &&& (3 : Int32)) v2 (p3.toInt8.toInt32) (own_w v2 (p2 &&& (3 : Int32)) (fun _ => (p3.toInt8.toInt32)))) = (0 : Int32)
                  · have R47 : ∀ t, Steps p.tables e below (T44.setTop (mkF m 229 #[.val (.int p1), .val (.int p2), .val (.int p3), .val (.int v2), .val (.int (p2 &&& (3 : Int32))), .val (.int (p3.toInt8.toInt32)), .val (.ref b3)] [(.int (0 : Int32))])) t → Steps p.tables e below (s₁.setTop (entryFrame m #[(.int p1), (.int p2), (.int p3)] maxLocals)) t := by
                      intro t kt
                      refine R46 _ ?_
                      show Steps p.tables e below (T44.setTop (mkF m 191 #[.val (.int p1), .val (.int p2), .val (.int p3), .val (.int v2), .val (.int (p2 &&& (3 : Int32))), .val (.int (p3.toInt8.toInt32)), .val (.ref b3)] [(.int (F2 (7 : Int32) (p2 &&& (3 : Int32)) v2 (p3.toInt8.toInt32) (own_w v2 (p2 &&& (3 : Int32)) (fun _ => (p3.toInt8.toInt32)))))])) _
                      refine XS.ifYes X44.here hx rfl (pc0 := 191) (pc' := 228) rfl (hb hby at_191) rfl ((if0 _ _).trans (teq hc45).1) (by decide) (by decide) ?_
                      show Steps p.tables e below (T44.setTop (mkF m 228 #[.val (.int p1), .val (.int p2), .val (.int p3), .val (.int v2), .val (.int (p2 &&& (3 : Int32))), .val (.int (p3.toInt8.toInt32)), .val (.ref b3)] [])) _
                      refine XS.iconst X44.here hx rfl (hb hby at_228) ?_
                      exact kt
                    exact ⟨T44, (0 : Int32), X44, e44, (by rw [if_neg hc17, if_neg hc21, if_neg hc25, if_neg hc29, if_neg hc33, if_neg hc37, if_neg hc41, if_pos hc45]), R47⟩
                  · obtain ⟨_, _, ⟨T48, L48, k48, n48⟩, -, X48, ⟨Lc48, hQ48, l48, y48, z48⟩, st48⟩ := Jvm.LawKit.callS X44 hx (y := (⟨"com/example/relicary/relicary/siard/SiardTextEscapePinLaw", "ok", "([BIICB)Z"⟩ : MethodName)) hown (mvT hZ (hw _ (List.mem_of_getElem? (i := 7) rfl))) (mvT hZ (hw _ (List.mem_of_getElem? (i := 8) rfl))) (mvT hZ (hw _ (List.mem_of_getElem? (i := 9) rfl))) (mvT hZ (hw _ (List.mem_of_getElem? (i := 10) rfl))) (by decide) (backOf (W := 0) (rm2 l Z a0 hw [] b3 (8 : Int32) (p2 &&& (3 : Int32)) v2 (p3.toInt8.toInt32) (own_w v2 (p2 &&& (3 : Int32)) (fun _ => (p3.toInt8.toInt32))) T15.heap n0 Z15 V15 (by decide)) hZ (hw _ (List.mem_of_getElem? (i := 10) rfl)) (hw _ (List.mem_of_getElem? (i := 9) rfl)) (by decide) (by decide)) (g := (mkF m 203 #[.val (.int p1), .val (.int p2), .val (.int p3), .val (.int v2), .val (.int (p2 &&& (3 : Int32))), .val (.int (p3.toInt8.toInt32)), .val (.ref b3)] [(.int (p3.toInt8.toInt32)), (.int v2), (.int (p2 &&& (3 : Int32))), (.int (8 : Int32)), (.ref b3)])) rfl (by rw [hml]; rfl) (argsL := [(.ref b3), (.int (8 : Int32)), (.int (p2 &&& (3 : Int32))), (.int v2), (.int (p3.toInt8.toInt32))]) (rest := []) (lenOf pd_0_2 rfl) rfl (by show 2 * 0 + _ ≤ _; exact Nat.le_of_eq rfl) (hb hby at_203) (fun _ _ => ⟨rfl, e44, (by decide : 1 + 0 ≤ _), (by decide : 10 + 0 ≤ _)⟩)
                    dsimp only [Pt.U, Pt.locs, Pt.cells, Pt.slots] at X48 l48 y48 z48 st48 hQ48
                    subst l48 y48 z48
                    obtain ⟨rfl, rfl, e48⟩ := hQ48
                    rw [List.append_nil] at X48
                    replace X48 : Stand p l e room_1 s m #[(.int p1), (.int p2), (.int p3)] below meth c T48 (L13 ++ Lc15) 1 10 := X48
                    have R50 : ∀ t, Steps p.tables e below (T48.setTop (mkF m 206 #[.val (.int p1), .val (.int p2), .val (.int p3), .val (.int v2), .val (.int (p2 &&& (3 : Int32))), .val (.int (p3.toInt8.toInt32)), .val (.ref b3)] [(.int (F2 (8 : Int32) (p2 &&& (3 : Int32)) v2 (p3.toInt8.toInt32) (own_w v2 (p2 &&& (3 : Int32)) (fun _ => (p3.toInt8.toInt32)))))])) t → Steps p.tables e below (s₁.setTop (entryFrame m #[(.int p1), (.int p2), (.int p3)] maxLocals)) t := by
                      intro t kt
                      refine R46 _ ?_
                      show Steps p.tables e below (T44.setTop (mkF m 191 #[.val (.int p1), .val (.int p2), .val (.int p3), .val (.int v2), .val (.int (p2 &&& (3 : Int32))), .val (.int (p3.toInt8.toInt32)), .val (.ref b3)] [(.int (F2 (7 : Int32) (p2 &&& (3 : Int32)) v2 (p3.toInt8.toInt32) (own_w v2 (p2 &&& (3 : Int32)) (fun _ => (p3.toInt8.toInt32)))))])) _
                      refine XS.ifNo X44.here hx rfl (hb hby at_191) rfl ((if0 _ _).trans (feq hc45).1) ?_
                      show Steps p.tables e below (T44.setTop (mkF m 194 #[.val (.int p1), .val (.int p2), .val (.int p3), .val (.int v2), .val (.int (p2 &&& (3 : Int32))), .val (.int (p3.toInt8.toInt32)), .val (.ref b3)] [])) _
                      refine XS.aload X44.here hx rfl (hb hby at_194) rfl rfl ?_
                      show Steps p.tables e below (T44.setTop (mkF m 196 #[.val (.int p1), .val (.int p2), .val (.int p3), .val (.int v2), .val (.int (p2 &&& (3 : Int32))), .val (.int (p3.toInt8.toInt32)), .val (.ref b3)] [(.ref b3)])) _
                      refine XS.bipush X44.here hx rfl (hb hby at_196) ?_
                      show Steps p.tables e below (T44.setTop (mkF m 198 #[.val (.int p1), .val (.int p2), .val (.int p3), .val (.int v2), .val (.int (p2 &&& (3 : Int32))), .val (.int (p3.toInt8.toInt32)), .val (.ref b3)] [(.int (8 : Int32)), (.ref b3)])) _
                      refine XS.iload X44.here hx rfl (hb hby at_198) rfl ?_
                      show Steps p.tables e below (T44.setTop (mkF m 200 #[.val (.int p1), .val (.int p2), .val (.int p3), .val (.int v2), .val (.int (p2 &&& (3 : Int32))), .val (.int (p3.toInt8.toInt32)), .val (.ref b3)] [(.int (p2 &&& (3 : Int32))), (.int (8 : Int32)), (.ref b3)])) _
                      refine XS.iloadN X44.here hx rfl (hb hby at_200) rfl ?_
                      show Steps p.tables e below (T44.setTop (mkF m 201 #[.val (.int p1), .val (.int p2), .val (.int p3), .val (.int v2), .val (.int (p2 &&& (3 : Int32))), .val (.int (p3.toInt8.toInt32)), .val (.ref b3)] [(.int v2), (.int (p2 &&& (3 : Int32))), (.int (8 : Int32)), (.ref b3)])) _
                      refine XS.iload X44.here hx rfl (hb hby at_201) rfl ?_
                      show Steps p.tables e below (T44.setTop (mkF m 203 #[.val (.int p1), .val (.int p2), .val (.int p3), .val (.int v2), .val (.int (p2 &&& (3 : Int32))), .val (.int (p3.toInt8.toInt32)), .val (.ref b3)] [(.int (p3.toInt8.toInt32)), (.int v2), (.int (p2 &&& (3 : Int32))), (.int (8 : Int32)), (.ref b3)])) _
                      refine st48 _ ?_
                      exact kt
                    by_cases hc49 : (F2 (8 : Int32) (p2 &&& (3 : Int32)) v2 (p3.toInt8.toInt32) (own_w v2 (p2 &&& (3 : Int32)) (fun _ => (p3.toInt8.toInt32)))) = (0 : Int32)
                    · have R51 : ∀ t, Steps p.tables e below (T48.setTop (mkF m 229 #[.val (.int p1), .val (.int p2), .val (.int p3), .val (.int v2), .val (.int (p2 &&& (3 : Int32))), .val (.int (p3.toInt8.toInt32)), .val (.ref b3)] [(.int (0 : Int32))])) t → Steps p.tables e below (s₁.setTop (entryFrame m #[(.int p1), (.int p2), (.int p3)] maxLocals)) t := by
                        intro t kt
                        refine R50 _ ?_
                        show Steps p.tables e below (T48.setTop (mkF m 206 #[.val (.int p1), .val (.int p2), .val (.int p3), .val (.int v2), .val (.int (p2 &&& (3 : Int32))), .val (.int (p3.toInt8.toInt32)), .val (.ref b3)] [(.int (F2 (8 : Int32) (p2 &&& (3 : Int32)) v2 (p3.toInt8.toInt32) (own_w v2 (p2 &&& (3 : Int32)) (fun _ => (p3.toInt8.toInt32)))))])) _
                        refine XS.ifYes X48.here hx rfl (pc0 := 206) (pc' := 228) rfl (hb hby at_206) rfl ((if0 _ _).trans (teq hc49).1) (by decide) (by decide) ?_
                        show Steps p.tables e below (T48.setTop (mkF m 228 #[.val (.int p1), .val (.int p2), .val (.int p3), .val (.int v2), .val (.int (p2 &&& (3 : Int32))), .val (.int (p3.toInt8.toInt32)), .val (.ref b3)] [])) _
                        refine XS.iconst X48.here hx rfl (hb hby at_228) ?_
                        exact kt
                      exact ⟨T48, (0 : Int32), X48, e48, (by rw [if_neg hc17, if_neg hc21, if_neg hc25, if_neg hc29, if_neg hc33, if_neg hc37, if_neg hc41, if_neg hc45, if_pos hc49]), R51⟩
                    · obtain ⟨_, _, ⟨T52, L52, k52, n52⟩, -, X52, ⟨Lc52, hQ52, l52, y52, z52⟩, st52⟩ := Jvm.LawKit.callS X48 hx (y := (⟨"com/example/relicary/relicary/siard/SiardTextEscapePinLaw", "ok", "([BIICB)Z"⟩ : MethodName)) hown (mvT hZ (hw _ (List.mem_of_getElem? (i := 7) rfl))) (mvT hZ (hw _ (List.mem_of_getElem? (i := 8) rfl))) (mvT hZ (hw _ (List.mem_of_getElem? (i := 9) rfl))) (mvT hZ (hw _ (List.mem_of_getElem? (i := 10) rfl))) (by decide) (backOf (W := 0) (rm2 l Z a0 hw [] b3 (9 : Int32) (p2 &&& (3 : Int32)) v2 (p3.toInt8.toInt32) (own_w v2 (p2 &&& (3 : Int32)) (fun _ => (p3.toInt8.toInt32))) T15.heap n0 Z15 V15 (by decide)) hZ (hw _ (List.mem_of_getElem? (i := 10) rfl)) (hw _ (List.mem_of_getElem? (i := 9) rfl)) (by decide) (by decide)) (g := (mkF m 218 #[.val (.int p1), .val (.int p2), .val (.int p3), .val (.int v2), .val (.int (p2 &&& (3 : Int32))), .val (.int (p3.toInt8.toInt32)), .val (.ref b3)] [(.int (p3.toInt8.toInt32)), (.int v2), (.int (p2 &&& (3 : Int32))), (.int (9 : Int32)), (.ref b3)])) rfl (by rw [hml]; rfl) (argsL := [(.ref b3), (.int (9 : Int32)), (.int (p2 &&& (3 : Int32))), (.int v2), (.int (p3.toInt8.toInt32))]) (rest := []) (lenOf pd_0_2 rfl) rfl (by show 2 * 0 + _ ≤ _; exact Nat.le_of_eq rfl) (hb hby at_218) (fun _ _ => ⟨rfl, e48, (by decide : 1 + 0 ≤ _), (by decide : 10 + 0 ≤ _)⟩)
                      dsimp only [Pt.U, Pt.locs, Pt.cells, Pt.slots] at X52 l52 y52 z52 st52 hQ52
                      subst l52 y52 z52
                      obtain ⟨rfl, rfl, e52⟩ := hQ52
                      rw [List.append_nil] at X52
                      replace X52 : Stand p l e room_1 s m #[(.int p1), (.int p2), (.int p3)] below meth c T52 (L13 ++ Lc15) 1 10 := X52
                      have R54 : ∀ t, Steps p.tables e below (T52.setTop (mkF m 221 #[.val (.int p1), .val (.int p2), .val (.int p3), .val (.int v2), .val (.int (p2 &&& (3 : Int32))), .val (.int (p3.toInt8.toInt32)), .val (.ref b3)] [(.int (F2 (9 : Int32) (p2 &&& (3 : Int32)) v2 (p3.toInt8.toInt32) (own_w v2 (p2 &&& (3 : Int32)) (fun _ => (p3.toInt8.toInt32)))))])) t → Steps p.tables e below (s₁.setTop (entryFrame m #[(.int p1), (.int p2), (.int p3)] maxLocals)) t := by
                        intro t kt
                        refine R50 _ ?_
                        show Steps p.tables e below (T48.setTop (mkF m 206 #[.val (.int p1), .val (.int p2), .val (.int p3), .val (.int v2), .val (.int (p2 &&& (3 : Int32))), .val (.int (p3.toInt8.toInt32)), .val (.ref b3)] [(.int (F2 (8 : Int32) (p2 &&& (3 : Int32)) v2 (p3.toInt8.toInt32) (own_w v2 (p2 &&& (3 : Int32)) (fun _ => (p3.toInt8.toInt32)))))])) _
                        refine XS.ifNo X48.here hx rfl (hb hby at_206) rfl ((if0 _ _).trans (feq hc49).1) ?_
                        show Steps p.tables e below (T48.setTop (mkF m 209 #[.val (.int p1), .val (.int p2), .val (.int p3), .val (.int v2), .val (.int (p2 &&& (3 : Int32))), .val (.int (p3.toInt8.toInt32)), .val (.ref b3)] [])) _
                        refine XS.aload X48.here hx rfl (hb hby at_209) rfl rfl ?_
                        show Steps p.tables e below (T48.setTop (mkF m 211 #[.val (.int p1), .val (.int p2), .val (.int p3), .val (.int v2), .val (.int (p2 &&& (3 : Int32))), .val (.int (p3.toInt8.toInt32)), .val (.ref b3)] [(.ref b3)])) _
                        refine XS.bipush X48.here hx rfl (hb hby at_211) ?_
                        show Steps p.tables e below (T48.setTop (mkF m 213 #[.val (.int p1), .val (.int p2), .val (.int p3), .val (.int v2), .val (.int (p2 &&& (3 : Int32))), .val (.int (p3.toInt8.toInt32)), .val (.ref b3)] [(.int (9 : Int32)), (.ref b3)])) _
                        refine XS.iload X48.here hx rfl (hb hby at_213) rfl ?_
                        show Steps p.tables e below (T48.setTop (mkF m 215 #[.val (.int p1), .val (.int p2), .val (.int p3), .val (.int v2), .val (.int (p2 &&& (3 : Int32))), .val (.int (p3.toInt8.toInt32)), .val (.ref b3)] [(.int (p2 &&& (3 : Int32))), (.int (9 : Int32)), (.ref b3)])) _
                        refine XS.iloadN X48.here hx rfl (hb hby at_215) rfl ?_
                        show Steps p.tables e below (T48.setTop (mkF m 216 #[.val (.int p1), .val (.int p2), .val (.int p3), .val (.int v2), .val (.int (p2 &&& (3 : Int32))), .val (.int (p3.toInt8.toInt32)), .val (.ref b3)] [(.int v2), (.int (p2 &&& (3 : Int32))), (.int (9 : Int32)), (.ref b3)])) _
                        refine XS.iload X48.here hx rfl (hb hby at_216) rfl ?_
                        show Steps p.tables e below (T48.setTop (mkF m 218 #[.val (.int p1), .val (.int p2), .val (.int p3), .val (.int v2), .val (.int (p2 &&& (3 : Int32))), .val (.int (p3.toInt8.toInt32)), .val (.ref b3)] [(.int (p3.toInt8.toInt32)), (.int v2), (.int (p2 &&& (3 : Int32))), (.int (9 : Int32)), (.ref b3)])) _
                        refine st52 _ ?_
                        exact kt
                      by_cases hc53 : (F2 (9 : Int32) (p2 &&& (3 : Int32)) v2 (p3.toInt8.toInt32) (own_w v2 (p2 &&& (3 : Int32)) (fun _ => (p3.toInt8.toInt32)))) = (0 : Int32)
                      · have R55 : ∀ t, Steps p.tables e below (T52.setTop (mkF m 229 #[.val (.int p1), .val (.int p2), .val (.int p3), .val (.int v2), .val (.int (p2 &&& (3 : Int32))), .val (.int (p3.toInt8.toInt32)), .val (.ref b3)] [(.int (0 : Int32))])) t → Steps p.tables e below (s₁.setTop (entryFrame m #[(.int p1), (.int p2), (.int p3)] maxLocals)) t := by
                          intro t kt
                          refine R54 _ ?_
                          show Steps p.tables e below (T52.setTop (mkF m 221 #[.val (.int p1), .val (.int p2), .val (.int p3), .val (.int v2), .val (.int (p2 &&& (3 : Int32))), .val (.int (p3.toInt8.toInt32)), .val (.ref b3)] [(.int (F2 (9 : Int32) (p2 &&& (3 : Int32)) v2 (p3.toInt8.toInt32) (own_w v2 (p2 &&& (3 : Int32)) (fun _ => (p3.toInt8.toInt32)))))])) _
                          refine XS.ifYes X52.here hx rfl (pc0 := 221) (pc' := 228) rfl (hb hby at_221) rfl ((if0 _ _).trans (teq hc53).1) (by decide) (by decide) ?_
                          show Steps p.tables e below (T52.setTop (mkF m 228 #[.val (.int p1), .val (.int p2), .val (.int p3), .val (.int v2), .val (.int (p2 &&& (3 : Int32))), .val (.int (p3.toInt8.toInt32)), .val (.ref b3)] [])) _
                          refine XS.iconst X52.here hx rfl (hb hby at_228) ?_
                          exact kt
                        exact ⟨T52, (0 : Int32), X52, e52, (by rw [if_neg hc17, if_neg hc21, if_neg hc25, if_neg hc29, if_neg hc33, if_neg hc37, if_neg hc41, if_neg hc45, if_neg hc49, if_pos hc53]), R55⟩
                      · have R56 : ∀ t, Steps p.tables e below (T52.setTop (mkF m 229 #[.val (.int p1), .val (.int p2), .val (.int p3), .val (.int v2), .val (.int (p2 &&& (3 : Int32))), .val (.int (p3.toInt8.toInt32)), .val (.ref b3)] [(.int (1 : Int32))])) t → Steps p.tables e below (s₁.setTop (entryFrame m #[(.int p1), (.int p2), (.int p3)] maxLocals)) t := by
                          intro t kt
                          refine R54 _ ?_
                          show Steps p.tables e below (T52.setTop (mkF m 221 #[.val (.int p1), .val (.int p2), .val (.int p3), .val (.int v2), .val (.int (p2 &&& (3 : Int32))), .val (.int (p3.toInt8.toInt32)), .val (.ref b3)] [(.int (F2 (9 : Int32) (p2 &&& (3 : Int32)) v2 (p3.toInt8.toInt32) (own_w v2 (p2 &&& (3 : Int32)) (fun _ => (p3.toInt8.toInt32)))))])) _
                          refine XS.ifNo X52.here hx rfl (hb hby at_221) rfl ((if0 _ _).trans (feq hc53).1) ?_
                          show Steps p.tables e below (T52.setTop (mkF m 224 #[.val (.int p1), .val (.int p2), .val (.int p3), .val (.int v2), .val (.int (p2 &&& (3 : Int32))), .val (.int (p3.toInt8.toInt32)), .val (.ref b3)] [])) _
                          refine XS.iconst X52.here hx rfl (hb hby at_224) ?_
                          show Steps p.tables e below (T52.setTop (mkF m 225 #[.val (.int p1), .val (.int p2), .val (.int p3), .val (.int v2), .val (.int (p2 &&& (3 : Int32))), .val (.int (p3.toInt8.toInt32)), .val (.ref b3)] [(.int (1 : Int32))])) _
                          refine XS.goto X52.here hx rfl (pc0 := 225) (pc' := 229) rfl (hb hby at_225) (by decide) (by decide) ?_
                          exact kt
                        exact ⟨T52, (1 : Int32), X52, e52, (by rw [if_neg hc17, if_neg hc21, if_neg hc25, if_neg hc29, if_neg hc33, if_neg hc37, if_neg hc41, if_neg hc45, if_neg hc49, if_neg hc53]), R56⟩
  obtain ⟨T60, v57, X61, e62, hv57, R58⟩ := J59
  obtain ⟨fs, hr, hrun, hended, hW, hsame⟩ := X61.leave (v := some (.int (nar .boolean v57))) (fun h => by rw [Bd.returns] at h; cases h)
  refine ⟨_, _, R58 _ ?_, hrun, hended, _, _, rfl, ?_, ⟨_, rfl⟩, hW, hsame.mono (by decide) (by decide)⟩
  · show Steps p.tables e below (T60.setTop (mkF m 229 #[.val (.int p1), .val (.int p2), .val (.int p3), .val (.int v2), .val (.int (p2 &&& (3 : Int32))), .val (.int (p3.toInt8.toInt32)), .val (.ref b3)] [(.int v57)])) _
    exact retN X61 hx (t := .boolean) Bd.returns (by simp) (hb hby at_229) hr
  · show Q0 Z p1 p2 p3 w h0 n0 _ T60.heap _
    rw [e62]
    refine ⟨?_, N15⟩
    subst hv2 hv57; rfl
theorem own_hexF : ∀ k : Fin 16, F4 (Int32.ofInt (0 + k.val)) = own_hx (Int32.ofInt (0 + k.val)).toNatClampNeg := by decide +kernel
theorem own_enum (c : Int32) (lo : Int) (n : Nat) (h1 : lo ≤ c.toInt) (h2 : c.toInt < lo + n) : ∃ k : Fin n, c = Int32.ofInt (lo + k.val) :=
  ⟨⟨(c.toInt - lo).toNat, by omega⟩, by
    show c = Int32.ofInt (lo + ((c.toInt - lo).toNat : Int))
    rw [show lo + ((c.toInt - lo).toNat : Int) = c.toInt by omega, Int32.ofInt_toInt]⟩
theorem own_hex (x : Int32) : F4 (x &&& (15 : Int32)) = own_hx (x &&& (15 : Int32)).toNatClampNeg := by
  have q := own_15 x
  obtain ⟨k, hk⟩ := own_enum (x &&& (15 : Int32)) 0 16 (by omega) (by omega)
  rw [hk]; exact own_hexF k
theorem own_e0_0 (c f : Int32) (hf : nar .byte f = f) : own_w c (0 : Int32) (fun _ => f) (0 : Int32).toNatClampNeg = F3 (0 : Int32) (0 : Int32) c f := by
  have l : own_w c (0 : Int32) (fun _ => f) (0 : Int32).toNatClampNeg = nar .byte (92 : Int32) := by
    unfold own_w; rw [if_neg (by decide), if_neg (by decide), if_neg (by decide), if_neg (by decide), if_neg (by decide), if_pos (by decide)]
  have r : F3 (0 : Int32) (0 : Int32) c f = nar .byte (92 : Int32) := by
    unfold F3; rw [if_neg (by decide), if_neg (by decide), if_pos (by decide)]
  rw [l, r]
theorem own_e1_0 (c f : Int32) (hf : nar .byte f = f) : own_w c (0 : Int32) (fun _ => f) (1 : Int32).toNatClampNeg = F3 (1 : Int32) (0 : Int32) c f := by
  have l : own_w c (0 : Int32) (fun _ => f) (1 : Int32).toNatClampNeg = nar .byte (117 : Int32) := by
    unfold own_w; rw [if_neg (by decide), if_neg (by decide), if_neg (by decide), if_neg (by decide), if_pos (by decide)]
  have r : F3 (1 : Int32) (0 : Int32) c f = nar .byte (117 : Int32) := by
    unfold F3; rw [if_neg (by decide), if_neg (by decide), if_neg (by decide), if_pos (by decide)]
  rw [l, r]
theorem own_e2_0 (c f : Int32) (hf : nar .byte f = f) : own_w c (0 : Int32) (fun _ => f) (2 : Int32).toNatClampNeg = F3 (2 : Int32) (0 : Int32) c f := by
  have l : own_w c (0 : Int32) (fun _ => f) (2 : Int32).toNatClampNeg = nar .byte (own_hx ((c >>> (((12 : Int32) - ((4 : Int32) * (0 : Int32))) &&& 31)) &&& (15 : Int32)).toNatClampNeg) := by
    unfold own_w; rw [if_neg (by decide), if_neg (by decide), if_neg (by decide), if_pos (by decide)]
  have r : F3 (2 : Int32) (0 : Int32) c f = nar .byte (F4 ((c >>> (((4 : Int32) * ((5 : Int32) - ((2 : Int32) - (0 : Int32)))) &&& 31)) &&& (15 : Int32))) := by
    unfold F3; rw [if_neg (by decide), if_neg (by decide), if_neg (by decide), if_neg (by decide)]
  rw [l, r, own_hex]; rfl
theorem own_e3_0 (c f : Int32) (hf : nar .byte f = f) : own_w c (0 : Int32) (fun _ => f) (3 : Int32).toNatClampNeg = F3 (3 : Int32) (0 : Int32) c f := by
  have l : own_w c (0 : Int32) (fun _ => f) (3 : Int32).toNatClampNeg = nar .byte (own_hx ((c >>> (((12 : Int32) - ((4 : Int32) * ((0 : Int32) + (1 : Int32)))) &&& 31)) &&& (15 : Int32)).toNatClampNeg) := by
    unfold own_w; rw [if_neg (by decide), if_neg (by decide), if_pos (by decide)]
  have r : F3 (3 : Int32) (0 : Int32) c f = nar .byte (F4 ((c >>> (((4 : Int32) * ((5 : Int32) - ((3 : Int32) - (0 : Int32)))) &&& 31)) &&& (15 : Int32))) := by
    unfold F3; rw [if_neg (by decide), if_neg (by decide), if_neg (by decide), if_neg (by decide)]
  rw [l, r, own_hex]; rfl
theorem own_e4_0 (c f : Int32) (hf : nar .byte f = f) : own_w c (0 : Int32) (fun _ => f) (4 : Int32).toNatClampNeg = F3 (4 : Int32) (0 : Int32) c f := by
  have l : own_w c (0 : Int32) (fun _ => f) (4 : Int32).toNatClampNeg = nar .byte (own_hx ((c >>> (((12 : Int32) - ((4 : Int32) * (((0 : Int32) + (1 : Int32)) + (1 : Int32)))) &&& 31)) &&& (15 : Int32)).toNatClampNeg) := by
    unfold own_w; rw [if_neg (by decide), if_pos (by decide)]
  have r : F3 (4 : Int32) (0 : Int32) c f = nar .byte (F4 ((c >>> (((4 : Int32) * ((5 : Int32) - ((4 : Int32) - (0 : Int32)))) &&& 31)) &&& (15 : Int32))) := by
    unfold F3; rw [if_neg (by decide), if_neg (by decide), if_neg (by decide), if_neg (by decide)]
  rw [l, r, own_hex]; rfl
theorem own_e5_0 (c f : Int32) (hf : nar .byte f = f) : own_w c (0 : Int32) (fun _ => f) (5 : Int32).toNatClampNeg = F3 (5 : Int32) (0 : Int32) c f := by
  have l : own_w c (0 : Int32) (fun _ => f) (5 : Int32).toNatClampNeg = nar .byte (own_hx ((c >>> (((12 : Int32) - ((4 : Int32) * ((((0 : Int32) + (1 : Int32)) + (1 : Int32)) + (1 : Int32)))) &&& 31)) &&& (15 : Int32)).toNatClampNeg) := by
    unfold own_w; rw [if_pos (by decide)]
  have r : F3 (5 : Int32) (0 : Int32) c f = nar .byte (F4 ((c >>> (((4 : Int32) * ((5 : Int32) - ((5 : Int32) - (0 : Int32)))) &&& 31)) &&& (15 : Int32))) := by
    unfold F3; rw [if_neg (by decide), if_neg (by decide), if_neg (by decide), if_neg (by decide)]
  rw [l, r, own_hex]; rfl
theorem own_e6_0 (c f : Int32) (hf : nar .byte f = f) : own_w c (0 : Int32) (fun _ => f) (6 : Int32).toNatClampNeg = F3 (6 : Int32) (0 : Int32) c f := by
  have l : own_w c (0 : Int32) (fun _ => f) (6 : Int32).toNatClampNeg = f := by
    unfold own_w; rw [if_neg (by decide), if_neg (by decide), if_neg (by decide), if_neg (by decide), if_neg (by decide), if_neg (by decide)]
  have r : F3 (6 : Int32) (0 : Int32) c f = nar .byte f := by
    unfold F3; rw [if_neg (by decide), if_pos (by decide)]
  rw [l, r, hf]
theorem own_e7_0 (c f : Int32) (hf : nar .byte f = f) : own_w c (0 : Int32) (fun _ => f) (7 : Int32).toNatClampNeg = F3 (7 : Int32) (0 : Int32) c f := by
  have l : own_w c (0 : Int32) (fun _ => f) (7 : Int32).toNatClampNeg = f := by
    unfold own_w; rw [if_neg (by decide), if_neg (by decide), if_neg (by decide), if_neg (by decide), if_neg (by decide), if_neg (by decide)]
  have r : F3 (7 : Int32) (0 : Int32) c f = nar .byte f := by
    unfold F3; rw [if_neg (by decide), if_pos (by decide)]
  rw [l, r, hf]
theorem own_e8_0 (c f : Int32) (hf : nar .byte f = f) : own_w c (0 : Int32) (fun _ => f) (8 : Int32).toNatClampNeg = F3 (8 : Int32) (0 : Int32) c f := by
  have l : own_w c (0 : Int32) (fun _ => f) (8 : Int32).toNatClampNeg = f := by
    unfold own_w; rw [if_neg (by decide), if_neg (by decide), if_neg (by decide), if_neg (by decide), if_neg (by decide), if_neg (by decide)]
  have r : F3 (8 : Int32) (0 : Int32) c f = nar .byte f := by
    unfold F3; rw [if_neg (by decide), if_pos (by decide)]
  rw [l, r, hf]
theorem own_e9_0 (c f : Int32) (hf : nar .byte f = f) : own_w c (0 : Int32) (fun _ => f) (9 : Int32).toNatClampNeg = F3 (9 : Int32) (0 : Int32) c f := by
  have l : own_w c (0 : Int32) (fun _ => f) (9 : Int32).toNatClampNeg = f := by
    unfold own_w; rw [if_neg (by decide), if_neg (by decide), if_neg (by decide), if_neg (by decide), if_neg (by decide), if_neg (by decide)]
  have r : F3 (9 : Int32) (0 : Int32) c f = nar .byte f := by
    unfold F3; rw [if_neg (by decide), if_pos (by decide)]
  rw [l, r, hf]
theorem own_e0_1 (c f : Int32) (hf : nar .byte f = f) : own_w c (1 : Int32) (fun _ => f) (0 : Int32).toNatClampNeg = F3 (0 : Int32) (1 : Int32) c f := by
  have l : own_w c (1 : Int32) (fun _ => f) (0 : Int32).toNatClampNeg = f := by
    unfold own_w; rw [if_neg (by decide), if_neg (by decide), if_neg (by decide), if_neg (by decide), if_neg (by decide), if_neg (by decide)]
  have r : F3 (0 : Int32) (1 : Int32) c f = nar .byte f := by
    unfold F3; rw [if_pos (by decide)]
  rw [l, r, hf]
theorem own_e1_1 (c f : Int32) (hf : nar .byte f = f) : own_w c (1 : Int32) (fun _ => f) (1 : Int32).toNatClampNeg = F3 (1 : Int32) (1 : Int32) c f := by
  have l : own_w c (1 : Int32) (fun _ => f) (1 : Int32).toNatClampNeg = nar .byte (92 : Int32) := by
    unfold own_w; rw [if_neg (by decide), if_neg (by decide), if_neg (by decide), if_neg (by decide), if_neg (by decide), if_pos (by decide)]
  have r : F3 (1 : Int32) (1 : Int32) c f = nar .byte (92 : Int32) := by
    unfold F3; rw [if_neg (by decide), if_neg (by decide), if_pos (by decide)]
  rw [l, r]
theorem own_e2_1 (c f : Int32) (hf : nar .byte f = f) : own_w c (1 : Int32) (fun _ => f) (2 : Int32).toNatClampNeg = F3 (2 : Int32) (1 : Int32) c f := by
  have l : own_w c (1 : Int32) (fun _ => f) (2 : Int32).toNatClampNeg = nar .byte (117 : Int32) := by
    unfold own_w; rw [if_neg (by decide), if_neg (by decide), if_neg (by decide), if_neg (by decide), if_pos (by decide)]
  have r : F3 (2 : Int32) (1 : Int32) c f = nar .byte (117 : Int32) := by
    unfold F3; rw [if_neg (by decide), if_neg (by decide), if_neg (by decide), if_pos (by decide)]
  rw [l, r]
theorem own_e3_1 (c f : Int32) (hf : nar .byte f = f) : own_w c (1 : Int32) (fun _ => f) (3 : Int32).toNatClampNeg = F3 (3 : Int32) (1 : Int32) c f := by
  have l : own_w c (1 : Int32) (fun _ => f) (3 : Int32).toNatClampNeg = nar .byte (own_hx ((c >>> (((12 : Int32) - ((4 : Int32) * (0 : Int32))) &&& 31)) &&& (15 : Int32)).toNatClampNeg) := by
    unfold own_w; rw [if_neg (by decide), if_neg (by decide), if_neg (by decide), if_pos (by decide)]
  have r : F3 (3 : Int32) (1 : Int32) c f = nar .byte (F4 ((c >>> (((4 : Int32) * ((5 : Int32) - ((3 : Int32) - (1 : Int32)))) &&& 31)) &&& (15 : Int32))) := by
    unfold F3; rw [if_neg (by decide), if_neg (by decide), if_neg (by decide), if_neg (by decide)]
  rw [l, r, own_hex]; rfl
theorem own_e4_1 (c f : Int32) (hf : nar .byte f = f) : own_w c (1 : Int32) (fun _ => f) (4 : Int32).toNatClampNeg = F3 (4 : Int32) (1 : Int32) c f := by
  have l : own_w c (1 : Int32) (fun _ => f) (4 : Int32).toNatClampNeg = nar .byte (own_hx ((c >>> (((12 : Int32) - ((4 : Int32) * ((0 : Int32) + (1 : Int32)))) &&& 31)) &&& (15 : Int32)).toNatClampNeg) := by
    unfold own_w; rw [if_neg (by decide), if_neg (by decide), if_pos (by decide)]
  have r : F3 (4 : Int32) (1 : Int32) c f = nar .byte (F4 ((c >>> (((4 : Int32) * ((5 : Int32) - ((4 : Int32) - (1 : Int32)))) &&& 31)) &&& (15 : Int32))) := by
    unfold F3; rw [if_neg (by decide), if_neg (by decide), if_neg (by decide), if_neg (by decide)]
  rw [l, r, own_hex]; rfl
theorem own_e5_1 (c f : Int32) (hf : nar .byte f = f) : own_w c (1 : Int32) (fun _ => f) (5 : Int32).toNatClampNeg = F3 (5 : Int32) (1 : Int32) c f := by
  have l : own_w c (1 : Int32) (fun _ => f) (5 : Int32).toNatClampNeg = nar .byte (own_hx ((c >>> (((12 : Int32) - ((4 : Int32) * (((0 : Int32) + (1 : Int32)) + (1 : Int32)))) &&& 31)) &&& (15 : Int32)).toNatClampNeg) := by
    unfold own_w; rw [if_neg (by decide), if_pos (by decide)]
  have r : F3 (5 : Int32) (1 : Int32) c f = nar .byte (F4 ((c >>> (((4 : Int32) * ((5 : Int32) - ((5 : Int32) - (1 : Int32)))) &&& 31)) &&& (15 : Int32))) := by
    unfold F3; rw [if_neg (by decide), if_neg (by decide), if_neg (by decide), if_neg (by decide)]
  rw [l, r, own_hex]; rfl
theorem own_e6_1 (c f : Int32) (hf : nar .byte f = f) : own_w c (1 : Int32) (fun _ => f) (6 : Int32).toNatClampNeg = F3 (6 : Int32) (1 : Int32) c f := by
  have l : own_w c (1 : Int32) (fun _ => f) (6 : Int32).toNatClampNeg = nar .byte (own_hx ((c >>> (((12 : Int32) - ((4 : Int32) * ((((0 : Int32) + (1 : Int32)) + (1 : Int32)) + (1 : Int32)))) &&& 31)) &&& (15 : Int32)).toNatClampNeg) := by
    unfold own_w; rw [if_pos (by decide)]
  have r : F3 (6 : Int32) (1 : Int32) c f = nar .byte (F4 ((c >>> (((4 : Int32) * ((5 : Int32) - ((6 : Int32) - (1 : Int32)))) &&& 31)) &&& (15 : Int32))) := by
    unfold F3; rw [if_neg (by decide), if_neg (by decide), if_neg (by decide), if_neg (by decide)]
  rw [l, r, own_hex]; rfl
theorem own_e7_1 (c f : Int32) (hf : nar .byte f = f) : own_w c (1 : Int32) (fun _ => f) (7 : Int32).toNatClampNeg = F3 (7 : Int32) (1 : Int32) c f := by
  have l : own_w c (1 : Int32) (fun _ => f) (7 : Int32).toNatClampNeg = f := by
    unfold own_w; rw [if_neg (by decide), if_neg (by decide), if_neg (by decide), if_neg (by decide), if_neg (by decide), if_neg (by decide)]
  have r : F3 (7 : Int32) (1 : Int32) c f = nar .byte f := by
    unfold F3; rw [if_neg (by decide), if_pos (by decide)]
  rw [l, r, hf]
theorem own_e8_1 (c f : Int32) (hf : nar .byte f = f) : own_w c (1 : Int32) (fun _ => f) (8 : Int32).toNatClampNeg = F3 (8 : Int32) (1 : Int32) c f := by
  have l : own_w c (1 : Int32) (fun _ => f) (8 : Int32).toNatClampNeg = f := by
    unfold own_w; rw [if_neg (by decide), if_neg (by decide), if_neg (by decide), if_neg (by decide), if_neg (by decide), if_neg (by decide)]
  have r : F3 (8 : Int32) (1 : Int32) c f = nar .byte f := by
    unfold F3; rw [if_neg (by decide), if_pos (by decide)]
  rw [l, r, hf]
theorem own_e9_1 (c f : Int32) (hf : nar .byte f = f) : own_w c (1 : Int32) (fun _ => f) (9 : Int32).toNatClampNeg = F3 (9 : Int32) (1 : Int32) c f := by
  have l : own_w c (1 : Int32) (fun _ => f) (9 : Int32).toNatClampNeg = f := by
    unfold own_w; rw [if_neg (by decide), if_neg (by decide), if_neg (by decide), if_neg (by decide), if_neg (by decide), if_neg (by decide)]
  have r : F3 (9 : Int32) (1 : Int32) c f = nar .byte f := by
    unfold F3; rw [if_neg (by decide), if_pos (by decide)]
  rw [l, r, hf]
theorem own_e0_2 (c f : Int32) (hf : nar .byte f = f) : own_w c (2 : Int32) (fun _ => f) (0 : Int32).toNatClampNeg = F3 (0 : Int32) (2 : Int32) c f := by
  have l : own_w c (2 : Int32) (fun _ => f) (0 : Int32).toNatClampNeg = f := by
    unfold own_w; rw [if_neg (by decide), if_neg (by decide), if_neg (by decide), if_neg (by decide), if_neg (by decide), if_neg (by decide)]
  have r : F3 (0 : Int32) (2 : Int32) c f = nar .byte f := by
    unfold F3; rw [if_pos (by decide)]
  rw [l, r, hf]
theorem own_e1_2 (c f : Int32) (hf : nar .byte f = f) : own_w c (2 : Int32) (fun _ => f) (1 : Int32).toNatClampNeg = F3 (1 : Int32) (2 : Int32) c f := by
  have l : own_w c (2 : Int32) (fun _ => f) (1 : Int32).toNatClampNeg = f := by
    unfold own_w; rw [if_neg (by decide), if_neg (by decide), if_neg (by decide), if_neg (by decide), if_neg (by decide), if_neg (by decide)]
  have r : F3 (1 : Int32) (2 : Int32) c f = nar .byte f := by
    unfold F3; rw [if_pos (by decide)]
  rw [l, r, hf]
theorem own_e2_2 (c f : Int32) (hf : nar .byte f = f) : own_w c (2 : Int32) (fun _ => f) (2 : Int32).toNatClampNeg = F3 (2 : Int32) (2 : Int32) c f := by
  have l : own_w c (2 : Int32) (fun _ => f) (2 : Int32).toNatClampNeg = nar .byte (92 : Int32) := by
    unfold own_w; rw [if_neg (by decide), if_neg (by decide), if_neg (by decide), if_neg (by decide), if_neg (by decide), if_pos (by decide)]
  have r : F3 (2 : Int32) (2 : Int32) c f = nar .byte (92 : Int32) := by
    unfold F3; rw [if_neg (by decide), if_neg (by decide), if_pos (by decide)]
  rw [l, r]
theorem own_e3_2 (c f : Int32) (hf : nar .byte f = f) : own_w c (2 : Int32) (fun _ => f) (3 : Int32).toNatClampNeg = F3 (3 : Int32) (2 : Int32) c f := by
  have l : own_w c (2 : Int32) (fun _ => f) (3 : Int32).toNatClampNeg = nar .byte (117 : Int32) := by
    unfold own_w; rw [if_neg (by decide), if_neg (by decide), if_neg (by decide), if_neg (by decide), if_pos (by decide)]
  have r : F3 (3 : Int32) (2 : Int32) c f = nar .byte (117 : Int32) := by
    unfold F3; rw [if_neg (by decide), if_neg (by decide), if_neg (by decide), if_pos (by decide)]
  rw [l, r]
theorem own_e4_2 (c f : Int32) (hf : nar .byte f = f) : own_w c (2 : Int32) (fun _ => f) (4 : Int32).toNatClampNeg = F3 (4 : Int32) (2 : Int32) c f := by
  have l : own_w c (2 : Int32) (fun _ => f) (4 : Int32).toNatClampNeg = nar .byte (own_hx ((c >>> (((12 : Int32) - ((4 : Int32) * (0 : Int32))) &&& 31)) &&& (15 : Int32)).toNatClampNeg) := by
    unfold own_w; rw [if_neg (by decide), if_neg (by decide), if_neg (by decide), if_pos (by decide)]
  have r : F3 (4 : Int32) (2 : Int32) c f = nar .byte (F4 ((c >>> (((4 : Int32) * ((5 : Int32) - ((4 : Int32) - (2 : Int32)))) &&& 31)) &&& (15 : Int32))) := by
    unfold F3; rw [if_neg (by decide), if_neg (by decide), if_neg (by decide), if_neg (by decide)]
  rw [l, r, own_hex]; rfl
theorem own_e5_2 (c f : Int32) (hf : nar .byte f = f) : own_w c (2 : Int32) (fun _ => f) (5 : Int32).toNatClampNeg = F3 (5 : Int32) (2 : Int32) c f := by
  have l : own_w c (2 : Int32) (fun _ => f) (5 : Int32).toNatClampNeg = nar .byte (own_hx ((c >>> (((12 : Int32) - ((4 : Int32) * ((0 : Int32) + (1 : Int32)))) &&& 31)) &&& (15 : Int32)).toNatClampNeg) := by
    unfold own_w; rw [if_neg (by decide), if_neg (by decide), if_pos (by decide)]
  have r : F3 (5 : Int32) (2 : Int32) c f = nar .byte (F4 ((c >>> (((4 : Int32) * ((5 : Int32) - ((5 : Int32) - (2 : Int32)))) &&& 31)) &&& (15 : Int32))) := by
    unfold F3; rw [if_neg (by decide), if_neg (by decide), if_neg (by decide), if_neg (by decide)]
  rw [l, r, own_hex]; rfl
theorem own_e6_2 (c f : Int32) (hf : nar .byte f = f) : own_w c (2 : Int32) (fun _ => f) (6 : Int32).toNatClampNeg = F3 (6 : Int32) (2 : Int32) c f := by
  have l : own_w c (2 : Int32) (fun _ => f) (6 : Int32).toNatClampNeg = nar .byte (own_hx ((c >>> (((12 : Int32) - ((4 : Int32) * (((0 : Int32) + (1 : Int32)) + (1 : Int32)))) &&& 31)) &&& (15 : Int32)).toNatClampNeg) := by
    unfold own_w; rw [if_neg (by decide), if_pos (by decide)]
  have r : F3 (6 : Int32) (2 : Int32) c f = nar .byte (F4 ((c >>> (((4 : Int32) * ((5 : Int32) - ((6 : Int32) - (2 : Int32)))) &&& 31)) &&& (15 : Int32))) := by
    unfold F3; rw [if_neg (by decide), if_neg (by decide), if_neg (by decide), if_neg (by decide)]
  rw [l, r, own_hex]; rfl
theorem own_e7_2 (c f : Int32) (hf : nar .byte f = f) : own_w c (2 : Int32) (fun _ => f) (7 : Int32).toNatClampNeg = F3 (7 : Int32) (2 : Int32) c f := by
  have l : own_w c (2 : Int32) (fun _ => f) (7 : Int32).toNatClampNeg = nar .byte (own_hx ((c >>> (((12 : Int32) - ((4 : Int32) * ((((0 : Int32) + (1 : Int32)) + (1 : Int32)) + (1 : Int32)))) &&& 31)) &&& (15 : Int32)).toNatClampNeg) := by
    unfold own_w; rw [if_pos (by decide)]
  have r : F3 (7 : Int32) (2 : Int32) c f = nar .byte (F4 ((c >>> (((4 : Int32) * ((5 : Int32) - ((7 : Int32) - (2 : Int32)))) &&& 31)) &&& (15 : Int32))) := by
    unfold F3; rw [if_neg (by decide), if_neg (by decide), if_neg (by decide), if_neg (by decide)]
  rw [l, r, own_hex]; rfl
theorem own_e8_2 (c f : Int32) (hf : nar .byte f = f) : own_w c (2 : Int32) (fun _ => f) (8 : Int32).toNatClampNeg = F3 (8 : Int32) (2 : Int32) c f := by
  have l : own_w c (2 : Int32) (fun _ => f) (8 : Int32).toNatClampNeg = f := by
    unfold own_w; rw [if_neg (by decide), if_neg (by decide), if_neg (by decide), if_neg (by decide), if_neg (by decide), if_neg (by decide)]
  have r : F3 (8 : Int32) (2 : Int32) c f = nar .byte f := by
    unfold F3; rw [if_neg (by decide), if_pos (by decide)]
  rw [l, r, hf]
theorem own_e9_2 (c f : Int32) (hf : nar .byte f = f) : own_w c (2 : Int32) (fun _ => f) (9 : Int32).toNatClampNeg = F3 (9 : Int32) (2 : Int32) c f := by
  have l : own_w c (2 : Int32) (fun _ => f) (9 : Int32).toNatClampNeg = f := by
    unfold own_w; rw [if_neg (by decide), if_neg (by decide), if_neg (by decide), if_neg (by decide), if_neg (by decide), if_neg (by decide)]
  have r : F3 (9 : Int32) (2 : Int32) c f = nar .byte f := by
    unfold F3; rw [if_neg (by decide), if_pos (by decide)]
  rw [l, r, hf]
theorem own_e0_3 (c f : Int32) (hf : nar .byte f = f) : own_w c (3 : Int32) (fun _ => f) (0 : Int32).toNatClampNeg = F3 (0 : Int32) (3 : Int32) c f := by
  have l : own_w c (3 : Int32) (fun _ => f) (0 : Int32).toNatClampNeg = f := by
    unfold own_w; rw [if_neg (by decide), if_neg (by decide), if_neg (by decide), if_neg (by decide), if_neg (by decide), if_neg (by decide)]
  have r : F3 (0 : Int32) (3 : Int32) c f = nar .byte f := by
    unfold F3; rw [if_pos (by decide)]
  rw [l, r, hf]
theorem own_e1_3 (c f : Int32) (hf : nar .byte f = f) : own_w c (3 : Int32) (fun _ => f) (1 : Int32).toNatClampNeg = F3 (1 : Int32) (3 : Int32) c f := by
  have l : own_w c (3 : Int32) (fun _ => f) (1 : Int32).toNatClampNeg = f := by
    unfold own_w; rw [if_neg (by decide), if_neg (by decide), if_neg (by decide), if_neg (by decide), if_neg (by decide), if_neg (by decide)]
  have r : F3 (1 : Int32) (3 : Int32) c f = nar .byte f := by
    unfold F3; rw [if_pos (by decide)]
  rw [l, r, hf]
theorem own_e2_3 (c f : Int32) (hf : nar .byte f = f) : own_w c (3 : Int32) (fun _ => f) (2 : Int32).toNatClampNeg = F3 (2 : Int32) (3 : Int32) c f := by
  have l : own_w c (3 : Int32) (fun _ => f) (2 : Int32).toNatClampNeg = f := by
    unfold own_w; rw [if_neg (by decide), if_neg (by decide), if_neg (by decide), if_neg (by decide), if_neg (by decide), if_neg (by decide)]
  have r : F3 (2 : Int32) (3 : Int32) c f = nar .byte f := by
    unfold F3; rw [if_pos (by decide)]
  rw [l, r, hf]
theorem own_e3_3 (c f : Int32) (hf : nar .byte f = f) : own_w c (3 : Int32) (fun _ => f) (3 : Int32).toNatClampNeg = F3 (3 : Int32) (3 : Int32) c f := by
  have l : own_w c (3 : Int32) (fun _ => f) (3 : Int32).toNatClampNeg = nar .byte (92 : Int32) := by
    unfold own_w; rw [if_neg (by decide), if_neg (by decide), if_neg (by decide), if_neg (by decide), if_neg (by decide), if_pos (by decide)]
  have r : F3 (3 : Int32) (3 : Int32) c f = nar .byte (92 : Int32) := by
    unfold F3; rw [if_neg (by decide), if_neg (by decide), if_pos (by decide)]
  rw [l, r]
theorem own_e4_3 (c f : Int32) (hf : nar .byte f = f) : own_w c (3 : Int32) (fun _ => f) (4 : Int32).toNatClampNeg = F3 (4 : Int32) (3 : Int32) c f := by
  have l : own_w c (3 : Int32) (fun _ => f) (4 : Int32).toNatClampNeg = nar .byte (117 : Int32) := by
    unfold own_w; rw [if_neg (by decide), if_neg (by decide), if_neg (by decide), if_neg (by decide), if_pos (by decide)]
  have r : F3 (4 : Int32) (3 : Int32) c f = nar .byte (117 : Int32) := by
    unfold F3; rw [if_neg (by decide), if_neg (by decide), if_neg (by decide), if_pos (by decide)]
  rw [l, r]
theorem own_e5_3 (c f : Int32) (hf : nar .byte f = f) : own_w c (3 : Int32) (fun _ => f) (5 : Int32).toNatClampNeg = F3 (5 : Int32) (3 : Int32) c f := by
  have l : own_w c (3 : Int32) (fun _ => f) (5 : Int32).toNatClampNeg = nar .byte (own_hx ((c >>> (((12 : Int32) - ((4 : Int32) * (0 : Int32))) &&& 31)) &&& (15 : Int32)).toNatClampNeg) := by
    unfold own_w; rw [if_neg (by decide), if_neg (by decide), if_neg (by decide), if_pos (by decide)]
  have r : F3 (5 : Int32) (3 : Int32) c f = nar .byte (F4 ((c >>> (((4 : Int32) * ((5 : Int32) - ((5 : Int32) - (3 : Int32)))) &&& 31)) &&& (15 : Int32))) := by
    unfold F3; rw [if_neg (by decide), if_neg (by decide), if_neg (by decide), if_neg (by decide)]
  rw [l, r, own_hex]; rfl
theorem own_e6_3 (c f : Int32) (hf : nar .byte f = f) : own_w c (3 : Int32) (fun _ => f) (6 : Int32).toNatClampNeg = F3 (6 : Int32) (3 : Int32) c f := by
  have l : own_w c (3 : Int32) (fun _ => f) (6 : Int32).toNatClampNeg = nar .byte (own_hx ((c >>> (((12 : Int32) - ((4 : Int32) * ((0 : Int32) + (1 : Int32)))) &&& 31)) &&& (15 : Int32)).toNatClampNeg) := by
    unfold own_w; rw [if_neg (by decide), if_neg (by decide), if_pos (by decide)]
  have r : F3 (6 : Int32) (3 : Int32) c f = nar .byte (F4 ((c >>> (((4 : Int32) * ((5 : Int32) - ((6 : Int32) - (3 : Int32)))) &&& 31)) &&& (15 : Int32))) := by
    unfold F3; rw [if_neg (by decide), if_neg (by decide), if_neg (by decide), if_neg (by decide)]
  rw [l, r, own_hex]; rfl
theorem own_e7_3 (c f : Int32) (hf : nar .byte f = f) : own_w c (3 : Int32) (fun _ => f) (7 : Int32).toNatClampNeg = F3 (7 : Int32) (3 : Int32) c f := by
  have l : own_w c (3 : Int32) (fun _ => f) (7 : Int32).toNatClampNeg = nar .byte (own_hx ((c >>> (((12 : Int32) - ((4 : Int32) * (((0 : Int32) + (1 : Int32)) + (1 : Int32)))) &&& 31)) &&& (15 : Int32)).toNatClampNeg) := by
    unfold own_w; rw [if_neg (by decide), if_pos (by decide)]
  have r : F3 (7 : Int32) (3 : Int32) c f = nar .byte (F4 ((c >>> (((4 : Int32) * ((5 : Int32) - ((7 : Int32) - (3 : Int32)))) &&& 31)) &&& (15 : Int32))) := by
    unfold F3; rw [if_neg (by decide), if_neg (by decide), if_neg (by decide), if_neg (by decide)]
  rw [l, r, own_hex]; rfl
theorem own_e8_3 (c f : Int32) (hf : nar .byte f = f) : own_w c (3 : Int32) (fun _ => f) (8 : Int32).toNatClampNeg = F3 (8 : Int32) (3 : Int32) c f := by
  have l : own_w c (3 : Int32) (fun _ => f) (8 : Int32).toNatClampNeg = nar .byte (own_hx ((c >>> (((12 : Int32) - ((4 : Int32) * ((((0 : Int32) + (1 : Int32)) + (1 : Int32)) + (1 : Int32)))) &&& 31)) &&& (15 : Int32)).toNatClampNeg) := by
    unfold own_w; rw [if_pos (by decide)]
  have r : F3 (8 : Int32) (3 : Int32) c f = nar .byte (F4 ((c >>> (((4 : Int32) * ((5 : Int32) - ((8 : Int32) - (3 : Int32)))) &&& 31)) &&& (15 : Int32))) := by
    unfold F3; rw [if_neg (by decide), if_neg (by decide), if_neg (by decide), if_neg (by decide)]
  rw [l, r, own_hex]; rfl
theorem own_e9_3 (c f : Int32) (hf : nar .byte f = f) : own_w c (3 : Int32) (fun _ => f) (9 : Int32).toNatClampNeg = F3 (9 : Int32) (3 : Int32) c f := by
  have l : own_w c (3 : Int32) (fun _ => f) (9 : Int32).toNatClampNeg = f := by
    unfold own_w; rw [if_neg (by decide), if_neg (by decide), if_neg (by decide), if_neg (by decide), if_neg (by decide), if_neg (by decide)]
  have r : F3 (9 : Int32) (3 : Int32) c f = nar .byte f := by
    unfold F3; rw [if_neg (by decide), if_pos (by decide)]
  rw [l, r, hf]
theorem own_ok (i a c f : Int32) (u : Nat → Int32) (h : u i.toNatClampNeg = F3 i a c f) : F2 i a c f u = 1 := by
  simp only [F2]; rw [if_pos h]; rfl
def own_A (a c f : Int32) : Int32 := nar .boolean (if (F2 (0 : Int32) a c f (own_w c a (fun _ => f))) = (0 : Int32) then (0 : Int32) else (if (F2 (1 : Int32) a c f (own_w c a (fun _ => f))) = (0 : Int32) then (0 : Int32) else (if (F2 (2 : Int32) a c f (own_w c a (fun _ => f))) = (0 : Int32) then (0 : Int32) else (if (F2 (3 : Int32) a c f (own_w c a (fun _ => f))) = (0 : Int32) then (0 : Int32) else (if (F2 (4 : Int32) a c f (own_w c a (fun _ => f))) = (0 : Int32) then (0 : Int32) else (if (F2 (5 : Int32) a c f (own_w c a (fun _ => f))) = (0 : Int32) then (0 : Int32) else (if (F2 (6 : Int32) a c f (own_w c a (fun _ => f))) = (0 : Int32) then (0 : Int32) else (if (F2 (7 : Int32) a c f (own_w c a (fun _ => f))) = (0 : Int32) then (0 : Int32) else (if (F2 (8 : Int32) a c f (own_w c a (fun _ => f))) = (0 : Int32) then (0 : Int32) else (if (F2 (9 : Int32) a c f (own_w c a (fun _ => f))) = (0 : Int32) then (0 : Int32) else (1 : Int32)))))))))))
theorem own_Ak (a c f : Int32) (h0 : F2 (0 : Int32) a c f (own_w c a (fun _ => f)) = 1) (h1 : F2 (1 : Int32) a c f (own_w c a (fun _ => f)) = 1) (h2 : F2 (2 : Int32) a c f (own_w c a (fun _ => f)) = 1) (h3 : F2 (3 : Int32) a c f (own_w c a (fun _ => f)) = 1) (h4 : F2 (4 : Int32) a c f (own_w c a (fun _ => f)) = 1) (h5 : F2 (5 : Int32) a c f (own_w c a (fun _ => f)) = 1) (h6 : F2 (6 : Int32) a c f (own_w c a (fun _ => f)) = 1) (h7 : F2 (7 : Int32) a c f (own_w c a (fun _ => f)) = 1) (h8 : F2 (8 : Int32) a c f (own_w c a (fun _ => f)) = 1) (h9 : F2 (9 : Int32) a c f (own_w c a (fun _ => f)) = 1) : own_A a c f = 1 := by
  unfold own_A
  rw [h0, if_neg (show ¬ (1 : Int32) = 0 from by decide), h1, if_neg (show ¬ (1 : Int32) = 0 from by decide), h2, if_neg (show ¬ (1 : Int32) = 0 from by decide), h3, if_neg (show ¬ (1 : Int32) = 0 from by decide), h4, if_neg (show ¬ (1 : Int32) = 0 from by decide), h5, if_neg (show ¬ (1 : Int32) = 0 from by decide), h6, if_neg (show ¬ (1 : Int32) = 0 from by decide), h7, if_neg (show ¬ (1 : Int32) = 0 from by decide), h8, if_neg (show ¬ (1 : Int32) = 0 from by decide), h9, if_neg (show ¬ (1 : Int32) = 0 from by decide)]; rfl
theorem own_A0 (c f : Int32) (hf : nar .byte f = f) : own_A (0 : Int32) c f = 1 := own_Ak _ c f (own_ok _ _ _ _ _ (own_e0_0 c f hf)) (own_ok _ _ _ _ _ (own_e1_0 c f hf)) (own_ok _ _ _ _ _ (own_e2_0 c f hf)) (own_ok _ _ _ _ _ (own_e3_0 c f hf)) (own_ok _ _ _ _ _ (own_e4_0 c f hf)) (own_ok _ _ _ _ _ (own_e5_0 c f hf)) (own_ok _ _ _ _ _ (own_e6_0 c f hf)) (own_ok _ _ _ _ _ (own_e7_0 c f hf)) (own_ok _ _ _ _ _ (own_e8_0 c f hf)) (own_ok _ _ _ _ _ (own_e9_0 c f hf))
theorem own_A1 (c f : Int32) (hf : nar .byte f = f) : own_A (1 : Int32) c f = 1 := own_Ak _ c f (own_ok _ _ _ _ _ (own_e0_1 c f hf)) (own_ok _ _ _ _ _ (own_e1_1 c f hf)) (own_ok _ _ _ _ _ (own_e2_1 c f hf)) (own_ok _ _ _ _ _ (own_e3_1 c f hf)) (own_ok _ _ _ _ _ (own_e4_1 c f hf)) (own_ok _ _ _ _ _ (own_e5_1 c f hf)) (own_ok _ _ _ _ _ (own_e6_1 c f hf)) (own_ok _ _ _ _ _ (own_e7_1 c f hf)) (own_ok _ _ _ _ _ (own_e8_1 c f hf)) (own_ok _ _ _ _ _ (own_e9_1 c f hf))
theorem own_A2 (c f : Int32) (hf : nar .byte f = f) : own_A (2 : Int32) c f = 1 := own_Ak _ c f (own_ok _ _ _ _ _ (own_e0_2 c f hf)) (own_ok _ _ _ _ _ (own_e1_2 c f hf)) (own_ok _ _ _ _ _ (own_e2_2 c f hf)) (own_ok _ _ _ _ _ (own_e3_2 c f hf)) (own_ok _ _ _ _ _ (own_e4_2 c f hf)) (own_ok _ _ _ _ _ (own_e5_2 c f hf)) (own_ok _ _ _ _ _ (own_e6_2 c f hf)) (own_ok _ _ _ _ _ (own_e7_2 c f hf)) (own_ok _ _ _ _ _ (own_e8_2 c f hf)) (own_ok _ _ _ _ _ (own_e9_2 c f hf))
theorem own_A3 (c f : Int32) (hf : nar .byte f = f) : own_A (3 : Int32) c f = 1 := own_Ak _ c f (own_ok _ _ _ _ _ (own_e0_3 c f hf)) (own_ok _ _ _ _ _ (own_e1_3 c f hf)) (own_ok _ _ _ _ _ (own_e2_3 c f hf)) (own_ok _ _ _ _ _ (own_e3_3 c f hf)) (own_ok _ _ _ _ _ (own_e4_3 c f hf)) (own_ok _ _ _ _ _ (own_e5_3 c f hf)) (own_ok _ _ _ _ _ (own_e6_3 c f hf)) (own_ok _ _ _ _ _ (own_e7_3 c f hf)) (own_ok _ _ _ _ _ (own_e8_3 c f hf)) (own_ok _ _ _ _ _ (own_e9_3 c f hf))
theorem own_all (a c f : Int32) (hf : nar .byte f = f) (h1 : 0 ≤ a.toInt) (h2 : a.toInt ≤ 3) : own_A a c f = 1 := by
  obtain ⟨k, rfl⟩ := own_enum a 0 4 (by omega) (by omega)
  match k with
  | ⟨0, _⟩ => exact own_A0 c f hf
  | ⟨1, _⟩ => exact own_A1 c f hf
  | ⟨2, _⟩ => exact own_A2 c f hf
  | ⟨3, _⟩ => exact own_A3 c f hf
theorem own_plain (p1 p2 p3 : Int32) : F0 p1 p2 p3 = 1 := own_all (p2 &&& (3 : Int32)) (p1.toUInt32.toUInt16.toUInt32.toInt32) (p3.toInt8.toInt32) (own_bb p3) (own_at3 p2).1 (own_at3 p2).2
section OwnStart
variable {args : Array Value} {s : State} {t : Term} {a : Addr} {cl : Cell}
theorem own_fold (f : Nat → Option Bool) : ∀ (l : List Nat) (acc : Option Bool), l.foldl (fun acc i => match acc with | some true => f i | x => x) acc = some true → acc = some true ∧ ∀ i ∈ l, f i = some true
  | [], acc, h => ⟨h, fun _ q => nomatch q⟩
  | b :: l, acc, h => by
    have ih := own_fold f l _ h
    have e : acc = some true := by
      rcases acc with _ | (_ | _)
      · exact absurd ih.1 (by simp)
      · exact absurd ih.1 (by simp)
      · rfl
    subst e
    exact ⟨rfl, fun i q => (List.mem_cons.mp q).elim (fun z => z ▸ ih.1) (ih.2 i)⟩
theorem own_allv {c : Jvm.Cond} (ht : t.eval args s none [] s = some (.ref a)) (hc : s.arrayAt? a = some cl) (h : (Jvm.Cond.all t c).value args s none s [] = some true) (i : Nat) (hi : i < cl.slots.size) : c.value args s none s [i] = some true := by
  simp only [Cond.value, ht, hc] at h
  exact (own_fold _ _ _ h).2 i (List.mem_range.mpr hi)
theorem own_idx (j : Nat) : (Term.index 0).eval args s none [j] s = some (.int j.toInt32) := rfl
theorem own_or {c d : Jvm.Cond} {j : Nat} (h1 : c.value args s none s [j] = some false) (h : (Jvm.Cond.or c d).value args s none s [j] = some true) : d.value args s none s [j] = some true := by
  have e : (Jvm.Cond.or c d).value args s none s [j] = (match c.value args s none s [j] with | some false => d.value args s none s [j] | x => x) := rfl
  rw [e, h1] at h
  exact h
theorem own_start (ev : t.eval args s none [] s = some (.ref a)) (ev' : ∀ i, t.eval args s none [i] s = some (.ref a)) (A : Arr s s.heap a cl .byte) (h2 : (Jvm.Cond.eq (.length t) (.int 16)).value args s none s [] = some true)
    (h3 : (Jvm.Cond.all t (.or (.le (.int 10) (.index 0)) (.eq (.op1 .i2l (.elem t (.index 0))) (.op2 .ladd (.op1 .i2l (.index 0)) (.long 48))))).value args s none s [] = some true)
    (h4 : (Jvm.Cond.all t (.or (.lt (.index 0) (.int 10)) (.eq (.op1 .i2l (.elem t (.index 0))) (.op2 .ladd (.op1 .i2l (.index 0)) (.long 87))))).value args s none s [] = some true) : AF s s.heap a .byte 16 (fun j => .int (own_hx j)) := by
  have hA : s.arrayAt? a = some cl := A.fin (Vm.Alike.refl _)
  have hlen := Cond.eq_int (beq_iff_eq.mpr h2) rfl
  have h31 := Jvm.Free.SBG.length_lt ev hA hlen
  have hsz : cl.slots.size = 16 := by
    have e := len_f (first := s) (o := none) (idx := []) ev hA h31
    have e2 : cl.slots.size.toInt32 = 16 := by simpa using Option.some.inj (e.symm.trans hlen)
    have := congrArg Int32.toInt e2
    rw [len_toInt h31, show (16 : Int32).toInt = 16 from rfl] at this; omega
  refine ⟨cl, A, hsz, fun j hj => ?_⟩
  have w3 := own_allv ev hA h3 j (by omega)
  have w4 := own_allv ev hA h4 j (by omega)
  have hjt : j.toInt32.toInt = j := len_toInt (by omega)
  have hn : ¬ j.toInt32 < 0 := by rw [Int32.lt_iff_toInt_lt, hjt, show (0 : Int32).toInt = 0 from rfl]; omega
  have hc : j.toInt32.toNatClampNeg = j := by simp only [Int32.toNatClampNeg, hjt]; omega
  have hel : (Term.elem t (.index 0)).eval args s none [j] s = cl.slots[j]? := by rw [elem_f (ev' j) (own_idx j) hA hn, hc]
  obtain ⟨v, hv⟩ : ∃ v, cl.slots[j]? = some v := ⟨_, Array.getElem?_eq_getElem (by omega)⟩
  have key : ∀ (K : Int64), (Jvm.Cond.eq (.op1 .i2l (.elem t (.index 0))) (.op2 .ladd (.op1 .i2l (.index 0)) (.long K))).value args s none s [j] = some true → ∃ x : Int32, v = .int x ∧ x.toInt64 = j.toInt32.toInt64 + K := by
    intro K h
    have a1 := op1_f (f := .i2l) (first := s) (o := none) (hel.trans hv)
    have b1 := op1_f (f := .i2l) (first := s) (o := none) (own_idx (args := args) (s := s) j)
    have b2 : (Term.op2 .ladd (.op1 .i2l (.index 0)) (.long K)).eval args s none [j] s = some (.long (j.toInt32.toInt64 + K)) := (op2_f (f := .ladd) (b := .long K) (y := .long K) (b1.trans rfl) rfl).trans rfl
    cases v with
    | int x =>
      refine ⟨x, rfl, ?_⟩
      have a2 : (Term.op1 .i2l (.elem t (.index 0))).eval args s none [j] s = some (.long x.toInt64) := a1
      exact gotT (eq_L a2 b2) h
    | _ =>
      exfalso
      simp only [Cond.value, a1, b2, Unary.apply] at h
      cases h
  have fin : ∀ (K : Int64) (N : Nat), K.toInt = N → N < 1000 → v = .int (Int32.ofNat (N + j)) ∨ ¬ (Jvm.Cond.eq (.op1 .i2l (.elem t (.index 0))) (.op2 .ladd (.op1 .i2l (.index 0)) (.long K))).value args s none s [j] = some true := by
    intro K N hK hN
    by_cases h : (Jvm.Cond.eq (.op1 .i2l (.elem t (.index 0))) (.op2 .ladd (.op1 .i2l (.index 0)) (.long K))).value args s none s [j] = some true
    · obtain ⟨x, rfl, hx⟩ := key K h
      refine Or.inl (congrArg Value.int (Int32.toInt_inj.mp ?_))
      have e1 := congrArg Int64.toInt hx
      have e2 := c_ladd j.toInt32.toInt64 K
      have r := rng64 (j.toInt32.toInt64 + K)
      rw [c_i2l, hjt, hK] at e2
      rw [c_i2l] at e1
      have e3 : (Int32.ofNat (N + j)).toInt = ((N + j : Nat) : Int) := Int32.toInt_ofNat_small (by omega)
      rw [e3]; omega
    · exact Or.inr h
  rw [hv]
  refine congrArg some ?_
  by_cases c10 : j < 10
  · have f1 : (Jvm.Cond.le (.int 10) (.index 0)).value args s none s [j] = some false := by
      have : (Jvm.Cond.le (.int 10) (.index 0)).value args s none s [j] = some (decide ((10 : Int32) ≤ j.toInt32)) := rfl
      rw [this]
      refine congrArg some (decide_eq_false ?_)
      rw [Int32.le_iff_toInt_le, hjt, show (10 : Int32).toInt = 10 from rfl]; omega
    have g : (Jvm.Cond.eq (.op1 .i2l (.elem t (.index 0))) (.op2 .ladd (.op1 .i2l (.index 0)) (.long 48))).value args s none s [j] = some true := by
      exact own_or f1 w3
    rcases fin 48 48 rfl (by decide) with q | q
    · rw [q]; show _ = Value.int (Int32.ofNat (if j < 10 then 48 + j else 87 + j)); rw [if_pos c10]
    · exact absurd g q
  · have f1 : (Jvm.Cond.lt (.index 0) (.int 10)).value args s none s [j] = some false := by
      have : (Jvm.Cond.lt (.index 0) (.int 10)).value args s none s [j] = some (decide (j.toInt32 < (10 : Int32))) := rfl
      rw [this]
      refine congrArg some (decide_eq_false ?_)
      rw [Int32.lt_iff_toInt_lt, hjt, show (10 : Int32).toInt = 10 from rfl]; omega
    have g : (Jvm.Cond.eq (.op1 .i2l (.elem t (.index 0))) (.op2 .ladd (.op1 .i2l (.index 0)) (.long 87))).value args s none s [j] = some true := by
      exact own_or f1 w4
    rcases fin 87 87 rfl (by decide) with q | q
    · rw [q]; show _ = Value.int (Int32.ofNat (if j < 10 then 48 + j else 87 + j)); rw [if_neg c10]
    · exact absurd g q
end OwnStart
theorem own_fin {Z : State} (p1 : Int32) (p2 : Int32) (p3 : Int32) (w : Addr) (h0 : Heap) (n0 : Nat) (h : Heap) (L : List Loc) {v : Option Value} (q : Q0 Z p1 p2 p3 w h0 n0 v h L) : v = some (.int (1 : Int32)) ∧ Fr n0 L := by
  obtain ⟨rfl, N⟩ := q
  exact ⟨by rw [own_plain], N⟩
set_option maxRecDepth 65536 in
set_option maxHeartbeats 40000000 in
theorem comes_1 {Post : Tables → Env → Array Value → State → Outcome → State → Prop} (hpost : ∀ tb e args s v u, (limb_1_1.after args s (.returned v) u = true ∧ limb_1_2.after args s (.returned v) u = true ∧ True) → FrameEnd s (.returned v) u (Jvm.fieldLocs frame_1_writes args s ++ Jvm.arrayLocs frame_1_arrays args s ++ Jvm.staticLocs frame_1_statics s) 16 128 → Post tb e args s (.returned v) u) :
    ArmFor flags0 classFile x code maxLocals ret World_1 tables_1 room_1 Calls_1 rest_1 Pre_1 Post := by
  intro l hfl _ _ p e ha hc hk s m args below hf hA hF happ hP
  obtain ⟨hcalls, hrest, hpre⟩ := hP
  obtain ⟨-, -, -, hnamed, -, -, -, hat⟩ := (Spec.applies_iff hf).mp happ
  obtain ⟨hg, hn⟩ := and_e (Cond.before_iff.mp (show (Jvm.Cond.and given_1 narrow_1).before args s = true from hpre))
  obtain ⟨ga0, gb0⟩ := and_e hg
  obtain ⟨ga1, gb1⟩ := and_e gb0
  obtain ⟨ga2, gb2⟩ := and_e gb1
  obtain ⟨w0, w1, w2, rfl⟩ : ∃ w0 w1 w2 : Value, args = #[w0, w1, w2] := by
    have hs : args.size = 3 := by simpa [Cond.value, given_1] using ga0
    obtain ⟨L⟩ := args
    match L, hs with
    | [w0, w1, w2], _ => exact ⟨w0, w1, w2, rfl⟩
  have hw := fun d (hd : d ∈ tables_1) => atoms_spec (ws := Jvm.Cond.code x code maxLocals ret :: tables_1) hat d (List.mem_cons_of_mem _ hd)
  have hfit : Fit s := fun {y c} hc i hi => by
    obtain ⟨ha, rfl⟩ := Array.getElem?_eq_some_iff.mp hc
    have q := List.all_eq_true.mp ((Array.all_eq_true_iff_forall_mem.mp hF) _ (Array.getElem_mem ha)) i (List.mem_range.mpr hi)
    simpa [Array.getElem?_eq_getElem hi] using q
  obtain ⟨i0, ei0⟩ := is_v ga1
  obtain rfl : w0 = (.int i0) := Option.some.inj ei0
  obtain ⟨i1, ei1⟩ := is_v ga2
  obtain rfl : w1 = (.int i1) := Option.some.inj ei1
  obtain ⟨i2, ei2⟩ := is_v gb2
  obtain rfl : w2 = (.int i2) := Option.some.inj ei2
  obtain ⟨hn1, hn2⟩ := and_e hn
  obtain ⟨hn2, hn3⟩ := and_e hn2
  obtain ⟨hn3, hn4⟩ := and_e hn3
  obtain ⟨wL, evL⟩ := arr_v hn1
  obtain ⟨cL, AL⟩ := Arr.start evL hn1
  have SL : Sta s s.heap "com/example/relicary/relicary/siard/SiardText" "HEX_DIGITS" "[B" (.ref wL) := Sta.start evL (Or.inr ⟨hw _ (List.mem_of_getElem? (i := 3) rfl), hw _ (List.mem_of_getElem? (i := 6) rfl)⟩)
  have DL : AF s s.heap wL .byte 16 (fun j => .int (own_hx j)) := own_start evL (fun _ => evL) AL hn2 hn3 hn4
  obtain ⟨n, o, h1, h2, h3, v, L, rfl, hQ, hq⟩ := rm0 l s _ hw tables_1 i0 i1 i2 wL s.heap s.heap.size (Nat.le_refl _) SL DL p e ha hc hk s m _ below hf ((Spec.applies_iff_loose hf).mp happ).1 ⟨rfl, State.Warmed39.refl s, rfl⟩ trivial
  obtain ⟨rfl, N⟩ := own_fin i0 i1 i2 wL _ _ _ _ hQ
  refine ⟨n, _, h1, h2, h3, hpost _ _ _ _ _ _ ⟨Cond.after_iff.mpr rfl, Cond.after_iff.mpr (eq_i res_at (Term.int_eval (1)) rfl), trivial⟩ ⟨hq.1, hq.2.1, (hq.2.2.sift fun y hy => Or.inr (N y hy)).mono (by decide) (by decide)⟩⟩
theorem main_1_1 : Claimed_1_1 := comes_1 fun _ _ _ _ _ _ h hF => ⟨h.1, hF⟩
theorem main_1_2 : Claimed_1_2 := comes_1 fun _ _ _ _ _ _ h hF => ⟨h.2.1, hF⟩
end Jvm.Pilot.@@N@@
namespace Jvm.Pilot.@@N@@
open Jvm Jvm.ClassFile Sem Op Lib Jvm.Free Jvm.Stand Jvm.Pilot.@@N@@.Jvm.D
/-! MADE BY PROGRAM (witnessworld.py) out of the Statement's table words and the real class files: 9 classes; the members and pool entries that the words name. The judged class is class 1, her method 1. -/
namespace start1
open Jvm.ClassFile
def u (s : String) : CpInfo := .utf8 (stringToUtf16 s)
/-- a pool by its gaps: so many unusable entries, then the entry; so many at the end -/
def gap : Nat → List CpInfo → List CpInfo
  | 0, r => r
  | n + 1, r => .unusable :: gap n r
def poolList (es : List (Nat × CpInfo)) (last : Nat) : List CpInfo := es.foldr (fun e r => gap e.1 (e.2 :: r)) (gap last [])
def pool (es : List (Nat × CpInfo)) (last : Nat) : Array CpInfo := ⟨poolList es last⟩
def fileOf (pool : Array CpInfo) (this : Nat) (attrs : Array Attribute := #[]) (ms : Array MethodInfo := #[]) (fl : Nat := 33) (sup : Nat := 0) (ifs : Array Nat := #[]) (fds : Array FieldInfo := #[]) : ClassFile where
  minorVersion := 0
  majorVersion := 65
  constantPool := pool
  accessFlags := fl
  thisClass := this
  superClass := sup
  interfaces := ifs
  fields := fds
  methods := ms
  attributes := attrs
def plain (name : String) (sup : Option ClassId) : Class where
  name := name
  kind := .ordinary
  loader := none
  accessFlags := 33
  super := sup
  interfaces := #[]
  cf := none
  fields := #[]
  methods := #[]
  instanceTypes := #[]
  staticTypes := #[]
  resolved := #[]
  callSites := []
  init := .initialized
  statics := none
  mirror := none

def pool0 : Array CpInfo := pool [(5, u "<init>"), (0, u "()V"), (1, .class_ 10), (1, u "java/lang/Object")] 113

def k0m0 : Method := { name := "<init>", desc := "()V", sig := { parameters := [], returnType := none }, accessFlags := 1, code := none }
/-- java/lang/Object -/
def k0 : Class := { plain "java/lang/Object" none with
  accessFlags := 33
  interfaces := #[]
  cf := some (fileOf pool0 8 #[] #[{ accessFlags := 1, nameIndex := 5, descriptorIndex := 6, attributes := #[] }] 33 0 #[] #[])
  fields := #[]
  methods := #[k0m0]
  instanceTypes := #[]
  staticTypes := #[]
  resolved := Array.replicate 124 none
  statics := none }

def pool1 : Array CpInfo := pool [(2, .class_ 4), (1, u "java/lang/Object"), (0, u "<init>"), (0, u "()V"), (0, .methodref 8 9), (0, .class_ 10), (0, .nameAndType 11 12), (0, u "com/example/relicary/relicary/siard/SiardText"), (0, u "escape"), (0, u "(C[BI)V"), (0, .methodref 14 15), (0, .class_ 16), (0, .nameAndType 17 18), (0, u "com/example/relicary/relicary/siard/SiardTextEscapePinLaw"), (0, u "ok"), (0, u "([BIICB)Z"), (0, .methodref 14 20), (0, .nameAndType 21 22), (0, u "expected"), (0, u "(IICB)B"), (0, .methodref 14 24), (0, .nameAndType 25 26), (0, u "hex"), (0, u "(I)B"), (2, u "law"), (0, u "(III)Z")] 5

def k1m0 : Method := { name := "<init>", desc := "()V", sig := { parameters := [], returnType := none }, accessFlags := 1, code := none }
def k1c1 : Code := { maxStack := 5, maxLocals := 7, code := code, exceptionTable := #[], attributes := #[] }
def k1m1 : Method := { name := "law", desc := "(III)Z", sig := { parameters := [.int, .int, .int], returnType := some .boolean }, accessFlags := 9, code := some k1c1 }
def k1c2 : Code := { maxStack := 5, maxLocals := 5, code := method_3_code, exceptionTable := #[], attributes := #[] }
def k1m2 : Method := { name := "ok", desc := "([BIICB)Z", sig := { parameters := [(.array .byte), .int, .int, .char, .byte], returnType := some .boolean }, accessFlags := 10, code := some k1c2 }
def k1c3 : Code := { maxStack := 3, maxLocals := 7, code := method_4_code, exceptionTable := #[], attributes := #[] }
def k1m3 : Method := { name := "expected", desc := "(IICB)B", sig := { parameters := [.int, .int, .char, .byte], returnType := some .byte }, accessFlags := 10, code := some k1c3 }
def k1c4 : Code := { maxStack := 3, maxLocals := 1, code := method_5_code, exceptionTable := #[], attributes := #[] }
def k1m4 : Method := { name := "hex", desc := "(I)B", sig := { parameters := [.int], returnType := some .byte }, accessFlags := 10, code := some k1c4 }
/-- com/example/relicary/relicary/siard/SiardTextEscapePinLaw -/
def k1 : Class := { plain "com/example/relicary/relicary/siard/SiardTextEscapePinLaw" (some 0) with
  accessFlags := 49
  interfaces := #[]
  cf := some (fileOf pool1 14 #[] #[{ accessFlags := 1, nameIndex := 5, descriptorIndex := 6, attributes := #[] }, { accessFlags := 9, nameIndex := 29, descriptorIndex := 30, attributes := #[] }, { accessFlags := 10, nameIndex := 17, descriptorIndex := 18, attributes := #[] }, { accessFlags := 10, nameIndex := 21, descriptorIndex := 22, attributes := #[] }, { accessFlags := 10, nameIndex := 25, descriptorIndex := 26, attributes := #[] }] 49 2 #[] #[])
  fields := #[]
  methods := #[k1m0, k1m1, k1m2, k1m3, k1m4]
  instanceTypes := #[]
  staticTypes := #[]
  resolved := Array.replicate 36 none
  statics := none }

def pool2 : Array CpInfo := pool [(2, .class_ 4), (1, u "java/lang/Object"), (0, u "<init>"), (0, u "()V"), (1, .class_ 10), (1, u "com/example/relicary/relicary/siard/SiardText$Escaping"), (3, .class_ 16), (1, u "com/example/relicary/relicary/siard/SiardText"), (0, u "escape"), (50, u "HEX"), (0, u "Ljava/util/HexFormat;"), (20, u "(C[BI)V"), (9, .fieldref 14 101), (0, .nameAndType 102 103), (0, u "HEX_DIGITS"), (0, u "[B"), (40, u "ESCAPE_LENGTH"), (0, u "I")] 29

def k2m0 : Method := { name := "<init>", desc := "()V", sig := { parameters := [], returnType := none }, accessFlags := 2, code := none }
def k2c1 : Code := { maxStack := 7, maxLocals := 4, code := prog_101_method_7_code, exceptionTable := #[], attributes := #[] }
def k2m1 : Method := { name := "escape", desc := "(C[BI)V", sig := { parameters := [.char, (.array .byte), .int], returnType := none }, accessFlags := 8, code := some k2c1 }
/-- com/example/relicary/relicary/siard/SiardText -/
def k2 : Class := { plain "com/example/relicary/relicary/siard/SiardText" (some 0) with
  accessFlags := 48
  interfaces := #[]
  cf := some (fileOf pool2 14 #[.nestMembers #[8]] #[{ accessFlags := 2, nameIndex := 5, descriptorIndex := 6, attributes := #[] }, { accessFlags := 8, nameIndex := 17, descriptorIndex := 90, attributes := #[] }] 48 2 #[] #[{ accessFlags := 26, nameIndex := 68, descriptorIndex := 69, attributes := #[] }, { accessFlags := 24, nameIndex := 144, descriptorIndex := 145, attributes := #[] }, { accessFlags := 26, nameIndex := 102, descriptorIndex := 103, attributes := #[] }])
  fields := #[{ name := "HEX", type := (.object "java/util/HexFormat"), accessFlags := 26, slot := 0, constantValue := 0 }, { name := "ESCAPE_LENGTH", type := .int, accessFlags := 24, slot := 1, constantValue := 0 }, { name := "HEX_DIGITS", type := (.array .byte), accessFlags := 26, slot := 2, constantValue := 0 }]
  methods := #[k2m0, k2m1]
  instanceTypes := #[]
  staticTypes := #[(.object "java/util/HexFormat"), .int, (.array .byte)]
  resolved := Array.replicate 175 none
  statics := some 0 }

def pool3 : Array CpInfo := pool [(1, u "java/lang/Cloneable"), (0, .class_ 1), (0, u "java/lang/Object"), (0, .class_ 3)] 3

/-- java/lang/Cloneable -/
def k3 : Class := { plain "java/lang/Cloneable" (some 0) with
  accessFlags := 1537
  interfaces := #[]
  cf := some (fileOf pool3 2 #[] #[] 1537 4 #[] #[])
  fields := #[]
  methods := #[]
  instanceTypes := #[]
  staticTypes := #[]
  resolved := Array.replicate 8 none
  statics := none }

def pool4 : Array CpInfo := pool [(1, u "java/io/Serializable"), (0, .class_ 1), (0, u "java/lang/Object"), (0, .class_ 3)] 3

/-- java/io/Serializable -/
def k4 : Class := { plain "java/io/Serializable" (some 0) with
  accessFlags := 1537
  interfaces := #[]
  cf := some (fileOf pool4 2 #[] #[] 1537 4 #[] #[])
  fields := #[]
  methods := #[]
  instanceTypes := #[]
  staticTypes := #[]
  resolved := Array.replicate 8 none
  statics := none }

/-- the primitive byte -/
def k5 : Class := { plain "byte" none with kind := .primitive 'B', accessFlags := 0x411 }
/-- [B -/
def k6 : Class := { plain "[B" (some 0) with kind := .array 5 .byte, interfaces := #[3, 4], accessFlags := 1041 }

/-- the primitive int -/
def k7 : Class := { plain "int" none with kind := .primitive 'I', accessFlags := 0x411 }
/-- [I -/
def k8 : Class := { plain "[I" (some 0) with kind := .array 7 .int, interfaces := #[3, 4], accessFlags := 1041 }

def heap : Heap := #[{ cls := 2, slots := #[.null, .int 0, .ref 1], vm := .statics 2 },
  { cls := 6, slots := #[.int 48, .int 49, .int 50, .int 51, .int 52, .int 53, .int 54, .int 55, .int 56, .int 57, .int 97, .int 98, .int 99, .int 100, .int 101, .int 102], vm := .none }]
def classes : Array Class := #[k0, k1, k2, k3, k4, k5, k6, k7, k8]
def interned : List (Array UInt16 × Addr) := []
def slotsUsed : Nat := 19
def theMethod : MethodId := ⟨1, 1⟩
def args0 : Array Value := #[.int 25, .int 7, .int 7]
def aboutOver (below : List Frame) : State where
  vm := { classes := classes, interned := interned.toArray }
  heap := heap
  slotsUsed := slotsUsed
  threads := #[{ frames := .invoking theMethod args0 :: below }]
def below0 : List Frame := [.native { method := ⟨0, 0⟩, args := #[] }]
def about1 : State := aboutOver below0
def p0 : Program := .bare "" "" ""
def e0 : Env := launch0.env 0 0 0
theorem w_frames : about1.frames = Frame.invoking theMethod args0 :: below0 := rfl
set_option maxRecDepth 65536 in
theorem w_args : argsFit about1.vm theMethod args0 = true := by decide +kernel
set_option maxRecDepth 65536 in
theorem w_heap : heapFits about1 = true := by decide +kernel
set_option maxRecDepth 65536 in
theorem w_runnable : about1.curStatus? = some .runnable := by decide +kernel
set_option maxRecDepth 65536 in
theorem w_alone : about1.alone = true := by decide +kernel
set_option maxRecDepth 65536 in
theorem w_named : about1.methodNamed? x = some theMethod := by decide +kernel
set_option maxRecDepth 65536 in
theorem w_hears : about1.hears theMethod below0 = true := by decide +kernel
set_option maxRecDepth 65536 in
theorem w_ripe : about1.ripe theMethod args0 below0 = true := by decide +kernel
theorem w_running : about1.status = .running := rfl
set_option maxRecDepth 65536 in
theorem w_room : about1.hasRoom e0.platform room_1 = true :=
  launch0.hasRoom_least _ room_1 (by decide +kernel) (by decide +kernel) (by decide +kernel) (by decide +kernel) (by decide +kernel) (by decide +kernel)
theorem allAtoms_all (ts : List Jvm.Cond) (a : Array Jvm.Value) (st : Jvm.State) : (allAtoms ts).before a st = ts.all (fun c => c.before a st) := by
  induction ts with
  | nil => rfl
  | cons c t ih =>
    show (Jvm.Cond.and c (allAtoms t)).before a st = _
    rw [Jvm.Cond.before_and, ih, List.all_cons]
def words1 : List Jvm.Cond := Jvm.Cond.code x code maxLocals ret :: tables_1
/-- a 'code' word, met by the world's own term for the bytes: nothing is compared byte by byte -/
theorem code_word {y : MethodName} {bytes : ByteArray} {mx : Nat} {rt : Option FieldType} {a : Array Value} {s : State} {m : MethodId} {meth : Method} {c : Code} (h1 : s.methodNamed? y = some m) (h2 : s.vm.method? m = some meth) (h3 : meth.code = some c) (h4 : c.code = bytes)
    (h5 : (c.maxLocals == mx && c.exceptionTable.isEmpty && decide (c.maxStack ≤ mostOperands) && decide (meth.sig.returnType = rt) && !meth.locks && decide (parseMethodDescriptor y.desc = some meth.sig)) = true) : (Jvm.Cond.code y bytes mx rt).before a s = true := by
  simp only [Bool.and_eq_true, beq_iff_eq, Bool.not_eq_true', decide_eq_true_eq] at h5
  obtain ⟨⟨⟨⟨⟨g1, g2⟩, g3⟩, g4⟩, g5⟩, g6⟩ := h5
  simp [Cond.before, Cond.holds, Cond.value, h1, h2, h3, h4, g1, g2, g3, g4, g5, g6]
def isCode : Jvm.Cond → Bool
  | .code _ _ _ _ => true
  | _ => false
theorem all_split {L : List Jvm.Cond} {P : Jvm.Cond → Bool} (h1 : L.all (fun c => isCode c || P c) = true) (h2 : ∀ c ∈ L.filter isCode, P c = true) : L.all P = true := by
  refine List.all_eq_true.mpr fun c hc => ?_
  have h := List.all_eq_true.mp h1 c hc
  rcases Bool.eq_false_or_eq_true (isCode c) with hi | hi
  · exact h2 c (List.mem_filter.mpr ⟨hc, hi⟩)
  · simpa [hi] using h
set_option maxRecDepth 65536 in
theorem w_c0 : (Jvm.Cond.code x code maxLocals ret).before args0 about1 = true := code_word (m := ⟨1, 1⟩) (meth := k1m1) (c := k1c1) (by decide +kernel) rfl rfl rfl (by decide +kernel)
set_option maxRecDepth 65536 in
theorem w_c1 : (Jvm.Cond.code ({ cls := "com/example/relicary/relicary/siard/SiardText", name := "escape", desc := "(C[BI)V" } : Jvm.MethodName) prog_101_method_7_code (4 : Nat) (Option.none : Option Jvm.ClassFile.FieldType)).before args0 about1 = true := code_word (m := ⟨2, 1⟩) (meth := k2m1) (c := k2c1) (by decide +kernel) rfl rfl rfl (by decide +kernel)
set_option maxRecDepth 65536 in
theorem w_c2 : (Jvm.Cond.code ({ cls := "com/example/relicary/relicary/siard/SiardTextEscapePinLaw", name := "ok", desc := "([BIICB)Z" } : Jvm.MethodName) method_3_code (5 : Nat) (Option.some Jvm.ClassFile.FieldType.boolean)).before args0 about1 = true := code_word (m := ⟨1, 2⟩) (meth := k1m2) (c := k1c2) (by decide +kernel) rfl rfl rfl (by decide +kernel)
set_option maxRecDepth 65536 in
theorem w_c3 : (Jvm.Cond.code ({ cls := "com/example/relicary/relicary/siard/SiardTextEscapePinLaw", name := "expected", desc := "(IICB)B" } : Jvm.MethodName) method_4_code (7 : Nat) (Option.some Jvm.ClassFile.FieldType.byte)).before args0 about1 = true := code_word (m := ⟨1, 3⟩) (meth := k1m3) (c := k1c3) (by decide +kernel) rfl rfl rfl (by decide +kernel)
set_option maxRecDepth 65536 in
theorem w_c4 : (Jvm.Cond.code ({ cls := "com/example/relicary/relicary/siard/SiardTextEscapePinLaw", name := "hex", desc := "(I)B" } : Jvm.MethodName) method_5_code (1 : Nat) (Option.some Jvm.ClassFile.FieldType.byte)).before args0 about1 = true := code_word (m := ⟨1, 4⟩) (meth := k1m4) (c := k1c4) (by decide +kernel) rfl rfl rfl (by decide +kernel)
def codes1 : List Jvm.Cond := [Jvm.Cond.code x code maxLocals ret, Jvm.Cond.code ({ cls := "com/example/relicary/relicary/siard/SiardText", name := "escape", desc := "(C[BI)V" } : Jvm.MethodName) prog_101_method_7_code (4 : Nat) (Option.none : Option Jvm.ClassFile.FieldType), Jvm.Cond.code ({ cls := "com/example/relicary/relicary/siard/SiardTextEscapePinLaw", name := "ok", desc := "([BIICB)Z" } : Jvm.MethodName) method_3_code (5 : Nat) (Option.some Jvm.ClassFile.FieldType.boolean), Jvm.Cond.code ({ cls := "com/example/relicary/relicary/siard/SiardTextEscapePinLaw", name := "expected", desc := "(IICB)B" } : Jvm.MethodName) method_4_code (7 : Nat) (Option.some Jvm.ClassFile.FieldType.byte), Jvm.Cond.code ({ cls := "com/example/relicary/relicary/siard/SiardTextEscapePinLaw", name := "hex", desc := "(I)B" } : Jvm.MethodName) method_5_code (1 : Nat) (Option.some Jvm.ClassFile.FieldType.byte)]
set_option maxRecDepth 65536 in
theorem codes_eq : words1.filter isCode = codes1 := rfl
theorem w_codes : ∀ c ∈ words1.filter isCode, c.before args0 about1 = true := by
  rw [codes_eq]
  intro c hc
  simp only [codes1, List.mem_cons, List.not_mem_nil, or_false] at hc
  rcases hc with rfl | rfl | rfl | rfl | rfl
  · exact w_c0
  · exact w_c1
  · exact w_c2
  · exact w_c3
  · exact w_c4
set_option maxRecDepth 65536 in
theorem w_t1 : words1.all (fun c => isCode c || c.before args0 about1) = true := by decide +kernel
theorem w_tables : (allAtoms (Jvm.Cond.code x code maxLocals ret :: tables_1)).before args0 about1 = true := by
  rw [allAtoms_all]
  show words1.all (fun c => c.before args0 about1) = true
  refine all_split ?_ w_codes
  rw [w_t1]
set_option maxRecDepth 65536 in
theorem w_case : (Jvm.Cond.and given_1 narrow_1).before args0 about1 = true := by decide +kernel
theorem w_applies : (headSpec (Jvm.Cond.code x code maxLocals ret :: tables_1) room_1).applies x e0.platform about1 = true :=
  (Spec.applies_iff w_frames).mpr ⟨w_running, w_runnable, w_alone, w_named, w_hears, w_ripe, w_room, w_tables⟩
theorem atStart : AtStart classFile x code maxLocals ret World_1 tables_1 room_1 Calls_1 rest_1 Pre_1 launch0 p0 e0 about1 theMethod args0 below0 :=
  ⟨lists_1, trivial, launch0.admits_env _ _ _, launch0.least_env, fairChoices_fair.cas, fairChoices_fair.clock, w_frames, w_args, w_heap, w_applies, trivial, trivial, w_case⟩
end start1
theorem witness_1 : WitnessClaimed_1 := ⟨start1.p0, start1.e0, start1.about1, start1.theMethod, start1.args0, start1.below0, start1.atStart⟩
end Jvm.Pilot.@@N@@
