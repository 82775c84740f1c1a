import JvmDerived
import JvmDerived.Pilot.@@N@@Statement
import JvmDerived.Pilot.@@N@@Code
set_option linter.unusedVariables false
set_option linter.unusedSimpArgs false
namespace Jvm.RoadKit
open Sem ClassFile Op Lib Jvm.Stand Jvm.Free Jvm.LawKit
section New
variable {p : Program} {l : Launch} {e : Env} {R : Room} {s : State} {m : MethodId} {args : Array Value} {below : List Frame} {meth : Method} {c : Code} {T : State} {locs : List Loc} {cells slots : Nat}
theorem retI (X : Stand p l e R s m args below meth c T locs cells slots) (hx : p.tables.exec = Jvm.exec) {pc : Nat} {Ls : Array Slot} {z : Int32} {rest : List Value} (hret : meth.sig.returnType = some .int) (hd : decode c.code pc = .ok (.ireturn, 1)) {fs : List Frame}
    (hl : ∀ (f : JFrame) (acts : List Action), f.method = m → f.locked = none → f.entered = [] → (doReturn e (T.setTop f) acts (some (.int z))).1 = T.setFrames fs) : Steps p.tables e below (T.setTop (mkF m pc Ls (.int z :: rest))) (T.setFrames fs) := by
  have hm' : T.vm.method? m = some meth := X.method'
  have hn : narrow .int (.int z) = .int z := rfl
  show Steps p.tables e below (T.setTop { method := m, pc := pc, locals := Ls, stack := _ :: rest, locked := none }) _
  jvm_step X.here [X.here.top, hx, hd, hm', hret, hn]
  first | (intro acts; rw [hl _ acts rfl rfl rfl]) | rw [hl _ _ rfl rfl rfl]
  exact Steps.refl _
end New
end Jvm.RoadKit
namespace Jvm.Pilot.@@N@@
open Jvm Jvm.ClassFile Sem Op Lib Jvm.Free Jvm.Stand Jvm.LawKit Jvm.RoadKit Bundle Jvm.Pilot.@@N@@.Jvm.D
section OwnArrays
variable {Z : State} {h h' : Heap} {a b : Addr} {ty : FieldType} {n sl : Nat} {f : Nat → Value} {v : Value} {ws : List Addr}
/-- an array of n places, by what each holds -/
def AF (Z : State) (h : Heap) (a : Addr) (ty : FieldType) (n : Nat) (f : Nat → Value) : Prop := ∃ c : Cell, Arr Z h a c ty ∧ c.slots.size = n ∧ ∀ j, j < n → c.slots[j]? = some (f j)
theorem AF.new {k : ClassId} {z : Int32} (A : Arr Z h a (newA k ty z) ty) (q : ¬ z < 0) : AF Z h a ty z.toNatClampNeg (fun _ => defaultValue ty) := by
  obtain ⟨c, A', -, S, -, H, -⟩ := Arv.new A q
  exact ⟨c, A', S, fun j hj => H j (by rw [S]; exact hj)⟩
theorem AF.of_arv {k : ClassId} {z : Int32} {vs : List Value} {d : Value} (V : Arv Z h a k ty z vs d) : AF Z h a ty z.toNatClampNeg (fun j => vs.getD j d) := by
  obtain ⟨c, A, -, S, -, H, -⟩ := V
  exact ⟨c, A, S, fun j hj => H j (by rw [S]; exact hj)⟩
theorem AF.lt (F : AF Z h a ty n f) : a < h.size := by obtain ⟨c, A, -⟩ := F; exact A.lt
theorem AF.ext (F : AF Z h a ty n f) (E : Ext h h') : AF Z h' a ty n f := by obtain ⟨c, A, r⟩ := F; exact ⟨c, A.ext E, r⟩
theorem AF.other (F : AF Z h b ty n f) (W : Wr h h' a sl v) (q : b ≠ a) : AF Z h' b ty n f := by obtain ⟨c, A, r⟩ := F; exact ⟨c, A.other W q, r⟩
theorem AF.keep (F : AF Z h a ty n f) (K : Keep h h' ws) (q : a ∉ ws) : AF Z h' a ty n f := by obtain ⟨c, A, r⟩ := F; exact ⟨c, ⟨K.2.1 a c A.1 q, A.2⟩, r⟩
theorem AF.congr {g : Nat → Value} (F : AF Z h a ty n f) (q : ∀ j, j < n → f j = g j) : AF Z h a ty n g := by
  obtain ⟨c, A, S, H⟩ := F
  exact ⟨c, A, S, fun j hj => by rw [← q j hj]; exact H j hj⟩
theorem AF.same {c : Cell} (A : Arr Z h a c ty) (S : c.slots.size = n) (H : ∀ j, j < n → c.slots[j]? = some (f j)) (W : Wr h h' a sl v) : AF Z h' a ty n (fun i => if i = sl then v else f i) := by
  refine ⟨_, A.same W, by rw [sz_set]; exact S, fun j hj => ?_⟩
  by_cases q : j = sl
  · subst q
    simp only [if_true]
    simp [Cell.setSlot, S, hj]
  · simp only [q, if_false]
    simp only [Cell.setSlot]
    rw [Array.getElem?_setIfInBounds_ne (fun z => q z.symm)]; exact H j hj
theorem AF_in {c : Cell} {j : Int32} (S : c.slots.size = n) (h1 : 0 ≤ j.toInt) (h2 : j.toInt < n) : ¬ (j < 0 ∨ c.slots.size ≤ j.toNatClampNeg) := by
  rw [S, Int32.lt_iff_toInt_lt, show (0 : Int32).toInt = 0 from rfl]
  simp only [Int32.toNatClampNeg]; omega
theorem AF_at {c : Cell} {j : Int32} {w : Value} (H : ∀ j, j < n → c.slots[j]? = some (f j)) (h1 : 0 ≤ j.toInt) (h2 : j.toInt < n) (e : f j.toNatClampNeg = w) : c.slots[j.toNatClampNeg]? = some w := by
  rw [← e]; exact H _ (by simp only [Int32.toNatClampNeg]; omega)
end OwnArrays
section OwnStrings
variable {Z : State} {h h' : Heap} {a b : Addr} {ty : FieldType} {n : Nat} {f : Nat → Value}
theorem own_ext (K : Keep h h' []) : Ext h h' := ⟨K.1, fun x c q => K.2.1 x c q nin0⟩
end OwnStrings
theorem own_lo {j : Int32} (h1 : ¬ j < 0) : 0 ≤ j.toInt := by
  rw [Int32.lt_iff_toInt_lt, show (0 : Int32).toInt = 0 from rfl] at h1; omega
theorem own_up {j z : Int32} (h1 : ¬ j < 0) (h2 : j < z) : j.toInt < (z.toNatClampNeg : Int) := by
  have := own_lo h1
  rw [Int32.lt_iff_toInt_lt] at h2
  simp only [Int32.toNatClampNeg]; omega
theorem d6_0 : decode jdk_41_method_11_code 0 = .ok (.iload_n 0, 1) := by decide +kernel
theorem d6_1 : decode jdk_41_method_11_code 1 = .ok (.ifCond .lt 8, 3) := by decide +kernel
theorem d6_4 : decode jdk_41_method_11_code 4 = .ok (.iload_n 0, 1) := by decide +kernel
theorem d6_5 : decode jdk_41_method_11_code 5 = .ok (.iload_n 1, 1) := by decide +kernel
theorem d6_6 : decode jdk_41_method_11_code 6 = .ok (.if_icmp .lt 10, 3) := by decide +kernel
theorem d6_16 : decode jdk_41_method_11_code 16 = .ok (.iload_n 0, 1) := by decide +kernel
theorem d6_17 : decode jdk_41_method_11_code 17 = .ok (.ireturn, 1) := by decide +kernel
theorem pn_6 : plainName "jdk/internal/util/Preconditions" = true := by first | (simp [plainName, overriddenIn]; done) | decide +kernel
theorem ef_6 (m : MethodId) (x0 : Int32) (x1 : Int32) (x2 : Value) (hv2 : x2.isRef = true) : entryFrame m #[(.int x0), (.int x1), x2] 3 = mkF m 0 #[.val (.int x0), .val (.int x1), .val x2] [] := by
  cases x2 <;> first | rfl | (simp [Value.isRef] at hv2)
def F6 (p1 : Int32) (p2 : Int32) : Int32 :=
  p1
def Q6 (Z : State) (p1 : Int32) (p2 : Int32) (w3 : Value) (h0 : Heap) (n0 : Nat) (v : Option Value) (h : Heap) (L : List Loc) : Prop := v = some (.int (F6 p1 p2)) ∧ L = [] ∧ h = h0
set_option maxRecDepth 65536 in
set_option maxHeartbeats 40000000 in
theorem rm6 (l : Launch) (Z : State) (a0 : Array Value) (hw : ∀ d ∈ tables_1, d.before a0 Z = true) (ws : List Jvm.Cond) (p1 : Int32) (p2 : Int32) (w3 : Value) (h0 : Heap) (n0 : Nat) (Z0 : n0 ≤ h0.size) (h1 : ¬ p1 < 0) (h2 : p1 < p2) (hv3 : w3.isRef = true) :
    MetFree l (⟨"jdk/internal/util/Preconditions", "checkIndex", "(IILjava/util/function/BiFunction;)I"⟩ : MethodName) (head1 (Jvm.Cond.code (⟨"jdk/internal/util/Preconditions", "checkIndex", "(IILjava/util/function/BiFunction;)I"⟩ : MethodName) jdk_41_method_11_code 3 (some .int) :: ws) ({ frames := 0, cells := 0, slots := 0, locals := 0 } : Room)) (fun a U => a = #[(.int p1), (.int p2), w3] ∧ Z.Warmed39 U.vm ∧ U.heap = h0) (fun _ _ _ _ _ => True) (fun _ U o U' => ∃ v L, o = .returned v ∧ Q6 Z p1 p2 w3 h0 n0 v U'.heap L ∧ FrameEnd U o U' L ({ frames := 0, cells := 0, slots := 0, locals := 0 } : Room).cells ({ frames := 0, cells := 0, slots := 0, locals := 0 } : Room).slots) := by
  refine MetFree.of_bodySF (plainFor_of_name pn_6) hisR ?_
  intro p e s m args below meth c s₁ Bd hml0 hP hK
  obtain ⟨rfl, hZ, hh⟩ := hP
  have hx := Bd.exec
  have hby := Bd.bytes
  have hml : c.maxLocals = 3 := hml0
  have hown : s.vm.findClass "jdk/internal/util/Preconditions" = some m.cls := findClass_of_methodNamed Bd.named
  have hnm := (name_of_methodNamed Bd.named Bd.method).1
  have X0 : Stand p l e ({ frames := 0, cells := 0, slots := 0, locals := 0 } : Room) s m #[(.int p1), (.int p2), w3] below meth c s₁ [] 0 0 := Stand.of_body Bd
  have e0 : s₁.heap = h0 := by rw [← hh, Bd.state]; rfl
  have N0 := Fr.nil n0
  have pre0 : ∀ t, Steps p.tables e below (s₁.setTop (mkF m 0 #[.val (.int p1), .val (.int p2), .val w3] [])) t → Steps p.tables e below (s₁.setTop (entryFrame m #[(.int p1), (.int p2), w3] 3)) t := fun t k => castTop (ef_6 m p1 p2 w3 hv3) k
  have R1 : ∀ t, Steps p.tables e below (s₁.setTop (mkF m 17 #[.val (.int p1), .val (.int p2), .val w3] [(.int p1)])) t → Steps p.tables e below (s₁.setTop (entryFrame m #[(.int p1), (.int p2), w3] 3)) t := by
    intro t kt
    refine pre0 _ ?_
    show Steps p.tables e below (s₁.setTop (mkF m 0 #[.val (.int p1), .val (.int p2), .val w3] [])) _
    refine XS.iloadN X0.here hx rfl (hb hby d6_0) rfl ?_
    show Steps p.tables e below (s₁.setTop (mkF m 1 #[.val (.int p1), .val (.int p2), .val w3] [(.int p1)])) _
    refine XS.ifNo X0.here hx rfl (hb hby d6_1) rfl ((if0 _ _).trans (flt h1).1) ?_
    show Steps p.tables e below (s₁.setTop (mkF m 4 #[.val (.int p1), .val (.int p2), .val w3] [])) _
    refine XS.iloadN X0.here hx rfl (hb hby d6_4) rfl ?_
    show Steps p.tables e below (s₁.setTop (mkF m 5 #[.val (.int p1), .val (.int p2), .val w3] [(.int p1)])) _
    refine XS.iloadN X0.here hx rfl (hb hby d6_5) rfl ?_
    show Steps p.tables e below (s₁.setTop (mkF m 6 #[.val (.int p1), .val (.int p2), .val w3] [(.int p2), (.int p1)])) _
    refine XS.icmpYes X0.here hx rfl (pc0 := 6) (pc' := 16) rfl (hb hby d6_6) rfl (tlt h2).1 (by decide) (by decide) ?_
    show Steps p.tables e below (s₁.setTop (mkF m 16 #[.val (.int p1), .val (.int p2), .val w3] [])) _
    refine XS.iloadN X0.here hx rfl (hb hby d6_16) rfl ?_
    exact kt
  obtain ⟨fs, hr, hrun, hended, hW, hsame⟩ := X0.leave (v := some (.int p1)) (fun h => by rw [Bd.returns] at h; cases h)
  refine ⟨_, _, R1 _ ?_, hrun, hended, _, _, rfl, ?_, ⟨_, rfl⟩, hW, hsame.mono (by decide) (by decide)⟩
  · show Steps p.tables e below (s₁.setTop (mkF m 17 #[.val (.int p1), .val (.int p2), .val w3] [(.int p1)])) _
    exact retI X0 hx Bd.returns (hb hby d6_17) hr
  · show Q6 Z p1 p2 w3 h0 n0 _ s₁.heap _
    rw [e0]
    refine ⟨?_, rfl, rfl⟩
    rfl
theorem d5_0 : decode jdk_42_method_155_code 0 = .ok (.iload_n 0, 1) := by decide +kernel
theorem d5_1 : decode jdk_42_method_155_code 1 = .ok (.iload_n 1, 1) := by decide +kernel
theorem d5_2 : decode jdk_42_method_155_code 2 = .ok (.getstatic 1053, 3) := by decide +kernel
theorem d5_5 : decode jdk_42_method_155_code 5 = .ok (.invokestatic 1059, 3) := by decide +kernel
theorem d5_8 : decode jdk_42_method_155_code 8 = .ok (.pop, 1) := by decide +kernel
theorem d5_9 : decode jdk_42_method_155_code 9 = .ok (.return_, 1) := by decide +kernel
theorem pn_5 : plainName "java/lang/String" = true := by first | (simp [plainName, overriddenIn]; done) | decide +kernel
theorem pd_5_6 : parseMethodDescriptor "(IILjava/util/function/BiFunction;)I" = some ⟨[.int, .int, (.object "java/util/function/BiFunction")], some .int⟩ := by decide +kernel
theorem ef_5 (m : MethodId) (x0 : Int32) (x1 : Int32) : entryFrame m #[(.int x0), (.int x1)] 2 = mkF m 0 #[.val (.int x0), .val (.int x1)] [] := by first | (simp [entryFrame, mkF, argsToLocals, Value.category]; done) | rfl
def Q5 (Z : State) (p1 : Int32) (p2 : Int32) (G3 : Value) (h0 : Heap) (n0 : Nat) (v : Option Value) (h : Heap) (L : List Loc) : Prop := v = none ∧ L = [] ∧ h = h0
set_option maxRecDepth 65536 in
set_option maxHeartbeats 40000000 in
theorem rm5 (l : Launch) (Z : State) (a0 : Array Value) (hw : ∀ d ∈ tables_1, d.before a0 Z = true) (ws : List Jvm.Cond) (p1 : Int32) (p2 : Int32) (G3 : Value) (h0 : Heap) (n0 : Nat) (Z0 : n0 ≤ h0.size) (h1 : ¬ p1 < 0) (h2 : p1 < p2) (O4 : Sta Z h0 "jdk/internal/util/Preconditions" "SIOOBE_FORMATTER" "Ljava/util/function/BiFunction;" G3) (rG3 : G3.isRef = true) :
    MetFree l (⟨"java/lang/String", "checkIndex", "(II)V"⟩ : MethodName) (head1 (Jvm.Cond.code (⟨"java/lang/String", "checkIndex", "(II)V"⟩ : MethodName) jdk_42_method_155_code 2 none :: ws) ({ frames := 1, cells := 0, slots := 0, locals := 14 } : Room)) (fun a U => a = #[(.int p1), (.int p2)] ∧ Z.Warmed39 U.vm ∧ U.heap = h0) (fun _ _ _ _ _ => True) (fun _ U o U' => ∃ v L, o = .returned v ∧ Q5 Z p1 p2 G3 h0 n0 v U'.heap L ∧ FrameEnd U o U' L ({ frames := 1, cells := 0, slots := 0, locals := 14 } : Room).cells ({ frames := 1, cells := 0, slots := 0, locals := 14 } : Room).slots) := by
  refine MetFree.of_bodySF (plainFor_of_name pn_5) hisR ?_
  intro p e s m args below meth c s₁ Bd hml0 hP hK
  obtain ⟨rfl, hZ, hh⟩ := hP
  have hx := Bd.exec
  have hby := Bd.bytes
  have hml : c.maxLocals = 2 := hml0
  have hown : s.vm.findClass "java/lang/String" = some m.cls := findClass_of_methodNamed Bd.named
  have hnm := (name_of_methodNamed Bd.named Bd.method).1
  have X0 : Stand p l e ({ frames := 1, cells := 0, slots := 0, locals := 14 } : Room) s m #[(.int p1), (.int p2)] below meth c s₁ [] 0 0 := Stand.of_body Bd
  have e0 : s₁.heap = h0 := by rw [← hh, Bd.state]; rfl
  have N0 := Fr.nil n0
  have pre0 : ∀ t, Steps p.tables e below (s₁.setTop (mkF m 0 #[.val (.int p1), .val (.int p2)] [])) t → Steps p.tables e below (s₁.setTop (entryFrame m #[(.int p1), (.int p2)] 2)) t := fun t k => castTop (ef_5 m p1 p2) k
  obtain ⟨T1, X1, e1, st1⟩ := getS2 X0 hx hZ hown (host := "") (Or.inl (hw _ (List.mem_of_getElem? (i := 33) rfl))) Via.refl e0 O4 (g := (mkF m 2 #[.val (.int p1), .val (.int p2)] [(.int p2), (.int p1)])) rfl (hb hby d5_2)
  obtain ⟨_, _, ⟨T2, L2, k2, n2⟩, -, X2, ⟨Lc2, hQ2, l2, y2, z2⟩, st2⟩ := Jvm.LawKit.callS X1 hx (y := (⟨"jdk/internal/util/Preconditions", "checkIndex", "(IILjava/util/function/BiFunction;)I"⟩ : MethodName)) hown (mvT hZ (hw _ (List.mem_of_getElem? (i := 35) rfl))) (mvT hZ (hw _ (List.mem_of_getElem? (i := 36) rfl))) (mvT hZ (hw _ (List.mem_of_getElem? (i := 34) rfl))) (mvT hZ (hw _ (List.mem_of_getElem? (i := 37) rfl))) (by decide) (backOf (W := 0) (rm6 l Z a0 hw [] p1 p2 G3 h0 n0 Z0 h1 h2 rG3) hZ (hw _ (List.mem_of_getElem? (i := 37) rfl)) (hw _ (List.mem_of_getElem? (i := 34) rfl)) (by decide) (by decide)) (g := (mkF m 5 #[.val (.int p1), .val (.int p2)] [G3, (.int p2), (.int p1)])) rfl (by rw [hml]; rfl) (argsL := [(.int p1), (.int p2), G3]) (rest := []) (lenOf pd_5_6 rfl) rfl (by show 2 * 0 + _ ≤ _; exact Nat.le_of_eq rfl) (hb hby d5_5) (fun _ _ => ⟨rfl, e1, (by decide : 0 + 0 ≤ _), (by decide : 0 + 0 ≤ _)⟩)
  dsimp only [Pt.U, Pt.locs, Pt.cells, Pt.slots] at X2 l2 y2 z2 st2 hQ2
  subst l2 y2 z2
  obtain ⟨rfl, rfl, e2⟩ := hQ2
  replace X2 : Stand p l e ({ frames := 1, cells := 0, slots := 0, locals := 14 } : Room) s m #[(.int p1), (.int p2)] below meth c T2 [] 0 0 := X2
  have R3 : ∀ t, Steps p.tables e below (T2.setTop (mkF m 9 #[.val (.int p1), .val (.int p2)] [])) t → Steps p.tables e below (s₁.setTop (entryFrame m #[(.int p1), (.int p2)] 2)) t := by
    intro t kt
    refine pre0 _ ?_
    show Steps p.tables e below (s₁.setTop (mkF m 0 #[.val (.int p1), .val (.int p2)] [])) _
    refine XS.iloadN X0.here hx rfl (hb hby d5_0) rfl ?_
    show Steps p.tables e below (s₁.setTop (mkF m 1 #[.val (.int p1), .val (.int p2)] [(.int p1)])) _
    refine XS.iloadN X0.here hx rfl (hb hby d5_1) rfl ?_
    show Steps p.tables e below (s₁.setTop (mkF m 2 #[.val (.int p1), .val (.int p2)] [(.int p2), (.int p1)])) _
    refine st1 _ ?_
    show Steps p.tables e below (T1.setTop (mkF m 5 #[.val (.int p1), .val (.int p2)] [G3, (.int p2), (.int p1)])) _
    refine st2 _ ?_
    show Steps p.tables e below (T2.setTop (mkF m 8 #[.val (.int p1), .val (.int p2)] [(.int (F6 p1 p2))])) _
    refine XS.pop X2.here hx rfl (hb hby d5_8) rfl rfl ?_
    exact kt
  obtain ⟨fs, hr, hrun, hended, hW, hsame⟩ := X2.leave (v := none) (fun _ => rfl)
  refine ⟨_, _, R3 _ ?_, hrun, hended, _, _, rfl, ?_, ⟨_, rfl⟩, hW, hsame.mono (by decide) (by decide)⟩
  · show Steps p.tables e below (T2.setTop (mkF m 9 #[.val (.int p1), .val (.int p2)] [])) _
    exact X2.returnOut hx Bd.returns (hb hby d5_9) hr
  · show Q5 Z p1 p2 G3 h0 n0 _ T2.heap _
    rw [e2]
    refine ⟨?_, rfl, rfl⟩
    rfl
theorem d4_0 : decode jdk_43_method_2_code 0 = .ok (.iload_n 1, 1) := by decide +kernel
theorem d4_1 : decode jdk_43_method_2_code 1 = .ok (.aload_n 0, 1) := by decide +kernel
theorem d4_2 : decode jdk_43_method_2_code 2 = .ok (.arraylength, 1) := by decide +kernel
theorem d4_3 : decode jdk_43_method_2_code 3 = .ok (.invokestatic 9, 3) := by decide +kernel
theorem d4_6 : decode jdk_43_method_2_code 6 = .ok (.aload_n 0, 1) := by decide +kernel
theorem d4_7 : decode jdk_43_method_2_code 7 = .ok (.iload_n 1, 1) := by decide +kernel
theorem d4_8 : decode jdk_43_method_2_code 8 = .ok (.baload, 1) := by decide +kernel
theorem d4_9 : decode jdk_43_method_2_code 9 = .ok (.sipush 255, 3) := by decide +kernel
theorem d4_12 : decode jdk_43_method_2_code 12 = .ok (.iand, 1) := by decide +kernel
theorem d4_13 : decode jdk_43_method_2_code 13 = .ok (.i2c, 1) := by decide +kernel
theorem d4_14 : decode jdk_43_method_2_code 14 = .ok (.ireturn, 1) := by decide +kernel
theorem pn_4 : plainName "java/lang/StringLatin1" = true := by first | (simp [plainName, overriddenIn]; done) | decide +kernel
theorem pd_4_5 : parseMethodDescriptor "(II)V" = some ⟨[.int, .int], none⟩ := by decide +kernel
theorem ef_4 (m : MethodId) (x0 : Addr) (x1 : Int32) : entryFrame m #[(.ref x0), (.int x1)] 2 = mkF m 0 #[.val (.ref x0), .val (.int x1)] [] := by first | (simp [entryFrame, mkF, argsToLocals, Value.category]; done) | rfl
def F4 (p2 : Int32) (u : Nat → Int32) : Int32 :=
  (nar .char (((u p2.toNatClampNeg) &&& (255 : Int32)).toUInt32.toUInt16.toUInt32.toInt32))
def Q4 (Z : State) (a1 : Addr) (p2 : Int32) (z : Int32) (u : Nat → Int32) (G3 : Value) (h0 : Heap) (n0 : Nat) (v : Option Value) (h : Heap) (L : List Loc) : Prop := v = some (.int (F4 p2 u)) ∧ L = [] ∧ h = h0
set_option maxRecDepth 65536 in
set_option maxHeartbeats 40000000 in
theorem rm4 (l : Launch) (Z : State) (a0 : Array Value) (hw : ∀ d ∈ tables_1, d.before a0 Z = true) (ws : List Jvm.Cond) (a1 : Addr) (p2 : Int32) (z : Int32) (u : Nat → Int32) (G3 : Value) (h0 : Heap) (n0 : Nat) (Z0 : n0 ≤ h0.size) (V : AF Z h0 a1 .byte z.toNatClampNeg (fun j => .int (u j))) (hz : ¬ z < 0) (h1 : ¬ p2 < 0) (h2 : p2 < z) (O4 : Sta Z h0 "jdk/internal/util/Preconditions" "SIOOBE_FORMATTER" "Ljava/util/function/BiFunction;" G3) (rG3 : G3.isRef = true) :
    MetFree l (⟨"java/lang/StringLatin1", "charAt", "([BI)C"⟩ : MethodName) (head1 (Jvm.Cond.code (⟨"java/lang/StringLatin1", "charAt", "([BI)C"⟩ : MethodName) jdk_43_method_2_code 2 (some .char) :: ws) ({ frames := 2, cells := 0, slots := 0, locals := 27 } : Room)) (fun a U => a = #[(.ref a1), (.int p2)] ∧ Z.Warmed39 U.vm ∧ U.heap = h0) (fun _ _ _ _ _ => True) (fun _ U o U' => ∃ v L, o = .returned v ∧ Q4 Z a1 p2 z u G3 h0 n0 v U'.heap L ∧ FrameEnd U o U' L ({ frames := 2, cells := 0, slots := 0, locals := 27 } : Room).cells ({ frames := 2, cells := 0, slots := 0, locals := 27 } : Room).slots) := by
  refine MetFree.of_bodySF (plainFor_of_name pn_4) hisR ?_
  intro p e s m args below meth c s₁ Bd hml0 hP hK
  obtain ⟨rfl, hZ, hh⟩ := hP
  have hx := Bd.exec
  have hby := Bd.bytes
  have hml : c.maxLocals = 2 := hml0
  have hown : s.vm.findClass "java/lang/StringLatin1" = some m.cls := findClass_of_methodNamed Bd.named
  have hnm := (name_of_methodNamed Bd.named Bd.method).1
  have X0 : Stand p l e ({ frames := 2, cells := 0, slots := 0, locals := 27 } : Room) s m #[(.ref a1), (.int p2)] below meth c s₁ [] 0 0 := Stand.of_body Bd
  have e0 : s₁.heap = h0 := by rw [← hh, Bd.state]; rfl
  have N0 := Fr.nil n0
  have pre0 : ∀ t, Steps p.tables e below (s₁.setTop (mkF m 0 #[.val (.ref a1), .val (.int p2)] [])) t → Steps p.tables e below (s₁.setTop (entryFrame m #[(.ref a1), (.int p2)] 2)) t := fun t k => castTop (ef_4 m a1 p2) k
  obtain ⟨cl1, Ar1, S1, H1⟩ := id V
  obtain ⟨_, _, ⟨T2, L2, k2, n2⟩, -, X2, ⟨Lc2, hQ2, l2, y2, z2⟩, st2⟩ := Jvm.LawKit.callS X0 hx (y := (⟨"java/lang/String", "checkIndex", "(II)V"⟩ : MethodName)) hown (mvT hZ (hw _ (List.mem_of_getElem? (i := 30) rfl))) (mvT hZ (hw _ (List.mem_of_getElem? (i := 31) rfl))) (mvT hZ (hw _ (List.mem_of_getElem? (i := 2) rfl))) (mvT hZ (hw _ (List.mem_of_getElem? (i := 32) rfl))) (by decide) (backOf (W := 0) (rm5 l Z a0 hw [] p2 z G3 h0 n0 Z0 h1 h2 O4 rG3) hZ (hw _ (List.mem_of_getElem? (i := 32) rfl)) (hw _ (List.mem_of_getElem? (i := 2) rfl)) (by decide) (by decide)) (g := (mkF m 3 #[.val (.ref a1), .val (.int p2)] [(.int z), (.int p2)])) rfl (by rw [hml]; rfl) (argsL := [(.int p2), (.int z)]) (rest := []) (lenOf pd_4_5 rfl) rfl (by show 2 * 0 + _ ≤ _; exact Nat.le_of_eq rfl) (hb hby d4_3) (fun _ _ => ⟨rfl, e0, (by decide : 0 + 0 ≤ _), (by decide : 0 + 0 ≤ _)⟩)
  dsimp only [Pt.U, Pt.locs, Pt.cells, Pt.slots] at X2 l2 y2 z2 st2 hQ2
  subst l2 y2 z2
  obtain ⟨rfl, rfl, e2⟩ := hQ2
  replace X2 : Stand p l e ({ frames := 2, cells := 0, slots := 0, locals := 27 } : Room) s m #[(.ref a1), (.int p2)] below meth c T2 [] 0 0 := X2
  obtain ⟨cl3, Ar3, S3, H3⟩ := id V
  have hin3 := AF_in (j := p2) S3 (own_lo h1) (own_up h1 h2)
  have hat3 := AF_at (j := p2) (w := (.int (u p2.toNatClampNeg))) H3 (own_lo h1) (own_up h1 h2) rfl
  have R4 : ∀ t, Steps p.tables e below (T2.setTop (mkF m 14 #[.val (.ref a1), .val (.int p2)] [(.int (((u p2.toNatClampNeg) &&& (255 : Int32)).toUInt32.toUInt16.toUInt32.toInt32))])) t → Steps p.tables e below (s₁.setTop (entryFrame m #[(.ref a1), (.int p2)] 2)) t := by
    intro t kt
    refine pre0 _ ?_
    show Steps p.tables e below (s₁.setTop (mkF m 0 #[.val (.ref a1), .val (.int p2)] [])) _
    refine XS.iloadN X0.here hx rfl (hb hby d4_0) rfl ?_
    show Steps p.tables e below (s₁.setTop (mkF m 1 #[.val (.ref a1), .val (.int p2)] [(.int p2)])) _
    refine XS.aloadN X0.here hx rfl (hb hby d4_1) rfl rfl ?_
    show Steps p.tables e below (s₁.setTop (mkF m 2 #[.val (.ref a1), .val (.int p2)] [(.ref a1), (.int p2)])) _
    refine X0.arraylength hx (by rw [e0]; exact Ar1.1) (State.isArrayOf_alike hZ.alike Ar1.2.1) (g := (mkF m 2 #[.val (.ref a1), .val (.int p2)] [(.ref a1), (.int p2)])) rfl rfl (hb hby d4_2) _ ?_
    rw [len_of S1 hz]
    show Steps p.tables e below (s₁.setTop (mkF m 3 #[.val (.ref a1), .val (.int p2)] [(.int z), (.int p2)])) _
    refine st2 _ ?_
    show Steps p.tables e below (T2.setTop (mkF m 6 #[.val (.ref a1), .val (.int p2)] [])) _
    refine XS.aloadN X2.here hx rfl (hb hby d4_6) rfl rfl ?_
    show Steps p.tables e below (T2.setTop (mkF m 7 #[.val (.ref a1), .val (.int p2)] [(.ref a1)])) _
    refine XS.iloadN X2.here hx rfl (hb hby d4_7) rfl ?_
    show Steps p.tables e below (T2.setTop (mkF m 8 #[.val (.ref a1), .val (.int p2)] [(.int p2), (.ref a1)])) _
    refine X2.baloadBytes hx (j := p2) (v := (.int (u p2.toNatClampNeg))) (by rw [e2]; exact Ar3.1) (State.isArrayOf_alike hZ.alike Ar3.2.1) Ar3.2.2 hin3 hat3 (g := (mkF m 8 #[.val (.ref a1), .val (.int p2)] [(.int p2), (.ref a1)])) rfl rfl (hb hby d4_8) _ ?_
    show Steps p.tables e below (T2.setTop (mkF m 9 #[.val (.ref a1), .val (.int p2)] [(.int (u p2.toNatClampNeg))])) _
    refine XS.sipush X2.here hx rfl (hb hby d4_9) ?_
    show Steps p.tables e below (T2.setTop (mkF m 12 #[.val (.ref a1), .val (.int p2)] [(.int (255 : Int32)), (.int (u p2.toNatClampNeg))])) _
    refine XS.iand X2.here hx rfl (hb hby d4_12) rfl ?_
    show Steps p.tables e below (T2.setTop (mkF m 13 #[.val (.ref a1), .val (.int p2)] [(.int ((u p2.toNatClampNeg) &&& (255 : Int32)))])) _
    refine XS.i2c X2.here hx rfl (hb hby d4_13) rfl ?_
    exact kt
  obtain ⟨fs, hr, hrun, hended, hW, hsame⟩ := X2.leave (v := some (.int (nar .char (((u p2.toNatClampNeg) &&& (255 : Int32)).toUInt32.toUInt16.toUInt32.toInt32)))) (fun h => by rw [Bd.returns] at h; cases h)
  refine ⟨_, _, R4 _ ?_, hrun, hended, _, _, rfl, ?_, ⟨_, rfl⟩, hW, hsame.mono (by decide) (by decide)⟩
  · show Steps p.tables e below (T2.setTop (mkF m 14 #[.val (.ref a1), .val (.int p2)] [(.int (((u p2.toNatClampNeg) &&& (255 : Int32)).toUInt32.toUInt16.toUInt32.toInt32))])) _
    exact retN X2 hx (t := .char) Bd.returns (by simp) (hb hby d4_14) hr
  · show Q4 Z a1 p2 z u G3 h0 n0 _ T2.heap _
    rw [e2]
    refine ⟨?_, rfl, rfl⟩
    rfl
theorem d3_0 : decode jdk_42_method_154_code 0 = .ok (.getstatic 38, 3) := by decide +kernel
theorem d3_3 : decode jdk_42_method_154_code 3 = .ok (.ifCond .eq 14, 3) := by decide +kernel
theorem d3_6 : decode jdk_42_method_154_code 6 = .ok (.aload_n 0, 1) := by decide +kernel
theorem d3_7 : decode jdk_42_method_154_code 7 = .ok (.getfield 15, 3) := by decide +kernel
theorem d3_10 : decode jdk_42_method_154_code 10 = .ok (.ifCond .ne 7, 3) := by decide +kernel
theorem d3_13 : decode jdk_42_method_154_code 13 = .ok (.iconst 1, 1) := by decide +kernel
theorem d3_14 : decode jdk_42_method_154_code 14 = .ok (.goto 4, 3) := by decide +kernel
theorem d3_18 : decode jdk_42_method_154_code 18 = .ok (.ireturn, 1) := by decide +kernel
theorem pn_3 : plainName "java/lang/String" = true := by first | (simp [plainName, overriddenIn]; done) | decide +kernel
theorem ef_3 (m : MethodId) (x0 : Addr) : entryFrame m #[(.ref x0)] 1 = mkF m 0 #[.val (.ref x0)] [] := by first | (simp [entryFrame, mkF, argsToLocals, Value.category]; done) | rfl
def F3  : Int32 :=
  (1 : Int32)
def Q3 (Z : State) (a1 : Addr) (G1 : Int32) (h0 : Heap) (n0 : Nat) (v : Option Value) (h : Heap) (L : List Loc) : Prop := v = some (.int (F3 )) ∧ L = [] ∧ h = h0
set_option maxRecDepth 65536 in
set_option maxHeartbeats 40000000 in
theorem rm3 (l : Launch) (Z : State) (a0 : Array Value) (hw : ∀ d ∈ tables_1, d.before a0 Z = true) (ws : List Jvm.Cond) (a1 : Addr) (G1 : Int32) (h0 : Heap) (n0 : Nat) (Z0 : n0 ≤ h0.size) (O2 : Sta Z h0 "java/lang/String" "COMPACT_STRINGS" "Z" (.int G1)) (P5 : ¬ (G1 = (0 : Int32))) (Fc : Fld Z h0 a1 "java/lang/String" "coder" "B" (.int (0 : Int32))) :
    MetFree l (⟨"java/lang/String", "isLatin1", "()Z"⟩ : MethodName) (head1 (Jvm.Cond.code (⟨"java/lang/String", "isLatin1", "()Z"⟩ : MethodName) jdk_42_method_154_code 1 (some .boolean) :: ws) ({ frames := 0, cells := 0, slots := 0, locals := 0 } : Room)) (fun a U => a = #[(.ref a1)] ∧ Z.Warmed39 U.vm ∧ U.heap = h0) (fun _ _ _ _ _ => True) (fun _ U o U' => ∃ v L, o = .returned v ∧ Q3 Z a1 G1 h0 n0 v U'.heap L ∧ FrameEnd U o U' L ({ frames := 0, cells := 0, slots := 0, locals := 0 } : Room).cells ({ frames := 0, cells := 0, slots := 0, locals := 0 } : Room).slots) := by
  refine MetFree.of_bodySF (plainFor_of_name pn_3) hisR ?_
  intro p e s m args below meth c s₁ Bd hml0 hP hK
  obtain ⟨rfl, hZ, hh⟩ := hP
  have hx := Bd.exec
  have hby := Bd.bytes
  have hml : c.maxLocals = 1 := hml0
  have hown : s.vm.findClass "java/lang/String" = some m.cls := findClass_of_methodNamed Bd.named
  have hnm := (name_of_methodNamed Bd.named Bd.method).1
  have X0 : Stand p l e ({ frames := 0, cells := 0, slots := 0, locals := 0 } : Room) s m #[(.ref a1)] below meth c s₁ [] 0 0 := Stand.of_body Bd
  have e0 : s₁.heap = h0 := by rw [← hh, Bd.state]; rfl
  have N0 := Fr.nil n0
  have pre0 : ∀ t, Steps p.tables e below (s₁.setTop (mkF m 0 #[.val (.ref a1)] [])) t → Steps p.tables e below (s₁.setTop (entryFrame m #[(.ref a1)] 1)) t := fun t k => castTop (ef_3 m a1) k
  obtain ⟨T1, X1, e1, st1⟩ := getS2 X0 hx hZ hown (host := "") (Or.inl (hw _ (List.mem_of_getElem? (i := 23) rfl))) Via.refl e0 O2 (g := (mkF m 0 #[.val (.ref a1)] [])) rfl (hb hby d3_0)
  obtain ⟨T2, X2, e2, st2⟩ := getF X1 hx hZ hown (host := "") (Or.inl (hw _ (List.mem_of_getElem? (i := 24) rfl))) Via.refl e1 Fc (g := (mkF m 7 #[.val (.ref a1)] [(.ref a1)])) rfl rfl (hb hby d3_7)
  have R3 : ∀ t, Steps p.tables e below (T2.setTop (mkF m 18 #[.val (.ref a1)] [(.int (1 : Int32))])) t → Steps p.tables e below (s₁.setTop (entryFrame m #[(.ref a1)] 1)) t := by
    intro t kt
    refine pre0 _ ?_
    show Steps p.tables e below (s₁.setTop (mkF m 0 #[.val (.ref a1)] [])) _
    refine st1 _ ?_
    show Steps p.tables e below (T1.setTop (mkF m 3 #[.val (.ref a1)] [(.int G1)])) _
    refine XS.ifNo X1.here hx rfl (hb hby d3_3) rfl ((if0 _ _).trans (feq P5).1) ?_
    show Steps p.tables e below (T1.setTop (mkF m 6 #[.val (.ref a1)] [])) _
    refine XS.aloadN X1.here hx rfl (hb hby d3_6) rfl rfl ?_
    show Steps p.tables e below (T1.setTop (mkF m 7 #[.val (.ref a1)] [(.ref a1)])) _
    refine st2 _ ?_
    show Steps p.tables e below (T2.setTop (mkF m 10 #[.val (.ref a1)] [(.int (0 : Int32))])) _
    refine XS.ifNo X2.here hx rfl (hb hby d3_10) rfl ((if0 _ _).trans (teq (by decide : (0 : Int32) = (0 : Int32))).2) ?_
    show Steps p.tables e below (T2.setTop (mkF m 13 #[.val (.ref a1)] [])) _
    refine XS.iconst X2.here hx rfl (hb hby d3_13) ?_
    show Steps p.tables e below (T2.setTop (mkF m 14 #[.val (.ref a1)] [(.int (1 : Int32))])) _
    refine XS.goto X2.here hx rfl (pc0 := 14) (pc' := 18) rfl (hb hby d3_14) (by decide) (by decide) ?_
    exact kt
  obtain ⟨fs, hr, hrun, hended, hW, hsame⟩ := X2.leave (v := some (.int (1 : Int32))) (fun h => by rw [Bd.returns] at h; cases h)
  refine ⟨_, _, R3 _ ?_, hrun, hended, _, _, rfl, ?_, ⟨_, rfl⟩, hW, hsame.mono (by decide) (by decide)⟩
  · show Steps p.tables e below (T2.setTop (mkF m 18 #[.val (.ref a1)] [(.int (1 : Int32))])) _
    exact retN X2 hx (t := .boolean) Bd.returns (by simp) (hb hby d3_18) hr
  · show Q3 Z a1 G1 h0 n0 _ T2.heap _
    rw [e2]
    refine ⟨?_, rfl, rfl⟩
    rfl
theorem d2_0 : decode jdk_42_method_56_code 0 = .ok (.aload_n 0, 1) := by decide +kernel
theorem d2_1 : decode jdk_42_method_56_code 1 = .ok (.invokevirtual 492, 3) := by decide +kernel
theorem d2_4 : decode jdk_42_method_56_code 4 = .ok (.ifCond .eq 12, 3) := by decide +kernel
theorem d2_7 : decode jdk_42_method_56_code 7 = .ok (.aload_n 0, 1) := by decide +kernel
theorem d2_8 : decode jdk_42_method_56_code 8 = .ok (.getfield 9, 3) := by decide +kernel
theorem d2_11 : decode jdk_42_method_56_code 11 = .ok (.iload_n 1, 1) := by decide +kernel
theorem d2_12 : decode jdk_42_method_56_code 12 = .ok (.invokestatic 495, 3) := by decide +kernel
theorem d2_15 : decode jdk_42_method_56_code 15 = .ok (.ireturn, 1) := by decide +kernel
theorem pn_2 : plainName "java/lang/String" = true := by first | (simp [plainName, overriddenIn]; done) | decide +kernel
theorem pd_2_3 : parseMethodDescriptor "()Z" = some ⟨[], some .boolean⟩ := by decide +kernel
theorem pd_2_4 : parseMethodDescriptor "([BI)C" = some ⟨[(.array .byte), .int], some .char⟩ := by decide +kernel
theorem ef_2 (m : MethodId) (x0 : Addr) (x1 : Int32) : entryFrame m #[(.ref x0), (.int x1)] 2 = mkF m 0 #[.val (.ref x0), .val (.int x1)] [] := by first | (simp [entryFrame, mkF, argsToLocals, Value.category]; done) | rfl
def F2 (p2 : Int32) (u : Nat → Int32) : Int32 :=
  (nar .char (F4 p2 u))
def Q2 (Z : State) (a1 : Addr) (p2 : Int32) (tv : Addr) (z : Int32) (u : Nat → Int32) (G1 : Int32) (G3 : Value) (h0 : Heap) (n0 : Nat) (v : Option Value) (h : Heap) (L : List Loc) : Prop := v = some (.int (F2 p2 u)) ∧ L = [] ∧ h = h0
set_option maxRecDepth 65536 in
set_option maxHeartbeats 40000000 in
theorem rm2 (l : Launch) (Z : State) (a0 : Array Value) (hw : ∀ d ∈ tables_1, d.before a0 Z = true) (ws : List Jvm.Cond) (a1 : Addr) (p2 : Int32) (tv : Addr) (z : Int32) (u : Nat → Int32) (G1 : Int32) (G3 : Value) (h0 : Heap) (n0 : Nat) (Z0 : n0 ≤ h0.size) (Ex : Exa Z h0 a1 "java/lang/String") (Fc : Fld Z h0 a1 "java/lang/String" "coder" "B" (.int (0 : Int32))) (Fv : Fld Z h0 a1 "java/lang/String" "value" "[B" (.ref tv)) (V : AF Z h0 tv .byte z.toNatClampNeg (fun j => .int (u j))) (hz : ¬ z < 0) (h1 : ¬ p2 < 0) (h2 : p2 < z) (O2 : Sta Z h0 "java/lang/String" "COMPACT_STRINGS" "Z" (.int G1)) (P5 : ¬ (G1 = (0 : Int32))) (O4 : Sta Z h0 "jdk/internal/util/Preconditions" "SIOOBE_FORMATTER" "Ljava/util/function/BiFunction;" G3) (rG3 : G3.isRef = true) :
    MetFree l (⟨"java/lang/String", "charAt", "(I)C"⟩ : MethodName) (head1 (Jvm.Cond.code (⟨"java/lang/String", "charAt", "(I)C"⟩ : MethodName) jdk_42_method_56_code 2 (some .char) :: ws) ({ frames := 3, cells := 0, slots := 0, locals := 40 } : Room)) (fun a U => a = #[(.ref a1), (.int p2)] ∧ Z.Warmed39 U.vm ∧ U.heap = h0) (fun _ _ _ _ _ => True) (fun _ U o U' => ∃ v L, o = .returned v ∧ Q2 Z a1 p2 tv z u G1 G3 h0 n0 v U'.heap L ∧ FrameEnd U o U' L ({ frames := 3, cells := 0, slots := 0, locals := 40 } : Room).cells ({ frames := 3, cells := 0, slots := 0, locals := 40 } : Room).slots) := by
  refine MetFree.of_bodySF (plainFor_of_name pn_2) hisR ?_
  intro p e s m args below meth c s₁ Bd hml0 hP hK
  obtain ⟨rfl, hZ, hh⟩ := hP
  have hx := Bd.exec
  have hby := Bd.bytes
  have hml : c.maxLocals = 2 := hml0
  have hown : s.vm.findClass "java/lang/String" = some m.cls := findClass_of_methodNamed Bd.named
  have hnm := (name_of_methodNamed Bd.named Bd.method).1
  have X0 : Stand p l e ({ frames := 3, cells := 0, slots := 0, locals := 40 } : Room) s m #[(.ref a1), (.int p2)] below meth c s₁ [] 0 0 := Stand.of_body Bd
  have e0 : s₁.heap = h0 := by rw [← hh, Bd.state]; rfl
  have N0 := Fr.nil n0
  have pre0 : ∀ t, Steps p.tables e below (s₁.setTop (mkF m 0 #[.val (.ref a1), .val (.int p2)] [])) t → Steps p.tables e below (s₁.setTop (entryFrame m #[(.ref a1), (.int p2)] 2)) t := fun t k => castTop (ef_2 m a1 p2) k
  obtain ⟨cq1, kq1, q1a, q1b, q1c⟩ := isOf hZ e0 Ex
  obtain ⟨_, _, ⟨T1, L1, k1, n1⟩, -, X1, ⟨Lc1, hQ1, l1, y1, z1⟩, st1⟩ := X0.virtualBack hx (y := (⟨"java/lang/String", "isLatin1", "()Z"⟩ : MethodName)) (z := (⟨"java/lang/String", "isLatin1", "()Z"⟩ : MethodName)) hown (mvT hZ (hw _ (List.mem_of_getElem? (i := 18) rfl))) (mvT hZ (hw _ (List.mem_of_getElem? (i := 19) rfl))) (notFace_of_selects (args := #[]) (mvT hZ (hw _ (List.mem_of_getElem? (i := 21) rfl)))) (mvT hZ (hw _ (List.mem_of_getElem? (i := 21) rfl))) (mvT hZ (hw _ (List.mem_of_getElem? (i := 20) rfl))) (by decide) (backOf (W := 0) (rm3 l Z a0 hw [] a1 G1 h0 n0 Z0 O2 P5 Fc) hZ (hw _ (List.mem_of_getElem? (i := 22) rfl)) (hw _ (List.mem_of_getElem? (i := 2) rfl)) (by decide) (by decide)) q1a q1c (g := (mkF m 1 #[.val (.ref a1), .val (.int p2)] [(.ref a1)])) rfl (by rw [hml]; rfl) (Steps.refl _) (argsL := []) (rest := []) (lenOf pd_2_3 rfl) rfl (by show 2 * 0 + _ ≤ _; exact Nat.le_of_eq rfl) (hb hby d2_1) (fun _ _ => ⟨rfl, e0, (by decide : 0 + 0 ≤ _), (by decide : 0 + 0 ≤ _)⟩)
  dsimp only [Pt.U, Pt.locs, Pt.cells, Pt.slots] at X1 l1 y1 z1 st1 hQ1
  subst l1 y1 z1
  obtain ⟨rfl, rfl, e1⟩ := hQ1
  replace X1 : Stand p l e ({ frames := 3, cells := 0, slots := 0, locals := 40 } : Room) s m #[(.ref a1), (.int p2)] below meth c T1 [] 0 0 := X1
  obtain ⟨T2, X2, e2, st2⟩ := getF X1 hx hZ hown (host := "") (Or.inl (hw _ (List.mem_of_getElem? (i := 25) rfl))) Via.refl e1 Fv (g := (mkF m 8 #[.val (.ref a1), .val (.int p2)] [(.ref a1)])) rfl rfl (hb hby d2_8)
  obtain ⟨_, _, ⟨T3, L3, k3, n3⟩, -, X3, ⟨Lc3, hQ3, l3, y3, z3⟩, st3⟩ := Jvm.LawKit.callS X2 hx (y := (⟨"java/lang/StringLatin1", "charAt", "([BI)C"⟩ : MethodName)) hown (mvT hZ (hw _ (List.mem_of_getElem? (i := 26) rfl))) (mvT hZ (hw _ (List.mem_of_getElem? (i := 27) rfl))) (mvT hZ (hw _ (List.mem_of_getElem? (i := 28) rfl))) (mvT hZ (hw _ (List.mem_of_getElem? (i := 29) rfl))) (by decide) (backOf (W := 0) (rm4 l Z a0 hw [] tv p2 z u G3 h0 n0 Z0 V hz h1 h2 O4 rG3) hZ (hw _ (List.mem_of_getElem? (i := 29) rfl)) (hw _ (List.mem_of_getElem? (i := 28) rfl)) (by decide) (by decide)) (g := (mkF m 12 #[.val (.ref a1), .val (.int p2)] [(.int p2), (.ref tv)])) rfl (by rw [hml]; rfl) (argsL := [(.ref tv), (.int p2)]) (rest := []) (lenOf pd_2_4 rfl) rfl (by show 2 * 0 + _ ≤ _; exact Nat.le_of_eq rfl) (hb hby d2_12) (fun _ _ => ⟨rfl, e2, (by decide : 0 + 0 ≤ _), (by decide : 0 + 0 ≤ _)⟩)
  dsimp only [Pt.U, Pt.locs, Pt.cells, Pt.slots] at X3 l3 y3 z3 st3 hQ3
  subst l3 y3 z3
  obtain ⟨rfl, rfl, e3⟩ := hQ3
  replace X3 : Stand p l e ({ frames := 3, cells := 0, slots := 0, locals := 40 } : Room) s m #[(.ref a1), (.int p2)] below meth c T3 [] 0 0 := X3
  have R4 : ∀ t, Steps p.tables e below (T3.setTop (mkF m 15 #[.val (.ref a1), .val (.int p2)] [(.int (F4 p2 u))])) t → Steps p.tables e below (s₁.setTop (entryFrame m #[(.ref a1), (.int p2)] 2)) t := by
    intro t kt
    refine pre0 _ ?_
    show Steps p.tables e below (s₁.setTop (mkF m 0 #[.val (.ref a1), .val (.int p2)] [])) _
    refine XS.aloadN X0.here hx rfl (hb hby d2_0) rfl rfl ?_
    show Steps p.tables e below (s₁.setTop (mkF m 1 #[.val (.ref a1), .val (.int p2)] [(.ref a1)])) _
    refine st1.trans ?_
    show Steps p.tables e below (T1.setTop (mkF m 4 #[.val (.ref a1), .val (.int p2)] [(.int (F3))])) _
    refine XS.ifNo X1.here hx rfl (hb hby d2_4) rfl ((if0 _ _).trans (feq (by decide)).1) ?_
    show Steps p.tables e below (T1.setTop (mkF m 7 #[.val (.ref a1), .val (.int p2)] [])) _
    refine XS.aloadN X1.here hx rfl (hb hby d2_7) rfl rfl ?_
    show Steps p.tables e below (T1.setTop (mkF m 8 #[.val (.ref a1), .val (.int p2)] [(.ref a1)])) _
    refine st2 _ ?_
    show Steps p.tables e below (T2.setTop (mkF m 11 #[.val (.ref a1), .val (.int p2)] [(.ref tv)])) _
    refine XS.iloadN X2.here hx rfl (hb hby d2_11) rfl ?_
    show Steps p.tables e below (T2.setTop (mkF m 12 #[.val (.ref a1), .val (.int p2)] [(.int p2), (.ref tv)])) _
    refine st3 _ ?_
    exact kt
  obtain ⟨fs, hr, hrun, hended, hW, hsame⟩ := X3.leave (v := some (.int (nar .char (F4 p2 u)))) (fun h => by rw [Bd.returns] at h; cases h)
  refine ⟨_, _, R4 _ ?_, hrun, hended, _, _, rfl, ?_, ⟨_, rfl⟩, hW, hsame.mono (by decide) (by decide)⟩
  · show Steps p.tables e below (T3.setTop (mkF m 15 #[.val (.ref a1), .val (.int p2)] [(.int (F4 p2 u))])) _
    exact retN X3 hx (t := .char) Bd.returns (by simp) (hb hby d2_15) hr
  · show Q2 Z a1 p2 tv z u G1 G3 h0 n0 _ T3.heap _
    rw [e3]
    refine ⟨?_, rfl, rfl⟩
    rfl
theorem d1_0 : decode prog_50_method_10_code 0 = .ok (.bipush 48, 2) := by decide +kernel
theorem d1_2 : decode prog_50_method_10_code 2 = .ok (.iload_n 0, 1) := by decide +kernel
theorem d1_3 : decode prog_50_method_10_code 3 = .ok (.if_icmp .gt 13, 3) := by decide +kernel
theorem d1_6 : decode prog_50_method_10_code 6 = .ok (.iload_n 0, 1) := by decide +kernel
theorem d1_7 : decode prog_50_method_10_code 7 = .ok (.bipush 57, 2) := by decide +kernel
theorem d1_9 : decode prog_50_method_10_code 9 = .ok (.if_icmp .gt 7, 3) := by decide +kernel
theorem d1_12 : decode prog_50_method_10_code 12 = .ok (.iconst 1, 1) := by decide +kernel
theorem d1_13 : decode prog_50_method_10_code 13 = .ok (.goto 4, 3) := by decide +kernel
theorem d1_16 : decode prog_50_method_10_code 16 = .ok (.iconst 0, 1) := by decide +kernel
theorem d1_17 : decode prog_50_method_10_code 17 = .ok (.ireturn, 1) := by decide +kernel
theorem pn_1 : plainName "com/example/lookback/lookback/PlainDecimals" = true := by first | (simp [plainName, overriddenIn]; done) | decide +kernel
theorem ef_1 (m : MethodId) (x0 : Int32) : entryFrame m #[(.int x0)] 1 = mkF m 0 #[.val (.int x0)] [] := by first | (simp [entryFrame, mkF, argsToLocals, Value.category]; done) | rfl
def F1 (p1 : Int32) : Int32 :=
  let v8 : Int32 := (if p1 < (48 : Int32) then (0 : Int32) else (if (57 : Int32) < p1 then (0 : Int32) else (1 : Int32)))
  (nar .boolean v8)
def Q1 (Z : State) (p1 : Int32) (h0 : Heap) (n0 : Nat) (v : Option Value) (h : Heap) (L : List Loc) : Prop := v = some (.int (F1 p1)) ∧ L = [] ∧ h = h0
set_option maxRecDepth 65536 in
set_option maxHeartbeats 40000000 in
theorem rm1 (l : Launch) (Z : State) (a0 : Array Value) (hw : ∀ d ∈ tables_1, d.before a0 Z = true) (ws : List Jvm.Cond) (p1 : Int32) (h0 : Heap) (n0 : Nat) (Z0 : n0 ≤ h0.size) :
    MetFree l (⟨"com/example/lookback/lookback/PlainDecimals", "isDigit", "(C)Z"⟩ : MethodName) (head1 (Jvm.Cond.code (⟨"com/example/lookback/lookback/PlainDecimals", "isDigit", "(C)Z"⟩ : MethodName) prog_50_method_10_code 1 (some .boolean) :: ws) ({ frames := 0, cells := 0, slots := 0, locals := 0 } : Room)) (fun a U => a = #[(.int p1)] ∧ Z.Warmed39 U.vm ∧ U.heap = h0) (fun _ _ _ _ _ => True) (fun _ U o U' => ∃ v L, o = .returned v ∧ Q1 Z p1 h0 n0 v U'.heap L ∧ FrameEnd U o U' L ({ frames := 0, cells := 0, slots := 0, locals := 0 } : Room).cells ({ frames := 0, cells := 0, slots := 0, locals := 0 } : Room).slots) := by
  refine MetFree.of_bodySF (plainFor_of_name pn_1) hisR ?_
  intro p e s m args below meth c s₁ Bd hml0 hP hK
  obtain ⟨rfl, hZ, hh⟩ := hP
  have hx := Bd.exec
  have hby := Bd.bytes
  have hml : c.maxLocals = 1 := hml0
  have hown : s.vm.findClass "com/example/lookback/lookback/PlainDecimals" = some m.cls := findClass_of_methodNamed Bd.named
  have hnm := (name_of_methodNamed Bd.named Bd.method).1
  have X0 : Stand p l e ({ frames := 0, cells := 0, slots := 0, locals := 0 } : Room) s m #[(.int p1)] below meth c s₁ [] 0 0 := Stand.of_body Bd
  have e0 : s₁.heap = h0 := by rw [← hh, Bd.state]; rfl
  have N0 := Fr.nil n0
  have pre0 : ∀ t, Steps p.tables e below (s₁.setTop (mkF m 0 #[.val (.int p1)] [])) t → Steps p.tables e below (s₁.setTop (entryFrame m #[(.int p1)] 1)) t := fun t k => castTop (ef_1 m p1) k
  have R2 : ∀ t, Steps p.tables e below (s₁.setTop (mkF m 3 #[.val (.int p1)] [(.int p1), (.int (48 : Int32))])) t → Steps p.tables e below (s₁.setTop (entryFrame m #[(.int p1)] 1)) t := by
    intro t kt
    refine pre0 _ ?_
    show Steps p.tables e below (s₁.setTop (mkF m 0 #[.val (.int p1)] [])) _
    refine XS.bipush X0.here hx rfl (hb hby d1_0) ?_
    show Steps p.tables e below (s₁.setTop (mkF m 2 #[.val (.int p1)] [(.int (48 : Int32))])) _
    refine XS.iloadN X0.here hx rfl (hb hby d1_2) rfl ?_
    exact kt
  have J10 : ∃ (v8 : Int32), v8 = (if p1 < (48 : Int32) then (0 : Int32) else (if (57 : Int32) < p1 then (0 : Int32) else (1 : Int32))) ∧ ∀ t, Steps p.tables e below (s₁.setTop (mkF m 17 #[.val (.int p1)] [(.int v8)])) t → Steps p.tables e below (s₁.setTop (entryFrame m #[(.int p1)] 1)) t := by
    by_cases hc1 : p1 < (48 : Int32)
    · have R3 : ∀ t, Steps p.tables e below (s₁.setTop (mkF m 17 #[.val (.int p1)] [(.int (0 : Int32))])) t → Steps p.tables e below (s₁.setTop (entryFrame m #[(.int p1)] 1)) t := by
        intro t kt
        refine R2 _ ?_
        show Steps p.tables e below (s₁.setTop (mkF m 3 #[.val (.int p1)] [(.int p1), (.int (48 : Int32))])) _
        refine XS.icmpYes X0.here hx rfl (pc0 := 3) (pc' := 16) rfl (hb hby d1_3) rfl (tlt hc1).2.2.1 (by decide) (by decide) ?_
        show Steps p.tables e below (s₁.setTop (mkF m 16 #[.val (.int p1)] [])) _
        refine XS.iconst X0.here hx rfl (hb hby d1_16) ?_
        exact kt
      exact ⟨(0 : Int32), (by rw [if_pos hc1]), R3⟩
    · have R5 : ∀ t, Steps p.tables e below (s₁.setTop (mkF m 9 #[.val (.int p1)] [(.int (57 : Int32)), (.int p1)])) t → Steps p.tables e below (s₁.setTop (entryFrame m #[(.int p1)] 1)) t := by
        intro t kt
        refine R2 _ ?_
        show Steps p.tables e below (s₁.setTop (mkF m 3 #[.val (.int p1)] [(.int p1), (.int (48 : Int32))])) _
        refine XS.icmpNo X0.here hx rfl (hb hby d1_3) rfl (flt hc1).2.2.1 ?_
        show Steps p.tables e below (s₁.setTop (mkF m 6 #[.val (.int p1)] [])) _
        refine XS.iloadN X0.here hx rfl (hb hby d1_6) rfl ?_
        show Steps p.tables e below (s₁.setTop (mkF m 7 #[.val (.int p1)] [(.int p1)])) _
        refine XS.bipush X0.here hx rfl (hb hby d1_7) ?_
        exact kt
      by_cases hc4 : (57 : Int32) < p1
      · have R6 : ∀ t, Steps p.tables e below (s₁.setTop (mkF m 17 #[.val (.int p1)] [(.int (0 : Int32))])) t → Steps p.tables e below (s₁.setTop (entryFrame m #[(.int p1)] 1)) t := by
          intro t kt
          refine R5 _ ?_
          show Steps p.tables e below (s₁.setTop (mkF m 9 #[.val (.int p1)] [(.int (57 : Int32)), (.int p1)])) _
          refine XS.icmpYes X0.here hx rfl (pc0 := 9) (pc' := 16) rfl (hb hby d1_9) rfl (tlt hc4).2.2.1 (by decide) (by decide) ?_
          show Steps p.tables e below (s₁.setTop (mkF m 16 #[.val (.int p1)] [])) _
          refine XS.iconst X0.here hx rfl (hb hby d1_16) ?_
          exact kt
        exact ⟨(0 : Int32), (by rw [if_neg hc1, if_pos hc4]), R6⟩
      · have R7 : ∀ t, Steps p.tables e below (s₁.setTop (mkF m 17 #[.val (.int p1)] [(.int (1 : Int32))])) t → Steps p.tables e below (s₁.setTop (entryFrame m #[(.int p1)] 1)) t := by
          intro t kt
          refine R5 _ ?_
          show Steps p.tables e below (s₁.setTop (mkF m 9 #[.val (.int p1)] [(.int (57 : Int32)), (.int p1)])) _
          refine XS.icmpNo X0.here hx rfl (hb hby d1_9) rfl (flt hc4).2.2.1 ?_
          show Steps p.tables e below (s₁.setTop (mkF m 12 #[.val (.int p1)] [])) _
          refine XS.iconst X0.here hx rfl (hb hby d1_12) ?_
          show Steps p.tables e below (s₁.setTop (mkF m 13 #[.val (.int p1)] [(.int (1 : Int32))])) _
          refine XS.goto X0.here hx rfl (pc0 := 13) (pc' := 17) rfl (hb hby d1_13) (by decide) (by decide) ?_
          exact kt
        exact ⟨(1 : Int32), (by rw [if_neg hc1, if_neg hc4]), R7⟩
  obtain ⟨v8, hv8, R9⟩ := J10
  obtain ⟨fs, hr, hrun, hended, hW, hsame⟩ := X0.leave (v := some (.int (nar .boolean v8))) (fun h => by rw [Bd.returns] at h; cases h)
  refine ⟨_, _, R9 _ ?_, hrun, hended, _, _, rfl, ?_, ⟨_, rfl⟩, hW, hsame.mono (by decide) (by decide)⟩
  · show Steps p.tables e below (s₁.setTop (mkF m 17 #[.val (.int p1)] [(.int v8)])) _
    exact retN X0 hx (t := .boolean) Bd.returns (by simp) (hb hby d1_17) hr
  · show Q1 Z p1 h0 n0 _ s₁.heap _
    rw [e0]
    refine ⟨?_, rfl, rfl⟩
    subst hv8; rfl
def own_u (j : Nat) : Int32 := (([48, 49, 50, 51, 52, 53, 54, 55, 56, 57] : List Int32).map (fun c => c.toInt8.toInt32)).getD j 0
theorem own_text : (∀ c ∈ "0123456789".toList, c.toNat < 256) ∧ "0123456789".toList.map (fun c => Value.int (Jvm.Lit.byteI c.toNat.toUInt16)) = (([48, 49, 50, 51, 52, 53, 54, 55, 56, 57] : List Int32).map (fun c => c.toInt8.toInt32)).map Value.int := by
  refine ⟨by decide +kernel, by decide +kernel⟩
theorem own_getD (f : Int32 → Value) : ∀ (l : List Int32) (k : Nat) (d : Int32), (l.map f).getD k (f d) = f (l.getD k d)
  | [], _, _ => rfl
  | _ :: _, 0, _ => rfl
  | _ :: r, k + 1, d => own_getD f r k d
theorem own_V {Z : State} {h : Heap} {a : Addr} {k : ClassId} (V : Arv Z h a k .byte (10 : Int32) ((([48, 49, 50, 51, 52, 53, 54, 55, 56, 57] : List Int32).map (fun c => c.toInt8.toInt32)).map Value.int) (.int (0 : Int32))) : AF Z h a .byte (10 : Int32).toNatClampNeg (fun j => .int (own_u j)) :=
  (AF.of_arv V).congr fun j _ => own_getD Value.int _ j 0
theorem pn_0 : plainName "com/example/lookback/lookback/PlainDecimalsIsDigitPinLaw" = true := by first | (simp [plainName, overriddenIn]; done) | decide +kernel
theorem pd_0_1 : parseMethodDescriptor "(C)Z" = some ⟨[.char], some .boolean⟩ := by decide +kernel
theorem pd_0_2 : parseMethodDescriptor "(I)C" = some ⟨[.int], some .char⟩ := by decide +kernel
theorem ef_0 (m : MethodId) (x0 : Int32) : entryFrame m #[(.int x0)] maxLocals = mkF m 0 #[.val (.int x0), .unset, .unset, .unset, .unset, .unset] [] := by first | (simp [entryFrame, mkF, argsToLocals, Value.category, maxLocals]; done) | rfl
def F0 (p1 : Int32) : Int32 :=
  let v2 : Int32 := ((p1 &&& (65535 : Int32)).toUInt32.toUInt16.toUInt32.toInt32)
  let v15 : Int32 := (if (v2 - (48 : Int32)) < (0 : Int32) then (0 : Int32) else (if (v2 - (48 : Int32)) < (10 : Int32) then (if (F2 (v2 - (48 : Int32)) own_u) = v2 then (1 : Int32) else (0 : Int32)) else (0 : Int32)))
  let v38 : Int32 := (if (F1 (48 : Int32)) = (0 : Int32) then (0 : Int32) else (if (F1 (57 : Int32)) = (0 : Int32) then (0 : Int32) else (if (F1 (47 : Int32)) = (0 : Int32) then (if (F1 (58 : Int32)) = (0 : Int32) then (1 : Int32) else (0 : Int32)) else (0 : Int32))))
  let v52 : Int32 := (if v38 = (0 : Int32) then (0 : Int32) else (if (F1 v2) = v15 then (1 : Int32) else (0 : Int32)))
  (nar .boolean v52)
def Q0 (Z : State) (p1 : Int32) (G1 : Int32) (G3 : Value) (h0 : Heap) (n0 : Nat) (v : Option Value) (h : Heap) (L : List Loc) : Prop := v = some (.int (F0 p1)) ∧ Fr n0 L
set_option maxRecDepth 65536 in
set_option maxHeartbeats 40000000 in
theorem rm0 (l : Launch) (Z : State) (a0 : Array Value) (hw : ∀ d ∈ tables_1, d.before a0 Z = true) (ws : List Jvm.Cond) (p1 : Int32) (G1 : Int32) (G3 : Value) (h0 : Heap) (n0 : Nat) (Z0 : n0 ≤ h0.size) (hZh : Z.heap = h0) (O2 : Sta Z h0 "java/lang/String" "COMPACT_STRINGS" "Z" (.int G1)) (P5 : ¬ (G1 = (0 : Int32))) (O4 : Sta Z h0 "jdk/internal/util/Preconditions" "SIOOBE_FORMATTER" "Ljava/util/function/BiFunction;" G3) (rG3 : G3.isRef = true) (hheld : Jvm.Lit.constHeld Z "com/example/lookback/lookback/PlainDecimalsIsDigitPinLaw" 8) (hcw : Jvm.Lit.compactW.before a0 Z = true) :
    MetFree l x (head1 (Jvm.Cond.code x code maxLocals ret :: ws) room_1) (fun a U => a = #[(.int p1)] ∧ Z.Warmed39 U.vm ∧ U.heap = h0 ∧ IB Z U.vm []) (fun _ _ _ _ _ => True) (fun _ U o U' => ∃ v L, o = .returned v ∧ Q0 Z p1 G1 G3 h0 n0 v U'.heap L ∧ ReturnedEndW U o U' L room_1.cells room_1.slots) := by
  refine MetFree.of_bodySF (plainFor_of_name pn_0) hisR ?_
  intro p e s m args below meth c s₁ Bd hml0 hP hK
  obtain ⟨rfl, hZ, hh, hI⟩ := hP
  have hx := Bd.exec
  have hby := Bd.bytes
  have hml : c.maxLocals = 6 := hml0
  have hown : s.vm.findClass "com/example/lookback/lookback/PlainDecimalsIsDigitPinLaw" = some m.cls := findClass_of_methodNamed Bd.named
  have hnm := (name_of_methodNamed Bd.named Bd.method).1
  have X0 : Stand p l e room_1 s m #[(.int p1)] below meth c s₁ [] 0 0 := Stand.of_body Bd
  have e0 : s₁.heap = h0 := by rw [← hh, Bd.state]; rfl
  have N0 := Fr.nil n0
  have wS : ∀ d ∈ Bundle.stringAtoms, d.before a0 Z = true := fun d hd => hw d ((by decide +kernel : ∀ d ∈ Bundle.stringAtoms, d ∈ tables_1) d hd)
  have pre0 : ∀ t, Steps p.tables e below (s₁.setTop (mkF m 0 #[.val (.int p1), .unset, .unset, .unset, .unset, .unset] [])) t → Steps p.tables e below (s₁.setTop (entryFrame m #[(.int p1)] maxLocals)) t := fun t k => castTop (ef_0 m p1) k
  have R1 : ∀ t, Steps p.tables e below (s₁.setTop (mkF m 5 #[.val (.int p1), .unset, .unset, .unset, .unset, .unset] [(.int ((p1 &&& (65535 : Int32)).toUInt32.toUInt16.toUInt32.toInt32))])) t → Steps p.tables e below (s₁.setTop (entryFrame m #[(.int p1)] maxLocals)) t := by
    intro t kt
    refine pre0 _ ?_
    show Steps p.tables e below (s₁.setTop (mkF m 0 #[.val (.int p1), .unset, .unset, .unset, .unset, .unset] [])) _
    refine XS.iloadN X0.here hx rfl (hb hby at_0) rfl ?_
    show Steps p.tables e below (s₁.setTop (mkF m 1 #[.val (.int p1), .unset, .unset, .unset, .unset, .unset] [(.int p1)])) _
    refine X0.ldcInt hx hown (mvT hZ (hw _ (List.mem_of_getElem? (i := 0) rfl))) (g := (mkF m 1 #[.val (.int p1), .unset, .unset, .unset, .unset, .unset] [(.int p1)])) rfl (hb hby at_1) _ ?_
    show Steps p.tables e below (s₁.setTop (mkF m 3 #[.val (.int p1), .unset, .unset, .unset, .unset, .unset] [(.int (65535 : Int32)), (.int p1)])) _
    refine XS.iand X0.here hx rfl (hb hby at_3) rfl ?_
    show Steps p.tables e below (s₁.setTop (mkF m 4 #[.val (.int p1), .unset, .unset, .unset, .unset, .unset] [(.int (p1 &&& (65535 : Int32)))])) _
    refine XS.i2c X0.here hx rfl (hb hby at_4) rfl ?_
    exact kt
  obtain ⟨v2, hv2⟩ : ∃ zz9 : Int32, zz9 = ((p1 &&& (65535 : Int32)).toUInt32.toUInt16.toUInt32.toInt32) := ⟨_, rfl⟩
  rw [← hv2] at R1
  have XL3 : Stand p l e room_1 (s.setVm s.vm) m #[(.int p1)] below meth c s₁ [] 0 0 := X0
  obtain ⟨a3, T3, h3, k3, b3, kb3, X3, e3, E3, hS3, hk3, hZ, hown, Ex3, Fc3, Fv3, Av3, la3, lb3, I3, st3⟩ := ldcSV XL3 hx hZ hown (hw _ (List.mem_of_getElem? (i := 1) rfl)) wS e0 ((State.WarmedH.refl s).since 0) (Nat.zero_le _) (Fr.nil _) (fun b cl q => by rw [hh, ← hZh]; exact q) hI (List.not_mem_nil) hheld hcw (vs := (([48, 49, 50, 51, 52, 53, 54, 55, 56, 57] : List Int32).map (fun c => c.toInt8.toInt32)).map Value.int) (z := (10 : Int32)) own_text (by decide) (by decide) (g := (mkF m 11 #[.val (.int p1), .val (.int v2), .val (.int (v2 - (48 : Int32))), .unset, .unset, .unset] [])) rfl (hb hby at_11) (n := 40) (by decide) (by decide) (by decide) (by decide)
  replace X3 : Stand p l e room_1 (s.setVm T3.vm) m #[(.int p1)] below meth c T3 [] 2 44 := X3
  have Z3 : n0 ≤ h3.size := Nat.le_trans Z0 E3.1
  have KK3 : Keep h0 h3 [] := (Keep.refl h0 []).ext E3
  have R5 : ∀ t, Steps p.tables e below (T3.setTop (mkF m 15 #[.val (.int p1), .val (.int v2), .val (.int (v2 - (48 : Int32))), .val (.ref a3), .unset, .unset] [(.int (v2 - (48 : Int32)))])) t → Steps p.tables e below (s₁.setTop (entryFrame m #[(.int p1)] maxLocals)) t := by
    intro t kt
    refine R1 _ ?_
    show Steps p.tables e below (s₁.setTop (mkF m 5 #[.val (.int p1), .unset, .unset, .unset, .unset, .unset] [(.int v2)])) _
    refine XS.istoreN X0.here hx rfl (hb hby at_5) rfl (l' := #[.val (.int p1), .val (.int v2), .unset, .unset, .unset, .unset]) rfl ?_
    show Steps p.tables e below (s₁.setTop (mkF m 6 #[.val (.int p1), .val (.int v2), .unset, .unset, .unset, .unset] [])) _
    refine XS.iloadN X0.here hx rfl (hb hby at_6) rfl ?_
    show Steps p.tables e below (s₁.setTop (mkF m 7 #[.val (.int p1), .val (.int v2), .unset, .unset, .unset, .unset] [(.int v2)])) _
    refine XS.bipush X0.here hx rfl (hb hby at_7) ?_
    show Steps p.tables e below (s₁.setTop (mkF m 9 #[.val (.int p1), .val (.int v2), .unset, .unset, .unset, .unset] [(.int (48 : Int32)), (.int v2)])) _
    refine XS.isub X0.here hx rfl (hb hby at_9) rfl ?_
    show Steps p.tables e below (s₁.setTop (mkF m 10 #[.val (.int p1), .val (.int v2), .unset, .unset, .unset, .unset] [(.int (v2 - (48 : Int32)))])) _
    refine XS.istoreN X0.here hx rfl (hb hby at_10) rfl (l' := #[.val (.int p1), .val (.int v2), .val (.int (v2 - (48 : Int32))), .unset, .unset, .unset]) rfl ?_
    show Steps p.tables e below (s₁.setTop (mkF m 11 #[.val (.int p1), .val (.int v2), .val (.int (v2 - (48 : Int32))), .unset, .unset, .unset] [])) _
    refine st3 _ ?_
    show Steps p.tables e below (T3.setTop (mkF m 13 #[.val (.int p1), .val (.int v2), .val (.int (v2 - (48 : Int32))), .unset, .unset, .unset] [(.ref a3)])) _
    refine XS.astoreN X3.here hx rfl (hb hby at_13) rfl rfl (l' := #[.val (.int p1), .val (.int v2), .val (.int (v2 - (48 : Int32))), .val (.ref a3), .unset, .unset]) rfl ?_
    show Steps p.tables e below (T3.setTop (mkF m 14 #[.val (.int p1), .val (.int v2), .val (.int (v2 - (48 : Int32))), .val (.ref a3), .unset, .unset] [])) _
    refine XS.iloadN X3.here hx rfl (hb hby at_14) rfl ?_
    exact kt
  have J17 : ∃ (T' : State) (v15 : Int32), Stand p l e room_1 (s.setVm T3.vm) m #[(.int p1)] below meth c T' [] 2 44 ∧ T'.heap = h3 ∧ v15 = (if (v2 - (48 : Int32)) < (0 : Int32) then (0 : Int32) else (if (v2 - (48 : Int32)) < (10 : Int32) then (if (F2 (v2 - (48 : Int32)) own_u) = v2 then (1 : Int32) else (0 : Int32)) else (0 : Int32))) ∧ ∀ t, Steps p.tables e below (T'.setTop (mkF m 38 #[.val (.int p1), .val (.int v2), .val (.int (v2 - (48 : Int32))), .val (.ref a3), .unset, .unset] [(.int v15)])) t → Steps p.tables e below (s₁.setTop (entryFrame m #[(.int p1)] maxLocals)) t := by
    by_cases hc4 : (v2 - (48 : Int32)) < (0 : Int32)
    · have R6 : ∀ t, Steps p.tables e below (T3.setTop (mkF m 38 #[.val (.int p1), .val (.int v2), .val (.int (v2 - (48 : Int32))), .val (.ref a3), .unset, .unset] [(.int (0 : Int32))])) t → Steps p.tables e below (s₁.setTop (entryFrame m #[(.int p1)] maxLocals)) t := by
        intro t kt
        refine R5 _ ?_
        show Steps p.tables e below (T3.setTop (mkF m 15 #[.val (.int p1), .val (.int v2), .val (.int (v2 - (48 : Int32))), .val (.ref a3), .unset, .unset] [(.int (v2 - (48 : Int32)))])) _
        refine XS.ifYes X3.here hx rfl (pc0 := 15) (pc' := 37) rfl (hb hby at_15) rfl ((if0 _ _).trans (tlt hc4).1) (by decide) (by decide) ?_
        show Steps p.tables e below (T3.setTop (mkF m 37 #[.val (.int p1), .val (.int v2), .val (.int (v2 - (48 : Int32))), .val (.ref a3), .unset, .unset] [])) _
        refine XS.iconst X3.here hx rfl (hb hby at_37) ?_
        exact kt
      exact ⟨T3, (0 : Int32), X3, e3, (by rw [if_pos hc4]), R6⟩
    · have R8 : ∀ t, Steps p.tables e below (T3.setTop (mkF m 21 #[.val (.int p1), .val (.int v2), .val (.int (v2 - (48 : Int32))), .val (.ref a3), .unset, .unset] [(.int (10 : Int32)), (.int (v2 - (48 : Int32)))])) t → Steps p.tables e below (s₁.setTop (entryFrame m #[(.int p1)] maxLocals)) t := by
        intro t kt
        refine R5 _ ?_
        show Steps p.tables e below (T3.setTop (mkF m 15 #[.val (.int p1), .val (.int v2), .val (.int (v2 - (48 : Int32))), .val (.ref a3), .unset, .unset] [(.int (v2 - (48 : Int32)))])) _
        refine XS.ifNo X3.here hx rfl (hb hby at_15) rfl ((if0 _ _).trans (flt hc4).1) ?_
        show Steps p.tables e below (T3.setTop (mkF m 18 #[.val (.int p1), .val (.int v2), .val (.int (v2 - (48 : Int32))), .val (.ref a3), .unset, .unset] [])) _
        refine XS.iloadN X3.here hx rfl (hb hby at_18) rfl ?_
        show Steps p.tables e below (T3.setTop (mkF m 19 #[.val (.int p1), .val (.int v2), .val (.int (v2 - (48 : Int32))), .val (.ref a3), .unset, .unset] [(.int (v2 - (48 : Int32)))])) _
        refine XS.bipush X3.here hx rfl (hb hby at_19) ?_
        exact kt
      by_cases hc7 : (v2 - (48 : Int32)) < (10 : Int32)
      · obtain ⟨cq9, kq9, q9a, q9b, q9c⟩ := isOf hZ e3 Ex3
        obtain ⟨_, _, ⟨T9, L9, k9, n9⟩, -, X9, ⟨Lc9, hQ9, l9, y9, z9⟩, st9⟩ := X3.virtualBack hx (y := (⟨"java/lang/String", "charAt", "(I)C"⟩ : MethodName)) (z := (⟨"java/lang/String", "charAt", "(I)C"⟩ : MethodName)) hown (mvT hZ (hw _ (List.mem_of_getElem? (i := 13) rfl))) (mvT hZ (hw _ (List.mem_of_getElem? (i := 14) rfl))) (notFace_of_selects (args := #[]) (mvT hZ (hw _ (List.mem_of_getElem? (i := 16) rfl)))) (mvT hZ (hw _ (List.mem_of_getElem? (i := 16) rfl))) (mvT hZ (hw _ (List.mem_of_getElem? (i := 15) rfl))) (by decide) (backOf (W := 0) (rm2 l Z a0 hw [] a3 (v2 - (48 : Int32)) b3 (10 : Int32) own_u G1 G3 h3 n0 Z3 Ex3 Fc3 Fv3 (own_V Av3) (by decide) hc4 hc7 (O2.ext E3) P5 (O4.ext E3) rG3) hZ (hw _ (List.mem_of_getElem? (i := 17) rfl)) (hw _ (List.mem_of_getElem? (i := 2) rfl)) (by decide) (by decide)) q9a q9c (g := (mkF m 26 #[.val (.int p1), .val (.int v2), .val (.int (v2 - (48 : Int32))), .val (.ref a3), .unset, .unset] [(.int (v2 - (48 : Int32))), (.ref a3)])) rfl (by rw [hml]; rfl) (Steps.refl _) (argsL := [(.int (v2 - (48 : Int32)))]) (rest := []) (lenOf pd_0_2 rfl) rfl (by show 2 * 0 + _ ≤ _; exact Nat.le_of_eq rfl) (hb hby at_26) (fun _ _ => ⟨rfl, e3, (by decide : 2 + 0 ≤ _), (by decide : 44 + 0 ≤ _)⟩)
        dsimp only [Pt.U, Pt.locs, Pt.cells, Pt.slots] at X9 l9 y9 z9 st9 hQ9
        subst l9 y9 z9
        obtain ⟨rfl, rfl, e9⟩ := hQ9
        replace X9 : Stand p l e room_1 (s.setVm T3.vm) m #[(.int p1)] below meth c T9 [] 2 44 := X9
        have R11 : ∀ t, Steps p.tables e below (T9.setTop (mkF m 30 #[.val (.int p1), .val (.int v2), .val (.int (v2 - (48 : Int32))), .val (.ref a3), .unset, .unset] [(.int v2), (.int (F2 (v2 - (48 : Int32)) own_u))])) t → Steps p.tables e below (s₁.setTop (entryFrame m #[(.int p1)] maxLocals)) t := by
          intro t kt
          refine R8 _ ?_
          show Steps p.tables e below (T3.setTop (mkF m 21 #[.val (.int p1), .val (.int v2), .val (.int (v2 - (48 : Int32))), .val (.ref a3), .unset, .unset] [(.int (10 : Int32)), (.int (v2 - (48 : Int32)))])) _
          refine XS.icmpNo X3.here hx rfl (hb hby at_21) rfl (tlt hc7).2.1 ?_
          show Steps p.tables e below (T3.setTop (mkF m 24 #[.val (.int p1), .val (.int v2), .val (.int (v2 - (48 : Int32))), .val (.ref a3), .unset, .unset] [])) _
          refine XS.aloadN X3.here hx rfl (hb hby at_24) rfl rfl ?_
          show Steps p.tables e below (T3.setTop (mkF m 25 #[.val (.int p1), .val (.int v2), .val (.int (v2 - (48 : Int32))), .val (.ref a3), .unset, .unset] [(.ref a3)])) _
          refine XS.iloadN X3.here hx rfl (hb hby at_25) rfl ?_
          show Steps p.tables e below (T3.setTop (mkF m 26 #[.val (.int p1), .val (.int v2), .val (.int (v2 - (48 : Int32))), .val (.ref a3), .unset, .unset] [(.int (v2 - (48 : Int32))), (.ref a3)])) _
          refine st9.trans ?_
          show Steps p.tables e below (T9.setTop (mkF m 29 #[.val (.int p1), .val (.int v2), .val (.int (v2 - (48 : Int32))), .val (.ref a3), .unset, .unset] [(.int (F2 (v2 - (48 : Int32)) own_u))])) _
          refine XS.iloadN X9.here hx rfl (hb hby at_29) rfl ?_
          exact kt
        by_cases hc10 : (F2 (v2 - (48 : Int32)) own_u) = v2
        · have R12 : ∀ t, Steps p.tables e below (T9.setTop (mkF m 38 #[.val (.int p1), .val (.int v2), .val (.int (v2 - (48 : Int32))), .val (.ref a3), .unset, .unset] [(.int (1 : Int32))])) t → Steps p.tables e below (s₁.setTop (entryFrame m #[(.int p1)] maxLocals)) t := by
            intro t kt
            refine R11 _ ?_
            show Steps p.tables e below (T9.setTop (mkF m 30 #[.val (.int p1), .val (.int v2), .val (.int (v2 - (48 : Int32))), .val (.ref a3), .unset, .unset] [(.int v2), (.int (F2 (v2 - (48 : Int32)) own_u))])) _
            refine XS.icmpNo X9.here hx rfl (hb hby at_30) rfl (teq hc10).2 ?_
            show Steps p.tables e below (T9.setTop (mkF m 33 #[.val (.int p1), .val (.int v2), .val (.int (v2 - (48 : Int32))), .val (.ref a3), .unset, .unset] [])) _
            refine XS.iconst X9.here hx rfl (hb hby at_33) ?_
            show Steps p.tables e below (T9.setTop (mkF m 34 #[.val (.int p1), .val (.int v2), .val (.int (v2 - (48 : Int32))), .val (.ref a3), .unset, .unset] [(.int (1 : Int32))])) _
            refine XS.goto X9.here hx rfl (pc0 := 34) (pc' := 38) rfl (hb hby at_34) (by decide) (by decide) ?_
            exact kt
          exact ⟨T9, (1 : Int32), X9, e9, (by rw [if_neg hc4, if_pos hc7, if_pos hc10]), R12⟩
        · have R13 : ∀ t, Steps p.tables e below (T9.setTop (mkF m 38 #[.val (.int p1), .val (.int v2), .val (.int (v2 - (48 : Int32))), .val (.ref a3), .unset, .unset] [(.int (0 : Int32))])) t → Steps p.tables e below (s₁.setTop (entryFrame m #[(.int p1)] maxLocals)) t := by
            intro t kt
            refine R11 _ ?_
            show Steps p.tables e below (T9.setTop (mkF m 30 #[.val (.int p1), .val (.int v2), .val (.int (v2 - (48 : Int32))), .val (.ref a3), .unset, .unset] [(.int v2), (.int (F2 (v2 - (48 : Int32)) own_u))])) _
            refine XS.icmpYes X9.here hx rfl (pc0 := 30) (pc' := 37) rfl (hb hby at_30) rfl (feq hc10).2 (by decide) (by decide) ?_
            show Steps p.tables e below (T9.setTop (mkF m 37 #[.val (.int p1), .val (.int v2), .val (.int (v2 - (48 : Int32))), .val (.ref a3), .unset, .unset] [])) _
            refine XS.iconst X9.here hx rfl (hb hby at_37) ?_
            exact kt
          exact ⟨T9, (0 : Int32), X9, e9, (by rw [if_neg hc4, if_pos hc7, if_neg hc10]), R13⟩
      · have R14 : ∀ t, Steps p.tables e below (T3.setTop (mkF m 38 #[.val (.int p1), .val (.int v2), .val (.int (v2 - (48 : Int32))), .val (.ref a3), .unset, .unset] [(.int (0 : Int32))])) t → Steps p.tables e below (s₁.setTop (entryFrame m #[(.int p1)] maxLocals)) t := by
          intro t kt
          refine R8 _ ?_
          show Steps p.tables e below (T3.setTop (mkF m 21 #[.val (.int p1), .val (.int v2), .val (.int (v2 - (48 : Int32))), .val (.ref a3), .unset, .unset] [(.int (10 : Int32)), (.int (v2 - (48 : Int32)))])) _
          refine XS.icmpYes X3.here hx rfl (pc0 := 21) (pc' := 37) rfl (hb hby at_21) rfl (flt hc7).2.1 (by decide) (by decide) ?_
          show Steps p.tables e below (T3.setTop (mkF m 37 #[.val (.int p1), .val (.int v2), .val (.int (v2 - (48 : Int32))), .val (.ref a3), .unset, .unset] [])) _
          refine XS.iconst X3.here hx rfl (hb hby at_37) ?_
          exact kt
        exact ⟨T3, (0 : Int32), X3, e3, (by rw [if_neg hc4, if_neg hc7]), R14⟩
  obtain ⟨T18, v15, X19, e20, hv15, R16⟩ := J17
  obtain ⟨_, _, ⟨T21, L21, k21, n21⟩, -, X21, ⟨Lc21, hQ21, l21, y21, z21⟩, st21⟩ := Jvm.LawKit.callS X19 hx (y := (⟨"com/example/lookback/lookback/PlainDecimals", "isDigit", "(C)Z"⟩ : MethodName)) hown (mvT hZ (hw _ (List.mem_of_getElem? (i := 9) rfl))) (mvT hZ (hw _ (List.mem_of_getElem? (i := 10) rfl))) (mvT hZ (hw _ (List.mem_of_getElem? (i := 11) rfl))) (mvT hZ (hw _ (List.mem_of_getElem? (i := 12) rfl))) (by decide) (backOf (W := 0) (rm1 l Z a0 hw [] (48 : Int32) h3 n0 Z3) hZ (hw _ (List.mem_of_getElem? (i := 12) rfl)) (hw _ (List.mem_of_getElem? (i := 11) rfl)) (by decide) (by decide)) (g := (mkF m 42 #[.val (.int p1), .val (.int v2), .val (.int (v2 - (48 : Int32))), .val (.ref a3), .val (.int v15), .unset] [(.int (48 : Int32))])) rfl (by rw [hml]; rfl) (argsL := [(.int (48 : Int32))]) (rest := []) (lenOf pd_0_1 rfl) rfl (by show 2 * 0 + _ ≤ _; exact Nat.le_of_eq rfl) (hb hby at_42) (fun _ _ => ⟨rfl, e20, (by decide : 2 + 0 ≤ _), (by decide : 44 + 0 ≤ _)⟩)
  dsimp only [Pt.U, Pt.locs, Pt.cells, Pt.slots] at X21 l21 y21 z21 st21 hQ21
  subst l21 y21 z21
  obtain ⟨rfl, rfl, e21⟩ := hQ21
  replace X21 : Stand p l e room_1 (s.setVm T3.vm) m #[(.int p1)] below meth c T21 [] 2 44 := X21
  have R23 : ∀ t, Steps p.tables e below (T21.setTop (mkF m 45 #[.val (.int p1), .val (.int v2), .val (.int (v2 - (48 : Int32))), .val (.ref a3), .val (.int v15), .unset] [(.int (F1 (48 : Int32)))])) t → Steps p.tables e below (s₁.setTop (entryFrame m #[(.int p1)] maxLocals)) t := by
    intro t kt
    refine R16 _ ?_
    show Steps p.tables e below (T18.setTop (mkF m 38 #[.val (.int p1), .val (.int v2), .val (.int (v2 - (48 : Int32))), .val (.ref a3), .unset, .unset] [(.int v15)])) _
    refine XS.istore X19.here hx rfl (hb hby at_38) rfl (l' := #[.val (.int p1), .val (.int v2), .val (.int (v2 - (48 : Int32))), .val (.ref a3), .val (.int v15), .unset]) rfl ?_
    show Steps p.tables e below (T18.setTop (mkF m 40 #[.val (.int p1), .val (.int v2), .val (.int (v2 - (48 : Int32))), .val (.ref a3), .val (.int v15), .unset] [])) _
    refine XS.bipush X19.here hx rfl (hb hby at_40) ?_
    show Steps p.tables e below (T18.setTop (mkF m 42 #[.val (.int p1), .val (.int v2), .val (.int (v2 - (48 : Int32))), .val (.ref a3), .val (.int v15), .unset] [(.int (48 : Int32))])) _
    refine st21 _ ?_
    exact kt
  have J40 : ∃ (T' : State) (v38 : Int32), Stand p l e room_1 (s.setVm T3.vm) m #[(.int p1)] below meth c T' [] 2 44 ∧ T'.heap = h3 ∧ v38 = (if (F1 (48 : Int32)) = (0 : Int32) then (0 : Int32) else (if (F1 (57 : Int32)) = (0 : Int32) then (0 : Int32) else (if (F1 (47 : Int32)) = (0 : Int32) then (if (F1 (58 : Int32)) = (0 : Int32) then (1 : Int32) else (0 : Int32)) else (0 : Int32)))) ∧ ∀ t, Steps p.tables e below (T'.setTop (mkF m 77 #[.val (.int p1), .val (.int v2), .val (.int (v2 - (48 : Int32))), .val (.ref a3), .val (.int v15), .unset] [(.int v38)])) t → Steps p.tables e below (s₁.setTop (entryFrame m #[(.int p1)] maxLocals)) t := by
    by_cases hc22 : (F1 (48 : Int32)) = (0 : Int32)
    · have R24 : ∀ t, Steps p.tables e below (T21.setTop (mkF m 77 #[.val (.int p1), .val (.int v2), .val (.int (v2 - (48 : Int32))), .val (.ref a3), .val (.int v15), .unset] [(.int (0 : Int32))])) t → Steps p.tables e below (s₁.setTop (entryFrame m #[(.int p1)] maxLocals)) t := by
        intro t kt
        refine R23 _ ?_
        show Steps p.tables e below (T21.setTop (mkF m 45 #[.val (.int p1), .val (.int v2), .val (.int (v2 - (48 : Int32))), .val (.ref a3), .val (.int v15), .unset] [(.int (F1 (48 : Int32)))])) _
        refine XS.ifYes X21.here hx rfl (pc0 := 45) (pc' := 76) rfl (hb hby at_45) rfl ((if0 _ _).trans (teq hc22).1) (by decide) (by decide) ?_
        show Steps p.tables e below (T21.setTop (mkF m 76 #[.val (.int p1), .val (.int v2), .val (.int (v2 - (48 : Int32))), .val (.ref a3), .val (.int v15), .unset] [])) _
        refine XS.iconst X21.here hx rfl (hb hby at_76) ?_
        exact kt
      exact ⟨T21, (0 : Int32), X21, e21, (by rw [if_pos hc22]), R24⟩
    · obtain ⟨_, _, ⟨T25, L25, k25, n25⟩, -, X25, ⟨Lc25, hQ25, l25, y25, z25⟩, st25⟩ := Jvm.LawKit.callS X21 hx (y := (⟨"com/example/lookback/lookback/PlainDecimals", "isDigit", "(C)Z"⟩ : MethodName)) hown (mvT hZ (hw _ (List.mem_of_getElem? (i := 9) rfl))) (mvT hZ (hw _ (List.mem_of_getElem? (i := 10) rfl))) (mvT hZ (hw _ (List.mem_of_getElem? (i := 11) rfl))) (mvT hZ (hw _ (List.mem_of_getElem? (i := 12) rfl))) (by decide) (backOf (W := 0) (rm1 l Z a0 hw [] (57 : Int32) h3 n0 Z3) hZ (hw _ (List.mem_of_getElem? (i := 12) rfl)) (hw _ (List.mem_of_getElem? (i := 11) rfl)) (by decide) (by decide)) (g := (mkF m 50 #[.val (.int p1), .val (.int v2), .val (.int (v2 - (48 : Int32))), .val (.ref a3), .val (.int v15), .unset] [(.int (57 : Int32))])) rfl (by rw [hml]; rfl) (argsL := [(.int (57 : Int32))]) (rest := []) (lenOf pd_0_1 rfl) rfl (by show 2 * 0 + _ ≤ _; exact Nat.le_of_eq rfl) (hb hby at_50) (fun _ _ => ⟨rfl, e21, (by decide : 2 + 0 ≤ _), (by decide : 44 + 0 ≤ _)⟩)
      dsimp only [Pt.U, Pt.locs, Pt.cells, Pt.slots] at X25 l25 y25 z25 st25 hQ25
      subst l25 y25 z25
      obtain ⟨rfl, rfl, e25⟩ := hQ25
      replace X25 : Stand p l e room_1 (s.setVm T3.vm) m #[(.int p1)] below meth c T25 [] 2 44 := X25
      have R27 : ∀ t, Steps p.tables e below (T25.setTop (mkF m 53 #[.val (.int p1), .val (.int v2), .val (.int (v2 - (48 : Int32))), .val (.ref a3), .val (.int v15), .unset] [(.int (F1 (57 : Int32)))])) t → Steps p.tables e below (s₁.setTop (entryFrame m #[(.int p1)] maxLocals)) t := by
        intro t kt
        refine R23 _ ?_
        show Steps p.tables e below (T21.setTop (mkF m 45 #[.val (.int p1), .val (.int v2), .val (.int (v2 - (48 : Int32))), .val (.ref a3), .val (.int v15), .unset] [(.int (F1 (48 : Int32)))])) _
        refine XS.ifNo X21.here hx rfl (hb hby at_45) rfl ((if0 _ _).trans (feq hc22).1) ?_
        show Steps p.tables e below (T21.setTop (mkF m 48 #[.val (.int p1), .val (.int v2), .val (.int (v2 - (48 : Int32))), .val (.ref a3), .val (.int v15), .unset] [])) _
        refine XS.bipush X21.here hx rfl (hb hby at_48) ?_
        show Steps p.tables e below (T21.setTop (mkF m 50 #[.val (.int p1), .val (.int v2), .val (.int (v2 - (48 : Int32))), .val (.ref a3), .val (.int v15), .unset] [(.int (57 : Int32))])) _
        refine st25 _ ?_
        exact kt
      by_cases hc26 : (F1 (57 : Int32)) = (0 : Int32)
      · have R28 : ∀ t, Steps p.tables e below (T25.setTop (mkF m 77 #[.val (.int p1), .val (.int v2), .val (.int (v2 - (48 : Int32))), .val (.ref a3), .val (.int v15), .unset] [(.int (0 : Int32))])) t → Steps p.tables e below (s₁.setTop (entryFrame m #[(.int p1)] maxLocals)) t := by
          intro t kt
          refine R27 _ ?_
          show Steps p.tables e below (T25.setTop (mkF m 53 #[.val (.int p1), .val (.int v2), .val (.int (v2 - (48 : Int32))), .val (.ref a3), .val (.int v15), .unset] [(.int (F1 (57 : Int32)))])) _
          refine XS.ifYes X25.here hx rfl (pc0 := 53) (pc' := 76) rfl (hb hby at_53) rfl ((if0 _ _).trans (teq hc26).1) (by decide) (by decide) ?_
          show Steps p.tables e below (T25.setTop (mkF m 76 #[.val (.int p1), .val (.int v2), .val (.int (v2 - (48 : Int32))), .val (.ref a3), .val (.int v15), .unset] [])) _
          refine XS.iconst X25.here hx rfl (hb hby at_76) ?_
          exact kt
        exact ⟨T25, (0 : Int32), X25, e25, (by rw [if_neg hc22, if_pos hc26]), R28⟩
      · obtain ⟨_, _, ⟨T29, L29, k29, n29⟩, -, X29, ⟨Lc29, hQ29, l29, y29, z29⟩, st29⟩ := Jvm.LawKit.callS X25 hx (y := (⟨"com/example/lookback/lookback/PlainDecimals", "isDigit", "(C)Z"⟩ : MethodName)) hown (mvT hZ (hw _ (List.mem_of_getElem? (i := 9) rfl))) (mvT hZ (hw _ (List.mem_of_getElem? (i := 10) rfl))) (mvT hZ (hw _ (List.mem_of_getElem? (i := 11) rfl))) (mvT hZ (hw _ (List.mem_of_getElem? (i := 12) rfl))) (by decide) (backOf (W := 0) (rm1 l Z a0 hw [] (47 : Int32) h3 n0 Z3) hZ (hw _ (List.mem_of_getElem? (i := 12) rfl)) (hw _ (List.mem_of_getElem? (i := 11) rfl)) (by decide) (by decide)) (g := (mkF m 58 #[.val (.int p1), .val (.int v2), .val (.int (v2 - (48 : Int32))), .val (.ref a3), .val (.int v15), .unset] [(.int (47 : Int32))])) rfl (by rw [hml]; rfl) (argsL := [(.int (47 : Int32))]) (rest := []) (lenOf pd_0_1 rfl) rfl (by show 2 * 0 + _ ≤ _; exact Nat.le_of_eq rfl) (hb hby at_58) (fun _ _ => ⟨rfl, e25, (by decide : 2 + 0 ≤ _), (by decide : 44 + 0 ≤ _)⟩)
        dsimp only [Pt.U, Pt.locs, Pt.cells, Pt.slots] at X29 l29 y29 z29 st29 hQ29
        subst l29 y29 z29
        obtain ⟨rfl, rfl, e29⟩ := hQ29
        replace X29 : Stand p l e room_1 (s.setVm T3.vm) m #[(.int p1)] below meth c T29 [] 2 44 := X29
        have R31 : ∀ t, Steps p.tables e below (T29.setTop (mkF m 61 #[.val (.int p1), .val (.int v2), .val (.int (v2 - (48 : Int32))), .val (.ref a3), .val (.int v15), .unset] [(.int (F1 (47 : Int32)))])) t → Steps p.tables e below (s₁.setTop (entryFrame m #[(.int p1)] maxLocals)) t := by
          intro t kt
          refine R27 _ ?_
          show Steps p.tables e below (T25.setTop (mkF m 53 #[.val (.int p1), .val (.int v2), .val (.int (v2 - (48 : Int32))), .val (.ref a3), .val (.int v15), .unset] [(.int (F1 (57 : Int32)))])) _
          refine XS.ifNo X25.here hx rfl (hb hby at_53) rfl ((if0 _ _).trans (feq hc26).1) ?_
          show Steps p.tables e below (T25.setTop (mkF m 56 #[.val (.int p1), .val (.int v2), .val (.int (v2 - (48 : Int32))), .val (.ref a3), .val (.int v15), .unset] [])) _
          refine XS.bipush X25.here hx rfl (hb hby at_56) ?_
          show Steps p.tables e below (T25.setTop (mkF m 58 #[.val (.int p1), .val (.int v2), .val (.int (v2 - (48 : Int32))), .val (.ref a3), .val (.int v15), .unset] [(.int (47 : Int32))])) _
          refine st29 _ ?_
          exact kt
        by_cases hc30 : (F1 (47 : Int32)) = (0 : Int32)
        · obtain ⟨_, _, ⟨T32, L32, k32, n32⟩, -, X32, ⟨Lc32, hQ32, l32, y32, z32⟩, st32⟩ := Jvm.LawKit.callS X29 hx (y := (⟨"com/example/lookback/lookback/PlainDecimals", "isDigit", "(C)Z"⟩ : MethodName)) hown (mvT hZ (hw _ (List.mem_of_getElem? (i := 9) rfl))) (mvT hZ (hw _ (List.mem_of_getElem? (i := 10) rfl))) (mvT hZ (hw _ (List.mem_of_getElem? (i := 11) rfl))) (mvT hZ (hw _ (List.mem_of_getElem? (i := 12) rfl))) (by decide) (backOf (W := 0) (rm1 l Z a0 hw [] (58 : Int32) h3 n0 Z3) hZ (hw _ (List.mem_of_getElem? (i := 12) rfl)) (hw _ (List.mem_of_getElem? (i := 11) rfl)) (by decide) (by decide)) (g := (mkF m 66 #[.val (.int p1), .val (.int v2), .val (.int (v2 - (48 : Int32))), .val (.ref a3), .val (.int v15), .unset] [(.int (58 : Int32))])) rfl (by rw [hml]; rfl) (argsL := [(.int (58 : Int32))]) (rest := []) (lenOf pd_0_1 rfl) rfl (by show 2 * 0 + _ ≤ _; exact Nat.le_of_eq rfl) (hb hby at_66) (fun _ _ => ⟨rfl, e29, (by decide : 2 + 0 ≤ _), (by decide : 44 + 0 ≤ _)⟩)
          dsimp only [Pt.U, Pt.locs, Pt.cells, Pt.slots] at X32 l32 y32 z32 st32 hQ32
          subst l32 y32 z32
          obtain ⟨rfl, rfl, e32⟩ := hQ32
          replace X32 : Stand p l e room_1 (s.setVm T3.vm) m #[(.int p1)] below meth c T32 [] 2 44 := X32
          have R34 : ∀ t, Steps p.tables e below (T32.setTop (mkF m 69 #[.val (.int p1), .val (.int v2), .val (.int (v2 - (48 : Int32))), .val (.ref a3), .val (.int v15), .unset] [(.int (F1 (58 : Int32)))])) t → Steps p.tables e below (s₁.setTop (entryFrame m #[(.int p1)] maxLocals)) t := by
            intro t kt
            refine R31 _ ?_
            show Steps p.tables e below (T29.setTop (mkF m 61 #[.val (.int p1), .val (.int v2), .val (.int (v2 - (48 : Int32))), .val (.ref a3), .val (.int v15), .unset] [(.int (F1 (47 : Int32)))])) _
            refine XS.ifNo X29.here hx rfl (hb hby at_61) rfl ((if0 _ _).trans (teq hc30).2) ?_
            show Steps p.tables e below (T29.setTop (mkF m 64 #[.val (.int p1), .val (.int v2), .val (.int (v2 - (48 : Int32))), .val (.ref a3), .val (.int v15), .unset] [])) _
            refine XS.bipush X29.here hx rfl (hb hby at_64) ?_
            show Steps p.tables e below (T29.setTop (mkF m 66 #[.val (.int p1), .val (.int v2), .val (.int (v2 - (48 : Int32))), .val (.ref a3), .val (.int v15), .unset] [(.int (58 : Int32))])) _
            refine st32 _ ?_
            exact kt
          by_cases hc33 : (F1 (58 : Int32)) = (0 : Int32)
          · have R35 : ∀ t, Steps p.tables e below (T32.setTop (mkF m 77 #[.val (.int p1), .val (.int v2), .val (.int (v2 - (48 : Int32))), .val (.ref a3), .val (.int v15), .unset] [(.int (1 : Int32))])) t → Steps p.tables e below (s₁.setTop (entryFrame m #[(.int p1)] maxLocals)) t := by
              intro t kt
              refine R34 _ ?_
              show Steps p.tables e below (T32.setTop (mkF m 69 #[.val (.int p1), .val (.int v2), .val (.int (v2 - (48 : Int32))), .val (.ref a3), .val (.int v15), .unset] [(.int (F1 (58 : Int32)))])) _
              refine XS.ifNo X32.here hx rfl (hb hby at_69) rfl ((if0 _ _).trans (teq hc33).2) ?_
              show Steps p.tables e below (T32.setTop (mkF m 72 #[.val (.int p1), .val (.int v2), .val (.int (v2 - (48 : Int32))), .val (.ref a3), .val (.int v15), .unset] [])) _
              refine XS.iconst X32.here hx rfl (hb hby at_72) ?_
              show Steps p.tables e below (T32.setTop (mkF m 73 #[.val (.int p1), .val (.int v2), .val (.int (v2 - (48 : Int32))), .val (.ref a3), .val (.int v15), .unset] [(.int (1 : Int32))])) _
              refine XS.goto X32.here hx rfl (pc0 := 73) (pc' := 77) rfl (hb hby at_73) (by decide) (by decide) ?_
              exact kt
            exact ⟨T32, (1 : Int32), X32, e32, (by rw [if_neg hc22, if_neg hc26, if_pos hc30, if_pos hc33]), R35⟩
          · have R36 : ∀ t, Steps p.tables e below (T32.setTop (mkF m 77 #[.val (.int p1), .val (.int v2), .val (.int (v2 - (48 : Int32))), .val (.ref a3), .val (.int v15), .unset] [(.int (0 : Int32))])) t → Steps p.tables e below (s₁.setTop (entryFrame m #[(.int p1)] maxLocals)) t := by
              intro t kt
              refine R34 _ ?_
              show Steps p.tables e below (T32.setTop (mkF m 69 #[.val (.int p1), .val (.int v2), .val (.int (v2 - (48 : Int32))), .val (.ref a3), .val (.int v15), .unset] [(.int (F1 (58 : Int32)))])) _
              refine XS.ifYes X32.here hx rfl (pc0 := 69) (pc' := 76) rfl (hb hby at_69) rfl ((if0 _ _).trans (feq hc33).2) (by decide) (by decide) ?_
              show Steps p.tables e below (T32.setTop (mkF m 76 #[.val (.int p1), .val (.int v2), .val (.int (v2 - (48 : Int32))), .val (.ref a3), .val (.int v15), .unset] [])) _
              refine XS.iconst X32.here hx rfl (hb hby at_76) ?_
              exact kt
            exact ⟨T32, (0 : Int32), X32, e32, (by rw [if_neg hc22, if_neg hc26, if_pos hc30, if_neg hc33]), R36⟩
        · have R37 : ∀ t, Steps p.tables e below (T29.setTop (mkF m 77 #[.val (.int p1), .val (.int v2), .val (.int (v2 - (48 : Int32))), .val (.ref a3), .val (.int v15), .unset] [(.int (0 : Int32))])) t → Steps p.tables e below (s₁.setTop (entryFrame m #[(.int p1)] maxLocals)) t := by
            intro t kt
            refine R31 _ ?_
            show Steps p.tables e below (T29.setTop (mkF m 61 #[.val (.int p1), .val (.int v2), .val (.int (v2 - (48 : Int32))), .val (.ref a3), .val (.int v15), .unset] [(.int (F1 (47 : Int32)))])) _
            refine XS.ifYes X29.here hx rfl (pc0 := 61) (pc' := 76) rfl (hb hby at_61) rfl ((if0 _ _).trans (feq hc30).2) (by decide) (by decide) ?_
            show Steps p.tables e below (T29.setTop (mkF m 76 #[.val (.int p1), .val (.int v2), .val (.int (v2 - (48 : Int32))), .val (.ref a3), .val (.int v15), .unset] [])) _
            refine XS.iconst X29.here hx rfl (hb hby at_76) ?_
            exact kt
          exact ⟨T29, (0 : Int32), X29, e29, (by rw [if_neg hc22, if_neg hc26, if_neg hc30]), R37⟩
  obtain ⟨T41, v38, X42, e43, hv38, R39⟩ := J40
  have R45 : ∀ t, Steps p.tables e below (T41.setTop (mkF m 81 #[.val (.int p1), .val (.int v2), .val (.int (v2 - (48 : Int32))), .val (.ref a3), .val (.int v15), .val (.int v38)] [(.int v38)])) t → Steps p.tables e below (s₁.setTop (entryFrame m #[(.int p1)] maxLocals)) t := by
    intro t kt
    refine R39 _ ?_
    show Steps p.tables e below (T41.setTop (mkF m 77 #[.val (.int p1), .val (.int v2), .val (.int (v2 - (48 : Int32))), .val (.ref a3), .val (.int v15), .unset] [(.int v38)])) _
    refine XS.istore X42.here hx rfl (hb hby at_77) rfl (l' := #[.val (.int p1), .val (.int v2), .val (.int (v2 - (48 : Int32))), .val (.ref a3), .val (.int v15), .val (.int v38)]) rfl ?_
    show Steps p.tables e below (T41.setTop (mkF m 79 #[.val (.int p1), .val (.int v2), .val (.int (v2 - (48 : Int32))), .val (.ref a3), .val (.int v15), .val (.int v38)] [])) _
    refine XS.iload X42.here hx rfl (hb hby at_79) rfl ?_
    exact kt
  have J54 : ∃ (T' : State) (v52 : Int32), Stand p l e room_1 (s.setVm T3.vm) m #[(.int p1)] below meth c T' [] 2 44 ∧ T'.heap = h3 ∧ v52 = (if v38 = (0 : Int32) then (0 : Int32) else (if (F1 v2) = v15 then (1 : Int32) else (0 : Int32))) ∧ ∀ t, Steps p.tables e below (T'.setTop (mkF m 98 #[.val (.int p1), .val (.int v2), .val (.int (v2 - (48 : Int32))), .val (.ref a3), .val (.int v15), .val (.int v38)] [(.int v52)])) t → Steps p.tables e below (s₁.setTop (entryFrame m #[(.int p1)] maxLocals)) t := by
    by_cases hc44 : v38 = (0 : Int32)
    · have R46 : ∀ t, Steps p.tables e below (T41.setTop (mkF m 98 #[.val (.int p1), .val (.int v2), .val (.int (v2 - (48 : Int32))), .val (.ref a3), .val (.int v15), .val (.int v38)] [(.int (0 : Int32))])) t → Steps p.tables e below (s₁.setTop (entryFrame m #[(.int p1)] maxLocals)) t := by
        intro t kt
        refine R45 _ ?_
        show Steps p.tables e below (T41.setTop (mkF m 81 #[.val (.int p1), .val (.int v2), .val (.int (v2 - (48 : Int32))), .val (.ref a3), .val (.int v15), .val (.int v38)] [(.int v38)])) _
        refine XS.ifYes X42.here hx rfl (pc0 := 81) (pc' := 97) rfl (hb hby at_81) rfl ((if0 _ _).trans (teq hc44).1) (by decide) (by decide) ?_
        show Steps p.tables e below (T41.setTop (mkF m 97 #[.val (.int p1), .val (.int v2), .val (.int (v2 - (48 : Int32))), .val (.ref a3), .val (.int v15), .val (.int v38)] [])) _
        refine XS.iconst X42.here hx rfl (hb hby at_97) ?_
        exact kt
      exact ⟨T41, (0 : Int32), X42, e43, (by rw [if_pos hc44]), R46⟩
    · obtain ⟨_, _, ⟨T47, L47, k47, n47⟩, -, X47, ⟨Lc47, hQ47, l47, y47, z47⟩, st47⟩ := Jvm.LawKit.callS X42 hx (y := (⟨"com/example/lookback/lookback/PlainDecimals", "isDigit", "(C)Z"⟩ : MethodName)) hown (mvT hZ (hw _ (List.mem_of_getElem? (i := 9) rfl))) (mvT hZ (hw _ (List.mem_of_getElem? (i := 10) rfl))) (mvT hZ (hw _ (List.mem_of_getElem? (i := 11) rfl))) (mvT hZ (hw _ (List.mem_of_getElem? (i := 12) rfl))) (by decide) (backOf (W := 0) (rm1 l Z a0 hw [] v2 h3 n0 Z3) hZ (hw _ (List.mem_of_getElem? (i := 12) rfl)) (hw _ (List.mem_of_getElem? (i := 11) rfl)) (by decide) (by decide)) (g := (mkF m 85 #[.val (.int p1), .val (.int v2), .val (.int (v2 - (48 : Int32))), .val (.ref a3), .val (.int v15), .val (.int v38)] [(.int v2)])) rfl (by rw [hml]; rfl) (argsL := [(.int v2)]) (rest := []) (lenOf pd_0_1 rfl) rfl (by show 2 * 0 + _ ≤ _; exact Nat.le_of_eq rfl) (hb hby at_85) (fun _ _ => ⟨rfl, e43, (by decide : 2 + 0 ≤ _), (by decide : 44 + 0 ≤ _)⟩)
      dsimp only [Pt.U, Pt.locs, Pt.cells, Pt.slots] at X47 l47 y47 z47 st47 hQ47
      subst l47 y47 z47
      obtain ⟨rfl, rfl, e47⟩ := hQ47
      replace X47 : Stand p l e room_1 (s.setVm T3.vm) m #[(.int p1)] below meth c T47 [] 2 44 := X47
      have R49 : ∀ t, Steps p.tables e below (T47.setTop (mkF m 90 #[.val (.int p1), .val (.int v2), .val (.int (v2 - (48 : Int32))), .val (.ref a3), .val (.int v15), .val (.int v38)] [(.int v15), (.int (F1 v2))])) t → Steps p.tables e below (s₁.setTop (entryFrame m #[(.int p1)] maxLocals)) t := by
        intro t kt
        refine R45 _ ?_
        show Steps p.tables e below (T41.setTop (mkF m 81 #[.val (.int p1), .val (.int v2), .val (.int (v2 - (48 : Int32))), .val (.ref a3), .val (.int v15), .val (.int v38)] [(.int v38)])) _
        refine XS.ifNo X42.here hx rfl (hb hby at_81) rfl ((if0 _ _).trans (feq hc44).1) ?_
        show Steps p.tables e below (T41.setTop (mkF m 84 #[.val (.int p1), .val (.int v2), .val (.int (v2 - (48 : Int32))), .val (.ref a3), .val (.int v15), .val (.int v38)] [])) _
        refine XS.iloadN X42.here hx rfl (hb hby at_84) rfl ?_
        show Steps p.tables e below (T41.setTop (mkF m 85 #[.val (.int p1), .val (.int v2), .val (.int (v2 - (48 : Int32))), .val (.ref a3), .val (.int v15), .val (.int v38)] [(.int v2)])) _
        refine st47 _ ?_
        show Steps p.tables e below (T47.setTop (mkF m 88 #[.val (.int p1), .val (.int v2), .val (.int (v2 - (48 : Int32))), .val (.ref a3), .val (.int v15), .val (.int v38)] [(.int (F1 v2))])) _
        refine XS.iload X47.here hx rfl (hb hby at_88) rfl ?_
        exact kt
      by_cases hc48 : (F1 v2) = v15
      · have R50 : ∀ t, Steps p.tables e below (T47.setTop (mkF m 98 #[.val (.int p1), .val (.int v2), .val (.int (v2 - (48 : Int32))), .val (.ref a3), .val (.int v15), .val (.int v38)] [(.int (1 : Int32))])) t → Steps p.tables e below (s₁.setTop (entryFrame m #[(.int p1)] maxLocals)) t := by
          intro t kt
          refine R49 _ ?_
          show Steps p.tables e below (T47.setTop (mkF m 90 #[.val (.int p1), .val (.int v2), .val (.int (v2 - (48 : Int32))), .val (.ref a3), .val (.int v15), .val (.int v38)] [(.int v15), (.int (F1 v2))])) _
          refine XS.icmpNo X47.here hx rfl (hb hby at_90) rfl (teq hc48).2 ?_
          show Steps p.tables e below (T47.setTop (mkF m 93 #[.val (.int p1), .val (.int v2), .val (.int (v2 - (48 : Int32))), .val (.ref a3), .val (.int v15), .val (.int v38)] [])) _
          refine XS.iconst X47.here hx rfl (hb hby at_93) ?_
          show Steps p.tables e below (T47.setTop (mkF m 94 #[.val (.int p1), .val (.int v2), .val (.int (v2 - (48 : Int32))), .val (.ref a3), .val (.int v15), .val (.int v38)] [(.int (1 : Int32))])) _
          refine XS.goto X47.here hx rfl (pc0 := 94) (pc' := 98) rfl (hb hby at_94) (by decide) (by decide) ?_
          exact kt
        exact ⟨T47, (1 : Int32), X47, e47, (by rw [if_neg hc44, if_pos hc48]), R50⟩
      · have R51 : ∀ t, Steps p.tables e below (T47.setTop (mkF m 98 #[.val (.int p1), .val (.int v2), .val (.int (v2 - (48 : Int32))), .val (.ref a3), .val (.int v15), .val (.int v38)] [(.int (0 : Int32))])) t → Steps p.tables e below (s₁.setTop (entryFrame m #[(.int p1)] maxLocals)) t := by
          intro t kt
          refine R49 _ ?_
          show Steps p.tables e below (T47.setTop (mkF m 90 #[.val (.int p1), .val (.int v2), .val (.int (v2 - (48 : Int32))), .val (.ref a3), .val (.int v15), .val (.int v38)] [(.int v15), (.int (F1 v2))])) _
          refine XS.icmpYes X47.here hx rfl (pc0 := 90) (pc' := 97) rfl (hb hby at_90) rfl (feq hc48).2 (by decide) (by decide) ?_
          show Steps p.tables e below (T47.setTop (mkF m 97 #[.val (.int p1), .val (.int v2), .val (.int (v2 - (48 : Int32))), .val (.ref a3), .val (.int v15), .val (.int v38)] [])) _
          refine XS.iconst X47.here hx rfl (hb hby at_97) ?_
          exact kt
        exact ⟨T47, (0 : Int32), X47, e47, (by rw [if_neg hc44, if_neg hc48]), R51⟩
  obtain ⟨T55, v52, X56, e57, hv52, R53⟩ := J54
  obtain ⟨fs, hr, hrun, hended, w1, w2, w3, w4⟩ := Stand.leaveW (s := s) X56 hS3 (by first | exact hk3 | (rw [e57]; exact hk3)) (v := some (.int (nar .boolean v52))) (fun h => by rw [Bd.returns] at h; cases h)
  refine ⟨_, _, R53 _ ?_, hrun, hended, _, _, rfl, ?_, w1, w2, w3, w4.mono (by decide) (by decide)⟩
  · show Steps p.tables e below (T55.setTop (mkF m 98 #[.val (.int p1), .val (.int v2), .val (.int (v2 - (48 : Int32))), .val (.ref a3), .val (.int v15), .val (.int v38)] [(.int v52)])) _
    exact retN X56 hx (t := .boolean) Bd.returns (by simp) (hb hby at_98) hr
  · show Q0 Z p1 G1 G3 h0 n0 _ T55.heap _
    rw [e57]
    refine ⟨?_, (Fr.nil n0)⟩
    subst hv2 hv15 hv38 hv52; rfl
theorem own_enum (c : Int32) (lo : Int) (n : Nat) (h1 : lo ≤ c.toInt) (h2 : c.toInt < lo + n) : ∃ k : Fin n, c = Int32.ofInt (lo + k.val) :=
  ⟨⟨(c.toInt - lo).toNat, by omega⟩, by
    show c = Int32.ofInt (lo + ((c.toInt - lo).toNat : Int))
    rw [show lo + ((c.toInt - lo).toNat : Int) = c.toInt by omega, Int32.ofInt_toInt]⟩
def own_e (c : Int32) : Int32 := (if (c - (48 : Int32)) < (0 : Int32) then (0 : Int32) else (if (c - (48 : Int32)) < (10 : Int32) then (if (F2 (c - (48 : Int32)) own_u) = c then (1 : Int32) else (0 : Int32)) else (0 : Int32)))
theorem own_in : ∀ k : Fin 10, F1 (Int32.ofInt (48 + k.val)) = own_e (Int32.ofInt (48 + k.val)) := by decide +kernel
theorem own_eq (c : Int32) (h1 : 0 ≤ c.toInt) (h2 : c.toInt < 65536) : F1 c = own_e c := by
  have a := c_isub c 48
  have r := rng32 (c - 48)
  rw [show (48 : Int32).toInt = 48 from rfl] at a
  have b : (c - 48).toInt = c.toInt - 48 := by omega
  by_cases q1 : c.toInt < 48
  · have e1 : F1 c = 0 := by
      simp only [F1, Int32.lt_iff_toInt_lt, show (48 : Int32).toInt = 48 from rfl]
      rw [if_pos q1]; rfl
    have e2 : own_e c = 0 := by
      unfold own_e
      rw [if_pos (by rw [Int32.lt_iff_toInt_lt, b, show (0 : Int32).toInt = 0 from rfl]; omega)]
    rw [e1, e2]
  · by_cases q2 : 57 < c.toInt
    · have e1 : F1 c = 0 := by
        simp only [F1, Int32.lt_iff_toInt_lt, show (48 : Int32).toInt = 48 from rfl, show (57 : Int32).toInt = 57 from rfl]
        rw [if_neg q1, if_pos q2]; rfl
      have e2 : own_e c = 0 := by
        unfold own_e
        rw [if_neg (by rw [Int32.lt_iff_toInt_lt, b, show (0 : Int32).toInt = 0 from rfl]; omega), if_neg (by rw [Int32.lt_iff_toInt_lt, b, show (10 : Int32).toInt = 10 from rfl]; omega)]
      rw [e1, e2]
    · obtain ⟨k, rfl⟩ := own_enum c 48 10 (by omega) (by omega)
      exact own_in k
theorem own_core (v a b : Int32) (hv : v = 1) (h : a = b) : nar .boolean (if v = (0 : Int32) then (0 : Int32) else (if a = b then (1 : Int32) else (0 : Int32))) = 1 := by
  subst hv; rw [if_neg (by decide), if_pos h]; rfl
theorem own_plain (p1 : Int32) : F0 p1 = 1 :=
  have c := c_i2c (p1 &&& (65535 : Int32))
  own_core _ _ _ (by decide +kernel) (own_eq _ c.2.1 c.2.2)
theorem own_fin {Z : State} (p1 : Int32) (G1 : Int32) (G3 : Value) (h0 : Heap) (n0 : Nat) (h : Heap) (L : List Loc) {v : Option Value} (q : Q0 Z p1 G1 G3 h0 n0 v h L) : v = some (.int (1 : Int32)) ∧ Fr n0 L := by
  obtain ⟨rfl, N⟩ := q
  exact ⟨by rw [own_plain], N⟩
set_option maxRecDepth 65536 in
set_option maxHeartbeats 40000000 in
theorem comes_1 {Post : Tables → Env → Array Value → State → Outcome → State → Prop} (hpost : ∀ tb e args s v u, (limb_1_1.after args s (.returned v) u = true ∧ limb_1_2.after args s (.returned v) u = true ∧ True) → ReturnedEndW s (.returned v) u (Jvm.fieldLocs frame_1_writes args s ++ Jvm.arrayLocs frame_1_arrays args s ++ Jvm.staticLocs frame_1_statics s) 8 1088 → Post tb e args s (.returned v) u) :
    ArmFor flags0 classFile x code maxLocals ret World_1 tables_1 room_1 Calls_1 rest_1 Pre_1 Post := by
  intro l hfl _ _ p e ha hc hk s m args below hf hA hF happ hP
  obtain ⟨hcalls, hrest, hpre⟩ := hP
  obtain ⟨-, -, -, hnamed, -, -, -, hat⟩ := (Spec.applies_iff hf).mp happ
  obtain ⟨hg, hn⟩ := and_e (Cond.before_iff.mp (show (Jvm.Cond.and given_1 narrow_1).before args s = true from hpre))
  obtain ⟨ga0, gb0⟩ := and_e hg
  obtain ⟨w0, rfl⟩ : ∃ w0 : Value, args = #[w0] := by
    have hs : args.size = 1 := by simpa [Cond.value, given_1] using ga0
    obtain ⟨L⟩ := args
    match L, hs with
    | [w0], _ => exact ⟨w0, rfl⟩
  have hw := fun d (hd : d ∈ tables_1) => atoms_spec (ws := Jvm.Cond.code x code maxLocals ret :: tables_1) hat d (List.mem_cons_of_mem _ hd)
  have hfit : Fit s := fun {y c} hc i hi => by
    obtain ⟨ha, rfl⟩ := Array.getElem?_eq_some_iff.mp hc
    have q := List.all_eq_true.mp ((Array.all_eq_true_iff_forall_mem.mp hF) _ (Array.getElem_mem ha)) i (List.mem_range.mpr hi)
    simpa [Array.getElem?_eq_getElem hi] using q
  obtain ⟨i0, ei0⟩ := is_v gb0
  obtain rfl : w0 = (.int i0) := Option.some.inj ei0
  obtain ⟨hsets, hown0⟩ := atoms_of _ (rest_1_c_eq ▸ (show rest_1_c.before _ s = true from hrest))
  have n3 := not_v (Cond.before_iff.mp (hsets _ (List.mem_of_getElem? (i := 2) rfl)))
  obtain ⟨iG, eG⟩ := is_v (Cond.before_iff.mp (hsets _ (List.mem_of_getElem? (i := 1) rfl)))
  have SG : Sta s s.heap "java/lang/String" "COMPACT_STRINGS" "Z" (.int iG) := Sta.start eG (Or.inl (hsets _ (List.mem_of_getElem? (i := 0) rfl)))
  obtain ⟨vF, eF, rF⟩ := isR_v (Cond.before_iff.mp (hsets _ (List.mem_of_getElem? (i := 8) rfl)))
  have SF : Sta s s.heap "jdk/internal/util/Preconditions" "SIOOBE_FORMATTER" "Ljava/util/function/BiFunction;" vF := Sta.start eF (Or.inl (hsets _ (List.mem_of_getElem? (i := 7) rfl)))
  have cG : ¬ (iG = (0 : Int32)) := gotF (Cond.eq_ints eG (Term.int_eval (0))) n3
  obtain ⟨n, o, h1, h2, h3, v, L, rfl, hQ, hq⟩ := rm0 l s _ hw tables_1 i0 iG vF s.heap s.heap.size (Nat.le_refl _) rfl SG cG SF rF (hcalls.1 ("com/example/lookback/lookback/PlainDecimalsIsDigitPinLaw", 8) (by simp [consts_1])) (hsets _ (List.mem_of_getElem? (i := 2) rfl)) p e ha hc hk s m _ below hf ((Spec.applies_iff_loose hf).mp happ).1 ⟨rfl, State.Warmed39.refl s, rfl, IB.start⟩ trivial
  obtain ⟨rfl, N⟩ := own_fin i0 iG vF _ _ _ _ hQ
  refine ⟨n, _, h1, h2, h3, hpost _ _ _ _ _ _ ⟨Cond.after_iff.mpr rfl, Cond.after_iff.mpr (eq_i res_at (Term.int_eval (1)) rfl), trivial⟩ ⟨hq.1, hq.2.1, hq.2.2.1, (hq.2.2.2.sift fun y hy => Or.inr (N y hy)).mono (by decide) (by decide)⟩⟩
theorem main_1_1 : Claimed_1_1 := comes_1 fun _ _ _ _ _ _ h hF => ⟨h.1, hF⟩
theorem main_1_2 : Claimed_1_2 := comes_1 fun _ _ _ _ _ _ h hF => ⟨h.2.1, hF⟩
end Jvm.Pilot.@@N@@
namespace Jvm.Pilot.@@N@@
open Jvm Jvm.ClassFile Sem Op Lib Jvm.Free Jvm.Stand Jvm.Pilot.@@N@@.Jvm.D
/-! MADE BY PROGRAM (witnessworld.py) out of the Statement's table words and the real class files: 17 classes; the members and pool entries that the words name. The judged class is class 1, her method 1. -/
namespace start1
open Jvm.ClassFile
def u (s : String) : CpInfo := .utf8 (stringToUtf16 s)
/-- a pool by its gaps: so many unusable entries, then the entry; so many at the end -/
def gap : Nat → List CpInfo → List CpInfo
  | 0, r => r
  | n + 1, r => .unusable :: gap n r
def poolList (es : List (Nat × CpInfo)) (last : Nat) : List CpInfo := es.foldr (fun e r => gap e.1 (e.2 :: r)) (gap last [])
def pool (es : List (Nat × CpInfo)) (last : Nat) : Array CpInfo := ⟨poolList es last⟩
def fileOf (pool : Array CpInfo) (this : Nat) (attrs : Array Attribute := #[]) (ms : Array MethodInfo := #[]) (fl : Nat := 33) (sup : Nat := 0) (ifs : Array Nat := #[]) (fds : Array FieldInfo := #[]) : ClassFile where
  minorVersion := 0
  majorVersion := 65
  constantPool := pool
  accessFlags := fl
  thisClass := this
  superClass := sup
  interfaces := ifs
  fields := fds
  methods := ms
  attributes := attrs
def plain (name : String) (sup : Option ClassId) : Class where
  name := name
  kind := .ordinary
  loader := none
  accessFlags := 33
  super := sup
  interfaces := #[]
  cf := none
  fields := #[]
  methods := #[]
  instanceTypes := #[]
  staticTypes := #[]
  resolved := #[]
  callSites := []
  init := .initialized
  statics := none
  mirror := none

def pool0 : Array CpInfo := pool [(5, u "<init>"), (0, u "()V"), (1, .class_ 10), (1, u "java/lang/Object")] 113

def k0m0 : Method := { name := "<init>", desc := "()V", sig := { parameters := [], returnType := none }, accessFlags := 1, code := none }
/-- java/lang/Object -/
def k0 : Class := { plain "java/lang/Object" none with
  accessFlags := 33
  interfaces := #[]
  cf := some (fileOf pool0 8 #[] #[{ accessFlags := 1, nameIndex := 5, descriptorIndex := 6, attributes := #[] }] 33 0 #[] #[])
  fields := #[]
  methods := #[k0m0]
  instanceTypes := #[]
  staticTypes := #[]
  resolved := Array.replicate 124 none
  statics := none }

def pool1 : Array CpInfo := pool [(2, .class_ 4), (1, u "java/lang/Object"), (0, u "<init>"), (0, u "()V"), (0, .integer 65535), (0, .string 9), (0, u "0123456789"), (0, .methodref 11 12), (0, .class_ 13), (0, .nameAndType 14 15), (0, u "java/lang/String"), (0, u "charAt"), (0, u "(I)C"), (0, .methodref 17 18), (0, .class_ 19), (0, .nameAndType 20 21), (0, u "com/example/lookback/lookback/PlainDecimals"), (0, u "isDigit"), (0, u "(C)Z"), (0, .class_ 23), (0, u "com/example/lookback/lookback/PlainDecimalsIsDigitPinLaw"), (2, u "law"), (0, u "(I)Z")] 3

def k1m0 : Method := { name := "<init>", desc := "()V", sig := { parameters := [], returnType := none }, accessFlags := 2, code := none }
def k1c1 : Code := { maxStack := 2, maxLocals := 6, code := code, exceptionTable := #[], attributes := #[] }
def k1m1 : Method := { name := "law", desc := "(I)Z", sig := { parameters := [.int], returnType := some .boolean }, accessFlags := 9, code := some k1c1 }
/-- com/example/lookback/lookback/PlainDecimalsIsDigitPinLaw -/
def k1 : Class := { plain "com/example/lookback/lookback/PlainDecimalsIsDigitPinLaw" (some 0) with
  accessFlags := 49
  interfaces := #[]
  cf := some (fileOf pool1 22 #[] #[{ accessFlags := 2, nameIndex := 5, descriptorIndex := 6, attributes := #[] }, { accessFlags := 9, nameIndex := 26, descriptorIndex := 27, attributes := #[] }] 49 2 #[] #[])
  fields := #[]
  methods := #[k1m0, k1m1]
  instanceTypes := #[]
  staticTypes := #[]
  resolved := Array.replicate 31 none
  statics := none }

def pool2 : Array CpInfo := pool [(1, .class_ 2), (0, u "java/io/Serializable"), (0, .class_ 4), (0, u "java/lang/Object")] 2

/-- java/io/Serializable -/
def k2 : Class := { plain "java/io/Serializable" (some 0) with
  accessFlags := 1537
  interfaces := #[]
  cf := some (fileOf pool2 1 #[] #[] 1537 3 #[] #[])
  fields := #[]
  methods := #[]
  instanceTypes := #[]
  staticTypes := #[]
  resolved := Array.replicate 7 none
  statics := none }

def pool3 : Array CpInfo := pool [(1, .class_ 2), (0, u "java/lang/Comparable"), (0, .class_ 4), (0, u "java/lang/Object")] 7

/-- java/lang/Comparable -/
def k3 : Class := { plain "java/lang/Comparable" (some 0) with
  accessFlags := 1537
  interfaces := #[]
  cf := some (fileOf pool3 1 #[] #[] 1537 3 #[] #[])
  fields := #[]
  methods := #[]
  instanceTypes := #[]
  staticTypes := #[]
  resolved := Array.replicate 12 none
  statics := none }

def pool4 : Array CpInfo := pool [(2, .class_ 4), (1, u "java/lang/CharSequence"), (42, .class_ 48), (0, u "java/lang/CharSequence$1CodePointIterator"), (10, .class_ 60), (0, u "java/lang/CharSequence$1CharIterator"), (5, .class_ 67), (0, u "java/lang/Object")] 63

/-- java/lang/CharSequence -/
def k4 : Class := { plain "java/lang/CharSequence" (some 0) with
  accessFlags := 1537
  interfaces := #[]
  cf := some (fileOf pool4 2 #[.nestMembers #[47, 59]] #[] 1537 66 #[] #[])
  fields := #[]
  methods := #[]
  instanceTypes := #[]
  staticTypes := #[]
  resolved := Array.replicate 131 none
  statics := none }

def pool5 : Array CpInfo := pool [(1, .class_ 2), (0, u "java/lang/constant/Constable"), (0, .class_ 4), (0, u "java/lang/Object")] 6

/-- java/lang/constant/Constable -/
def k5 : Class := { plain "java/lang/constant/Constable" (some 0) with
  accessFlags := 1537
  interfaces := #[]
  cf := some (fileOf pool5 1 #[] #[] 1537 3 #[] #[])
  fields := #[]
  methods := #[]
  instanceTypes := #[]
  staticTypes := #[]
  resolved := Array.replicate 11 none
  statics := none }

def pool6 : Array CpInfo := pool [(1, .class_ 2), (0, u "java/lang/constant/ConstantDesc"), (0, .class_ 4), (0, u "java/lang/Object")] 32

/-- java/lang/constant/ConstantDesc -/
def k6 : Class := { plain "java/lang/constant/ConstantDesc" (some 0) with
  accessFlags := 1537
  interfaces := #[]
  cf := some (fileOf pool6 1 #[] #[] 1537 3 #[] #[])
  fields := #[]
  methods := #[]
  instanceTypes := #[]
  staticTypes := #[]
  resolved := Array.replicate 37 none
  statics := none }

def pool7 : Array CpInfo := pool [(2, .class_ 4), (1, u "java/lang/Object"), (0, u "<init>"), (0, u "()V"), (2, .fieldref 10 11), (0, .class_ 12), (0, .nameAndType 13 14), (0, u "java/lang/String"), (0, u "value"), (0, u "[B"), (0, .fieldref 10 16), (0, .nameAndType 17 18), (0, u "coder"), (0, u "B"), (2, u "hash"), (0, u "I"), (2, u "hashIsZero"), (0, u "Z"), (11, .fieldref 10 39), (0, .nameAndType 40 26), (0, u "COMPACT_STRINGS"), (66, .class_ 109), (1, u "java/lang/StringLatin1"), (32, u "()Z"), (220, u "([BI)C"), (27, u "(II)V"), (35, u "(I)C"), (64, .methodref 10 493), (0, .nameAndType 494 142), (0, u "isLatin1"), (0, .methodref 107 496), (0, .nameAndType 497 363), (0, u "charAt"), (3, u "checkIndex"), (73, .class_ 576), (0, u "java/lang/CharSequence"), (22, u "CASE_INSENSITIVE_ORDER"), (0, u "Ljava/util/Comparator;"), (452, .fieldref 1054 1055), (0, .class_ 1056), (0, .nameAndType 1057 1058), (0, u "jdk/internal/util/Preconditions"), (0, u "SIOOBE_FORMATTER"), (0, u "Ljava/util/function/BiFunction;"), (0, .methodref 1054 1060), (0, .nameAndType 501 1061), (0, u "(IILjava/util/function/BiFunction;)I"), (39, u "serialPersistentFields"), (0, u "[Ljava/io/ObjectStreamField;"), (0, .class_ 1104), (0, u "java/lang/String$CaseInsensitiveComparator"), (1, .class_ 1107), (0, u "java/io/Serializable"), (0, .class_ 1109), (0, u "java/lang/Comparable"), (0, .class_ 1111), (0, u "java/lang/constant/Constable"), (0, .class_ 1113), (0, u "java/lang/constant/ConstantDesc"), (2, u "serialVersionUID"), (0, u "J"), (3, u "REPL"), (0, u "C"), (2, u "LATIN1"), (1, u "UTF16")] 323

def k7m0 : Method := { name := "<init>", desc := "()V", sig := { parameters := [], returnType := none }, accessFlags := 1, code := none }
def k7c1 : Code := { maxStack := 2, maxLocals := 2, code := jdk_42_method_56_code, exceptionTable := #[], attributes := #[] }
def k7m1 : Method := { name := "charAt", desc := "(I)C", sig := { parameters := [.int], returnType := some .char }, accessFlags := 1, code := some k7c1 }
def k7c2 : Code := { maxStack := 1, maxLocals := 1, code := jdk_42_method_154_code, exceptionTable := #[], attributes := #[] }
def k7m2 : Method := { name := "isLatin1", desc := "()Z", sig := { parameters := [], returnType := some .boolean }, accessFlags := 0, code := some k7c2 }
def k7c3 : Code := { maxStack := 3, maxLocals := 2, code := jdk_42_method_155_code, exceptionTable := #[], attributes := #[] }
def k7m3 : Method := { name := "checkIndex", desc := "(II)V", sig := { parameters := [.int, .int], returnType := none }, accessFlags := 8, code := some k7c3 }
/-- java/lang/String -/
def k7 : Class := { plain "java/lang/String" (some 0) with
  accessFlags := 49
  interfaces := #[2, 3, 4, 5, 6]
  cf := some (fileOf pool7 10 #[.nestMembers #[1103]] #[{ accessFlags := 1, nameIndex := 5, descriptorIndex := 6, attributes := #[] }, { accessFlags := 1, nameIndex := 497, descriptorIndex := 427, attributes := #[] }, { accessFlags := 0, nameIndex := 494, descriptorIndex := 142, attributes := #[] }, { accessFlags := 8, nameIndex := 501, descriptorIndex := 391, attributes := #[] }] 49 2 #[1106, 1108, 575, 1110, 1112] #[{ accessFlags := 18, nameIndex := 13, descriptorIndex := 14, attributes := #[] }, { accessFlags := 18, nameIndex := 17, descriptorIndex := 18, attributes := #[] }, { accessFlags := 2, nameIndex := 21, descriptorIndex := 22, attributes := #[] }, { accessFlags := 2, nameIndex := 25, descriptorIndex := 26, attributes := #[] }, { accessFlags := 26, nameIndex := 1116, descriptorIndex := 1117, attributes := #[] }, { accessFlags := 24, nameIndex := 40, descriptorIndex := 26, attributes := #[] }, { accessFlags := 26, nameIndex := 1101, descriptorIndex := 1102, attributes := #[] }, { accessFlags := 26, nameIndex := 1121, descriptorIndex := 1122, attributes := #[] }, { accessFlags := 25, nameIndex := 599, descriptorIndex := 600, attributes := #[] }, { accessFlags := 24, nameIndex := 1125, descriptorIndex := 18, attributes := #[] }, { accessFlags := 24, nameIndex := 1127, descriptorIndex := 18, attributes := #[] }])
  fields := #[{ name := "value", type := (.array .byte), accessFlags := 18, slot := 0, constantValue := 0 }, { name := "coder", type := .byte, accessFlags := 18, slot := 1, constantValue := 0 }, { name := "hash", type := .int, accessFlags := 2, slot := 2, constantValue := 0 }, { name := "hashIsZero", type := .boolean, accessFlags := 2, slot := 3, constantValue := 0 }, { name := "serialVersionUID", type := .long, accessFlags := 26, slot := 0, constantValue := 0 }, { name := "COMPACT_STRINGS", type := .boolean, accessFlags := 24, slot := 1, constantValue := 0 }, { name := "serialPersistentFields", type := (.array (.object "java/io/ObjectStreamField")), accessFlags := 26, slot := 2, constantValue := 0 }, { name := "REPL", type := .char, accessFlags := 26, slot := 3, constantValue := 0 }, { name := "CASE_INSENSITIVE_ORDER", type := (.object "java/util/Comparator"), accessFlags := 25, slot := 4, constantValue := 0 }, { name := "LATIN1", type := .byte, accessFlags := 24, slot := 5, constantValue := 0 }, { name := "UTF16", type := .byte, accessFlags := 24, slot := 6, constantValue := 0 }]
  methods := #[k7m0, k7m1, k7m2, k7m3]
  instanceTypes := #[(.array .byte), .byte, .int, .boolean]
  staticTypes := #[.long, .boolean, (.array (.object "java/io/ObjectStreamField")), .char, (.object "java/util/Comparator"), .byte, .byte]
  resolved := Array.replicate 1451 none
  statics := some 0 }

def pool8 : Array CpInfo := pool [(3, .class_ 4), (0, u "com/example/lookback/lookback/PlainDecimals"), (1, .class_ 8), (1, u "java/lang/Object"), (0, u "<init>"), (0, u "()V"), (19, u "isDigit"), (0, u "(C)Z"), (49, u "POWERS_OF_TEN"), (0, u "[J"), (69, u "NOT_IN_UNITS"), (0, u "J"), (1, u "POINT"), (0, u "C"), (1, u "MINUS"), (0, u "Ljava/lang/String;"), (0, u "MOST_WHOLE_DIGITS"), (0, u "I"), (1, u "MOST_LONG_DIGITS"), (1, u "MOST_DIGITS")] 30

def k8m0 : Method := { name := "<init>", desc := "()V", sig := { parameters := [], returnType := none }, accessFlags := 2, code := none }
def k8c1 : Code := { maxStack := 2, maxLocals := 1, code := prog_50_method_10_code, exceptionTable := #[], attributes := #[] }
def k8m1 : Method := { name := "isDigit", desc := "(C)Z", sig := { parameters := [.char], returnType := some .boolean }, accessFlags := 8, code := some k8c1 }
/-- com/example/lookback/lookback/PlainDecimals -/
def k8 : Class := { plain "com/example/lookback/lookback/PlainDecimals" (some 0) with
  accessFlags := 32
  interfaces := #[]
  cf := some (fileOf pool8 3 #[] #[{ accessFlags := 2, nameIndex := 9, descriptorIndex := 10, attributes := #[] }, { accessFlags := 8, nameIndex := 30, descriptorIndex := 31, attributes := #[] }] 32 6 #[] #[{ accessFlags := 24, nameIndex := 152, descriptorIndex := 153, attributes := #[] }, { accessFlags := 26, nameIndex := 155, descriptorIndex := 156, attributes := #[] }, { accessFlags := 26, nameIndex := 158, descriptorIndex := 159, attributes := #[] }, { accessFlags := 26, nameIndex := 160, descriptorIndex := 161, attributes := #[] }, { accessFlags := 26, nameIndex := 163, descriptorIndex := 161, attributes := #[] }, { accessFlags := 26, nameIndex := 81, descriptorIndex := 82, attributes := #[] }, { accessFlags := 24, nameIndex := 165, descriptorIndex := 161, attributes := #[] }])
  fields := #[{ name := "NOT_IN_UNITS", type := .long, accessFlags := 24, slot := 0, constantValue := 0 }, { name := "POINT", type := .char, accessFlags := 26, slot := 1, constantValue := 0 }, { name := "MINUS", type := (.object "java/lang/String"), accessFlags := 26, slot := 2, constantValue := 0 }, { name := "MOST_WHOLE_DIGITS", type := .int, accessFlags := 26, slot := 3, constantValue := 0 }, { name := "MOST_LONG_DIGITS", type := .int, accessFlags := 26, slot := 4, constantValue := 0 }, { name := "POWERS_OF_TEN", type := (.array .long), accessFlags := 26, slot := 5, constantValue := 0 }, { name := "MOST_DIGITS", type := .int, accessFlags := 24, slot := 6, constantValue := 0 }]
  methods := #[k8m0, k8m1]
  instanceTypes := #[]
  staticTypes := #[.long, .char, (.object "java/lang/String"), .int, .int, (.array .long), .int]
  resolved := Array.replicate 196 none
  statics := none }

def pool9 : Array CpInfo := pool [(1, .class_ 2), (0, u "java/lang/String"), (1, .class_ 6), (1, u "java/lang/Object"), (0, u "<init>"), (0, u "()V"), (0, .methodref 1 10), (0, .nameAndType 11 12), (0, u "checkIndex"), (0, u "(II)V"), (1, .class_ 16), (1, u "java/lang/StringLatin1"), (36, u "([BI)C"), (67, u "$assertionsDisabled"), (0, u "Z"), (98, .class_ 223), (1, u "java/lang/StringLatin1$LinesSpliterator"), (28, u "charAt"), (137, .class_ 391), (0, u "java/lang/StringLatin1$CharsSpliterator")] 3

def k9m0 : Method := { name := "<init>", desc := "()V", sig := { parameters := [], returnType := none }, accessFlags := 0, code := none }
def k9c1 : Code := { maxStack := 2, maxLocals := 2, code := jdk_43_method_2_code, exceptionTable := #[], attributes := #[] }
def k9m1 : Method := { name := "charAt", desc := "([BI)C", sig := { parameters := [(.array .byte), .int], returnType := some .char }, accessFlags := 9, code := some k9c1 }
/-- java/lang/StringLatin1 -/
def k9 : Class := { plain "java/lang/StringLatin1" (some 0) with
  accessFlags := 48
  interfaces := #[]
  cf := some (fileOf pool9 14 #[.nestMembers #[390, 221]] #[{ accessFlags := 0, nameIndex := 7, descriptorIndex := 8, attributes := #[] }, { accessFlags := 9, nameIndex := 252, descriptorIndex := 53, attributes := #[] }] 48 4 #[] #[{ accessFlags := 4120, nameIndex := 121, descriptorIndex := 122, attributes := #[] }])
  fields := #[{ name := "$assertionsDisabled", type := .boolean, accessFlags := 4120, slot := 0, constantValue := 0 }]
  methods := #[k9m0, k9m1]
  instanceTypes := #[]
  staticTypes := #[.boolean]
  resolved := Array.replicate 395 none
  statics := none }

def pool10 : Array CpInfo := pool [(2, .class_ 4), (1, u "java/lang/Object"), (0, u "<init>"), (0, u "()V"), (17, .class_ 26), (1, u "jdk/internal/util/Preconditions"), (6, u "checkIndex"), (21, .class_ 56), (0, u "jdk/internal/util/Preconditions$4"), (57, .class_ 115), (0, u "jdk/internal/util/Preconditions$1"), (7, u "SIOOBE_FORMATTER"), (0, u "Ljava/util/function/BiFunction;"), (0, .class_ 126), (0, u "jdk/internal/util/Preconditions$2"), (3, u "AIOOBE_FORMATTER"), (0, .class_ 132), (0, u "jdk/internal/util/Preconditions$3"), (3, u "IOOBE_FORMATTER"), (41, u "(IILjava/util/function/BiFunction;)I")] 15

def k10m0 : Method := { name := "<init>", desc := "()V", sig := { parameters := [], returnType := none }, accessFlags := 1, code := none }
def k10c1 : Code := { maxStack := 3, maxLocals := 3, code := jdk_41_method_11_code, exceptionTable := #[], attributes := #[] }
def k10m1 : Method := { name := "checkIndex", desc := "(IILjava/util/function/BiFunction;)I", sig := { parameters := [.int, .int, (.object "java/util/function/BiFunction")], returnType := some .int }, accessFlags := 9, code := some k10c1 }
/-- jdk/internal/util/Preconditions -/
def k10 : Class := { plain "jdk/internal/util/Preconditions" (some 0) with
  accessFlags := 33
  interfaces := #[]
  cf := some (fileOf pool10 24 #[.nestMembers #[55, 131, 125, 114]] #[{ accessFlags := 1, nameIndex := 5, descriptorIndex := 6, attributes := #[] }, { accessFlags := 9, nameIndex := 33, descriptorIndex := 178, attributes := #[] }] 33 2 #[] #[{ accessFlags := 25, nameIndex := 123, descriptorIndex := 124, attributes := #[] }, { accessFlags := 25, nameIndex := 130, descriptorIndex := 124, attributes := #[] }, { accessFlags := 25, nameIndex := 136, descriptorIndex := 124, attributes := #[] }])
  fields := #[{ name := "SIOOBE_FORMATTER", type := (.object "java/util/function/BiFunction"), accessFlags := 25, slot := 0, constantValue := 0 }, { name := "AIOOBE_FORMATTER", type := (.object "java/util/function/BiFunction"), accessFlags := 25, slot := 1, constantValue := 0 }, { name := "IOOBE_FORMATTER", type := (.object "java/util/function/BiFunction"), accessFlags := 25, slot := 2, constantValue := 0 }]
  methods := #[k10m0, k10m1]
  instanceTypes := #[]
  staticTypes := #[(.object "java/util/function/BiFunction"), (.object "java/util/function/BiFunction"), (.object "java/util/function/BiFunction")]
  resolved := Array.replicate 194 none
  statics := some 1 }

def pool11 : Array CpInfo := pool [(9, u "<init>"), (6, .class_ 18), (1, u "java/lang/Object"), (0, u "()V"), (1, .class_ 23), (1, u "jdk/internal/util/ArraysSupport"), (0, u "LOG2_ARRAY_LONG_INDEX_SCALE"), (0, u "I"), (2, u "U"), (0, u "Ljdk/internal/misc/Unsafe;"), (8, u "BIG_ENDIAN"), (0, u "Z"), (8, u "LOG2_BYTE_BIT_SIZE"), (4, u "LOG2_ARRAY_INT_INDEX_SCALE"), (54, u "JLA"), (0, u "Ljdk/internal/access/JavaLangAccess;"), (11, u "LOG2_ARRAY_BOOLEAN_INDEX_SCALE"), (9, u "LOG2_ARRAY_BYTE_INDEX_SCALE"), (5, u "LOG2_ARRAY_CHAR_INDEX_SCALE"), (5, u "LOG2_ARRAY_SHORT_INDEX_SCALE"), (18, u "LOG2_ARRAY_FLOAT_INDEX_SCALE"), (24, u "LOG2_ARRAY_DOUBLE_INDEX_SCALE"), (89, u "T_BOOLEAN"), (2, u "T_CHAR"), (1, u "T_FLOAT"), (1, u "T_DOUBLE"), (1, u "T_BYTE"), (1, u "T_SHORT"), (1, u "T_INT"), (1, u "T_LONG"), (1, u "SOFT_MAX_ARRAY_LENGTH")] 83

def k11m0 : Method := { name := "<init>", desc := "()V", sig := { parameters := [], returnType := none }, accessFlags := 2, code := none }
/-- jdk/internal/util/ArraysSupport -/
def k11 : Class := { plain "jdk/internal/util/ArraysSupport" (some 0) with
  accessFlags := 33
  interfaces := #[]
  cf := some (fileOf pool11 21 #[] #[{ accessFlags := 2, nameIndex := 9, descriptorIndex := 19, attributes := #[] }] 33 16 #[] #[{ accessFlags := 24, nameIndex := 28, descriptorIndex := 29, attributes := #[] }, { accessFlags := 26, nameIndex := 38, descriptorIndex := 39, attributes := #[] }, { accessFlags := 25, nameIndex := 121, descriptorIndex := 25, attributes := #[] }, { accessFlags := 25, nameIndex := 131, descriptorIndex := 25, attributes := #[] }, { accessFlags := 25, nameIndex := 137, descriptorIndex := 25, attributes := #[] }, { accessFlags := 25, nameIndex := 143, descriptorIndex := 25, attributes := #[] }, { accessFlags := 25, nameIndex := 53, descriptorIndex := 25, attributes := #[] }, { accessFlags := 25, nameIndex := 24, descriptorIndex := 25, attributes := #[] }, { accessFlags := 25, nameIndex := 162, descriptorIndex := 25, attributes := #[] }, { accessFlags := 25, nameIndex := 187, descriptorIndex := 25, attributes := #[] }, { accessFlags := 26, nameIndex := 48, descriptorIndex := 25, attributes := #[] }, { accessFlags := 25, nameIndex := 277, descriptorIndex := 25, attributes := #[] }, { accessFlags := 25, nameIndex := 280, descriptorIndex := 25, attributes := #[] }, { accessFlags := 25, nameIndex := 282, descriptorIndex := 25, attributes := #[] }, { accessFlags := 25, nameIndex := 284, descriptorIndex := 25, attributes := #[] }, { accessFlags := 25, nameIndex := 286, descriptorIndex := 25, attributes := #[] }, { accessFlags := 25, nameIndex := 288, descriptorIndex := 25, attributes := #[] }, { accessFlags := 25, nameIndex := 290, descriptorIndex := 25, attributes := #[] }, { accessFlags := 25, nameIndex := 292, descriptorIndex := 25, attributes := #[] }, { accessFlags := 26, nameIndex := 108, descriptorIndex := 109, attributes := #[] }, { accessFlags := 25, nameIndex := 294, descriptorIndex := 25, attributes := #[] }])
  fields := #[{ name := "U", type := (.object "jdk/internal/misc/Unsafe"), accessFlags := 24, slot := 0, constantValue := 0 }, { name := "BIG_ENDIAN", type := .boolean, accessFlags := 26, slot := 1, constantValue := 0 }, { name := "LOG2_ARRAY_BOOLEAN_INDEX_SCALE", type := .int, accessFlags := 25, slot := 2, constantValue := 0 }, { name := "LOG2_ARRAY_BYTE_INDEX_SCALE", type := .int, accessFlags := 25, slot := 3, constantValue := 0 }, { name := "LOG2_ARRAY_CHAR_INDEX_SCALE", type := .int, accessFlags := 25, slot := 4, constantValue := 0 }, { name := "LOG2_ARRAY_SHORT_INDEX_SCALE", type := .int, accessFlags := 25, slot := 5, constantValue := 0 }, { name := "LOG2_ARRAY_INT_INDEX_SCALE", type := .int, accessFlags := 25, slot := 6, constantValue := 0 }, { name := "LOG2_ARRAY_LONG_INDEX_SCALE", type := .int, accessFlags := 25, slot := 7, constantValue := 0 }, { name := "LOG2_ARRAY_FLOAT_INDEX_SCALE", type := .int, accessFlags := 25, slot := 8, constantValue := 0 }, { name := "LOG2_ARRAY_DOUBLE_INDEX_SCALE", type := .int, accessFlags := 25, slot := 9, constantValue := 0 }, { name := "LOG2_BYTE_BIT_SIZE", type := .int, accessFlags := 26, slot := 10, constantValue := 0 }, { name := "T_BOOLEAN", type := .int, accessFlags := 25, slot := 11, constantValue := 0 }, { name := "T_CHAR", type := .int, accessFlags := 25, slot := 12, constantValue := 0 }, { name := "T_FLOAT", type := .int, accessFlags := 25, slot := 13, constantValue := 0 }, { name := "T_DOUBLE", type := .int, accessFlags := 25, slot := 14, constantValue := 0 }, { name := "T_BYTE", type := .int, accessFlags := 25, slot := 15, constantValue := 0 }, { name := "T_SHORT", type := .int, accessFlags := 25, slot := 16, constantValue := 0 }, { name := "T_INT", type := .int, accessFlags := 25, slot := 17, constantValue := 0 }, { name := "T_LONG", type := .int, accessFlags := 25, slot := 18, constantValue := 0 }, { name := "JLA", type := (.object "jdk/internal/access/JavaLangAccess"), accessFlags := 26, slot := 19, constantValue := 0 }, { name := "SOFT_MAX_ARRAY_LENGTH", type := .int, accessFlags := 25, slot := 20, constantValue := 0 }]
  methods := #[k11m0]
  instanceTypes := #[]
  staticTypes := #[(.object "jdk/internal/misc/Unsafe"), .boolean, .int, .int, .int, .int, .int, .int, .int, .int, .int, .int, .int, .int, .int, .int, .int, .int, .int, (.object "jdk/internal/access/JavaLangAccess"), .int]
  resolved := Array.replicate 378 none
  statics := none }

def pool12 : Array CpInfo := pool [(1, u "java/lang/Cloneable"), (0, .class_ 1), (0, u "java/lang/Object"), (0, .class_ 3)] 3

/-- java/lang/Cloneable -/
def k12 : Class := { plain "java/lang/Cloneable" (some 0) with
  accessFlags := 1537
  interfaces := #[]
  cf := some (fileOf pool12 2 #[] #[] 1537 4 #[] #[])
  fields := #[]
  methods := #[]
  instanceTypes := #[]
  staticTypes := #[]
  resolved := Array.replicate 8 none
  statics := none }

/-- the primitive byte -/
def k13 : Class := { plain "byte" none with kind := .primitive 'B', accessFlags := 0x411 }
/-- [B -/
def k14 : Class := { plain "[B" (some 0) with kind := .array 13 .byte, interfaces := #[12, 2], accessFlags := 1041 }

/-- the primitive int -/
def k15 : Class := { plain "int" none with kind := .primitive 'I', accessFlags := 0x411 }
/-- [I -/
def k16 : Class := { plain "[I" (some 0) with kind := .array 15 .int, interfaces := #[12, 2], accessFlags := 1041 }

def heap : Heap := #[{ cls := 7, slots := #[.long 0, .int 1, .null, .int 0, .null, .int 0, .int 0], vm := .statics 7 },
  { cls := 10, slots := #[.null, .null, .null], vm := .statics 10 }]
def classes : Array Class := #[k0, k1, k2, k3, k4, k5, k6, k7, k8, k9, k10, k11, k12, k13, k14, k15, k16]
def interned : List (Array UInt16 × Addr) := []
def slotsUsed : Nat := 10
def theMethod : MethodId := ⟨1, 1⟩
def args0 : Array Value := #[.int 50]
def aboutOver (below : List Frame) : State where
  vm := { classes := classes, interned := interned.toArray }
  heap := heap
  slotsUsed := slotsUsed
  threads := #[{ frames := .invoking theMethod args0 :: below }]
def below0 : List Frame := [.native { method := ⟨0, 0⟩, args := #[] }]
def about1 : State := aboutOver below0
def p0 : Program := .bare "" "" ""
def e0 : Env := launch0.env 0 0 0
theorem w_frames : about1.frames = Frame.invoking theMethod args0 :: below0 := rfl
set_option maxRecDepth 65536 in
theorem w_args : argsFit about1.vm theMethod args0 = true := by decide +kernel
set_option maxRecDepth 65536 in
theorem w_heap : heapFits about1 = true := by decide +kernel
set_option maxRecDepth 65536 in
theorem w_runnable : about1.curStatus? = some .runnable := by decide +kernel
set_option maxRecDepth 65536 in
theorem w_alone : about1.alone = true := by decide +kernel
set_option maxRecDepth 65536 in
theorem w_named : about1.methodNamed? x = some theMethod := by decide +kernel
set_option maxRecDepth 65536 in
theorem w_hears : about1.hears theMethod below0 = true := by decide +kernel
set_option maxRecDepth 65536 in
theorem w_ripe : about1.ripe theMethod args0 below0 = true := by decide +kernel
theorem w_running : about1.status = .running := rfl
set_option maxRecDepth 65536 in
theorem w_room : about1.hasRoom e0.platform room_1 = true :=
  launch0.hasRoom_least _ room_1 (by decide +kernel) (by decide +kernel) (by decide +kernel) (by decide +kernel) (by decide +kernel) (by decide +kernel)
theorem allAtoms_all (ts : List Jvm.Cond) (a : Array Jvm.Value) (st : Jvm.State) : (allAtoms ts).before a st = ts.all (fun c => c.before a st) := by
  induction ts with
  | nil => rfl
  | cons c t ih =>
    show (Jvm.Cond.and c (allAtoms t)).before a st = _
    rw [Jvm.Cond.before_and, ih, List.all_cons]
def words1 : List Jvm.Cond := Jvm.Cond.code x code maxLocals ret :: tables_1
/-- a 'code' word, met by the world's own term for the bytes: nothing is compared byte by byte -/
theorem code_word {y : MethodName} {bytes : ByteArray} {mx : Nat} {rt : Option FieldType} {a : Array Value} {s : State} {m : MethodId} {meth : Method} {c : Code} (h1 : s.methodNamed? y = some m) (h2 : s.vm.method? m = some meth) (h3 : meth.code = some c) (h4 : c.code = bytes)
    (h5 : (c.maxLocals == mx && c.exceptionTable.isEmpty && decide (c.maxStack ≤ mostOperands) && decide (meth.sig.returnType = rt) && !meth.locks && decide (parseMethodDescriptor y.desc = some meth.sig)) = true) : (Jvm.Cond.code y bytes mx rt).before a s = true := by
  simp only [Bool.and_eq_true, beq_iff_eq, Bool.not_eq_true', decide_eq_true_eq] at h5
  obtain ⟨⟨⟨⟨⟨g1, g2⟩, g3⟩, g4⟩, g5⟩, g6⟩ := h5
  simp [Cond.before, Cond.holds, Cond.value, h1, h2, h3, h4, g1, g2, g3, g4, g5, g6]
def isCode : Jvm.Cond → Bool
  | .code _ _ _ _ => true
  | _ => false
theorem all_split {L : List Jvm.Cond} {P : Jvm.Cond → Bool} (h1 : L.all (fun c => isCode c || P c) = true) (h2 : ∀ c ∈ L.filter isCode, P c = true) : L.all P = true := by
  refine List.all_eq_true.mpr fun c hc => ?_
  have h := List.all_eq_true.mp h1 c hc
  rcases Bool.eq_false_or_eq_true (isCode c) with hi | hi
  · exact h2 c (List.mem_filter.mpr ⟨hc, hi⟩)
  · simpa [hi] using h
set_option maxRecDepth 65536 in
theorem w_c0 : (Jvm.Cond.code x code maxLocals ret).before args0 about1 = true := code_word (m := ⟨1, 1⟩) (meth := k1m1) (c := k1c1) (by decide +kernel) rfl rfl rfl (by decide +kernel)
set_option maxRecDepth 65536 in
theorem w_c1 : (Jvm.Cond.code ({ cls := "com/example/lookback/lookback/PlainDecimals", name := "isDigit", desc := "(C)Z" } : Jvm.MethodName) prog_50_method_10_code (1 : Nat) (Option.some Jvm.ClassFile.FieldType.boolean)).before args0 about1 = true := code_word (m := ⟨8, 1⟩) (meth := k8m1) (c := k8c1) (by decide +kernel) rfl rfl rfl (by decide +kernel)
set_option maxRecDepth 65536 in
theorem w_c2 : (Jvm.Cond.code ({ cls := "java/lang/String", name := "charAt", desc := "(I)C" } : Jvm.MethodName) jdk_42_method_56_code (2 : Nat) (Option.some Jvm.ClassFile.FieldType.char)).before args0 about1 = true := code_word (m := ⟨7, 1⟩) (meth := k7m1) (c := k7c1) (by decide +kernel) rfl rfl rfl (by decide +kernel)
set_option maxRecDepth 65536 in
theorem w_c3 : (Jvm.Cond.code ({ cls := "java/lang/String", name := "isLatin1", desc := "()Z" } : Jvm.MethodName) jdk_42_method_154_code (1 : Nat) (Option.some Jvm.ClassFile.FieldType.boolean)).before args0 about1 = true := code_word (m := ⟨7, 2⟩) (meth := k7m2) (c := k7c2) (by decide +kernel) rfl rfl rfl (by decide +kernel)
set_option maxRecDepth 65536 in
theorem w_c4 : (Jvm.Cond.code ({ cls := "java/lang/StringLatin1", name := "charAt", desc := "([BI)C" } : Jvm.MethodName) jdk_43_method_2_code (2 : Nat) (Option.some Jvm.ClassFile.FieldType.char)).before args0 about1 = true := code_word (m := ⟨9, 1⟩) (meth := k9m1) (c := k9c1) (by decide +kernel) rfl rfl rfl (by decide +kernel)
set_option maxRecDepth 65536 in
theorem w_c5 : (Jvm.Cond.code ({ cls := "java/lang/String", name := "checkIndex", desc := "(II)V" } : Jvm.MethodName) jdk_42_method_155_code (2 : Nat) (Option.none : Option Jvm.ClassFile.FieldType)).before args0 about1 = true := code_word (m := ⟨7, 3⟩) (meth := k7m3) (c := k7c3) (by decide +kernel) rfl rfl rfl (by decide +kernel)
set_option maxRecDepth 65536 in
theorem w_c6 : (Jvm.Cond.code ({ cls := "jdk/internal/util/Preconditions", name := "checkIndex", desc := "(IILjava/util/function/BiFunction;)I" } : Jvm.MethodName) jdk_41_method_11_code (3 : Nat) (Option.some Jvm.ClassFile.FieldType.int)).before args0 about1 = true := code_word (m := ⟨10, 1⟩) (meth := k10m1) (c := k10c1) (by decide +kernel) rfl rfl rfl (by decide +kernel)
def codes1 : List Jvm.Cond := [Jvm.Cond.code x code maxLocals ret, Jvm.Cond.code ({ cls := "com/example/lookback/lookback/PlainDecimals", name := "isDigit", desc := "(C)Z" } : Jvm.MethodName) prog_50_method_10_code (1 : Nat) (Option.some Jvm.ClassFile.FieldType.boolean), Jvm.Cond.code ({ cls := "java/lang/String", name := "charAt", desc := "(I)C" } : Jvm.MethodName) jdk_42_method_56_code (2 : Nat) (Option.some Jvm.ClassFile.FieldType.char), Jvm.Cond.code ({ cls := "java/lang/String", name := "isLatin1", desc := "()Z" } : Jvm.MethodName) jdk_42_method_154_code (1 : Nat) (Option.some Jvm.ClassFile.FieldType.boolean), Jvm.Cond.code ({ cls := "java/lang/StringLatin1", name := "charAt", desc := "([BI)C" } : Jvm.MethodName) jdk_43_method_2_code (2 : Nat) (Option.some Jvm.ClassFile.FieldType.char), Jvm.Cond.code ({ cls := "java/lang/String", name := "checkIndex", desc := "(II)V" } : Jvm.MethodName) jdk_42_method_155_code (2 : Nat) (Option.none : Option Jvm.ClassFile.FieldType), Jvm.Cond.code ({ cls := "jdk/internal/util/Preconditions", name := "checkIndex", desc := "(IILjava/util/function/BiFunction;)I" } : Jvm.MethodName) jdk_41_method_11_code (3 : Nat) (Option.some Jvm.ClassFile.FieldType.int)]
set_option maxRecDepth 65536 in
theorem codes_eq : words1.filter isCode = codes1 := rfl
theorem w_codes : ∀ c ∈ words1.filter isCode, c.before args0 about1 = true := by
  rw [codes_eq]
  intro c hc
  simp only [codes1, List.mem_cons, List.not_mem_nil, or_false] at hc
  rcases hc with rfl | rfl | rfl | rfl | rfl | rfl | rfl
  · exact w_c0
  · exact w_c1
  · exact w_c2
  · exact w_c3
  · exact w_c4
  · exact w_c5
  · exact w_c6
set_option maxRecDepth 65536 in
theorem w_t1 : (words1.take 24).all (fun c => isCode c || c.before args0 about1) = true := by decide +kernel
set_option maxRecDepth 65536 in
theorem w_t2 : (words1.drop 24).all (fun c => isCode c || c.before args0 about1) = true := by decide +kernel
theorem w_tables : (allAtoms (Jvm.Cond.code x code maxLocals ret :: tables_1)).before args0 about1 = true := by
  rw [allAtoms_all]
  show words1.all (fun c => c.before args0 about1) = true
  refine all_split ?_ w_codes
  rw [← List.take_append_drop 24 words1, List.all_append, w_t1, w_t2]
  rfl
set_option maxRecDepth 65536 in
theorem w_rest : rest_1_c.before args0 about1 = true := by decide +kernel
set_option maxRecDepth 65536 in
theorem w_case : (Jvm.Cond.and given_1 narrow_1).before args0 about1 = true := by decide +kernel
set_option maxRecDepth 65536 in
theorem w_consts : constsHeld consts_1 about1 := Jvm.Lit.constsHeldB_iff.mp (by decide +kernel)
theorem w_applies : (headSpec (Jvm.Cond.code x code maxLocals ret :: tables_1) room_1).applies x e0.platform about1 = true :=
  (Spec.applies_iff w_frames).mpr ⟨w_running, w_runnable, w_alone, w_named, w_hears, w_ripe, w_room, w_tables⟩
theorem atStart : AtStart classFile x code maxLocals ret World_1 tables_1 room_1 Calls_1 rest_1 Pre_1 launch0 p0 e0 about1 theMethod args0 below0 :=
  ⟨lists_1, trivial, launch0.admits_env _ _ _, launch0.least_env, fairChoices_fair.cas, fairChoices_fair.clock, w_frames, w_args, w_heap, w_applies, ⟨w_consts, trivial⟩, w_rest, w_case⟩
end start1
theorem witness_1 : WitnessClaimed_1 := ⟨start1.p0, start1.e0, start1.about1, start1.theMethod, start1.args0, start1.below0, start1.atStart⟩
end Jvm.Pilot.@@N@@
