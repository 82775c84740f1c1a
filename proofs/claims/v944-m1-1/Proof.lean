import JvmDerived
import JvmDerived.Pilot.@@N@@Statement
import JvmDerived.Pilot.@@N@@Code
set_option linter.unusedVariables false
set_option linter.unusedSimpArgs false
namespace Jvm.RoadKit
open Sem ClassFile Op Lib Jvm.Stand Jvm.Free Jvm.LawKit
section New
variable {p : Program} {l : Launch} {e : Env} {R : Room} {s : State} {m : MethodId} {args : Array Value} {below : List Frame} {meth : Method} {c : Code} {T : State} {locs : List Loc} {cells slots : Nat}
theorem retI (X : Stand p l e R s m args below meth c T locs cells slots) (hx : p.tables.exec = Jvm.exec) {pc : Nat} {Ls : Array Slot} {z : Int32} {rest : List Value} (hret : meth.sig.returnType = some .int) (hd : decode c.code pc = .ok (.ireturn, 1)) {fs : List Frame}
    (hl : ∀ (f : JFrame) (acts : List Action), f.method = m → f.locked = none → f.entered = [] → (doReturn e (T.setTop f) acts (some (.int z))).1 = T.setFrames fs) : Steps p.tables e below (T.setTop (mkF m pc Ls (.int z :: rest))) (T.setFrames fs) := by
  have hm' : T.vm.method? m = some meth := X.method'
  have hn : narrow .int (.int z) = .int z := rfl
  show Steps p.tables e below (T.setTop { method := m, pc := pc, locals := Ls, stack := _ :: rest, locked := none }) _
  jvm_step X.here [X.here.top, hx, hd, hm', hret, hn]
  first | (intro acts; rw [hl _ acts rfl rfl rfl]) | rw [hl _ _ rfl rfl rfl]
  exact Steps.refl _
end New
end Jvm.RoadKit
namespace Jvm.Pilot.@@N@@
open Jvm Jvm.ClassFile Sem Op Lib Jvm.Free Jvm.Stand Jvm.LawKit Jvm.RoadKit Bundle Jvm.Pilot.@@N@@.Jvm.D
section OwnArrays
variable {Z : State} {h h' : Heap} {a b : Addr} {ty : FieldType} {n sl : Nat} {f : Nat → Value} {v : Value} {ws : List Addr}
/-- an array of n places, by what each holds -/
def AF (Z : State) (h : Heap) (a : Addr) (ty : FieldType) (n : Nat) (f : Nat → Value) : Prop := ∃ c : Cell, Arr Z h a c ty ∧ c.slots.size = n ∧ ∀ j, j < n → c.slots[j]? = some (f j)
theorem AF.new {k : ClassId} {z : Int32} (A : Arr Z h a (newA k ty z) ty) (q : ¬ z < 0) : AF Z h a ty z.toNatClampNeg (fun _ => defaultValue ty) := by
  obtain ⟨c, A', -, S, -, H, -⟩ := Arv.new A q
  exact ⟨c, A', S, fun j hj => H j (by rw [S]; exact hj)⟩
theorem AF.lt (F : AF Z h a ty n f) : a < h.size := by obtain ⟨c, A, -⟩ := F; exact A.lt
theorem AF.ext (F : AF Z h a ty n f) (E : Ext h h') : AF Z h' a ty n f := by obtain ⟨c, A, r⟩ := F; exact ⟨c, A.ext E, r⟩
theorem AF.other (F : AF Z h b ty n f) (W : Wr h h' a sl v) (q : b ≠ a) : AF Z h' b ty n f := by obtain ⟨c, A, r⟩ := F; exact ⟨c, A.other W q, r⟩
theorem AF.keep (F : AF Z h a ty n f) (K : Keep h h' ws) (q : a ∉ ws) : AF Z h' a ty n f := by obtain ⟨c, A, r⟩ := F; exact ⟨c, ⟨K.2.1 a c A.1 q, A.2⟩, r⟩
theorem AF.congr {g : Nat → Value} (F : AF Z h a ty n f) (q : ∀ j, j < n → f j = g j) : AF Z h a ty n g := by
  obtain ⟨c, A, S, H⟩ := F
  exact ⟨c, A, S, fun j hj => by rw [← q j hj]; exact H j hj⟩
theorem AF.same {c : Cell} (A : Arr Z h a c ty) (S : c.slots.size = n) (H : ∀ j, j < n → c.slots[j]? = some (f j)) (W : Wr h h' a sl v) : AF Z h' a ty n (fun i => if i = sl then v else f i) := by
  refine ⟨_, A.same W, by rw [sz_set]; exact S, fun j hj => ?_⟩
  by_cases q : j = sl
  · subst q
    simp only [if_true]
    simp [Cell.setSlot, S, hj]
  · simp only [q, if_false]
    simp only [Cell.setSlot]
    rw [Array.getElem?_setIfInBounds_ne (fun z => q z.symm)]; exact H j hj
theorem AF_in {c : Cell} {j : Int32} (S : c.slots.size = n) (h1 : 0 ≤ j.toInt) (h2 : j.toInt < n) : ¬ (j < 0 ∨ c.slots.size ≤ j.toNatClampNeg) := by
  rw [S, Int32.lt_iff_toInt_lt, show (0 : Int32).toInt = 0 from rfl]
  simp only [Int32.toNatClampNeg]; omega
theorem AF_at {c : Cell} {j : Int32} {w : Value} (H : ∀ j, j < n → c.slots[j]? = some (f j)) (h1 : 0 ≤ j.toInt) (h2 : j.toInt < n) (e : f j.toNatClampNeg = w) : c.slots[j.toNatClampNeg]? = some w := by
  rw [← e]; exact H _ (by simp only [Int32.toNatClampNeg]; omega)
end OwnArrays
theorem d1_0 : decode method_3_code 0 = .ok (.lload_n 2, 1) := by decide +kernel
theorem d1_1 : decode method_3_code 1 = .ok (.bipush 8, 2) := by decide +kernel
theorem d1_3 : decode method_3_code 3 = .ok (.iload 4, 2) := by decide +kernel
theorem d1_5 : decode method_3_code 5 = .ok (.imul, 1) := by decide +kernel
theorem d1_6 : decode method_3_code 6 = .ok (.lushr, 1) := by decide +kernel
theorem d1_7 : decode method_3_code 7 = .ok (.ldc2_w 30, 3) := by decide +kernel
theorem d1_10 : decode method_3_code 10 = .ok (.land, 1) := by decide +kernel
theorem d1_11 : decode method_3_code 11 = .ok (.lstore 5, 2) := by decide +kernel
theorem d1_13 : decode method_3_code 13 = .ok (.lload_n 0, 1) := by decide +kernel
theorem d1_14 : decode method_3_code 14 = .ok (.lload 5, 2) := by decide +kernel
theorem d1_16 : decode method_3_code 16 = .ok (.lxor, 1) := by decide +kernel
theorem d1_17 : decode method_3_code 17 = .ok (.ldc2_w 32, 3) := by decide +kernel
theorem d1_20 : decode method_3_code 20 = .ok (.lmul, 1) := by decide +kernel
theorem d1_21 : decode method_3_code 21 = .ok (.lreturn, 1) := by decide +kernel
theorem pn_1 : plainName "com/example/relicary/relicary/siard/ContainerHashPinLaw" = true := by first | (simp [plainName, overriddenIn]; done) | decide +kernel
theorem ef_1 (m : MethodId) (x0 : Int64) (x1 : Int64) (x2 : Int32) : entryFrame m #[(.long x0), (.long x1), (.int x2)] 7 = mkF m 0 #[.val (.long x0), .second, .val (.long x1), .second, .val (.int x2), .unset, .unset] [] := by first | (simp [entryFrame, mkF, argsToLocals, Value.category]; done) | rfl
def F1 (q1 : Int64) (q2 : Int64) (p3 : Int32) : Int64 :=
  let v2 : Int64 := (((q2.toUInt64 >>> (((8 : Int32) * p3) &&& 0x3f).toInt64.toUInt64).toInt64) &&& (255 : Int64))
  ((q1 ^^^ v2) * (1099511628211 : Int64))
def Q1 (Z : State) (q1 : Int64) (q2 : Int64) (p3 : Int32) (h0 : Heap) (n0 : Nat) (v : Option Value) (h : Heap) (L : List Loc) : Prop := v = some (.long (F1 q1 q2 p3)) ∧ L = [] ∧ h = h0
set_option maxRecDepth 65536 in
set_option maxHeartbeats 40000000 in
theorem rm1 (l : Launch) (Z : State) (a0 : Array Value) (hw : ∀ d ∈ tables_1, d.before a0 Z = true) (ws : List Jvm.Cond) (q1 : Int64) (q2 : Int64) (p3 : Int32) (h0 : Heap) (n0 : Nat) (Z0 : n0 ≤ h0.size) :
    MetFree l (⟨"com/example/relicary/relicary/siard/ContainerHashPinLaw", "step", "(JJI)J"⟩ : MethodName) (head1 (Jvm.Cond.code (⟨"com/example/relicary/relicary/siard/ContainerHashPinLaw", "step", "(JJI)J"⟩ : MethodName) method_3_code 7 (some .long) :: ws) ({ frames := 0, cells := 0, slots := 0, locals := 0 } : Room)) (fun a U => a = #[(.long q1), (.long q2), (.int p3)] ∧ Z.Warmed39 U.vm ∧ U.heap = h0) (fun _ _ _ _ _ => True) (fun _ U o U' => ∃ v L, o = .returned v ∧ Q1 Z q1 q2 p3 h0 n0 v U'.heap L ∧ FrameEnd U o U' L ({ frames := 0, cells := 0, slots := 0, locals := 0 } : Room).cells ({ frames := 0, cells := 0, slots := 0, locals := 0 } : Room).slots) := by
  refine MetFree.of_bodySF (plainFor_of_name pn_1) hisR ?_
  intro p e s m args below meth c s₁ Bd hml0 hP hK
  obtain ⟨rfl, hZ, hh⟩ := hP
  have hx := Bd.exec
  have hby := Bd.bytes
  have hml : c.maxLocals = 7 := hml0
  have hown : s.vm.findClass "com/example/relicary/relicary/siard/ContainerHashPinLaw" = some m.cls := findClass_of_methodNamed Bd.named
  have hnm := (name_of_methodNamed Bd.named Bd.method).1
  have X0 : Stand p l e ({ frames := 0, cells := 0, slots := 0, locals := 0 } : Room) s m #[(.long q1), (.long q2), (.int p3)] below meth c s₁ [] 0 0 := Stand.of_body Bd
  have e0 : s₁.heap = h0 := by rw [← hh, Bd.state]; rfl
  have N0 := Fr.nil n0
  have pre0 : ∀ t, Steps p.tables e below (s₁.setTop (mkF m 0 #[.val (.long q1), .second, .val (.long q2), .second, .val (.int p3), .unset, .unset] [])) t → Steps p.tables e below (s₁.setTop (entryFrame m #[(.long q1), (.long q2), (.int p3)] 7)) t := fun t k => castTop (ef_1 m q1 q2 p3) k
  have R1 : ∀ t, Steps p.tables e below (s₁.setTop (mkF m 11 #[.val (.long q1), .second, .val (.long q2), .second, .val (.int p3), .unset, .unset] [(.long (((q2.toUInt64 >>> (((8 : Int32) * p3) &&& 0x3f).toInt64.toUInt64).toInt64) &&& (255 : Int64)))])) t → Steps p.tables e below (s₁.setTop (entryFrame m #[(.long q1), (.long q2), (.int p3)] 7)) t := by
    intro t kt
    refine pre0 _ ?_
    show Steps p.tables e below (s₁.setTop (mkF m 0 #[.val (.long q1), .second, .val (.long q2), .second, .val (.int p3), .unset, .unset] [])) _
    refine XS.lloadN X0.here hx rfl (hb hby d1_0) rfl ?_
    show Steps p.tables e below (s₁.setTop (mkF m 1 #[.val (.long q1), .second, .val (.long q2), .second, .val (.int p3), .unset, .unset] [(.long q2)])) _
    refine XS.bipush X0.here hx rfl (hb hby d1_1) ?_
    show Steps p.tables e below (s₁.setTop (mkF m 3 #[.val (.long q1), .second, .val (.long q2), .second, .val (.int p3), .unset, .unset] [(.int (8 : Int32)), (.long q2)])) _
    refine XS.iload X0.here hx rfl (hb hby d1_3) rfl ?_
    show Steps p.tables e below (s₁.setTop (mkF m 5 #[.val (.long q1), .second, .val (.long q2), .second, .val (.int p3), .unset, .unset] [(.int p3), (.int (8 : Int32)), (.long q2)])) _
    refine XS.imul X0.here hx rfl (hb hby d1_5) rfl ?_
    show Steps p.tables e below (s₁.setTop (mkF m 6 #[.val (.long q1), .second, .val (.long q2), .second, .val (.int p3), .unset, .unset] [(.int ((8 : Int32) * p3)), (.long q2)])) _
    refine XS.lushr X0.here hx rfl (hb hby d1_6) rfl ?_
    show Steps p.tables e below (s₁.setTop (mkF m 7 #[.val (.long q1), .second, .val (.long q2), .second, .val (.int p3), .unset, .unset] [(.long ((q2.toUInt64 >>> (((8 : Int32) * p3) &&& 0x3f).toInt64.toUInt64).toInt64))])) _
    refine X0.ldc2Long hx hown (mvT hZ (hw _ (List.mem_of_getElem? (i := 7) rfl))) (g := (mkF m 7 #[.val (.long q1), .second, .val (.long q2), .second, .val (.int p3), .unset, .unset] [(.long ((q2.toUInt64 >>> (((8 : Int32) * p3) &&& 0x3f).toInt64.toUInt64).toInt64))])) rfl (hb hby d1_7) _ ?_
    show Steps p.tables e below (s₁.setTop (mkF m 10 #[.val (.long q1), .second, .val (.long q2), .second, .val (.int p3), .unset, .unset] [(.long (255 : Int64)), (.long ((q2.toUInt64 >>> (((8 : Int32) * p3) &&& 0x3f).toInt64.toUInt64).toInt64))])) _
    refine XS.land X0.here hx rfl (hb hby d1_10) rfl ?_
    exact kt
  obtain ⟨v2, hv2⟩ : ∃ zz9 : Int64, zz9 = (((q2.toUInt64 >>> (((8 : Int32) * p3) &&& 0x3f).toInt64.toUInt64).toInt64) &&& (255 : Int64)) := ⟨_, rfl⟩
  rw [← hv2] at R1
  have R3 : ∀ t, Steps p.tables e below (s₁.setTop (mkF m 21 #[.val (.long q1), .second, .val (.long q2), .second, .val (.int p3), .val (.long v2), .second] [(.long ((q1 ^^^ v2) * (1099511628211 : Int64)))])) t → Steps p.tables e below (s₁.setTop (entryFrame m #[(.long q1), (.long q2), (.int p3)] 7)) t := by
    intro t kt
    refine R1 _ ?_
    show Steps p.tables e below (s₁.setTop (mkF m 11 #[.val (.long q1), .second, .val (.long q2), .second, .val (.int p3), .unset, .unset] [(.long v2)])) _
    refine XS.lstore X0.here hx rfl (hb hby d1_11) rfl (l' := #[.val (.long q1), .second, .val (.long q2), .second, .val (.int p3), .val (.long v2), .second]) rfl ?_
    show Steps p.tables e below (s₁.setTop (mkF m 13 #[.val (.long q1), .second, .val (.long q2), .second, .val (.int p3), .val (.long v2), .second] [])) _
    refine XS.lloadN X0.here hx rfl (hb hby d1_13) rfl ?_
    show Steps p.tables e below (s₁.setTop (mkF m 14 #[.val (.long q1), .second, .val (.long q2), .second, .val (.int p3), .val (.long v2), .second] [(.long q1)])) _
    refine XS.lload X0.here hx rfl (hb hby d1_14) rfl ?_
    show Steps p.tables e below (s₁.setTop (mkF m 16 #[.val (.long q1), .second, .val (.long q2), .second, .val (.int p3), .val (.long v2), .second] [(.long v2), (.long q1)])) _
    refine XS.lxor X0.here hx rfl (hb hby d1_16) rfl ?_
    show Steps p.tables e below (s₁.setTop (mkF m 17 #[.val (.long q1), .second, .val (.long q2), .second, .val (.int p3), .val (.long v2), .second] [(.long (q1 ^^^ v2))])) _
    refine X0.ldc2Long hx hown (mvT hZ (hw _ (List.mem_of_getElem? (i := 8) rfl))) (g := (mkF m 17 #[.val (.long q1), .second, .val (.long q2), .second, .val (.int p3), .val (.long v2), .second] [(.long (q1 ^^^ v2))])) rfl (hb hby d1_17) _ ?_
    show Steps p.tables e below (s₁.setTop (mkF m 20 #[.val (.long q1), .second, .val (.long q2), .second, .val (.int p3), .val (.long v2), .second] [(.long (1099511628211 : Int64)), (.long (q1 ^^^ v2))])) _
    refine XS.lmul X0.here hx rfl (hb hby d1_20) rfl ?_
    exact kt
  obtain ⟨fs, hr, hrun, hended, hW, hsame⟩ := X0.leave (v := some (.long ((q1 ^^^ v2) * (1099511628211 : Int64)))) (fun h => by rw [Bd.returns] at h; cases h)
  refine ⟨_, _, R3 _ ?_, hrun, hended, _, _, rfl, ?_, ⟨_, rfl⟩, hW, hsame.mono (by decide) (by decide)⟩
  · show Steps p.tables e below (s₁.setTop (mkF m 21 #[.val (.long q1), .second, .val (.long q2), .second, .val (.int p3), .val (.long v2), .second] [(.long ((q1 ^^^ v2) * (1099511628211 : Int64)))])) _
    exact X0.lreturnOut hx Bd.returns (hb hby d1_21) hr
  · show Q1 Z q1 q2 p3 h0 n0 _ s₁.heap _
    rw [e0]
    refine ⟨?_, rfl, rfl⟩
    subst hv2; rfl
theorem d3_0 : decode method_4_code 0 = .ok (.lload_n 0, 1) := by decide +kernel
theorem d3_1 : decode method_4_code 1 = .ok (.lstore_n 2, 1) := by decide +kernel
theorem d3_2 : decode method_4_code 2 = .ok (.lload_n 2, 1) := by decide +kernel
theorem d3_3 : decode method_4_code 3 = .ok (.ldc2_w 34, 3) := by decide +kernel
theorem d3_6 : decode method_4_code 6 = .ok (.lload_n 0, 1) := by decide +kernel
theorem d3_7 : decode method_4_code 7 = .ok (.lload_n 2, 1) := by decide +kernel
theorem d3_8 : decode method_4_code 8 = .ok (.lmul, 1) := by decide +kernel
theorem d3_9 : decode method_4_code 9 = .ok (.lsub, 1) := by decide +kernel
theorem d3_10 : decode method_4_code 10 = .ok (.lmul, 1) := by decide +kernel
theorem d3_11 : decode method_4_code 11 = .ok (.lstore_n 2, 1) := by decide +kernel
theorem d3_12 : decode method_4_code 12 = .ok (.lload_n 2, 1) := by decide +kernel
theorem d3_13 : decode method_4_code 13 = .ok (.ldc2_w 34, 3) := by decide +kernel
theorem d3_16 : decode method_4_code 16 = .ok (.lload_n 0, 1) := by decide +kernel
theorem d3_17 : decode method_4_code 17 = .ok (.lload_n 2, 1) := by decide +kernel
theorem d3_18 : decode method_4_code 18 = .ok (.lmul, 1) := by decide +kernel
theorem d3_19 : decode method_4_code 19 = .ok (.lsub, 1) := by decide +kernel
theorem d3_20 : decode method_4_code 20 = .ok (.lmul, 1) := by decide +kernel
theorem d3_21 : decode method_4_code 21 = .ok (.lstore_n 2, 1) := by decide +kernel
theorem d3_22 : decode method_4_code 22 = .ok (.lload_n 2, 1) := by decide +kernel
theorem d3_23 : decode method_4_code 23 = .ok (.ldc2_w 34, 3) := by decide +kernel
theorem d3_26 : decode method_4_code 26 = .ok (.lload_n 0, 1) := by decide +kernel
theorem d3_27 : decode method_4_code 27 = .ok (.lload_n 2, 1) := by decide +kernel
theorem d3_28 : decode method_4_code 28 = .ok (.lmul, 1) := by decide +kernel
theorem d3_29 : decode method_4_code 29 = .ok (.lsub, 1) := by decide +kernel
theorem d3_30 : decode method_4_code 30 = .ok (.lmul, 1) := by decide +kernel
theorem d3_31 : decode method_4_code 31 = .ok (.lstore_n 2, 1) := by decide +kernel
theorem d3_32 : decode method_4_code 32 = .ok (.lload_n 2, 1) := by decide +kernel
theorem d3_33 : decode method_4_code 33 = .ok (.ldc2_w 34, 3) := by decide +kernel
theorem d3_36 : decode method_4_code 36 = .ok (.lload_n 0, 1) := by decide +kernel
theorem d3_37 : decode method_4_code 37 = .ok (.lload_n 2, 1) := by decide +kernel
theorem d3_38 : decode method_4_code 38 = .ok (.lmul, 1) := by decide +kernel
theorem d3_39 : decode method_4_code 39 = .ok (.lsub, 1) := by decide +kernel
theorem d3_40 : decode method_4_code 40 = .ok (.lmul, 1) := by decide +kernel
theorem d3_41 : decode method_4_code 41 = .ok (.lstore_n 2, 1) := by decide +kernel
theorem d3_42 : decode method_4_code 42 = .ok (.lload_n 2, 1) := by decide +kernel
theorem d3_43 : decode method_4_code 43 = .ok (.ldc2_w 34, 3) := by decide +kernel
theorem d3_46 : decode method_4_code 46 = .ok (.lload_n 0, 1) := by decide +kernel
theorem d3_47 : decode method_4_code 47 = .ok (.lload_n 2, 1) := by decide +kernel
theorem d3_48 : decode method_4_code 48 = .ok (.lmul, 1) := by decide +kernel
theorem d3_49 : decode method_4_code 49 = .ok (.lsub, 1) := by decide +kernel
theorem d3_50 : decode method_4_code 50 = .ok (.lmul, 1) := by decide +kernel
theorem d3_51 : decode method_4_code 51 = .ok (.lstore_n 2, 1) := by decide +kernel
theorem d3_52 : decode method_4_code 52 = .ok (.lload_n 2, 1) := by decide +kernel
theorem d3_53 : decode method_4_code 53 = .ok (.lreturn, 1) := by decide +kernel
theorem pn_3 : plainName "com/example/relicary/relicary/siard/ContainerHashPinLaw" = true := by first | (simp [plainName, overriddenIn]; done) | decide +kernel
theorem ef_3 (m : MethodId) (x0 : Int64) : entryFrame m #[(.long x0)] 4 = mkF m 0 #[.val (.long x0), .second, .unset, .unset] [] := by first | (simp [entryFrame, mkF, argsToLocals, Value.category]; done) | rfl
def F3 (q1 : Int64) : Int64 :=
  let v2 : Int64 := ((q1 * ((2 : Int64) - (q1 * q1))) * ((2 : Int64) - (q1 * (q1 * ((2 : Int64) - (q1 * q1))))))
  let v4 : Int64 := ((v2 * ((2 : Int64) - (q1 * v2))) * ((2 : Int64) - (q1 * (v2 * ((2 : Int64) - (q1 * v2))))))
  (v4 * ((2 : Int64) - (q1 * v4)))
def Q3 (Z : State) (q1 : Int64) (h0 : Heap) (n0 : Nat) (v : Option Value) (h : Heap) (L : List Loc) : Prop := v = some (.long (F3 q1)) ∧ L = [] ∧ h = h0
set_option maxRecDepth 65536 in
set_option maxHeartbeats 40000000 in
theorem rm3 (l : Launch) (Z : State) (a0 : Array Value) (hw : ∀ d ∈ tables_1, d.before a0 Z = true) (ws : List Jvm.Cond) (q1 : Int64) (h0 : Heap) (n0 : Nat) (Z0 : n0 ≤ h0.size) :
    MetFree l (⟨"com/example/relicary/relicary/siard/ContainerHashPinLaw", "inverse", "(J)J"⟩ : MethodName) (head1 (Jvm.Cond.code (⟨"com/example/relicary/relicary/siard/ContainerHashPinLaw", "inverse", "(J)J"⟩ : MethodName) method_4_code 4 (some .long) :: ws) ({ frames := 0, cells := 0, slots := 0, locals := 0 } : Room)) (fun a U => a = #[(.long q1)] ∧ Z.Warmed39 U.vm ∧ U.heap = h0) (fun _ _ _ _ _ => True) (fun _ U o U' => ∃ v L, o = .returned v ∧ Q3 Z q1 h0 n0 v U'.heap L ∧ FrameEnd U o U' L ({ frames := 0, cells := 0, slots := 0, locals := 0 } : Room).cells ({ frames := 0, cells := 0, slots := 0, locals := 0 } : Room).slots) := by
  refine MetFree.of_bodySF (plainFor_of_name pn_3) hisR ?_
  intro p e s m args below meth c s₁ Bd hml0 hP hK
  obtain ⟨rfl, hZ, hh⟩ := hP
  have hx := Bd.exec
  have hby := Bd.bytes
  have hml : c.maxLocals = 4 := hml0
  have hown : s.vm.findClass "com/example/relicary/relicary/siard/ContainerHashPinLaw" = some m.cls := findClass_of_methodNamed Bd.named
  have hnm := (name_of_methodNamed Bd.named Bd.method).1
  have X0 : Stand p l e ({ frames := 0, cells := 0, slots := 0, locals := 0 } : Room) s m #[(.long q1)] below meth c s₁ [] 0 0 := Stand.of_body Bd
  have e0 : s₁.heap = h0 := by rw [← hh, Bd.state]; rfl
  have N0 := Fr.nil n0
  have pre0 : ∀ t, Steps p.tables e below (s₁.setTop (mkF m 0 #[.val (.long q1), .second, .unset, .unset] [])) t → Steps p.tables e below (s₁.setTop (entryFrame m #[(.long q1)] 4)) t := fun t k => castTop (ef_3 m q1) k
  have R1 : ∀ t, Steps p.tables e below (s₁.setTop (mkF m 21 #[.val (.long q1), .second, .val (.long (q1 * ((2 : Int64) - (q1 * q1)))), .second] [(.long ((q1 * ((2 : Int64) - (q1 * q1))) * ((2 : Int64) - (q1 * (q1 * ((2 : Int64) - (q1 * q1)))))))])) t → Steps p.tables e below (s₁.setTop (entryFrame m #[(.long q1)] 4)) t := by
    intro t kt
    refine pre0 _ ?_
    show Steps p.tables e below (s₁.setTop (mkF m 0 #[.val (.long q1), .second, .unset, .unset] [])) _
    refine XS.lloadN X0.here hx rfl (hb hby d3_0) rfl ?_
    show Steps p.tables e below (s₁.setTop (mkF m 1 #[.val (.long q1), .second, .unset, .unset] [(.long q1)])) _
    refine XS.lstoreN X0.here hx rfl (hb hby d3_1) rfl (l' := #[.val (.long q1), .second, .val (.long q1), .second]) rfl ?_
    show Steps p.tables e below (s₁.setTop (mkF m 2 #[.val (.long q1), .second, .val (.long q1), .second] [])) _
    refine XS.lloadN X0.here hx rfl (hb hby d3_2) rfl ?_
    show Steps p.tables e below (s₁.setTop (mkF m 3 #[.val (.long q1), .second, .val (.long q1), .second] [(.long q1)])) _
    refine X0.ldc2Long hx hown (mvT hZ (hw _ (List.mem_of_getElem? (i := 21) rfl))) (g := (mkF m 3 #[.val (.long q1), .second, .val (.long q1), .second] [(.long q1)])) rfl (hb hby d3_3) _ ?_
    show Steps p.tables e below (s₁.setTop (mkF m 6 #[.val (.long q1), .second, .val (.long q1), .second] [(.long (2 : Int64)), (.long q1)])) _
    refine XS.lloadN X0.here hx rfl (hb hby d3_6) rfl ?_
    show Steps p.tables e below (s₁.setTop (mkF m 7 #[.val (.long q1), .second, .val (.long q1), .second] [(.long q1), (.long (2 : Int64)), (.long q1)])) _
    refine XS.lloadN X0.here hx rfl (hb hby d3_7) rfl ?_
    show Steps p.tables e below (s₁.setTop (mkF m 8 #[.val (.long q1), .second, .val (.long q1), .second] [(.long q1), (.long q1), (.long (2 : Int64)), (.long q1)])) _
    refine XS.lmul X0.here hx rfl (hb hby d3_8) rfl ?_
    show Steps p.tables e below (s₁.setTop (mkF m 9 #[.val (.long q1), .second, .val (.long q1), .second] [(.long (q1 * q1)), (.long (2 : Int64)), (.long q1)])) _
    refine XS.lsub X0.here hx rfl (hb hby d3_9) rfl ?_
    show Steps p.tables e below (s₁.setTop (mkF m 10 #[.val (.long q1), .second, .val (.long q1), .second] [(.long ((2 : Int64) - (q1 * q1))), (.long q1)])) _
    refine XS.lmul X0.here hx rfl (hb hby d3_10) rfl ?_
    show Steps p.tables e below (s₁.setTop (mkF m 11 #[.val (.long q1), .second, .val (.long q1), .second] [(.long (q1 * ((2 : Int64) - (q1 * q1))))])) _
    refine XS.lstoreN X0.here hx rfl (hb hby d3_11) rfl (l' := #[.val (.long q1), .second, .val (.long (q1 * ((2 : Int64) - (q1 * q1)))), .second]) rfl ?_
    show Steps p.tables e below (s₁.setTop (mkF m 12 #[.val (.long q1), .second, .val (.long (q1 * ((2 : Int64) - (q1 * q1)))), .second] [])) _
    refine XS.lloadN X0.here hx rfl (hb hby d3_12) rfl ?_
    show Steps p.tables e below (s₁.setTop (mkF m 13 #[.val (.long q1), .second, .val (.long (q1 * ((2 : Int64) - (q1 * q1)))), .second] [(.long (q1 * ((2 : Int64) - (q1 * q1))))])) _
    refine X0.ldc2Long hx hown (mvT hZ (hw _ (List.mem_of_getElem? (i := 21) rfl))) (g := (mkF m 13 #[.val (.long q1), .second, .val (.long (q1 * ((2 : Int64) - (q1 * q1)))), .second] [(.long (q1 * ((2 : Int64) - (q1 * q1))))])) rfl (hb hby d3_13) _ ?_
    show Steps p.tables e below (s₁.setTop (mkF m 16 #[.val (.long q1), .second, .val (.long (q1 * ((2 : Int64) - (q1 * q1)))), .second] [(.long (2 : Int64)), (.long (q1 * ((2 : Int64) - (q1 * q1))))])) _
    refine XS.lloadN X0.here hx rfl (hb hby d3_16) rfl ?_
    show Steps p.tables e below (s₁.setTop (mkF m 17 #[.val (.long q1), .second, .val (.long (q1 * ((2 : Int64) - (q1 * q1)))), .second] [(.long q1), (.long (2 : Int64)), (.long (q1 * ((2 : Int64) - (q1 * q1))))])) _
    refine XS.lloadN X0.here hx rfl (hb hby d3_17) rfl ?_
    show Steps p.tables e below (s₁.setTop (mkF m 18 #[.val (.long q1), .second, .val (.long (q1 * ((2 : Int64) - (q1 * q1)))), .second] [(.long (q1 * ((2 : Int64) - (q1 * q1)))), (.long q1), (.long (2 : Int64)), (.long (q1 * ((2 : Int64) - (q1 * q1))))])) _
    refine XS.lmul X0.here hx rfl (hb hby d3_18) rfl ?_
    show Steps p.tables e below (s₁.setTop (mkF m 19 #[.val (.long q1), .second, .val (.long (q1 * ((2 : Int64) - (q1 * q1)))), .second] [(.long (q1 * (q1 * ((2 : Int64) - (q1 * q1))))), (.long (2 : Int64)), (.long (q1 * ((2 : Int64) - (q1 * q1))))])) _
    refine XS.lsub X0.here hx rfl (hb hby d3_19) rfl ?_
    show Steps p.tables e below (s₁.setTop (mkF m 20 #[.val (.long q1), .second, .val (.long (q1 * ((2 : Int64) - (q1 * q1)))), .second] [(.long ((2 : Int64) - (q1 * (q1 * ((2 : Int64) - (q1 * q1)))))), (.long (q1 * ((2 : Int64) - (q1 * q1))))])) _
    refine XS.lmul X0.here hx rfl (hb hby d3_20) rfl ?_
    exact kt
  obtain ⟨v2, hv2⟩ : ∃ zz9 : Int64, zz9 = ((q1 * ((2 : Int64) - (q1 * q1))) * ((2 : Int64) - (q1 * (q1 * ((2 : Int64) - (q1 * q1)))))) := ⟨_, rfl⟩
  rw [← hv2] at R1
  have R3 : ∀ t, Steps p.tables e below (s₁.setTop (mkF m 41 #[.val (.long q1), .second, .val (.long (v2 * ((2 : Int64) - (q1 * v2)))), .second] [(.long ((v2 * ((2 : Int64) - (q1 * v2))) * ((2 : Int64) - (q1 * (v2 * ((2 : Int64) - (q1 * v2)))))))])) t → Steps p.tables e below (s₁.setTop (entryFrame m #[(.long q1)] 4)) t := by
    intro t kt
    refine R1 _ ?_
    show Steps p.tables e below (s₁.setTop (mkF m 21 #[.val (.long q1), .second, .val (.long (q1 * ((2 : Int64) - (q1 * q1)))), .second] [(.long v2)])) _
    refine XS.lstoreN X0.here hx rfl (hb hby d3_21) rfl (l' := #[.val (.long q1), .second, .val (.long v2), .second]) rfl ?_
    show Steps p.tables e below (s₁.setTop (mkF m 22 #[.val (.long q1), .second, .val (.long v2), .second] [])) _
    refine XS.lloadN X0.here hx rfl (hb hby d3_22) rfl ?_
    show Steps p.tables e below (s₁.setTop (mkF m 23 #[.val (.long q1), .second, .val (.long v2), .second] [(.long v2)])) _
    refine X0.ldc2Long hx hown (mvT hZ (hw _ (List.mem_of_getElem? (i := 21) rfl))) (g := (mkF m 23 #[.val (.long q1), .second, .val (.long v2), .second] [(.long v2)])) rfl (hb hby d3_23) _ ?_
    show Steps p.tables e below (s₁.setTop (mkF m 26 #[.val (.long q1), .second, .val (.long v2), .second] [(.long (2 : Int64)), (.long v2)])) _
    refine XS.lloadN X0.here hx rfl (hb hby d3_26) rfl ?_
    show Steps p.tables e below (s₁.setTop (mkF m 27 #[.val (.long q1), .second, .val (.long v2), .second] [(.long q1), (.long (2 : Int64)), (.long v2)])) _
    refine XS.lloadN X0.here hx rfl (hb hby d3_27) rfl ?_
    show Steps p.tables e below (s₁.setTop (mkF m 28 #[.val (.long q1), .second, .val (.long v2), .second] [(.long v2), (.long q1), (.long (2 : Int64)), (.long v2)])) _
    refine XS.lmul X0.here hx rfl (hb hby d3_28) rfl ?_
    show Steps p.tables e below (s₁.setTop (mkF m 29 #[.val (.long q1), .second, .val (.long v2), .second] [(.long (q1 * v2)), (.long (2 : Int64)), (.long v2)])) _
    refine XS.lsub X0.here hx rfl (hb hby d3_29) rfl ?_
    show Steps p.tables e below (s₁.setTop (mkF m 30 #[.val (.long q1), .second, .val (.long v2), .second] [(.long ((2 : Int64) - (q1 * v2))), (.long v2)])) _
    refine XS.lmul X0.here hx rfl (hb hby d3_30) rfl ?_
    show Steps p.tables e below (s₁.setTop (mkF m 31 #[.val (.long q1), .second, .val (.long v2), .second] [(.long (v2 * ((2 : Int64) - (q1 * v2))))])) _
    refine XS.lstoreN X0.here hx rfl (hb hby d3_31) rfl (l' := #[.val (.long q1), .second, .val (.long (v2 * ((2 : Int64) - (q1 * v2)))), .second]) rfl ?_
    show Steps p.tables e below (s₁.setTop (mkF m 32 #[.val (.long q1), .second, .val (.long (v2 * ((2 : Int64) - (q1 * v2)))), .second] [])) _
    refine XS.lloadN X0.here hx rfl (hb hby d3_32) rfl ?_
    show Steps p.tables e below (s₁.setTop (mkF m 33 #[.val (.long q1), .second, .val (.long (v2 * ((2 : Int64) - (q1 * v2)))), .second] [(.long (v2 * ((2 : Int64) - (q1 * v2))))])) _
    refine X0.ldc2Long hx hown (mvT hZ (hw _ (List.mem_of_getElem? (i := 21) rfl))) (g := (mkF m 33 #[.val (.long q1), .second, .val (.long (v2 * ((2 : Int64) - (q1 * v2)))), .second] [(.long (v2 * ((2 : Int64) - (q1 * v2))))])) rfl (hb hby d3_33) _ ?_
    show Steps p.tables e below (s₁.setTop (mkF m 36 #[.val (.long q1), .second, .val (.long (v2 * ((2 : Int64) - (q1 * v2)))), .second] [(.long (2 : Int64)), (.long (v2 * ((2 : Int64) - (q1 * v2))))])) _
    refine XS.lloadN X0.here hx rfl (hb hby d3_36) rfl ?_
    show Steps p.tables e below (s₁.setTop (mkF m 37 #[.val (.long q1), .second, .val (.long (v2 * ((2 : Int64) - (q1 * v2)))), .second] [(.long q1), (.long (2 : Int64)), (.long (v2 * ((2 : Int64) - (q1 * v2))))])) _
    refine XS.lloadN X0.here hx rfl (hb hby d3_37) rfl ?_
    show Steps p.tables e below (s₁.setTop (mkF m 38 #[.val (.long q1), .second, .val (.long (v2 * ((2 : Int64) - (q1 * v2)))), .second] [(.long (v2 * ((2 : Int64) - (q1 * v2)))), (.long q1), (.long (2 : Int64)), (.long (v2 * ((2 : Int64) - (q1 * v2))))])) _
    refine XS.lmul X0.here hx rfl (hb hby d3_38) rfl ?_
    show Steps p.tables e below (s₁.setTop (mkF m 39 #[.val (.long q1), .second, .val (.long (v2 * ((2 : Int64) - (q1 * v2)))), .second] [(.long (q1 * (v2 * ((2 : Int64) - (q1 * v2))))), (.long (2 : Int64)), (.long (v2 * ((2 : Int64) - (q1 * v2))))])) _
    refine XS.lsub X0.here hx rfl (hb hby d3_39) rfl ?_
    show Steps p.tables e below (s₁.setTop (mkF m 40 #[.val (.long q1), .second, .val (.long (v2 * ((2 : Int64) - (q1 * v2)))), .second] [(.long ((2 : Int64) - (q1 * (v2 * ((2 : Int64) - (q1 * v2)))))), (.long (v2 * ((2 : Int64) - (q1 * v2))))])) _
    refine XS.lmul X0.here hx rfl (hb hby d3_40) rfl ?_
    exact kt
  obtain ⟨v4, hv4⟩ : ∃ zz9 : Int64, zz9 = ((v2 * ((2 : Int64) - (q1 * v2))) * ((2 : Int64) - (q1 * (v2 * ((2 : Int64) - (q1 * v2)))))) := ⟨_, rfl⟩
  rw [← hv4] at R3
  have R5 : ∀ t, Steps p.tables e below (s₁.setTop (mkF m 53 #[.val (.long q1), .second, .val (.long (v4 * ((2 : Int64) - (q1 * v4)))), .second] [(.long (v4 * ((2 : Int64) - (q1 * v4))))])) t → Steps p.tables e below (s₁.setTop (entryFrame m #[(.long q1)] 4)) t := by
    intro t kt
    refine R3 _ ?_
    show Steps p.tables e below (s₁.setTop (mkF m 41 #[.val (.long q1), .second, .val (.long (v2 * ((2 : Int64) - (q1 * v2)))), .second] [(.long v4)])) _
    refine XS.lstoreN X0.here hx rfl (hb hby d3_41) rfl (l' := #[.val (.long q1), .second, .val (.long v4), .second]) rfl ?_
    show Steps p.tables e below (s₁.setTop (mkF m 42 #[.val (.long q1), .second, .val (.long v4), .second] [])) _
    refine XS.lloadN X0.here hx rfl (hb hby d3_42) rfl ?_
    show Steps p.tables e below (s₁.setTop (mkF m 43 #[.val (.long q1), .second, .val (.long v4), .second] [(.long v4)])) _
    refine X0.ldc2Long hx hown (mvT hZ (hw _ (List.mem_of_getElem? (i := 21) rfl))) (g := (mkF m 43 #[.val (.long q1), .second, .val (.long v4), .second] [(.long v4)])) rfl (hb hby d3_43) _ ?_
    show Steps p.tables e below (s₁.setTop (mkF m 46 #[.val (.long q1), .second, .val (.long v4), .second] [(.long (2 : Int64)), (.long v4)])) _
    refine XS.lloadN X0.here hx rfl (hb hby d3_46) rfl ?_
    show Steps p.tables e below (s₁.setTop (mkF m 47 #[.val (.long q1), .second, .val (.long v4), .second] [(.long q1), (.long (2 : Int64)), (.long v4)])) _
    refine XS.lloadN X0.here hx rfl (hb hby d3_47) rfl ?_
    show Steps p.tables e below (s₁.setTop (mkF m 48 #[.val (.long q1), .second, .val (.long v4), .second] [(.long v4), (.long q1), (.long (2 : Int64)), (.long v4)])) _
    refine XS.lmul X0.here hx rfl (hb hby d3_48) rfl ?_
    show Steps p.tables e below (s₁.setTop (mkF m 49 #[.val (.long q1), .second, .val (.long v4), .second] [(.long (q1 * v4)), (.long (2 : Int64)), (.long v4)])) _
    refine XS.lsub X0.here hx rfl (hb hby d3_49) rfl ?_
    show Steps p.tables e below (s₁.setTop (mkF m 50 #[.val (.long q1), .second, .val (.long v4), .second] [(.long ((2 : Int64) - (q1 * v4))), (.long v4)])) _
    refine XS.lmul X0.here hx rfl (hb hby d3_50) rfl ?_
    show Steps p.tables e below (s₁.setTop (mkF m 51 #[.val (.long q1), .second, .val (.long v4), .second] [(.long (v4 * ((2 : Int64) - (q1 * v4))))])) _
    refine XS.lstoreN X0.here hx rfl (hb hby d3_51) rfl (l' := #[.val (.long q1), .second, .val (.long (v4 * ((2 : Int64) - (q1 * v4)))), .second]) rfl ?_
    show Steps p.tables e below (s₁.setTop (mkF m 52 #[.val (.long q1), .second, .val (.long (v4 * ((2 : Int64) - (q1 * v4)))), .second] [])) _
    refine XS.lloadN X0.here hx rfl (hb hby d3_52) rfl ?_
    exact kt
  obtain ⟨fs, hr, hrun, hended, hW, hsame⟩ := X0.leave (v := some (.long (v4 * ((2 : Int64) - (q1 * v4))))) (fun h => by rw [Bd.returns] at h; cases h)
  refine ⟨_, _, R5 _ ?_, hrun, hended, _, _, rfl, ?_, ⟨_, rfl⟩, hW, hsame.mono (by decide) (by decide)⟩
  · show Steps p.tables e below (s₁.setTop (mkF m 53 #[.val (.long q1), .second, .val (.long (v4 * ((2 : Int64) - (q1 * v4)))), .second] [(.long (v4 * ((2 : Int64) - (q1 * v4))))])) _
    exact X0.lreturnOut hx Bd.returns (hb hby d3_53) hr
  · show Q3 Z q1 h0 n0 _ s₁.heap _
    rw [e0]
    refine ⟨?_, rfl, rfl⟩
    subst hv2 hv4; rfl
def own_h (f : Nat → Int32) : Nat → Int64
  | 0 => -3750763034362895579
  | k + 1 => (own_h f k ^^^ ((f k &&& (255 : Int32)).toInt64)) * (1099511628211 : Int64)
def own_b (q : Int64) : Nat → Int32
  | 0 => (q.toInt32.toInt8.toInt32)
  | 1 => ((((q.toUInt64 >>> ((8 : Int32) &&& 0x3f).toInt64.toUInt64).toInt64).toInt32).toInt8.toInt32)
  | 2 => ((((q.toUInt64 >>> ((16 : Int32) &&& 0x3f).toInt64.toUInt64).toInt64).toInt32).toInt8.toInt32)
  | 3 => ((((q.toUInt64 >>> ((24 : Int32) &&& 0x3f).toInt64.toUInt64).toInt64).toInt32).toInt8.toInt32)
  | 4 => ((((q.toUInt64 >>> ((32 : Int32) &&& 0x3f).toInt64.toUInt64).toInt64).toInt32).toInt8.toInt32)
  | 5 => ((((q.toUInt64 >>> ((40 : Int32) &&& 0x3f).toInt64.toUInt64).toInt64).toInt32).toInt8.toInt32)
  | 6 => ((((q.toUInt64 >>> ((48 : Int32) &&& 0x3f).toInt64.toUInt64).toInt64).toInt32).toInt8.toInt32)
  | 7 => ((((q.toUInt64 >>> ((56 : Int32) &&& 0x3f).toInt64.toUInt64).toInt64).toInt32).toInt8.toInt32)
  | _ => 0
def own_g (q : Int64) (k j : Nat) : Value := if j < k then .int (own_b q j) else .int (0 : Int32)
theorem own_rem {p v : Int32} (e : v = ((p &&& (2147483647 : Int32)) % (9 : Int32))) : 0 ≤ v.toInt ∧ v.toInt < 9 := by
  have h := c_mask p 2147483647 31 (by decide) (by decide)
  have n : 0 ≤ (p &&& (2147483647 : Int32)).toInt := by rw [h]; exact Int.emod_nonneg _ (by decide)
  have r := (c_irem (p &&& (2147483647 : Int32)) 9 9 rfl).1 n
  rw [e]; omega
theorem own_nn {p v : Int32} (e : v = ((p &&& (2147483647 : Int32)) % (9 : Int32))) : ¬ v < 0 := by
  have := own_rem e
  rw [Int32.lt_iff_toInt_lt, show (0 : Int32).toInt = 0 from rfl]; omega
theorem own_le {p v : Int32} (e : v = ((p &&& (2147483647 : Int32)) % (9 : Int32))) : v.toNatClampNeg ≤ 8 := by
  have := own_rem e
  simp only [Int32.toNatClampNeg]; omega
section OwnA
variable {Z : State} {h : Heap} {a : Addr} {n : Nat} {q : Int64}
theorem own_g0 (V : AF Z h a .byte n (fun _ => .int (0 : Int32))) : AF Z h a .byte n (own_g q 0) := V.congr fun j _ => by simp [own_g]
theorem own_bb (y : Int32) : nar .byte (y.toInt8.toInt32) = y.toInt8.toInt32 := by simp [nar]
theorem own_set (k : Nat) {x j : Int32} (V : AF Z h a .byte n (fun i => if i = j.toNatClampNeg then .int (nar .byte x) else own_g q k i)) (hx : nar .byte x = own_b q k) (hj : j.toNatClampNeg = k) : AF Z h a .byte n (own_g q (k + 1)) := V.congr fun i _ => by
  rw [hj, hx]
  by_cases e : i = k
  · subst e; simp [own_g]
  · simp only [e, if_false, own_g]
    by_cases l : i < k
    · rw [if_pos l, if_pos (by omega)]
    · rw [if_neg l, if_neg (by omega)]
theorem own_skip {K v : Int32} {k : Nat} (h1 : K.toNatClampNeg = k) (h2 : 0 ≤ K.toInt) (hc : ¬ K < v) (V : AF Z h a .byte v.toNatClampNeg (own_g q k)) : AF Z h a .byte v.toNatClampNeg (own_g q (k + 1)) := V.congr fun i hi => by
  rw [Int32.lt_iff_toInt_lt] at hc
  simp only [Int32.toNatClampNeg] at hi h1
  simp only [own_g]
  rw [if_pos (by omega), if_pos (by omega)]
theorem own_g8 {v : Int32} (hv : v.toNatClampNeg ≤ 8) (V : AF Z h a .byte v.toNatClampNeg (own_g q 8)) : AF Z h a .byte v.toNatClampNeg (fun j => .int (own_b q j)) := V.congr fun i hi => by
  simp only [own_g]; rw [if_pos (by omega)]
end OwnA
theorem own_hi {j v : Int32} (h0 : 0 ≤ j.toInt) (h : j < v) : j.toInt < (v.toNatClampNeg : Int) := by
  rw [Int32.lt_iff_toInt_lt] at h
  simp only [Int32.toNatClampNeg]; omega
theorem own_z0 {z : Int32} (hz : ¬ z < 0) : (0 : Int32).toInt + (z.toNatClampNeg : Int) = z.toInt := by
  rw [Int32.lt_iff_toInt_lt, show (0 : Int32).toInt = 0 from rfl] at hz
  rw [show (0 : Int32).toInt = 0 from rfl]
  simp only [Int32.toNatClampNeg]; omega
theorem d2_13 : decode prog_62_method_19_code 13 = .ok (.iload 5, 2) := by decide +kernel
theorem d2_15 : decode prog_62_method_19_code 15 = .ok (.iload 4, 2) := by decide +kernel
theorem d2_17 : decode prog_62_method_19_code 17 = .ok (.if_icmp .ge 29, 3) := by decide +kernel
theorem d2_20 : decode prog_62_method_19_code 20 = .ok (.aload_n 3, 1) := by decide +kernel
theorem d2_21 : decode prog_62_method_19_code 21 = .ok (.iload 5, 2) := by decide +kernel
theorem d2_23 : decode prog_62_method_19_code 23 = .ok (.baload, 1) := by decide +kernel
theorem d2_24 : decode prog_62_method_19_code 24 = .ok (.istore 6, 2) := by decide +kernel
theorem d2_26 : decode prog_62_method_19_code 26 = .ok (.lload_n 1, 1) := by decide +kernel
theorem d2_27 : decode prog_62_method_19_code 27 = .ok (.iload 6, 2) := by decide +kernel
theorem d2_29 : decode prog_62_method_19_code 29 = .ok (.sipush 255, 3) := by decide +kernel
theorem d2_32 : decode prog_62_method_19_code 32 = .ok (.iand, 1) := by decide +kernel
theorem d2_33 : decode prog_62_method_19_code 33 = .ok (.i2l, 1) := by decide +kernel
theorem d2_34 : decode prog_62_method_19_code 34 = .ok (.lxor, 1) := by decide +kernel
theorem d2_35 : decode prog_62_method_19_code 35 = .ok (.ldc2_w 431, 3) := by decide +kernel
theorem d2_38 : decode prog_62_method_19_code 38 = .ok (.lmul, 1) := by decide +kernel
theorem d2_39 : decode prog_62_method_19_code 39 = .ok (.lstore_n 1, 1) := by decide +kernel
theorem d2_40 : decode prog_62_method_19_code 40 = .ok (.iinc 5 1, 3) := by decide +kernel
theorem d2_43 : decode prog_62_method_19_code 43 = .ok (.goto (-30), 3) := by decide +kernel
theorem os2_24 {s0 : Slot} {z1 : Value} {z3 : Value} {z4 : Value} {z5 : Value} {s6 : Slot} {v : Int32} (h : One s6) : storeLocals #[s0, .val z1, .second, .val z3, .val z4, .val z5, s6] 6 (.int v) = some #[s0, .val z1, .second, .val z3, .val z4, .val z5, .val (.int v)] := by
  rcases h with rfl | ⟨w, rfl, hw⟩
  · rfl
  · cases w <;> first | rfl | (simp [Value.category] at hw)
set_option maxRecDepth 65536 in
set_option maxHeartbeats 40000000 in
theorem tn2_13_13 {p : Program} {l : Launch} {e : Env} {R : Room} {s : State} {m : MethodId} {args : Array Value} {below : List Frame} {meth : Method} {c : Code} {T0 : State} {locs : List Loc} {cells slots : Nat} {Z : State} {a0 : Array Value} {h0 : Heap} (s0 : Slot) (j1 : Int64) (o3 : Addr) (i4 : Int32) (i5 : Int32) (s6 : Slot) (w2 : Int32) (cl_o3 : Cell)
    (X0 : Stand p l e R s m args below meth c T0 locs cells slots) (hx : p.tables.exec = Jvm.exec) (hZ : Z.Warmed39 s.vm) (hw : ∀ d ∈ tables_1, d.before a0 Z = true) (hby : c.code = prog_62_method_19_code) (hml : c.maxLocals = 7) (hown : s.vm.findClass "com/example/relicary/relicary/siard/Container" = some m.cls) (e0 : T0.heap = h0) (Ar_o3 : Arr Z h0 o3 cl_o3 .byte) (hin23 : ¬ (i5 < 0 ∨ cl_o3.slots.size ≤ (i5).toNatClampNeg)) (hat23 : cl_o3.slots[(i5).toNatClampNeg]? = some (.int w2)) (hs6 : One s6) (hc17 : i5 < i4) :
    ∃ (T' : State), Stand p l e R s m args below meth c T' locs cells slots ∧ T'.heap = h0 ∧
      ∀ target, Steps p.tables e below (T'.setTop (mkF m 13 #[s0, .val (.long ((j1 ^^^ ((w2 &&& (255 : Int32)).toInt64)) * (1099511628211 : Int64))), .second, .val (.ref o3), .val (.int i4), .val (.int (i5 + (1 : Int32))), .val (.int w2)] [])) target → Steps p.tables e below (T0.setTop (mkF m 13 #[s0, .val (.long j1), .second, .val (.ref o3), .val (.int i4), .val (.int i5), s6] [])) target := by

  refine ⟨T0, X0, e0, fun target kt => ?_⟩
  show Steps p.tables e below (T0.setTop (mkF m 13 #[s0, .val (.long j1), .second, .val (.ref o3), .val (.int i4), .val (.int i5), s6] [])) _
  refine XS.iload X0.here hx rfl (hb hby d2_13) rfl ?_
  show Steps p.tables e below (T0.setTop (mkF m 15 #[s0, .val (.long j1), .second, .val (.ref o3), .val (.int i4), .val (.int i5), s6] [(.int i5)])) _
  refine XS.iload X0.here hx rfl (hb hby d2_15) rfl ?_
  show Steps p.tables e below (T0.setTop (mkF m 17 #[s0, .val (.long j1), .second, .val (.ref o3), .val (.int i4), .val (.int i5), s6] [(.int i4), (.int i5)])) _
  refine XS.icmpNo X0.here hx rfl (hb hby d2_17) rfl (tlt hc17).2.1 ?_
  show Steps p.tables e below (T0.setTop (mkF m 20 #[s0, .val (.long j1), .second, .val (.ref o3), .val (.int i4), .val (.int i5), s6] [])) _
  refine XS.aloadN X0.here hx rfl (hb hby d2_20) rfl rfl ?_
  show Steps p.tables e below (T0.setTop (mkF m 21 #[s0, .val (.long j1), .second, .val (.ref o3), .val (.int i4), .val (.int i5), s6] [(.ref o3)])) _
  refine XS.iload X0.here hx rfl (hb hby d2_21) rfl ?_
  show Steps p.tables e below (T0.setTop (mkF m 23 #[s0, .val (.long j1), .second, .val (.ref o3), .val (.int i4), .val (.int i5), s6] [(.int i5), (.ref o3)])) _
  refine X0.baloadBytes hx (j := i5) (v := (.int w2)) (by rw [e0]; exact Ar_o3.1) (State.isArrayOf_alike hZ.alike Ar_o3.2.1) Ar_o3.2.2 hin23 hat23 (g := (mkF m 23 #[s0, .val (.long j1), .second, .val (.ref o3), .val (.int i4), .val (.int i5), s6] [(.int i5), (.ref o3)])) rfl rfl (hb hby d2_23) _ ?_
  show Steps p.tables e below (T0.setTop (mkF m 24 #[s0, .val (.long j1), .second, .val (.ref o3), .val (.int i4), .val (.int i5), s6] [(.int w2)])) _
  refine XS.istore X0.here hx rfl (hb hby d2_24) rfl (l' := #[s0, .val (.long j1), .second, .val (.ref o3), .val (.int i4), .val (.int i5), .val (.int w2)]) (os2_24 hs6) ?_
  show Steps p.tables e below (T0.setTop (mkF m 26 #[s0, .val (.long j1), .second, .val (.ref o3), .val (.int i4), .val (.int i5), .val (.int w2)] [])) _
  refine XS.lloadN X0.here hx rfl (hb hby d2_26) rfl ?_
  show Steps p.tables e below (T0.setTop (mkF m 27 #[s0, .val (.long j1), .second, .val (.ref o3), .val (.int i4), .val (.int i5), .val (.int w2)] [(.long j1)])) _
  refine XS.iload X0.here hx rfl (hb hby d2_27) rfl ?_
  show Steps p.tables e below (T0.setTop (mkF m 29 #[s0, .val (.long j1), .second, .val (.ref o3), .val (.int i4), .val (.int i5), .val (.int w2)] [(.int w2), (.long j1)])) _
  refine XS.sipush X0.here hx rfl (hb hby d2_29) ?_
  show Steps p.tables e below (T0.setTop (mkF m 32 #[s0, .val (.long j1), .second, .val (.ref o3), .val (.int i4), .val (.int i5), .val (.int w2)] [(.int (255 : Int32)), (.int w2), (.long j1)])) _
  refine XS.iand X0.here hx rfl (hb hby d2_32) rfl ?_
  show Steps p.tables e below (T0.setTop (mkF m 33 #[s0, .val (.long j1), .second, .val (.ref o3), .val (.int i4), .val (.int i5), .val (.int w2)] [(.int (w2 &&& (255 : Int32))), (.long j1)])) _
  refine XS.i2l X0.here hx rfl (hb hby d2_33) rfl ?_
  show Steps p.tables e below (T0.setTop (mkF m 34 #[s0, .val (.long j1), .second, .val (.ref o3), .val (.int i4), .val (.int i5), .val (.int w2)] [(.long ((w2 &&& (255 : Int32)).toInt64)), (.long j1)])) _
  refine XS.lxor X0.here hx rfl (hb hby d2_34) rfl ?_
  show Steps p.tables e below (T0.setTop (mkF m 35 #[s0, .val (.long j1), .second, .val (.ref o3), .val (.int i4), .val (.int i5), .val (.int w2)] [(.long (j1 ^^^ ((w2 &&& (255 : Int32)).toInt64)))])) _
  refine X0.ldc2Long hx hown (mvT hZ (hw _ (List.mem_of_getElem? (i := 14) rfl))) (g := (mkF m 35 #[s0, .val (.long j1), .second, .val (.ref o3), .val (.int i4), .val (.int i5), .val (.int w2)] [(.long (j1 ^^^ ((w2 &&& (255 : Int32)).toInt64)))])) rfl (hb hby d2_35) _ ?_
  show Steps p.tables e below (T0.setTop (mkF m 38 #[s0, .val (.long j1), .second, .val (.ref o3), .val (.int i4), .val (.int i5), .val (.int w2)] [(.long (1099511628211 : Int64)), (.long (j1 ^^^ ((w2 &&& (255 : Int32)).toInt64)))])) _
  refine XS.lmul X0.here hx rfl (hb hby d2_38) rfl ?_
  show Steps p.tables e below (T0.setTop (mkF m 39 #[s0, .val (.long j1), .second, .val (.ref o3), .val (.int i4), .val (.int i5), .val (.int w2)] [(.long ((j1 ^^^ ((w2 &&& (255 : Int32)).toInt64)) * (1099511628211 : Int64)))])) _
  refine XS.lstoreN X0.here hx rfl (hb hby d2_39) rfl (l' := #[s0, .val (.long ((j1 ^^^ ((w2 &&& (255 : Int32)).toInt64)) * (1099511628211 : Int64))), .second, .val (.ref o3), .val (.int i4), .val (.int i5), .val (.int w2)]) rfl ?_
  show Steps p.tables e below (T0.setTop (mkF m 40 #[s0, .val (.long ((j1 ^^^ ((w2 &&& (255 : Int32)).toInt64)) * (1099511628211 : Int64))), .second, .val (.ref o3), .val (.int i4), .val (.int i5), .val (.int w2)] [])) _
  refine XS.iinc X0.here hx rfl (hb hby d2_40) rfl (l' := #[s0, .val (.long ((j1 ^^^ ((w2 &&& (255 : Int32)).toInt64)) * (1099511628211 : Int64))), .second, .val (.ref o3), .val (.int i4), .val (.int (i5 + (1 : Int32))), .val (.int w2)]) rfl ?_
  show Steps p.tables e below (T0.setTop (mkF m 43 #[s0, .val (.long ((j1 ^^^ ((w2 &&& (255 : Int32)).toInt64)) * (1099511628211 : Int64))), .second, .val (.ref o3), .val (.int i4), .val (.int (i5 + (1 : Int32))), .val (.int w2)] [])) _
  refine XS.goto X0.here hx rfl (pc0 := 43) (pc' := 13) rfl (hb hby d2_43) (by decide) (by decide) ?_
  exact kt


set_option maxRecDepth 65536 in
set_option maxHeartbeats 40000000 in
theorem tn2_13_46 {p : Program} {l : Launch} {e : Env} {R : Room} {s : State} {m : MethodId} {args : Array Value} {below : List Frame} {meth : Method} {c : Code} {T0 : State} {locs : List Loc} {cells slots : Nat} {Z : State} {a0 : Array Value} {h0 : Heap} (s0 : Slot) (s1 : Slot) (s2 : Slot) (s3 : Slot) (i4 : Int32) (i5 : Int32) (s6 : Slot)
    (X0 : Stand p l e R s m args below meth c T0 locs cells slots) (hx : p.tables.exec = Jvm.exec) (hZ : Z.Warmed39 s.vm) (hw : ∀ d ∈ tables_1, d.before a0 Z = true) (hby : c.code = prog_62_method_19_code) (hml : c.maxLocals = 7) (hown : s.vm.findClass "com/example/relicary/relicary/siard/Container" = some m.cls) (e0 : T0.heap = h0) (hc17 : ¬ (i5 < i4)) :
    ∃ (T' : State), Stand p l e R s m args below meth c T' locs cells slots ∧ T'.heap = h0 ∧
      ∀ target, Steps p.tables e below (T'.setTop (mkF m 46 #[s0, s1, s2, s3, .val (.int i4), .val (.int i5), s6] [])) target → Steps p.tables e below (T0.setTop (mkF m 13 #[s0, s1, s2, s3, .val (.int i4), .val (.int i5), s6] [])) target := by

  refine ⟨T0, X0, e0, fun target kt => ?_⟩
  show Steps p.tables e below (T0.setTop (mkF m 13 #[s0, s1, s2, s3, .val (.int i4), .val (.int i5), s6] [])) _
  refine XS.iload X0.here hx rfl (hb hby d2_13) rfl ?_
  show Steps p.tables e below (T0.setTop (mkF m 15 #[s0, s1, s2, s3, .val (.int i4), .val (.int i5), s6] [(.int i5)])) _
  refine XS.iload X0.here hx rfl (hb hby d2_15) rfl ?_
  show Steps p.tables e below (T0.setTop (mkF m 17 #[s0, s1, s2, s3, .val (.int i4), .val (.int i5), s6] [(.int i4), (.int i5)])) _
  refine XS.icmpYes X0.here hx rfl (pc0 := 17) (pc' := 46) rfl (hb hby d2_17) rfl (flt hc17).2.1 (by decide) (by decide) ?_
  exact kt


theorem own_loop {p : Program} {l : Launch} {e : Env} {R : Room} {s : State} {m : MethodId} {args : Array Value} {below : List Frame} {meth : Method} {c : Code} {locs : List Loc} {cells slots : Nat} {Z : State} {a0 : Array Value} {h0 : Heap} (o3 : Addr) (z : Int32) (f : Nat → Int32)
    (hx : p.tables.exec = Jvm.exec) (hZ : Z.Warmed39 s.vm) (hw : ∀ d ∈ tables_1, d.before a0 Z = true) (hby : c.code = prog_62_method_19_code) (hml : c.maxLocals = 7) (hown : s.vm.findClass "com/example/relicary/relicary/siard/Container" = some m.cls)
    (cl : Cell) (Ar : Arr Z h0 o3 cl .byte) (S : cl.slots.size = z.toNatClampNeg) (H : ∀ j, j < z.toNatClampNeg → cl.slots[j]? = some (.int (f j))) (hz : ¬ z < 0) :
    ∀ (k : Nat) (i5 : Int32) (j1 : Int64) (s6 : Slot) (T0 : State), i5.toInt + (k : Int) = z.toInt → 0 ≤ i5.toInt → One s6 → Stand p l e R s m args below meth c T0 locs cells slots → T0.heap = h0 → j1 = own_h f i5.toNatClampNeg →
      ∃ (T' : State) (s6' : Slot), Stand p l e R s m args below meth c T' locs cells slots ∧ T'.heap = h0 ∧ One s6' ∧
        ∀ target, Steps p.tables e below (T'.setTop (mkF m 46 #[.val (.ref o3), .val (.long (own_h f z.toNatClampNeg)), .second, .val (.ref o3), .val (.int z), .val (.int z), s6'] [])) target → Steps p.tables e below (T0.setTop (mkF m 13 #[.val (.ref o3), .val (.long j1), .second, .val (.ref o3), .val (.int z), .val (.int i5), s6] [])) target := by
  intro k
  induction k with
  | zero =>
    intro i5 j1 s6 T0 hi h5 o6 X0 e0 hj
    have hi' : i5 = z := Int32.toInt_inj.mp (by omega)
    subst hi' hj
    obtain ⟨T', X', e', st⟩ := tn2_13_46 (.val (.ref o3)) (.val (.long (own_h f i5.toNatClampNeg))) .second (.val (.ref o3)) i5 i5 s6 X0 hx hZ hw hby hml hown e0 Int32.lt_irrefl
    exact ⟨T', s6, X', e', o6, st⟩
  | succ k ih =>
    intro i5 j1 s6 T0 hi h5 o6 X0 e0 hj
    have hz' : z.toInt = (z.toNatClampNeg : Int) := by
      have := own_z0 hz
      rw [show (0 : Int32).toInt = 0 from rfl] at this; omega
    have hlt : i5 < z := by rw [Int32.lt_iff_toInt_lt]; omega
    have hin := AF_in (j := i5) S h5 (by omega)
    have hat : cl.slots[i5.toNatClampNeg]? = some (.int (f i5.toNatClampNeg)) := H _ (by simp only [Int32.toNatClampNeg] at *; omega)
    obtain ⟨T1, X1, e1, st1⟩ := tn2_13_13 (.val (.ref o3)) j1 o3 z i5 s6 (f i5.toNatClampNeg) cl X0 hx hZ hw hby hml hown e0 Ar hin hat o6 hlt
    have a := c_iadd i5 1
    have r1 := rng32 (i5 + 1)
    have r2 := rng32 z
    rw [show (1 : Int32).toInt = 1 from rfl] at a
    have e5 : (i5 + 1).toInt = i5.toInt + 1 := by omega
    have n5 : (i5 + 1).toNatClampNeg = i5.toNatClampNeg + 1 := by simp only [Int32.toNatClampNeg, e5]; omega
    obtain ⟨T', s6', X', e', o', st⟩ := ih (i5 + 1) ((j1 ^^^ ((f i5.toNatClampNeg &&& (255 : Int32)).toInt64)) * (1099511628211 : Int64)) (.val (.int (f i5.toNatClampNeg))) T1 (by omega) (by omega) (One.val rfl) X1 e1 (by rw [n5, hj]; rfl)
    exact ⟨T', s6', X', e', o', fun target h => st1 target (st target h)⟩
theorem d2_0 : decode prog_62_method_19_code 0 = .ok (.ldc2_w 429, 3) := by decide +kernel
theorem d2_3 : decode prog_62_method_19_code 3 = .ok (.lstore_n 1, 1) := by decide +kernel
theorem d2_4 : decode prog_62_method_19_code 4 = .ok (.aload_n 0, 1) := by decide +kernel
theorem d2_5 : decode prog_62_method_19_code 5 = .ok (.astore_n 3, 1) := by decide +kernel
theorem d2_6 : decode prog_62_method_19_code 6 = .ok (.aload_n 3, 1) := by decide +kernel
theorem d2_7 : decode prog_62_method_19_code 7 = .ok (.arraylength, 1) := by decide +kernel
theorem d2_8 : decode prog_62_method_19_code 8 = .ok (.istore 4, 2) := by decide +kernel
theorem d2_10 : decode prog_62_method_19_code 10 = .ok (.iconst 0, 1) := by decide +kernel
theorem d2_11 : decode prog_62_method_19_code 11 = .ok (.istore 5, 2) := by decide +kernel
theorem d2_46 : decode prog_62_method_19_code 46 = .ok (.lload_n 1, 1) := by decide +kernel
theorem d2_47 : decode prog_62_method_19_code 47 = .ok (.lload_n 1, 1) := by decide +kernel
theorem d2_48 : decode prog_62_method_19_code 48 = .ok (.bipush 33, 2) := by decide +kernel
theorem d2_50 : decode prog_62_method_19_code 50 = .ok (.lushr, 1) := by decide +kernel
theorem d2_51 : decode prog_62_method_19_code 51 = .ok (.lxor, 1) := by decide +kernel
theorem d2_52 : decode prog_62_method_19_code 52 = .ok (.ldc2_w 433, 3) := by decide +kernel
theorem d2_55 : decode prog_62_method_19_code 55 = .ok (.lmul, 1) := by decide +kernel
theorem d2_56 : decode prog_62_method_19_code 56 = .ok (.lstore_n 1, 1) := by decide +kernel
theorem d2_57 : decode prog_62_method_19_code 57 = .ok (.lload_n 1, 1) := by decide +kernel
theorem d2_58 : decode prog_62_method_19_code 58 = .ok (.lload_n 1, 1) := by decide +kernel
theorem d2_59 : decode prog_62_method_19_code 59 = .ok (.bipush 33, 2) := by decide +kernel
theorem d2_61 : decode prog_62_method_19_code 61 = .ok (.lushr, 1) := by decide +kernel
theorem d2_62 : decode prog_62_method_19_code 62 = .ok (.lxor, 1) := by decide +kernel
theorem d2_63 : decode prog_62_method_19_code 63 = .ok (.ldc2_w 435, 3) := by decide +kernel
theorem d2_66 : decode prog_62_method_19_code 66 = .ok (.lmul, 1) := by decide +kernel
theorem d2_67 : decode prog_62_method_19_code 67 = .ok (.lstore_n 1, 1) := by decide +kernel
theorem d2_68 : decode prog_62_method_19_code 68 = .ok (.lload_n 1, 1) := by decide +kernel
theorem d2_69 : decode prog_62_method_19_code 69 = .ok (.lload_n 1, 1) := by decide +kernel
theorem d2_70 : decode prog_62_method_19_code 70 = .ok (.bipush 33, 2) := by decide +kernel
theorem d2_72 : decode prog_62_method_19_code 72 = .ok (.lushr, 1) := by decide +kernel
theorem d2_73 : decode prog_62_method_19_code 73 = .ok (.lxor, 1) := by decide +kernel
theorem d2_74 : decode prog_62_method_19_code 74 = .ok (.lreturn, 1) := by decide +kernel
theorem pn_2 : plainName "com/example/relicary/relicary/siard/Container" = true := by first | (simp [plainName, overriddenIn]; done) | decide +kernel
theorem ef_2 (m : MethodId) (x0 : Addr) : entryFrame m #[(.ref x0)] 7 = mkF m 0 #[.val (.ref x0), .unset, .unset, .unset, .unset, .unset, .unset] [] := by first | (simp [entryFrame, mkF, argsToLocals, Value.category]; done) | rfl
def F2 (z : Int32) (f : Nat → Int32) : Int64 :=
  let v6 : Int64 := (((own_h f z.toNatClampNeg) ^^^ (((own_h f z.toNatClampNeg).toUInt64 >>> ((33 : Int32) &&& 0x3f).toInt64.toUInt64).toInt64)) * (-49064778989728563 : Int64))
  let v8 : Int64 := ((v6 ^^^ ((v6.toUInt64 >>> ((33 : Int32) &&& 0x3f).toInt64.toUInt64).toInt64)) * (-4265267296055464877 : Int64))
  (v8 ^^^ ((v8.toUInt64 >>> ((33 : Int32) &&& 0x3f).toInt64.toUInt64).toInt64))
def Q2 (Z : State) (a1 : Addr) (z : Int32) (f : Nat → Int32) (h0 : Heap) (n0 : Nat) (v : Option Value) (h : Heap) (L : List Loc) : Prop := v = some (.long (F2 z f)) ∧ L = [] ∧ h = h0
set_option maxRecDepth 65536 in
set_option maxHeartbeats 40000000 in
theorem rm2 (l : Launch) (Z : State) (a0 : Array Value) (hw : ∀ d ∈ tables_1, d.before a0 Z = true) (ws : List Jvm.Cond) (a1 : Addr) (z : Int32) (f : Nat → Int32) (h0 : Heap) (n0 : Nat) (Z0 : n0 ≤ h0.size) (V : AF Z h0 a1 .byte z.toNatClampNeg (fun j => .int (f j))) (hz : ¬ z < 0) :
    MetFree l (⟨"com/example/relicary/relicary/siard/Container", "hash", "([B)J"⟩ : MethodName) (head1 (Jvm.Cond.code (⟨"com/example/relicary/relicary/siard/Container", "hash", "([B)J"⟩ : MethodName) prog_62_method_19_code 7 (some .long) :: ws) ({ frames := 0, cells := 0, slots := 0, locals := 0 } : Room)) (fun a U => a = #[(.ref a1)] ∧ Z.Warmed39 U.vm ∧ U.heap = h0) (fun _ _ _ _ _ => True) (fun _ U o U' => ∃ v L, o = .returned v ∧ Q2 Z a1 z f h0 n0 v U'.heap L ∧ FrameEnd U o U' L ({ frames := 0, cells := 0, slots := 0, locals := 0 } : Room).cells ({ frames := 0, cells := 0, slots := 0, locals := 0 } : Room).slots) := by
  refine MetFree.of_bodySF (plainFor_of_name pn_2) hisR ?_
  intro p e s m args below meth c s₁ Bd hml0 hP hK
  obtain ⟨rfl, hZ, hh⟩ := hP
  have hx := Bd.exec
  have hby := Bd.bytes
  have hml : c.maxLocals = 7 := hml0
  have hown : s.vm.findClass "com/example/relicary/relicary/siard/Container" = some m.cls := findClass_of_methodNamed Bd.named
  have hnm := (name_of_methodNamed Bd.named Bd.method).1
  have X0 : Stand p l e ({ frames := 0, cells := 0, slots := 0, locals := 0 } : Room) s m #[(.ref a1)] below meth c s₁ [] 0 0 := Stand.of_body Bd
  have e0 : s₁.heap = h0 := by rw [← hh, Bd.state]; rfl
  have N0 := Fr.nil n0
  have pre0 : ∀ t, Steps p.tables e below (s₁.setTop (mkF m 0 #[.val (.ref a1), .unset, .unset, .unset, .unset, .unset, .unset] [])) t → Steps p.tables e below (s₁.setTop (entryFrame m #[(.ref a1)] 7)) t := fun t k => castTop (ef_2 m a1) k
  obtain ⟨cl1, Ar1, S1, H1⟩ := id V
  have R2 : ∀ t, Steps p.tables e below (s₁.setTop (mkF m 13 #[.val (.ref a1), .val (.long (-3750763034362895579 : Int64)), .second, .val (.ref a1), .val (.int z), .val (.int (0 : Int32)), .unset] [])) t → Steps p.tables e below (s₁.setTop (entryFrame m #[(.ref a1)] 7)) t := by
    intro t kt
    refine pre0 _ ?_
    show Steps p.tables e below (s₁.setTop (mkF m 0 #[.val (.ref a1), .unset, .unset, .unset, .unset, .unset, .unset] [])) _
    refine X0.ldc2Long hx hown (mvT hZ (hw _ (List.mem_of_getElem? (i := 13) rfl))) (g := (mkF m 0 #[.val (.ref a1), .unset, .unset, .unset, .unset, .unset, .unset] [])) rfl (hb hby d2_0) _ ?_
    show Steps p.tables e below (s₁.setTop (mkF m 3 #[.val (.ref a1), .unset, .unset, .unset, .unset, .unset, .unset] [(.long (-3750763034362895579 : Int64))])) _
    refine XS.lstoreN X0.here hx rfl (hb hby d2_3) rfl (l' := #[.val (.ref a1), .val (.long (-3750763034362895579 : Int64)), .second, .unset, .unset, .unset, .unset]) rfl ?_
    show Steps p.tables e below (s₁.setTop (mkF m 4 #[.val (.ref a1), .val (.long (-3750763034362895579 : Int64)), .second, .unset, .unset, .unset, .unset] [])) _
    refine XS.aloadN X0.here hx rfl (hb hby d2_4) rfl rfl ?_
    show Steps p.tables e below (s₁.setTop (mkF m 5 #[.val (.ref a1), .val (.long (-3750763034362895579 : Int64)), .second, .unset, .unset, .unset, .unset] [(.ref a1)])) _
    refine XS.astoreN X0.here hx rfl (hb hby d2_5) rfl rfl (l' := #[.val (.ref a1), .val (.long (-3750763034362895579 : Int64)), .second, .val (.ref a1), .unset, .unset, .unset]) rfl ?_
    show Steps p.tables e below (s₁.setTop (mkF m 6 #[.val (.ref a1), .val (.long (-3750763034362895579 : Int64)), .second, .val (.ref a1), .unset, .unset, .unset] [])) _
    refine XS.aloadN X0.here hx rfl (hb hby d2_6) rfl rfl ?_
    show Steps p.tables e below (s₁.setTop (mkF m 7 #[.val (.ref a1), .val (.long (-3750763034362895579 : Int64)), .second, .val (.ref a1), .unset, .unset, .unset] [(.ref a1)])) _
    refine X0.arraylength hx (by rw [e0]; exact Ar1.1) (State.isArrayOf_alike hZ.alike Ar1.2.1) (g := (mkF m 7 #[.val (.ref a1), .val (.long (-3750763034362895579 : Int64)), .second, .val (.ref a1), .unset, .unset, .unset] [(.ref a1)])) rfl rfl (hb hby d2_7) _ ?_
    rw [len_of S1 hz]
    show Steps p.tables e below (s₁.setTop (mkF m 8 #[.val (.ref a1), .val (.long (-3750763034362895579 : Int64)), .second, .val (.ref a1), .unset, .unset, .unset] [(.int z)])) _
    refine XS.istore X0.here hx rfl (hb hby d2_8) rfl (l' := #[.val (.ref a1), .val (.long (-3750763034362895579 : Int64)), .second, .val (.ref a1), .val (.int z), .unset, .unset]) rfl ?_
    show Steps p.tables e below (s₁.setTop (mkF m 10 #[.val (.ref a1), .val (.long (-3750763034362895579 : Int64)), .second, .val (.ref a1), .val (.int z), .unset, .unset] [])) _
    refine XS.iconst X0.here hx rfl (hb hby d2_10) ?_
    show Steps p.tables e below (s₁.setTop (mkF m 11 #[.val (.ref a1), .val (.long (-3750763034362895579 : Int64)), .second, .val (.ref a1), .val (.int z), .unset, .unset] [(.int (0 : Int32))])) _
    refine XS.istore X0.here hx rfl (hb hby d2_11) rfl (l' := #[.val (.ref a1), .val (.long (-3750763034362895579 : Int64)), .second, .val (.ref a1), .val (.int z), .val (.int (0 : Int32)), .unset]) rfl ?_
    exact kt
  obtain ⟨cl3, Ar3, S3, H3⟩ := id V
  obtain ⟨T3, sl3, X3, e3, o3, lp3⟩ := own_loop a1 z f hx hZ hw hby hml hown cl3 Ar3 S3 H3 hz z.toNatClampNeg 0 (-3750763034362895579 : Int64) .unset s₁ (own_z0 hz) (by decide) One.u X0 e0 rfl
  have R4 : ∀ t, Steps p.tables e below (T3.setTop (mkF m 46 #[.val (.ref a1), .val (.long (own_h f z.toNatClampNeg)), .second, .val (.ref a1), .val (.int z), .val (.int z), sl3] [])) t → Steps p.tables e below (s₁.setTop (entryFrame m #[(.ref a1)] 7)) t := fun t kt => R2 t (lp3 t kt)
  have R5 : ∀ t, Steps p.tables e below (T3.setTop (mkF m 56 #[.val (.ref a1), .val (.long (own_h f z.toNatClampNeg)), .second, .val (.ref a1), .val (.int z), .val (.int z), sl3] [(.long (((own_h f z.toNatClampNeg) ^^^ (((own_h f z.toNatClampNeg).toUInt64 >>> ((33 : Int32) &&& 0x3f).toInt64.toUInt64).toInt64)) * (-49064778989728563 : Int64)))])) t → Steps p.tables e below (s₁.setTop (entryFrame m #[(.ref a1)] 7)) t := by
    intro t kt
    refine R4 _ ?_
    show Steps p.tables e below (T3.setTop (mkF m 46 #[.val (.ref a1), .val (.long (own_h f z.toNatClampNeg)), .second, .val (.ref a1), .val (.int z), .val (.int z), sl3] [])) _
    refine XS.lloadN X3.here hx rfl (hb hby d2_46) rfl ?_
    show Steps p.tables e below (T3.setTop (mkF m 47 #[.val (.ref a1), .val (.long (own_h f z.toNatClampNeg)), .second, .val (.ref a1), .val (.int z), .val (.int z), sl3] [(.long (own_h f z.toNatClampNeg))])) _
    refine XS.lloadN X3.here hx rfl (hb hby d2_47) rfl ?_
    show Steps p.tables e below (T3.setTop (mkF m 48 #[.val (.ref a1), .val (.long (own_h f z.toNatClampNeg)), .second, .val (.ref a1), .val (.int z), .val (.int z), sl3] [(.long (own_h f z.toNatClampNeg)), (.long (own_h f z.toNatClampNeg))])) _
    refine XS.bipush X3.here hx rfl (hb hby d2_48) ?_
    show Steps p.tables e below (T3.setTop (mkF m 50 #[.val (.ref a1), .val (.long (own_h f z.toNatClampNeg)), .second, .val (.ref a1), .val (.int z), .val (.int z), sl3] [(.int (33 : Int32)), (.long (own_h f z.toNatClampNeg)), (.long (own_h f z.toNatClampNeg))])) _
    refine XS.lushr X3.here hx rfl (hb hby d2_50) rfl ?_
    show Steps p.tables e below (T3.setTop (mkF m 51 #[.val (.ref a1), .val (.long (own_h f z.toNatClampNeg)), .second, .val (.ref a1), .val (.int z), .val (.int z), sl3] [(.long (((own_h f z.toNatClampNeg).toUInt64 >>> ((33 : Int32) &&& 0x3f).toInt64.toUInt64).toInt64)), (.long (own_h f z.toNatClampNeg))])) _
    refine XS.lxor X3.here hx rfl (hb hby d2_51) rfl ?_
    show Steps p.tables e below (T3.setTop (mkF m 52 #[.val (.ref a1), .val (.long (own_h f z.toNatClampNeg)), .second, .val (.ref a1), .val (.int z), .val (.int z), sl3] [(.long ((own_h f z.toNatClampNeg) ^^^ (((own_h f z.toNatClampNeg).toUInt64 >>> ((33 : Int32) &&& 0x3f).toInt64.toUInt64).toInt64)))])) _
    refine X3.ldc2Long hx hown (mvT hZ (hw _ (List.mem_of_getElem? (i := 15) rfl))) (g := (mkF m 52 #[.val (.ref a1), .val (.long (own_h f z.toNatClampNeg)), .second, .val (.ref a1), .val (.int z), .val (.int z), sl3] [(.long ((own_h f z.toNatClampNeg) ^^^ (((own_h f z.toNatClampNeg).toUInt64 >>> ((33 : Int32) &&& 0x3f).toInt64.toUInt64).toInt64)))])) rfl (hb hby d2_52) _ ?_
    show Steps p.tables e below (T3.setTop (mkF m 55 #[.val (.ref a1), .val (.long (own_h f z.toNatClampNeg)), .second, .val (.ref a1), .val (.int z), .val (.int z), sl3] [(.long (-49064778989728563 : Int64)), (.long ((own_h f z.toNatClampNeg) ^^^ (((own_h f z.toNatClampNeg).toUInt64 >>> ((33 : Int32) &&& 0x3f).toInt64.toUInt64).toInt64)))])) _
    refine XS.lmul X3.here hx rfl (hb hby d2_55) rfl ?_
    exact kt
  obtain ⟨v6, hv6⟩ : ∃ zz9 : Int64, zz9 = (((own_h f z.toNatClampNeg) ^^^ (((own_h f z.toNatClampNeg).toUInt64 >>> ((33 : Int32) &&& 0x3f).toInt64.toUInt64).toInt64)) * (-49064778989728563 : Int64)) := ⟨_, rfl⟩
  rw [← hv6] at R5
  have R7 : ∀ t, Steps p.tables e below (T3.setTop (mkF m 67 #[.val (.ref a1), .val (.long v6), .second, .val (.ref a1), .val (.int z), .val (.int z), sl3] [(.long ((v6 ^^^ ((v6.toUInt64 >>> ((33 : Int32) &&& 0x3f).toInt64.toUInt64).toInt64)) * (-4265267296055464877 : Int64)))])) t → Steps p.tables e below (s₁.setTop (entryFrame m #[(.ref a1)] 7)) t := by
    intro t kt
    refine R5 _ ?_
    show Steps p.tables e below (T3.setTop (mkF m 56 #[.val (.ref a1), .val (.long (own_h f z.toNatClampNeg)), .second, .val (.ref a1), .val (.int z), .val (.int z), sl3] [(.long v6)])) _
    refine XS.lstoreN X3.here hx rfl (hb hby d2_56) rfl (l' := #[.val (.ref a1), .val (.long v6), .second, .val (.ref a1), .val (.int z), .val (.int z), sl3]) rfl ?_
    show Steps p.tables e below (T3.setTop (mkF m 57 #[.val (.ref a1), .val (.long v6), .second, .val (.ref a1), .val (.int z), .val (.int z), sl3] [])) _
    refine XS.lloadN X3.here hx rfl (hb hby d2_57) rfl ?_
    show Steps p.tables e below (T3.setTop (mkF m 58 #[.val (.ref a1), .val (.long v6), .second, .val (.ref a1), .val (.int z), .val (.int z), sl3] [(.long v6)])) _
    refine XS.lloadN X3.here hx rfl (hb hby d2_58) rfl ?_
    show Steps p.tables e below (T3.setTop (mkF m 59 #[.val (.ref a1), .val (.long v6), .second, .val (.ref a1), .val (.int z), .val (.int z), sl3] [(.long v6), (.long v6)])) _
    refine XS.bipush X3.here hx rfl (hb hby d2_59) ?_
    show Steps p.tables e below (T3.setTop (mkF m 61 #[.val (.ref a1), .val (.long v6), .second, .val (.ref a1), .val (.int z), .val (.int z), sl3] [(.int (33 : Int32)), (.long v6), (.long v6)])) _
    refine XS.lushr X3.here hx rfl (hb hby d2_61) rfl ?_
    show Steps p.tables e below (T3.setTop (mkF m 62 #[.val (.ref a1), .val (.long v6), .second, .val (.ref a1), .val (.int z), .val (.int z), sl3] [(.long ((v6.toUInt64 >>> ((33 : Int32) &&& 0x3f).toInt64.toUInt64).toInt64)), (.long v6)])) _
    refine XS.lxor X3.here hx rfl (hb hby d2_62) rfl ?_
    show Steps p.tables e below (T3.setTop (mkF m 63 #[.val (.ref a1), .val (.long v6), .second, .val (.ref a1), .val (.int z), .val (.int z), sl3] [(.long (v6 ^^^ ((v6.toUInt64 >>> ((33 : Int32) &&& 0x3f).toInt64.toUInt64).toInt64)))])) _
    refine X3.ldc2Long hx hown (mvT hZ (hw _ (List.mem_of_getElem? (i := 16) rfl))) (g := (mkF m 63 #[.val (.ref a1), .val (.long v6), .second, .val (.ref a1), .val (.int z), .val (.int z), sl3] [(.long (v6 ^^^ ((v6.toUInt64 >>> ((33 : Int32) &&& 0x3f).toInt64.toUInt64).toInt64)))])) rfl (hb hby d2_63) _ ?_
    show Steps p.tables e below (T3.setTop (mkF m 66 #[.val (.ref a1), .val (.long v6), .second, .val (.ref a1), .val (.int z), .val (.int z), sl3] [(.long (-4265267296055464877 : Int64)), (.long (v6 ^^^ ((v6.toUInt64 >>> ((33 : Int32) &&& 0x3f).toInt64.toUInt64).toInt64)))])) _
    refine XS.lmul X3.here hx rfl (hb hby d2_66) rfl ?_
    exact kt
  obtain ⟨v8, hv8⟩ : ∃ zz9 : Int64, zz9 = ((v6 ^^^ ((v6.toUInt64 >>> ((33 : Int32) &&& 0x3f).toInt64.toUInt64).toInt64)) * (-4265267296055464877 : Int64)) := ⟨_, rfl⟩
  rw [← hv8] at R7
  have R9 : ∀ t, Steps p.tables e below (T3.setTop (mkF m 74 #[.val (.ref a1), .val (.long v8), .second, .val (.ref a1), .val (.int z), .val (.int z), sl3] [(.long (v8 ^^^ ((v8.toUInt64 >>> ((33 : Int32) &&& 0x3f).toInt64.toUInt64).toInt64)))])) t → Steps p.tables e below (s₁.setTop (entryFrame m #[(.ref a1)] 7)) t := by
    intro t kt
    refine R7 _ ?_
    show Steps p.tables e below (T3.setTop (mkF m 67 #[.val (.ref a1), .val (.long v6), .second, .val (.ref a1), .val (.int z), .val (.int z), sl3] [(.long v8)])) _
    refine XS.lstoreN X3.here hx rfl (hb hby d2_67) rfl (l' := #[.val (.ref a1), .val (.long v8), .second, .val (.ref a1), .val (.int z), .val (.int z), sl3]) rfl ?_
    show Steps p.tables e below (T3.setTop (mkF m 68 #[.val (.ref a1), .val (.long v8), .second, .val (.ref a1), .val (.int z), .val (.int z), sl3] [])) _
    refine XS.lloadN X3.here hx rfl (hb hby d2_68) rfl ?_
    show Steps p.tables e below (T3.setTop (mkF m 69 #[.val (.ref a1), .val (.long v8), .second, .val (.ref a1), .val (.int z), .val (.int z), sl3] [(.long v8)])) _
    refine XS.lloadN X3.here hx rfl (hb hby d2_69) rfl ?_
    show Steps p.tables e below (T3.setTop (mkF m 70 #[.val (.ref a1), .val (.long v8), .second, .val (.ref a1), .val (.int z), .val (.int z), sl3] [(.long v8), (.long v8)])) _
    refine XS.bipush X3.here hx rfl (hb hby d2_70) ?_
    show Steps p.tables e below (T3.setTop (mkF m 72 #[.val (.ref a1), .val (.long v8), .second, .val (.ref a1), .val (.int z), .val (.int z), sl3] [(.int (33 : Int32)), (.long v8), (.long v8)])) _
    refine XS.lushr X3.here hx rfl (hb hby d2_72) rfl ?_
    show Steps p.tables e below (T3.setTop (mkF m 73 #[.val (.ref a1), .val (.long v8), .second, .val (.ref a1), .val (.int z), .val (.int z), sl3] [(.long ((v8.toUInt64 >>> ((33 : Int32) &&& 0x3f).toInt64.toUInt64).toInt64)), (.long v8)])) _
    refine XS.lxor X3.here hx rfl (hb hby d2_73) rfl ?_
    exact kt
  obtain ⟨fs, hr, hrun, hended, hW, hsame⟩ := X3.leave (v := some (.long (v8 ^^^ ((v8.toUInt64 >>> ((33 : Int32) &&& 0x3f).toInt64.toUInt64).toInt64)))) (fun h => by rw [Bd.returns] at h; cases h)
  refine ⟨_, _, R9 _ ?_, hrun, hended, _, _, rfl, ?_, ⟨_, rfl⟩, hW, hsame.mono (by decide) (by decide)⟩
  · show Steps p.tables e below (T3.setTop (mkF m 74 #[.val (.ref a1), .val (.long v8), .second, .val (.ref a1), .val (.int z), .val (.int z), sl3] [(.long (v8 ^^^ ((v8.toUInt64 >>> ((33 : Int32) &&& 0x3f).toInt64.toUInt64).toInt64)))])) _
    exact X3.lreturnOut hx Bd.returns (hb hby d2_74) hr
  · show Q2 Z a1 z f h0 n0 _ T3.heap _
    rw [e3]
    refine ⟨?_, rfl, rfl⟩
    subst hv6 hv8; rfl

theorem pn_0 : plainName "com/example/relicary/relicary/siard/ContainerHashPinLaw" = true := by first | (simp [plainName, overriddenIn]; done) | decide +kernel
theorem pd_0_1 : parseMethodDescriptor "(JJI)J" = some ⟨[.long, .long, .int], some .long⟩ := by decide +kernel
theorem pd_0_2 : parseMethodDescriptor "([B)J" = some ⟨[(.array .byte)], some .long⟩ := by decide +kernel
theorem pd_0_3 : parseMethodDescriptor "(J)J" = some ⟨[.long], some .long⟩ := by decide +kernel
theorem ef_0 (m : MethodId) (x0 : Int64) (x1 : Int32) : entryFrame m #[(.long x0), (.int x1)] maxLocals = mkF m 0 #[.val (.long x0), .second, .val (.int x1), .unset, .unset, .unset, .unset, .unset, .unset, .unset, .unset] [] := by first | (simp [entryFrame, mkF, argsToLocals, Value.category, maxLocals]; done) | rfl
def F0 (q1 : Int64) (p2 : Int32) : Int32 :=
  let v2 : Int32 := ((p2 &&& (2147483647 : Int32)) % (9 : Int32))
  let v129 : Int64 := (if (0 : Int32) < v2 then (F1 (-3750763034362895579 : Int64) q1 (0 : Int32)) else (-3750763034362895579 : Int64))
  let v140 : Int64 := (if (1 : Int32) < v2 then (F1 v129 q1 (1 : Int32)) else v129)
  let v151 : Int64 := (if (2 : Int32) < v2 then (F1 v140 q1 (2 : Int32)) else v140)
  let v162 : Int64 := (if (3 : Int32) < v2 then (F1 v151 q1 (3 : Int32)) else v151)
  let v173 : Int64 := (if (4 : Int32) < v2 then (F1 v162 q1 (4 : Int32)) else v162)
  let v184 : Int64 := (if (5 : Int32) < v2 then (F1 v173 q1 (5 : Int32)) else v173)
  let v195 : Int64 := (if (6 : Int32) < v2 then (F1 v184 q1 (6 : Int32)) else v184)
  let v206 : Int64 := (if (7 : Int32) < v2 then (F1 v195 q1 (7 : Int32)) else v195)
  let v214 : Int64 := ((F2 v2 (own_b q1)) ^^^ (((F2 v2 (own_b q1)).toUInt64 >>> ((33 : Int32) &&& 0x3f).toInt64.toUInt64).toInt64))
  let v217 : Int64 := (v214 * (F3 (-4265267296055464877 : Int64)))
  let v219 : Int64 := (v217 ^^^ ((v217.toUInt64 >>> ((33 : Int32) &&& 0x3f).toInt64.toUInt64).toInt64))
  let v222 : Int64 := (v219 * (F3 (-49064778989728563 : Int64)))
  let v224 : Int64 := (v222 ^^^ ((v222.toUInt64 >>> ((33 : Int32) &&& 0x3f).toInt64.toUInt64).toInt64))
  let v229 : Int32 := (if v224 = v206 then (1 : Int32) else (0 : Int32))
  (nar .boolean v229)
def Q0 (Z : State) (q1 : Int64) (p2 : Int32) (h0 : Heap) (n0 : Nat) (v : Option Value) (h : Heap) (L : List Loc) : Prop := v = some (.int (F0 q1 p2)) ∧ Fr n0 L
set_option maxRecDepth 65536 in
set_option maxHeartbeats 40000000 in
theorem rm0 (l : Launch) (Z : State) (a0 : Array Value) (hw : ∀ d ∈ tables_1, d.before a0 Z = true) (ws : List Jvm.Cond) (q1 : Int64) (p2 : Int32) (h0 : Heap) (n0 : Nat) (Z0 : n0 ≤ h0.size) :
    MetFree l x (head1 (Jvm.Cond.code x code maxLocals ret :: ws) room_1) (fun a U => a = #[(.long q1), (.int p2)] ∧ Z.Warmed39 U.vm ∧ U.heap = h0) (fun _ _ _ _ _ => True) (fun _ U o U' => ∃ v L, o = .returned v ∧ Q0 Z q1 p2 h0 n0 v U'.heap L ∧ FrameEnd U o U' L room_1.cells room_1.slots) := by
  refine MetFree.of_bodySF (plainFor_of_name pn_0) hisR ?_
  intro p e s m args below meth c s₁ Bd hml0 hP hK
  obtain ⟨rfl, hZ, hh⟩ := hP
  have hx := Bd.exec
  have hby := Bd.bytes
  have hml : c.maxLocals = 11 := hml0
  have hown : s.vm.findClass "com/example/relicary/relicary/siard/ContainerHashPinLaw" = some m.cls := findClass_of_methodNamed Bd.named
  have hnm := (name_of_methodNamed Bd.named Bd.method).1
  have X0 : Stand p l e room_1 s m #[(.long q1), (.int p2)] below meth c s₁ [] 0 0 := Stand.of_body Bd
  have e0 : s₁.heap = h0 := by rw [← hh, Bd.state]; rfl
  have N0 := Fr.nil n0
  have pre0 : ∀ t, Steps p.tables e below (s₁.setTop (mkF m 0 #[.val (.long q1), .second, .val (.int p2), .unset, .unset, .unset, .unset, .unset, .unset, .unset, .unset] [])) t → Steps p.tables e below (s₁.setTop (entryFrame m #[(.long q1), (.int p2)] maxLocals)) t := fun t k => castTop (ef_0 m q1 p2) k
  have R1 : ∀ t, Steps p.tables e below (s₁.setTop (mkF m 7 #[.val (.long q1), .second, .val (.int p2), .unset, .unset, .unset, .unset, .unset, .unset, .unset, .unset] [(.int ((p2 &&& (2147483647 : Int32)) % (9 : Int32)))])) t → Steps p.tables e below (s₁.setTop (entryFrame m #[(.long q1), (.int p2)] maxLocals)) t := by
    intro t kt
    refine pre0 _ ?_
    show Steps p.tables e below (s₁.setTop (mkF m 0 #[.val (.long q1), .second, .val (.int p2), .unset, .unset, .unset, .unset, .unset, .unset, .unset, .unset] [])) _
    refine XS.iloadN X0.here hx rfl (hb hby at_0) rfl ?_
    show Steps p.tables e below (s₁.setTop (mkF m 1 #[.val (.long q1), .second, .val (.int p2), .unset, .unset, .unset, .unset, .unset, .unset, .unset, .unset] [(.int p2)])) _
    refine X0.ldcInt hx hown (mvT hZ (hw _ (List.mem_of_getElem? (i := 0) rfl))) (g := (mkF m 1 #[.val (.long q1), .second, .val (.int p2), .unset, .unset, .unset, .unset, .unset, .unset, .unset, .unset] [(.int p2)])) rfl (hb hby at_1) _ ?_
    show Steps p.tables e below (s₁.setTop (mkF m 3 #[.val (.long q1), .second, .val (.int p2), .unset, .unset, .unset, .unset, .unset, .unset, .unset, .unset] [(.int (2147483647 : Int32)), (.int p2)])) _
    refine XS.iand X0.here hx rfl (hb hby at_3) rfl ?_
    show Steps p.tables e below (s₁.setTop (mkF m 4 #[.val (.long q1), .second, .val (.int p2), .unset, .unset, .unset, .unset, .unset, .unset, .unset, .unset] [(.int (p2 &&& (2147483647 : Int32)))])) _
    refine XS.bipush X0.here hx rfl (hb hby at_4) ?_
    show Steps p.tables e below (s₁.setTop (mkF m 6 #[.val (.long q1), .second, .val (.int p2), .unset, .unset, .unset, .unset, .unset, .unset, .unset, .unset] [(.int (9 : Int32)), (.int (p2 &&& (2147483647 : Int32)))])) _
    refine iremM X0 hx rfl (hb hby at_6) rfl (by decide) ?_
    exact kt
  obtain ⟨v2, hv2⟩ : ∃ zz9 : Int32, zz9 = ((p2 &&& (2147483647 : Int32)) % (9 : Int32)) := ⟨_, rfl⟩
  rw [← hv2] at R1
  obtain ⟨T3, h3, k3, X3, e3, E3, A3, st3⟩ := newP X0 hx hZ (hw _ (List.mem_of_getElem? (i := 1) rfl)) e0 (g := (mkF m 9 #[.val (.long q1), .second, .val (.int p2), .val (.int v2), .unset, .unset, .unset, .unset, .unset, .unset, .unset] [(.int v2)])) rfl (hb hby at_9) rfl (own_nn hv2) (cap := 8) (own_le hv2) (by decide) (by decide) (by decide)
  obtain ⟨b3, g3⟩ : ∃ z, z = h0.size := ⟨_, rfl⟩
  rw [← g3] at A3 st3
  have V3 := AF.new A3 (own_nn hv2)
  have Z3 : n0 ≤ h3.size := Nat.le_trans Z0 E3.1
  have gb3 : n0 ≤ b3 := Nat.le_trans Z0 (Nat.le_of_eq g3.symm)
  have sz3 : h0.size ≤ b3 := Nat.le_trans (Keep.refl h0 []).1 (Nat.le_of_eq g3.symm)
  have KK3 : Keep h0 h3 [] := (Keep.refl h0 []).ext E3
  replace X3 : Stand p l e room_1 s m #[(.long q1), (.int p2)] below meth c T3 [] 1 8 := X3
  have VV := own_g0 (q := q1) V3
  have R5 : ∀ t, Steps p.tables e below (T3.setTop (mkF m 14 #[.val (.long q1), .second, .val (.int p2), .val (.int v2), .val (.ref b3), .unset, .unset, .unset, .unset, .unset, .unset] [(.int v2)])) t → Steps p.tables e below (s₁.setTop (entryFrame m #[(.long q1), (.int p2)] maxLocals)) t := by
    intro t kt
    refine R1 _ ?_
    show Steps p.tables e below (s₁.setTop (mkF m 7 #[.val (.long q1), .second, .val (.int p2), .unset, .unset, .unset, .unset, .unset, .unset, .unset, .unset] [(.int v2)])) _
    refine XS.istoreN X0.here hx rfl (hb hby at_7) rfl (l' := #[.val (.long q1), .second, .val (.int p2), .val (.int v2), .unset, .unset, .unset, .unset, .unset, .unset, .unset]) rfl ?_
    show Steps p.tables e below (s₁.setTop (mkF m 8 #[.val (.long q1), .second, .val (.int p2), .val (.int v2), .unset, .unset, .unset, .unset, .unset, .unset, .unset] [])) _
    refine XS.iloadN X0.here hx rfl (hb hby at_8) rfl ?_
    show Steps p.tables e below (s₁.setTop (mkF m 9 #[.val (.long q1), .second, .val (.int p2), .val (.int v2), .unset, .unset, .unset, .unset, .unset, .unset, .unset] [(.int v2)])) _
    refine st3 _ ?_
    show Steps p.tables e below (T3.setTop (mkF m 11 #[.val (.long q1), .second, .val (.int p2), .val (.int v2), .unset, .unset, .unset, .unset, .unset, .unset, .unset] [(.ref b3)])) _
    refine XS.astore X3.here hx rfl (hb hby at_11) rfl rfl (l' := #[.val (.long q1), .second, .val (.int p2), .val (.int v2), .val (.ref b3), .unset, .unset, .unset, .unset, .unset, .unset]) rfl ?_
    show Steps p.tables e below (T3.setTop (mkF m 13 #[.val (.long q1), .second, .val (.int p2), .val (.int v2), .val (.ref b3), .unset, .unset, .unset, .unset, .unset, .unset] [])) _
    refine XS.iloadN X3.here hx rfl (hb hby at_13) rfl ?_
    exact kt
  have J10 : ∃ (T' : State) (h' : Heap) (L' : List Loc), Stand p l e room_1 s m #[(.long q1), (.int p2)] below meth c T' L' 1 8 ∧ T'.heap = h' ∧ Keep h0 h' [] ∧ Fr n0 L' ∧ AF Z h' b3 .byte v2.toNatClampNeg (own_g q1 1) ∧ ∀ t, Steps p.tables e below (T'.setTop (mkF m 24 #[.val (.long q1), .second, .val (.int p2), .val (.int v2), .val (.ref b3), .unset, .unset, .unset, .unset, .unset, .unset] [])) t → Steps p.tables e below (s₁.setTop (entryFrame m #[(.long q1), (.int p2)] maxLocals)) t := by
    by_cases hc4 : (0 : Int32) < v2
    · obtain ⟨cl6, Ar6, S6, H6⟩ := VV
      have hin6 := AF_in (j := (0 : Int32)) S6 (by decide) (own_hi (by decide) hc4)
      obtain ⟨T6, h6, X6, e6, W6, st6⟩ := stB X3 hx hZ e3 Ar6 (j := (0 : Int32)) hin6 (g := (mkF m 23 #[.val (.long q1), .second, .val (.int p2), .val (.int v2), .val (.ref b3), .unset, .unset, .unset, .unset, .unset, .unset] [(.int ((q1.toInt32).toInt8.toInt32)), (.int (0 : Int32)), (.ref b3)])) rfl rfl (hb hby at_23)
      have V6 := AF.same Ar6 S6 H6 W6
      have N6 := Fr.snoc X6 (Fr.nil n0) gb3
      have KK6 : Keep h0 h6 [] := KK3.wr W6 (Or.inr sz3)
      obtain ⟨L6, l6⟩ : ∃ z, z = [] ++ [(⟨b3, ((0 : Int32) : Int32).toNatClampNeg⟩ : Loc)] := ⟨_, rfl⟩
      rw [← l6] at X6 N6
      have VS6 := own_set 0 V6 (own_bb _) rfl
      have R7 : ∀ t, Steps p.tables e below (T6.setTop (mkF m 24 #[.val (.long q1), .second, .val (.int p2), .val (.int v2), .val (.ref b3), .unset, .unset, .unset, .unset, .unset, .unset] [])) t → Steps p.tables e below (s₁.setTop (entryFrame m #[(.long q1), (.int p2)] maxLocals)) t := by
        intro t kt
        refine R5 _ ?_
        show Steps p.tables e below (T3.setTop (mkF m 14 #[.val (.long q1), .second, .val (.int p2), .val (.int v2), .val (.ref b3), .unset, .unset, .unset, .unset, .unset, .unset] [(.int v2)])) _
        refine XS.ifNo X3.here hx rfl (hb hby at_14) rfl ((if0 _ _).trans (tlt hc4).2.2.2) ?_
        show Steps p.tables e below (T3.setTop (mkF m 17 #[.val (.long q1), .second, .val (.int p2), .val (.int v2), .val (.ref b3), .unset, .unset, .unset, .unset, .unset, .unset] [])) _
        refine XS.aload X3.here hx rfl (hb hby at_17) rfl rfl ?_
        show Steps p.tables e below (T3.setTop (mkF m 19 #[.val (.long q1), .second, .val (.int p2), .val (.int v2), .val (.ref b3), .unset, .unset, .unset, .unset, .unset, .unset] [(.ref b3)])) _
        refine XS.iconst X3.here hx rfl (hb hby at_19) ?_
        show Steps p.tables e below (T3.setTop (mkF m 20 #[.val (.long q1), .second, .val (.int p2), .val (.int v2), .val (.ref b3), .unset, .unset, .unset, .unset, .unset, .unset] [(.int (0 : Int32)), (.ref b3)])) _
        refine XS.lloadN X3.here hx rfl (hb hby at_20) rfl ?_
        show Steps p.tables e below (T3.setTop (mkF m 21 #[.val (.long q1), .second, .val (.int p2), .val (.int v2), .val (.ref b3), .unset, .unset, .unset, .unset, .unset, .unset] [(.long q1), (.int (0 : Int32)), (.ref b3)])) _
        refine XS.l2i X3.here hx rfl (hb hby at_21) rfl ?_
        show Steps p.tables e below (T3.setTop (mkF m 22 #[.val (.long q1), .second, .val (.int p2), .val (.int v2), .val (.ref b3), .unset, .unset, .unset, .unset, .unset, .unset] [(.int (q1.toInt32)), (.int (0 : Int32)), (.ref b3)])) _
        refine XS.i2b X3.here hx rfl (hb hby at_22) rfl ?_
        show Steps p.tables e below (T3.setTop (mkF m 23 #[.val (.long q1), .second, .val (.int p2), .val (.int v2), .val (.ref b3), .unset, .unset, .unset, .unset, .unset, .unset] [(.int ((q1.toInt32).toInt8.toInt32)), (.int (0 : Int32)), (.ref b3)])) _
        refine st6 _ ?_
        exact kt
      exact ⟨T6, h6, L6, X6, e6, KK6, N6, VS6, R7⟩
    · have R8 : ∀ t, Steps p.tables e below (T3.setTop (mkF m 24 #[.val (.long q1), .second, .val (.int p2), .val (.int v2), .val (.ref b3), .unset, .unset, .unset, .unset, .unset, .unset] [])) t → Steps p.tables e below (s₁.setTop (entryFrame m #[(.long q1), (.int p2)] maxLocals)) t := by
        intro t kt
        refine R5 _ ?_
        show Steps p.tables e below (T3.setTop (mkF m 14 #[.val (.long q1), .second, .val (.int p2), .val (.int v2), .val (.ref b3), .unset, .unset, .unset, .unset, .unset, .unset] [(.int v2)])) _
        refine XS.ifYes X3.here hx rfl (pc0 := 14) (pc' := 24) rfl (hb hby at_14) rfl ((if0 _ _).trans (flt hc4).2.2.2) (by decide) (by decide) ?_
        exact kt
      exact ⟨T3, h3, [], X3, e3, KK3, (Fr.nil n0), (own_skip (by decide) (by decide) hc4 VV), R8⟩
  obtain ⟨T11, h12, L13, X14, e15, KK16, N17, V_b318, R9⟩ := J10
  have R20 : ∀ t, Steps p.tables e below (T11.setTop (mkF m 26 #[.val (.long q1), .second, .val (.int p2), .val (.int v2), .val (.ref b3), .unset, .unset, .unset, .unset, .unset, .unset] [(.int (1 : Int32)), (.int v2)])) t → Steps p.tables e below (s₁.setTop (entryFrame m #[(.long q1), (.int p2)] maxLocals)) t := by
    intro t kt
    refine R9 _ ?_
    show Steps p.tables e below (T11.setTop (mkF m 24 #[.val (.long q1), .second, .val (.int p2), .val (.int v2), .val (.ref b3), .unset, .unset, .unset, .unset, .unset, .unset] [])) _
    refine XS.iloadN X14.here hx rfl (hb hby at_24) rfl ?_
    show Steps p.tables e below (T11.setTop (mkF m 25 #[.val (.long q1), .second, .val (.int p2), .val (.int v2), .val (.ref b3), .unset, .unset, .unset, .unset, .unset, .unset] [(.int v2)])) _
    refine XS.iconst X14.here hx rfl (hb hby at_25) ?_
    exact kt
  have J25 : ∃ (T' : State) (h' : Heap) (L' : List Loc), Stand p l e room_1 s m #[(.long q1), (.int p2)] below meth c T' L' 1 8 ∧ T'.heap = h' ∧ Keep h0 h' [] ∧ Fr n0 L' ∧ AF Z h' b3 .byte v2.toNatClampNeg (own_g q1 2) ∧ ∀ t, Steps p.tables e below (T'.setTop (mkF m 39 #[.val (.long q1), .second, .val (.int p2), .val (.int v2), .val (.ref b3), .unset, .unset, .unset, .unset, .unset, .unset] [])) t → Steps p.tables e below (s₁.setTop (entryFrame m #[(.long q1), (.int p2)] maxLocals)) t := by
    by_cases hc19 : (1 : Int32) < v2
    · obtain ⟨cl21, Ar21, S21, H21⟩ := V_b318
      have hin21 := AF_in (j := (1 : Int32)) S21 (by decide) (own_hi (by decide) hc19)
      obtain ⟨T21, h21, X21, e21, W21, st21⟩ := stB X14 hx hZ e15 Ar21 (j := (1 : Int32)) hin21 (g := (mkF m 38 #[.val (.long q1), .second, .val (.int p2), .val (.int v2), .val (.ref b3), .unset, .unset, .unset, .unset, .unset, .unset] [(.int ((((q1.toUInt64 >>> ((8 : Int32) &&& 0x3f).toInt64.toUInt64).toInt64).toInt32).toInt8.toInt32)), (.int (1 : Int32)), (.ref b3)])) rfl rfl (hb hby at_38)
      have V21 := AF.same Ar21 S21 H21 W21
      have N21 := Fr.snoc X21 N17 gb3
      have KK21 : Keep h0 h21 [] := KK16.wr W21 (Or.inr sz3)
      obtain ⟨L21, l21⟩ : ∃ z, z = L13 ++ [(⟨b3, ((1 : Int32) : Int32).toNatClampNeg⟩ : Loc)] := ⟨_, rfl⟩
      rw [← l21] at X21 N21
      have VS21 := own_set 1 V21 (own_bb _) rfl
      have R22 : ∀ t, Steps p.tables e below (T21.setTop (mkF m 39 #[.val (.long q1), .second, .val (.int p2), .val (.int v2), .val (.ref b3), .unset, .unset, .unset, .unset, .unset, .unset] [])) t → Steps p.tables e below (s₁.setTop (entryFrame m #[(.long q1), (.int p2)] maxLocals)) t := by
        intro t kt
        refine R20 _ ?_
        show Steps p.tables e below (T11.setTop (mkF m 26 #[.val (.long q1), .second, .val (.int p2), .val (.int v2), .val (.ref b3), .unset, .unset, .unset, .unset, .unset, .unset] [(.int (1 : Int32)), (.int v2)])) _
        refine XS.icmpNo X14.here hx rfl (hb hby at_26) rfl (tlt hc19).2.2.2 ?_
        show Steps p.tables e below (T11.setTop (mkF m 29 #[.val (.long q1), .second, .val (.int p2), .val (.int v2), .val (.ref b3), .unset, .unset, .unset, .unset, .unset, .unset] [])) _
        refine XS.aload X14.here hx rfl (hb hby at_29) rfl rfl ?_
        show Steps p.tables e below (T11.setTop (mkF m 31 #[.val (.long q1), .second, .val (.int p2), .val (.int v2), .val (.ref b3), .unset, .unset, .unset, .unset, .unset, .unset] [(.ref b3)])) _
        refine XS.iconst X14.here hx rfl (hb hby at_31) ?_
        show Steps p.tables e below (T11.setTop (mkF m 32 #[.val (.long q1), .second, .val (.int p2), .val (.int v2), .val (.ref b3), .unset, .unset, .unset, .unset, .unset, .unset] [(.int (1 : Int32)), (.ref b3)])) _
        refine XS.lloadN X14.here hx rfl (hb hby at_32) rfl ?_
        show Steps p.tables e below (T11.setTop (mkF m 33 #[.val (.long q1), .second, .val (.int p2), .val (.int v2), .val (.ref b3), .unset, .unset, .unset, .unset, .unset, .unset] [(.long q1), (.int (1 : Int32)), (.ref b3)])) _
        refine XS.bipush X14.here hx rfl (hb hby at_33) ?_
        show Steps p.tables e below (T11.setTop (mkF m 35 #[.val (.long q1), .second, .val (.int p2), .val (.int v2), .val (.ref b3), .unset, .unset, .unset, .unset, .unset, .unset] [(.int (8 : Int32)), (.long q1), (.int (1 : Int32)), (.ref b3)])) _
        refine XS.lushr X14.here hx rfl (hb hby at_35) rfl ?_
        show Steps p.tables e below (T11.setTop (mkF m 36 #[.val (.long q1), .second, .val (.int p2), .val (.int v2), .val (.ref b3), .unset, .unset, .unset, .unset, .unset, .unset] [(.long ((q1.toUInt64 >>> ((8 : Int32) &&& 0x3f).toInt64.toUInt64).toInt64)), (.int (1 : Int32)), (.ref b3)])) _
        refine XS.l2i X14.here hx rfl (hb hby at_36) rfl ?_
        show Steps p.tables e below (T11.setTop (mkF m 37 #[.val (.long q1), .second, .val (.int p2), .val (.int v2), .val (.ref b3), .unset, .unset, .unset, .unset, .unset, .unset] [(.int (((q1.toUInt64 >>> ((8 : Int32) &&& 0x3f).toInt64.toUInt64).toInt64).toInt32)), (.int (1 : Int32)), (.ref b3)])) _
        refine XS.i2b X14.here hx rfl (hb hby at_37) rfl ?_
        show Steps p.tables e below (T11.setTop (mkF m 38 #[.val (.long q1), .second, .val (.int p2), .val (.int v2), .val (.ref b3), .unset, .unset, .unset, .unset, .unset, .unset] [(.int ((((q1.toUInt64 >>> ((8 : Int32) &&& 0x3f).toInt64.toUInt64).toInt64).toInt32).toInt8.toInt32)), (.int (1 : Int32)), (.ref b3)])) _
        refine st21 _ ?_
        exact kt
      exact ⟨T21, h21, L21, X21, e21, KK21, N21, VS21, R22⟩
    · have R23 : ∀ t, Steps p.tables e below (T11.setTop (mkF m 39 #[.val (.long q1), .second, .val (.int p2), .val (.int v2), .val (.ref b3), .unset, .unset, .unset, .unset, .unset, .unset] [])) t → Steps p.tables e below (s₁.setTop (entryFrame m #[(.long q1), (.int p2)] maxLocals)) t := by
        intro t kt
        refine R20 _ ?_
        show Steps p.tables e below (T11.setTop (mkF m 26 #[.val (.long q1), .second, .val (.int p2), .val (.int v2), .val (.ref b3), .unset, .unset, .unset, .unset, .unset, .unset] [(.int (1 : Int32)), (.int v2)])) _
        refine XS.icmpYes X14.here hx rfl (pc0 := 26) (pc' := 39) rfl (hb hby at_26) rfl (flt hc19).2.2.2 (by decide) (by decide) ?_
        exact kt
      exact ⟨T11, h12, L13, X14, e15, KK16, N17, (own_skip (by decide) (by decide) hc19 V_b318), R23⟩
  obtain ⟨T26, h27, L28, X29, e30, KK31, N32, V_b333, R24⟩ := J25
  have R35 : ∀ t, Steps p.tables e below (T26.setTop (mkF m 41 #[.val (.long q1), .second, .val (.int p2), .val (.int v2), .val (.ref b3), .unset, .unset, .unset, .unset, .unset, .unset] [(.int (2 : Int32)), (.int v2)])) t → Steps p.tables e below (s₁.setTop (entryFrame m #[(.long q1), (.int p2)] maxLocals)) t := by
    intro t kt
    refine R24 _ ?_
    show Steps p.tables e below (T26.setTop (mkF m 39 #[.val (.long q1), .second, .val (.int p2), .val (.int v2), .val (.ref b3), .unset, .unset, .unset, .unset, .unset, .unset] [])) _
    refine XS.iloadN X29.here hx rfl (hb hby at_39) rfl ?_
    show Steps p.tables e below (T26.setTop (mkF m 40 #[.val (.long q1), .second, .val (.int p2), .val (.int v2), .val (.ref b3), .unset, .unset, .unset, .unset, .unset, .unset] [(.int v2)])) _
    refine XS.iconst X29.here hx rfl (hb hby at_40) ?_
    exact kt
  have J40 : ∃ (T' : State) (h' : Heap) (L' : List Loc), Stand p l e room_1 s m #[(.long q1), (.int p2)] below meth c T' L' 1 8 ∧ T'.heap = h' ∧ Keep h0 h' [] ∧ Fr n0 L' ∧ AF Z h' b3 .byte v2.toNatClampNeg (own_g q1 3) ∧ ∀ t, Steps p.tables e below (T'.setTop (mkF m 54 #[.val (.long q1), .second, .val (.int p2), .val (.int v2), .val (.ref b3), .unset, .unset, .unset, .unset, .unset, .unset] [])) t → Steps p.tables e below (s₁.setTop (entryFrame m #[(.long q1), (.int p2)] maxLocals)) t := by
    by_cases hc34 : (2 : Int32) < v2
    · obtain ⟨cl36, Ar36, S36, H36⟩ := V_b333
      have hin36 := AF_in (j := (2 : Int32)) S36 (by decide) (own_hi (by decide) hc34)
      obtain ⟨T36, h36, X36, e36, W36, st36⟩ := stB X29 hx hZ e30 Ar36 (j := (2 : Int32)) hin36 (g := (mkF m 53 #[.val (.long q1), .second, .val (.int p2), .val (.int v2), .val (.ref b3), .unset, .unset, .unset, .unset, .unset, .unset] [(.int ((((q1.toUInt64 >>> ((16 : Int32) &&& 0x3f).toInt64.toUInt64).toInt64).toInt32).toInt8.toInt32)), (.int (2 : Int32)), (.ref b3)])) rfl rfl (hb hby at_53)
      have V36 := AF.same Ar36 S36 H36 W36
      have N36 := Fr.snoc X36 N32 gb3
      have KK36 : Keep h0 h36 [] := KK31.wr W36 (Or.inr sz3)
      obtain ⟨L36, l36⟩ : ∃ z, z = L28 ++ [(⟨b3, ((2 : Int32) : Int32).toNatClampNeg⟩ : Loc)] := ⟨_, rfl⟩
      rw [← l36] at X36 N36
      have VS36 := own_set 2 V36 (own_bb _) rfl
      have R37 : ∀ t, Steps p.tables e below (T36.setTop (mkF m 54 #[.val (.long q1), .second, .val (.int p2), .val (.int v2), .val (.ref b3), .unset, .unset, .unset, .unset, .unset, .unset] [])) t → Steps p.tables e below (s₁.setTop (entryFrame m #[(.long q1), (.int p2)] maxLocals)) t := by
        intro t kt
        refine R35 _ ?_
        show Steps p.tables e below (T26.setTop (mkF m 41 #[.val (.long q1), .second, .val (.int p2), .val (.int v2), .val (.ref b3), .unset, .unset, .unset, .unset, .unset, .unset] [(.int (2 : Int32)), (.int v2)])) _
        refine XS.icmpNo X29.here hx rfl (hb hby at_41) rfl (tlt hc34).2.2.2 ?_
        show Steps p.tables e below (T26.setTop (mkF m 44 #[.val (.long q1), .second, .val (.int p2), .val (.int v2), .val (.ref b3), .unset, .unset, .unset, .unset, .unset, .unset] [])) _
        refine XS.aload X29.here hx rfl (hb hby at_44) rfl rfl ?_
        show Steps p.tables e below (T26.setTop (mkF m 46 #[.val (.long q1), .second, .val (.int p2), .val (.int v2), .val (.ref b3), .unset, .unset, .unset, .unset, .unset, .unset] [(.ref b3)])) _
        refine XS.iconst X29.here hx rfl (hb hby at_46) ?_
        show Steps p.tables e below (T26.setTop (mkF m 47 #[.val (.long q1), .second, .val (.int p2), .val (.int v2), .val (.ref b3), .unset, .unset, .unset, .unset, .unset, .unset] [(.int (2 : Int32)), (.ref b3)])) _
        refine XS.lloadN X29.here hx rfl (hb hby at_47) rfl ?_
        show Steps p.tables e below (T26.setTop (mkF m 48 #[.val (.long q1), .second, .val (.int p2), .val (.int v2), .val (.ref b3), .unset, .unset, .unset, .unset, .unset, .unset] [(.long q1), (.int (2 : Int32)), (.ref b3)])) _
        refine XS.bipush X29.here hx rfl (hb hby at_48) ?_
        show Steps p.tables e below (T26.setTop (mkF m 50 #[.val (.long q1), .second, .val (.int p2), .val (.int v2), .val (.ref b3), .unset, .unset, .unset, .unset, .unset, .unset] [(.int (16 : Int32)), (.long q1), (.int (2 : Int32)), (.ref b3)])) _
        refine XS.lushr X29.here hx rfl (hb hby at_50) rfl ?_
        show Steps p.tables e below (T26.setTop (mkF m 51 #[.val (.long q1), .second, .val (.int p2), .val (.int v2), .val (.ref b3), .unset, .unset, .unset, .unset, .unset, .unset] [(.long ((q1.toUInt64 >>> ((16 : Int32) &&& 0x3f).toInt64.toUInt64).toInt64)), (.int (2 : Int32)), (.ref b3)])) _
        refine XS.l2i X29.here hx rfl (hb hby at_51) rfl ?_
        show Steps p.tables e below (T26.setTop (mkF m 52 #[.val (.long q1), .second, .val (.int p2), .val (.int v2), .val (.ref b3), .unset, .unset, .unset, .unset, .unset, .unset] [(.int (((q1.toUInt64 >>> ((16 : Int32) &&& 0x3f).toInt64.toUInt64).toInt64).toInt32)), (.int (2 : Int32)), (.ref b3)])) _
        refine XS.i2b X29.here hx rfl (hb hby at_52) rfl ?_
        show Steps p.tables e below (T26.setTop (mkF m 53 #[.val (.long q1), .second, .val (.int p2), .val (.int v2), .val (.ref b3), .unset, .unset, .unset, .unset, .unset, .unset] [(.int ((((q1.toUInt64 >>> ((16 : Int32) &&& 0x3f).toInt64.toUInt64).toInt64).toInt32).toInt8.toInt32)), (.int (2 : Int32)), (.ref b3)])) _
        refine st36 _ ?_
        exact kt
      exact ⟨T36, h36, L36, X36, e36, KK36, N36, VS36, R37⟩
    · have R38 : ∀ t, Steps p.tables e below (T26.setTop (mkF m 54 #[.val (.long q1), .second, .val (.int p2), .val (.int v2), .val (.ref b3), .unset, .unset, .unset, .unset, .unset, .unset] [])) t → Steps p.tables e below (s₁.setTop (entryFrame m #[(.long q1), (.int p2)] maxLocals)) t := by
        intro t kt
        refine R35 _ ?_
        show Steps p.tables e below (T26.setTop (mkF m 41 #[.val (.long q1), .second, .val (.int p2), .val (.int v2), .val (.ref b3), .unset, .unset, .unset, .unset, .unset, .unset] [(.int (2 : Int32)), (.int v2)])) _
        refine XS.icmpYes X29.here hx rfl (pc0 := 41) (pc' := 54) rfl (hb hby at_41) rfl (flt hc34).2.2.2 (by decide) (by decide) ?_
        exact kt
      exact ⟨T26, h27, L28, X29, e30, KK31, N32, (own_skip (by decide) (by decide) hc34 V_b333), R38⟩
  obtain ⟨T41, h42, L43, X44, e45, KK46, N47, V_b348, R39⟩ := J40
  have R50 : ∀ t, Steps p.tables e below (T41.setTop (mkF m 56 #[.val (.long q1), .second, .val (.int p2), .val (.int v2), .val (.ref b3), .unset, .unset, .unset, .unset, .unset, .unset] [(.int (3 : Int32)), (.int v2)])) t → Steps p.tables e below (s₁.setTop (entryFrame m #[(.long q1), (.int p2)] maxLocals)) t := by
    intro t kt
    refine R39 _ ?_
    show Steps p.tables e below (T41.setTop (mkF m 54 #[.val (.long q1), .second, .val (.int p2), .val (.int v2), .val (.ref b3), .unset, .unset, .unset, .unset, .unset, .unset] [])) _
    refine XS.iloadN X44.here hx rfl (hb hby at_54) rfl ?_
    show Steps p.tables e below (T41.setTop (mkF m 55 #[.val (.long q1), .second, .val (.int p2), .val (.int v2), .val (.ref b3), .unset, .unset, .unset, .unset, .unset, .unset] [(.int v2)])) _
    refine XS.iconst X44.here hx rfl (hb hby at_55) ?_
    exact kt
  have J55 : ∃ (T' : State) (h' : Heap) (L' : List Loc), Stand p l e room_1 s m #[(.long q1), (.int p2)] below meth c T' L' 1 8 ∧ T'.heap = h' ∧ Keep h0 h' [] ∧ Fr n0 L' ∧ AF Z h' b3 .byte v2.toNatClampNeg (own_g q1 4) ∧ ∀ t, Steps p.tables e below (T'.setTop (mkF m 69 #[.val (.long q1), .second, .val (.int p2), .val (.int v2), .val (.ref b3), .unset, .unset, .unset, .unset, .unset, .unset] [])) t → Steps p.tables e below (s₁.setTop (entryFrame m #[(.long q1), (.int p2)] maxLocals)) t := by
    by_cases hc49 : (3 : Int32) < v2
    · obtain ⟨cl51, Ar51, S51, H51⟩ := V_b348
      have hin51 := AF_in (j := (3 : Int32)) S51 (by decide) (own_hi (by decide) hc49)
      obtain ⟨T51, h51, X51, e51, W51, st51⟩ := stB X44 hx hZ e45 Ar51 (j := (3 : Int32)) hin51 (g := (mkF m 68 #[.val (.long q1), .second, .val (.int p2), .val (.int v2), .val (.ref b3), .unset, .unset, .unset, .unset, .unset, .unset] [(.int ((((q1.toUInt64 >>> ((24 : Int32) &&& 0x3f).toInt64.toUInt64).toInt64).toInt32).toInt8.toInt32)), (.int (3 : Int32)), (.ref b3)])) rfl rfl (hb hby at_68)
      have V51 := AF.same Ar51 S51 H51 W51
      have N51 := Fr.snoc X51 N47 gb3
      have KK51 : Keep h0 h51 [] := KK46.wr W51 (Or.inr sz3)
      obtain ⟨L51, l51⟩ : ∃ z, z = L43 ++ [(⟨b3, ((3 : Int32) : Int32).toNatClampNeg⟩ : Loc)] := ⟨_, rfl⟩
      rw [← l51] at X51 N51
      have VS51 := own_set 3 V51 (own_bb _) rfl
      have R52 : ∀ t, Steps p.tables e below (T51.setTop (mkF m 69 #[.val (.long q1), .second, .val (.int p2), .val (.int v2), .val (.ref b3), .unset, .unset, .unset, .unset, .unset, .unset] [])) t → Steps p.tables e below (s₁.setTop (entryFrame m #[(.long q1), (.int p2)] maxLocals)) t := by
        intro t kt
        refine R50 _ ?_
        show Steps p.tables e below (T41.setTop (mkF m 56 #[.val (.long q1), .second, .val (.int p2), .val (.int v2), .val (.ref b3), .unset, .unset, .unset, .unset, .unset, .unset] [(.int (3 : Int32)), (.int v2)])) _
        refine XS.icmpNo X44.here hx rfl (hb hby at_56) rfl (tlt hc49).2.2.2 ?_
        show Steps p.tables e below (T41.setTop (mkF m 59 #[.val (.long q1), .second, .val (.int p2), .val (.int v2), .val (.ref b3), .unset, .unset, .unset, .unset, .unset, .unset] [])) _
        refine XS.aload X44.here hx rfl (hb hby at_59) rfl rfl ?_
        show Steps p.tables e below (T41.setTop (mkF m 61 #[.val (.long q1), .second, .val (.int p2), .val (.int v2), .val (.ref b3), .unset, .unset, .unset, .unset, .unset, .unset] [(.ref b3)])) _
        refine XS.iconst X44.here hx rfl (hb hby at_61) ?_
        show Steps p.tables e below (T41.setTop (mkF m 62 #[.val (.long q1), .second, .val (.int p2), .val (.int v2), .val (.ref b3), .unset, .unset, .unset, .unset, .unset, .unset] [(.int (3 : Int32)), (.ref b3)])) _
        refine XS.lloadN X44.here hx rfl (hb hby at_62) rfl ?_
        show Steps p.tables e below (T41.setTop (mkF m 63 #[.val (.long q1), .second, .val (.int p2), .val (.int v2), .val (.ref b3), .unset, .unset, .unset, .unset, .unset, .unset] [(.long q1), (.int (3 : Int32)), (.ref b3)])) _
        refine XS.bipush X44.here hx rfl (hb hby at_63) ?_
        show Steps p.tables e below (T41.setTop (mkF m 65 #[.val (.long q1), .second, .val (.int p2), .val (.int v2), .val (.ref b3), .unset, .unset, .unset, .unset, .unset, .unset] [(.int (24 : Int32)), (.long q1), (.int (3 : Int32)), (.ref b3)])) _
        refine XS.lushr X44.here hx rfl (hb hby at_65) rfl ?_
        show Steps p.tables e below (T41.setTop (mkF m 66 #[.val (.long q1), .second, .val (.int p2), .val (.int v2), .val (.ref b3), .unset, .unset, .unset, .unset, .unset, .unset] [(.long ((q1.toUInt64 >>> ((24 : Int32) &&& 0x3f).toInt64.toUInt64).toInt64)), (.int (3 : Int32)), (.ref b3)])) _
        refine XS.l2i X44.here hx rfl (hb hby at_66) rfl ?_
        show Steps p.tables e below (T41.setTop (mkF m 67 #[.val (.long q1), .second, .val (.int p2), .val (.int v2), .val (.ref b3), .unset, .unset, .unset, .unset, .unset, .unset] [(.int (((q1.toUInt64 >>> ((24 : Int32) &&& 0x3f).toInt64.toUInt64).toInt64).toInt32)), (.int (3 : Int32)), (.ref b3)])) _
        refine XS.i2b X44.here hx rfl (hb hby at_67) rfl ?_
        show Steps p.tables e below (T41.setTop (mkF m 68 #[.val (.long q1), .second, .val (.int p2), .val (.int v2), .val (.ref b3), .unset, .unset, .unset, .unset, .unset, .unset] [(.int ((((q1.toUInt64 >>> ((24 : Int32) &&& 0x3f).toInt64.toUInt64).toInt64).toInt32).toInt8.toInt32)), (.int (3 : Int32)), (.ref b3)])) _
        refine st51 _ ?_
        exact kt
      exact ⟨T51, h51, L51, X51, e51, KK51, N51, VS51, R52⟩
    · have R53 : ∀ t, Steps p.tables e below (T41.setTop (mkF m 69 #[.val (.long q1), .second, .val (.int p2), .val (.int v2), .val (.ref b3), .unset, .unset, .unset, .unset, .unset, .unset] [])) t → Steps p.tables e below (s₁.setTop (entryFrame m #[(.long q1), (.int p2)] maxLocals)) t := by
        intro t kt
        refine R50 _ ?_
        show Steps p.tables e below (T41.setTop (mkF m 56 #[.val (.long q1), .second, .val (.int p2), .val (.int v2), .val (.ref b3), .unset, .unset, .unset, .unset, .unset, .unset] [(.int (3 : Int32)), (.int v2)])) _
        refine XS.icmpYes X44.here hx rfl (pc0 := 56) (pc' := 69) rfl (hb hby at_56) rfl (flt hc49).2.2.2 (by decide) (by decide) ?_
        exact kt
      exact ⟨T41, h42, L43, X44, e45, KK46, N47, (own_skip (by decide) (by decide) hc49 V_b348), R53⟩
  obtain ⟨T56, h57, L58, X59, e60, KK61, N62, V_b363, R54⟩ := J55
  have R65 : ∀ t, Steps p.tables e below (T56.setTop (mkF m 71 #[.val (.long q1), .second, .val (.int p2), .val (.int v2), .val (.ref b3), .unset, .unset, .unset, .unset, .unset, .unset] [(.int (4 : Int32)), (.int v2)])) t → Steps p.tables e below (s₁.setTop (entryFrame m #[(.long q1), (.int p2)] maxLocals)) t := by
    intro t kt
    refine R54 _ ?_
    show Steps p.tables e below (T56.setTop (mkF m 69 #[.val (.long q1), .second, .val (.int p2), .val (.int v2), .val (.ref b3), .unset, .unset, .unset, .unset, .unset, .unset] [])) _
    refine XS.iloadN X59.here hx rfl (hb hby at_69) rfl ?_
    show Steps p.tables e below (T56.setTop (mkF m 70 #[.val (.long q1), .second, .val (.int p2), .val (.int v2), .val (.ref b3), .unset, .unset, .unset, .unset, .unset, .unset] [(.int v2)])) _
    refine XS.iconst X59.here hx rfl (hb hby at_70) ?_
    exact kt
  have J70 : ∃ (T' : State) (h' : Heap) (L' : List Loc), Stand p l e room_1 s m #[(.long q1), (.int p2)] below meth c T' L' 1 8 ∧ T'.heap = h' ∧ Keep h0 h' [] ∧ Fr n0 L' ∧ AF Z h' b3 .byte v2.toNatClampNeg (own_g q1 5) ∧ ∀ t, Steps p.tables e below (T'.setTop (mkF m 84 #[.val (.long q1), .second, .val (.int p2), .val (.int v2), .val (.ref b3), .unset, .unset, .unset, .unset, .unset, .unset] [])) t → Steps p.tables e below (s₁.setTop (entryFrame m #[(.long q1), (.int p2)] maxLocals)) t := by
    by_cases hc64 : (4 : Int32) < v2
    · obtain ⟨cl66, Ar66, S66, H66⟩ := V_b363
      have hin66 := AF_in (j := (4 : Int32)) S66 (by decide) (own_hi (by decide) hc64)
      obtain ⟨T66, h66, X66, e66, W66, st66⟩ := stB X59 hx hZ e60 Ar66 (j := (4 : Int32)) hin66 (g := (mkF m 83 #[.val (.long q1), .second, .val (.int p2), .val (.int v2), .val (.ref b3), .unset, .unset, .unset, .unset, .unset, .unset] [(.int ((((q1.toUInt64 >>> ((32 : Int32) &&& 0x3f).toInt64.toUInt64).toInt64).toInt32).toInt8.toInt32)), (.int (4 : Int32)), (.ref b3)])) rfl rfl (hb hby at_83)
      have V66 := AF.same Ar66 S66 H66 W66
      have N66 := Fr.snoc X66 N62 gb3
      have KK66 : Keep h0 h66 [] := KK61.wr W66 (Or.inr sz3)
      obtain ⟨L66, l66⟩ : ∃ z, z = L58 ++ [(⟨b3, ((4 : Int32) : Int32).toNatClampNeg⟩ : Loc)] := ⟨_, rfl⟩
      rw [← l66] at X66 N66
      have VS66 := own_set 4 V66 (own_bb _) rfl
      have R67 : ∀ t, Steps p.tables e below (T66.setTop (mkF m 84 #[.val (.long q1), .second, .val (.int p2), .val (.int v2), .val (.ref b3), .unset, .unset, .unset, .unset, .unset, .unset] [])) t → Steps p.tables e below (s₁.setTop (entryFrame m #[(.long q1), (.int p2)] maxLocals)) t := by
        intro t kt
        refine R65 _ ?_
        show Steps p.tables e below (T56.setTop (mkF m 71 #[.val (.long q1), .second, .val (.int p2), .val (.int v2), .val (.ref b3), .unset, .unset, .unset, .unset, .unset, .unset] [(.int (4 : Int32)), (.int v2)])) _
        refine XS.icmpNo X59.here hx rfl (hb hby at_71) rfl (tlt hc64).2.2.2 ?_
        show Steps p.tables e below (T56.setTop (mkF m 74 #[.val (.long q1), .second, .val (.int p2), .val (.int v2), .val (.ref b3), .unset, .unset, .unset, .unset, .unset, .unset] [])) _
        refine XS.aload X59.here hx rfl (hb hby at_74) rfl rfl ?_
        show Steps p.tables e below (T56.setTop (mkF m 76 #[.val (.long q1), .second, .val (.int p2), .val (.int v2), .val (.ref b3), .unset, .unset, .unset, .unset, .unset, .unset] [(.ref b3)])) _
        refine XS.iconst X59.here hx rfl (hb hby at_76) ?_
        show Steps p.tables e below (T56.setTop (mkF m 77 #[.val (.long q1), .second, .val (.int p2), .val (.int v2), .val (.ref b3), .unset, .unset, .unset, .unset, .unset, .unset] [(.int (4 : Int32)), (.ref b3)])) _
        refine XS.lloadN X59.here hx rfl (hb hby at_77) rfl ?_
        show Steps p.tables e below (T56.setTop (mkF m 78 #[.val (.long q1), .second, .val (.int p2), .val (.int v2), .val (.ref b3), .unset, .unset, .unset, .unset, .unset, .unset] [(.long q1), (.int (4 : Int32)), (.ref b3)])) _
        refine XS.bipush X59.here hx rfl (hb hby at_78) ?_
        show Steps p.tables e below (T56.setTop (mkF m 80 #[.val (.long q1), .second, .val (.int p2), .val (.int v2), .val (.ref b3), .unset, .unset, .unset, .unset, .unset, .unset] [(.int (32 : Int32)), (.long q1), (.int (4 : Int32)), (.ref b3)])) _
        refine XS.lushr X59.here hx rfl (hb hby at_80) rfl ?_
        show Steps p.tables e below (T56.setTop (mkF m 81 #[.val (.long q1), .second, .val (.int p2), .val (.int v2), .val (.ref b3), .unset, .unset, .unset, .unset, .unset, .unset] [(.long ((q1.toUInt64 >>> ((32 : Int32) &&& 0x3f).toInt64.toUInt64).toInt64)), (.int (4 : Int32)), (.ref b3)])) _
        refine XS.l2i X59.here hx rfl (hb hby at_81) rfl ?_
        show Steps p.tables e below (T56.setTop (mkF m 82 #[.val (.long q1), .second, .val (.int p2), .val (.int v2), .val (.ref b3), .unset, .unset, .unset, .unset, .unset, .unset] [(.int (((q1.toUInt64 >>> ((32 : Int32) &&& 0x3f).toInt64.toUInt64).toInt64).toInt32)), (.int (4 : Int32)), (.ref b3)])) _
        refine XS.i2b X59.here hx rfl (hb hby at_82) rfl ?_
        show Steps p.tables e below (T56.setTop (mkF m 83 #[.val (.long q1), .second, .val (.int p2), .val (.int v2), .val (.ref b3), .unset, .unset, .unset, .unset, .unset, .unset] [(.int ((((q1.toUInt64 >>> ((32 : Int32) &&& 0x3f).toInt64.toUInt64).toInt64).toInt32).toInt8.toInt32)), (.int (4 : Int32)), (.ref b3)])) _
        refine st66 _ ?_
        exact kt
      exact ⟨T66, h66, L66, X66, e66, KK66, N66, VS66, R67⟩
    · have R68 : ∀ t, Steps p.tables e below (T56.setTop (mkF m 84 #[.val (.long q1), .second, .val (.int p2), .val (.int v2), .val (.ref b3), .unset, .unset, .unset, .unset, .unset, .unset] [])) t → Steps p.tables e below (s₁.setTop (entryFrame m #[(.long q1), (.int p2)] maxLocals)) t := by
        intro t kt
        refine R65 _ ?_
        show Steps p.tables e below (T56.setTop (mkF m 71 #[.val (.long q1), .second, .val (.int p2), .val (.int v2), .val (.ref b3), .unset, .unset, .unset, .unset, .unset, .unset] [(.int (4 : Int32)), (.int v2)])) _
        refine XS.icmpYes X59.here hx rfl (pc0 := 71) (pc' := 84) rfl (hb hby at_71) rfl (flt hc64).2.2.2 (by decide) (by decide) ?_
        exact kt
      exact ⟨T56, h57, L58, X59, e60, KK61, N62, (own_skip (by decide) (by decide) hc64 V_b363), R68⟩
  obtain ⟨T71, h72, L73, X74, e75, KK76, N77, V_b378, R69⟩ := J70
  have R80 : ∀ t, Steps p.tables e below (T71.setTop (mkF m 86 #[.val (.long q1), .second, .val (.int p2), .val (.int v2), .val (.ref b3), .unset, .unset, .unset, .unset, .unset, .unset] [(.int (5 : Int32)), (.int v2)])) t → Steps p.tables e below (s₁.setTop (entryFrame m #[(.long q1), (.int p2)] maxLocals)) t := by
    intro t kt
    refine R69 _ ?_
    show Steps p.tables e below (T71.setTop (mkF m 84 #[.val (.long q1), .second, .val (.int p2), .val (.int v2), .val (.ref b3), .unset, .unset, .unset, .unset, .unset, .unset] [])) _
    refine XS.iloadN X74.here hx rfl (hb hby at_84) rfl ?_
    show Steps p.tables e below (T71.setTop (mkF m 85 #[.val (.long q1), .second, .val (.int p2), .val (.int v2), .val (.ref b3), .unset, .unset, .unset, .unset, .unset, .unset] [(.int v2)])) _
    refine XS.iconst X74.here hx rfl (hb hby at_85) ?_
    exact kt
  have J85 : ∃ (T' : State) (h' : Heap) (L' : List Loc), Stand p l e room_1 s m #[(.long q1), (.int p2)] below meth c T' L' 1 8 ∧ T'.heap = h' ∧ Keep h0 h' [] ∧ Fr n0 L' ∧ AF Z h' b3 .byte v2.toNatClampNeg (own_g q1 6) ∧ ∀ t, Steps p.tables e below (T'.setTop (mkF m 99 #[.val (.long q1), .second, .val (.int p2), .val (.int v2), .val (.ref b3), .unset, .unset, .unset, .unset, .unset, .unset] [])) t → Steps p.tables e below (s₁.setTop (entryFrame m #[(.long q1), (.int p2)] maxLocals)) t := by
    by_cases hc79 : (5 : Int32) < v2
    · obtain ⟨cl81, Ar81, S81, H81⟩ := V_b378
      have hin81 := AF_in (j := (5 : Int32)) S81 (by decide) (own_hi (by decide) hc79)
      obtain ⟨T81, h81, X81, e81, W81, st81⟩ := stB X74 hx hZ e75 Ar81 (j := (5 : Int32)) hin81 (g := (mkF m 98 #[.val (.long q1), .second, .val (.int p2), .val (.int v2), .val (.ref b3), .unset, .unset, .unset, .unset, .unset, .unset] [(.int ((((q1.toUInt64 >>> ((40 : Int32) &&& 0x3f).toInt64.toUInt64).toInt64).toInt32).toInt8.toInt32)), (.int (5 : Int32)), (.ref b3)])) rfl rfl (hb hby at_98)
      have V81 := AF.same Ar81 S81 H81 W81
      have N81 := Fr.snoc X81 N77 gb3
      have KK81 : Keep h0 h81 [] := KK76.wr W81 (Or.inr sz3)
      obtain ⟨L81, l81⟩ : ∃ z, z = L73 ++ [(⟨b3, ((5 : Int32) : Int32).toNatClampNeg⟩ : Loc)] := ⟨_, rfl⟩
      rw [← l81] at X81 N81
      have VS81 := own_set 5 V81 (own_bb _) rfl
      have R82 : ∀ t, Steps p.tables e below (T81.setTop (mkF m 99 #[.val (.long q1), .second, .val (.int p2), .val (.int v2), .val (.ref b3), .unset, .unset, .unset, .unset, .unset, .unset] [])) t → Steps p.tables e below (s₁.setTop (entryFrame m #[(.long q1), (.int p2)] maxLocals)) t := by
        intro t kt
        refine R80 _ ?_
        show Steps p.tables e below (T71.setTop (mkF m 86 #[.val (.long q1), .second, .val (.int p2), .val (.int v2), .val (.ref b3), .unset, .unset, .unset, .unset, .unset, .unset] [(.int (5 : Int32)), (.int v2)])) _
        refine XS.icmpNo X74.here hx rfl (hb hby at_86) rfl (tlt hc79).2.2.2 ?_
        show Steps p.tables e below (T71.setTop (mkF m 89 #[.val (.long q1), .second, .val (.int p2), .val (.int v2), .val (.ref b3), .unset, .unset, .unset, .unset, .unset, .unset] [])) _
        refine XS.aload X74.here hx rfl (hb hby at_89) rfl rfl ?_
        show Steps p.tables e below (T71.setTop (mkF m 91 #[.val (.long q1), .second, .val (.int p2), .val (.int v2), .val (.ref b3), .unset, .unset, .unset, .unset, .unset, .unset] [(.ref b3)])) _
        refine XS.iconst X74.here hx rfl (hb hby at_91) ?_
        show Steps p.tables e below (T71.setTop (mkF m 92 #[.val (.long q1), .second, .val (.int p2), .val (.int v2), .val (.ref b3), .unset, .unset, .unset, .unset, .unset, .unset] [(.int (5 : Int32)), (.ref b3)])) _
        refine XS.lloadN X74.here hx rfl (hb hby at_92) rfl ?_
        show Steps p.tables e below (T71.setTop (mkF m 93 #[.val (.long q1), .second, .val (.int p2), .val (.int v2), .val (.ref b3), .unset, .unset, .unset, .unset, .unset, .unset] [(.long q1), (.int (5 : Int32)), (.ref b3)])) _
        refine XS.bipush X74.here hx rfl (hb hby at_93) ?_
        show Steps p.tables e below (T71.setTop (mkF m 95 #[.val (.long q1), .second, .val (.int p2), .val (.int v2), .val (.ref b3), .unset, .unset, .unset, .unset, .unset, .unset] [(.int (40 : Int32)), (.long q1), (.int (5 : Int32)), (.ref b3)])) _
        refine XS.lushr X74.here hx rfl (hb hby at_95) rfl ?_
        show Steps p.tables e below (T71.setTop (mkF m 96 #[.val (.long q1), .second, .val (.int p2), .val (.int v2), .val (.ref b3), .unset, .unset, .unset, .unset, .unset, .unset] [(.long ((q1.toUInt64 >>> ((40 : Int32) &&& 0x3f).toInt64.toUInt64).toInt64)), (.int (5 : Int32)), (.ref b3)])) _
        refine XS.l2i X74.here hx rfl (hb hby at_96) rfl ?_
        show Steps p.tables e below (T71.setTop (mkF m 97 #[.val (.long q1), .second, .val (.int p2), .val (.int v2), .val (.ref b3), .unset, .unset, .unset, .unset, .unset, .unset] [(.int (((q1.toUInt64 >>> ((40 : Int32) &&& 0x3f).toInt64.toUInt64).toInt64).toInt32)), (.int (5 : Int32)), (.ref b3)])) _
        refine XS.i2b X74.here hx rfl (hb hby at_97) rfl ?_
        show Steps p.tables e below (T71.setTop (mkF m 98 #[.val (.long q1), .second, .val (.int p2), .val (.int v2), .val (.ref b3), .unset, .unset, .unset, .unset, .unset, .unset] [(.int ((((q1.toUInt64 >>> ((40 : Int32) &&& 0x3f).toInt64.toUInt64).toInt64).toInt32).toInt8.toInt32)), (.int (5 : Int32)), (.ref b3)])) _
        refine st81 _ ?_
        exact kt
      exact ⟨T81, h81, L81, X81, e81, KK81, N81, VS81, R82⟩
    · have R83 : ∀ t, Steps p.tables e below (T71.setTop (mkF m 99 #[.val (.long q1), .second, .val (.int p2), .val (.int v2), .val (.ref b3), .unset, .unset, .unset, .unset, .unset, .unset] [])) t → Steps p.tables e below (s₁.setTop (entryFrame m #[(.long q1), (.int p2)] maxLocals)) t := by
        intro t kt
        refine R80 _ ?_
        show Steps p.tables e below (T71.setTop (mkF m 86 #[.val (.long q1), .second, .val (.int p2), .val (.int v2), .val (.ref b3), .unset, .unset, .unset, .unset, .unset, .unset] [(.int (5 : Int32)), (.int v2)])) _
        refine XS.icmpYes X74.here hx rfl (pc0 := 86) (pc' := 99) rfl (hb hby at_86) rfl (flt hc79).2.2.2 (by decide) (by decide) ?_
        exact kt
      exact ⟨T71, h72, L73, X74, e75, KK76, N77, (own_skip (by decide) (by decide) hc79 V_b378), R83⟩
  obtain ⟨T86, h87, L88, X89, e90, KK91, N92, V_b393, R84⟩ := J85
  have R95 : ∀ t, Steps p.tables e below (T86.setTop (mkF m 102 #[.val (.long q1), .second, .val (.int p2), .val (.int v2), .val (.ref b3), .unset, .unset, .unset, .unset, .unset, .unset] [(.int (6 : Int32)), (.int v2)])) t → Steps p.tables e below (s₁.setTop (entryFrame m #[(.long q1), (.int p2)] maxLocals)) t := by
    intro t kt
    refine R84 _ ?_
    show Steps p.tables e below (T86.setTop (mkF m 99 #[.val (.long q1), .second, .val (.int p2), .val (.int v2), .val (.ref b3), .unset, .unset, .unset, .unset, .unset, .unset] [])) _
    refine XS.iloadN X89.here hx rfl (hb hby at_99) rfl ?_
    show Steps p.tables e below (T86.setTop (mkF m 100 #[.val (.long q1), .second, .val (.int p2), .val (.int v2), .val (.ref b3), .unset, .unset, .unset, .unset, .unset, .unset] [(.int v2)])) _
    refine XS.bipush X89.here hx rfl (hb hby at_100) ?_
    exact kt
  have J100 : ∃ (T' : State) (h' : Heap) (L' : List Loc), Stand p l e room_1 s m #[(.long q1), (.int p2)] below meth c T' L' 1 8 ∧ T'.heap = h' ∧ Keep h0 h' [] ∧ Fr n0 L' ∧ AF Z h' b3 .byte v2.toNatClampNeg (own_g q1 7) ∧ ∀ t, Steps p.tables e below (T'.setTop (mkF m 116 #[.val (.long q1), .second, .val (.int p2), .val (.int v2), .val (.ref b3), .unset, .unset, .unset, .unset, .unset, .unset] [])) t → Steps p.tables e below (s₁.setTop (entryFrame m #[(.long q1), (.int p2)] maxLocals)) t := by
    by_cases hc94 : (6 : Int32) < v2
    · obtain ⟨cl96, Ar96, S96, H96⟩ := V_b393
      have hin96 := AF_in (j := (6 : Int32)) S96 (by decide) (own_hi (by decide) hc94)
      obtain ⟨T96, h96, X96, e96, W96, st96⟩ := stB X89 hx hZ e90 Ar96 (j := (6 : Int32)) hin96 (g := (mkF m 115 #[.val (.long q1), .second, .val (.int p2), .val (.int v2), .val (.ref b3), .unset, .unset, .unset, .unset, .unset, .unset] [(.int ((((q1.toUInt64 >>> ((48 : Int32) &&& 0x3f).toInt64.toUInt64).toInt64).toInt32).toInt8.toInt32)), (.int (6 : Int32)), (.ref b3)])) rfl rfl (hb hby at_115)
      have V96 := AF.same Ar96 S96 H96 W96
      have N96 := Fr.snoc X96 N92 gb3
      have KK96 : Keep h0 h96 [] := KK91.wr W96 (Or.inr sz3)
      obtain ⟨L96, l96⟩ : ∃ z, z = L88 ++ [(⟨b3, ((6 : Int32) : Int32).toNatClampNeg⟩ : Loc)] := ⟨_, rfl⟩
      rw [← l96] at X96 N96
      have VS96 := own_set 6 V96 (own_bb _) rfl
      have R97 : ∀ t, Steps p.tables e below (T96.setTop (mkF m 116 #[.val (.long q1), .second, .val (.int p2), .val (.int v2), .val (.ref b3), .unset, .unset, .unset, .unset, .unset, .unset] [])) t → Steps p.tables e below (s₁.setTop (entryFrame m #[(.long q1), (.int p2)] maxLocals)) t := by
        intro t kt
        refine R95 _ ?_
        show Steps p.tables e below (T86.setTop (mkF m 102 #[.val (.long q1), .second, .val (.int p2), .val (.int v2), .val (.ref b3), .unset, .unset, .unset, .unset, .unset, .unset] [(.int (6 : Int32)), (.int v2)])) _
        refine XS.icmpNo X89.here hx rfl (hb hby at_102) rfl (tlt hc94).2.2.2 ?_
        show Steps p.tables e below (T86.setTop (mkF m 105 #[.val (.long q1), .second, .val (.int p2), .val (.int v2), .val (.ref b3), .unset, .unset, .unset, .unset, .unset, .unset] [])) _
        refine XS.aload X89.here hx rfl (hb hby at_105) rfl rfl ?_
        show Steps p.tables e below (T86.setTop (mkF m 107 #[.val (.long q1), .second, .val (.int p2), .val (.int v2), .val (.ref b3), .unset, .unset, .unset, .unset, .unset, .unset] [(.ref b3)])) _
        refine XS.bipush X89.here hx rfl (hb hby at_107) ?_
        show Steps p.tables e below (T86.setTop (mkF m 109 #[.val (.long q1), .second, .val (.int p2), .val (.int v2), .val (.ref b3), .unset, .unset, .unset, .unset, .unset, .unset] [(.int (6 : Int32)), (.ref b3)])) _
        refine XS.lloadN X89.here hx rfl (hb hby at_109) rfl ?_
        show Steps p.tables e below (T86.setTop (mkF m 110 #[.val (.long q1), .second, .val (.int p2), .val (.int v2), .val (.ref b3), .unset, .unset, .unset, .unset, .unset, .unset] [(.long q1), (.int (6 : Int32)), (.ref b3)])) _
        refine XS.bipush X89.here hx rfl (hb hby at_110) ?_
        show Steps p.tables e below (T86.setTop (mkF m 112 #[.val (.long q1), .second, .val (.int p2), .val (.int v2), .val (.ref b3), .unset, .unset, .unset, .unset, .unset, .unset] [(.int (48 : Int32)), (.long q1), (.int (6 : Int32)), (.ref b3)])) _
        refine XS.lushr X89.here hx rfl (hb hby at_112) rfl ?_
        show Steps p.tables e below (T86.setTop (mkF m 113 #[.val (.long q1), .second, .val (.int p2), .val (.int v2), .val (.ref b3), .unset, .unset, .unset, .unset, .unset, .unset] [(.long ((q1.toUInt64 >>> ((48 : Int32) &&& 0x3f).toInt64.toUInt64).toInt64)), (.int (6 : Int32)), (.ref b3)])) _
        refine XS.l2i X89.here hx rfl (hb hby at_113) rfl ?_
        show Steps p.tables e below (T86.setTop (mkF m 114 #[.val (.long q1), .second, .val (.int p2), .val (.int v2), .val (.ref b3), .unset, .unset, .unset, .unset, .unset, .unset] [(.int (((q1.toUInt64 >>> ((48 : Int32) &&& 0x3f).toInt64.toUInt64).toInt64).toInt32)), (.int (6 : Int32)), (.ref b3)])) _
        refine XS.i2b X89.here hx rfl (hb hby at_114) rfl ?_
        show Steps p.tables e below (T86.setTop (mkF m 115 #[.val (.long q1), .second, .val (.int p2), .val (.int v2), .val (.ref b3), .unset, .unset, .unset, .unset, .unset, .unset] [(.int ((((q1.toUInt64 >>> ((48 : Int32) &&& 0x3f).toInt64.toUInt64).toInt64).toInt32).toInt8.toInt32)), (.int (6 : Int32)), (.ref b3)])) _
        refine st96 _ ?_
        exact kt
      exact ⟨T96, h96, L96, X96, e96, KK96, N96, VS96, R97⟩
    · have R98 : ∀ t, Steps p.tables e below (T86.setTop (mkF m 116 #[.val (.long q1), .second, .val (.int p2), .val (.int v2), .val (.ref b3), .unset, .unset, .unset, .unset, .unset, .unset] [])) t → Steps p.tables e below (s₁.setTop (entryFrame m #[(.long q1), (.int p2)] maxLocals)) t := by
        intro t kt
        refine R95 _ ?_
        show Steps p.tables e below (T86.setTop (mkF m 102 #[.val (.long q1), .second, .val (.int p2), .val (.int v2), .val (.ref b3), .unset, .unset, .unset, .unset, .unset, .unset] [(.int (6 : Int32)), (.int v2)])) _
        refine XS.icmpYes X89.here hx rfl (pc0 := 102) (pc' := 116) rfl (hb hby at_102) rfl (flt hc94).2.2.2 (by decide) (by decide) ?_
        exact kt
      exact ⟨T86, h87, L88, X89, e90, KK91, N92, (own_skip (by decide) (by decide) hc94 V_b393), R98⟩
  obtain ⟨T101, h102, L103, X104, e105, KK106, N107, V_b3108, R99⟩ := J100
  have R110 : ∀ t, Steps p.tables e below (T101.setTop (mkF m 119 #[.val (.long q1), .second, .val (.int p2), .val (.int v2), .val (.ref b3), .unset, .unset, .unset, .unset, .unset, .unset] [(.int (7 : Int32)), (.int v2)])) t → Steps p.tables e below (s₁.setTop (entryFrame m #[(.long q1), (.int p2)] maxLocals)) t := by
    intro t kt
    refine R99 _ ?_
    show Steps p.tables e below (T101.setTop (mkF m 116 #[.val (.long q1), .second, .val (.int p2), .val (.int v2), .val (.ref b3), .unset, .unset, .unset, .unset, .unset, .unset] [])) _
    refine XS.iloadN X104.here hx rfl (hb hby at_116) rfl ?_
    show Steps p.tables e below (T101.setTop (mkF m 117 #[.val (.long q1), .second, .val (.int p2), .val (.int v2), .val (.ref b3), .unset, .unset, .unset, .unset, .unset, .unset] [(.int v2)])) _
    refine XS.bipush X104.here hx rfl (hb hby at_117) ?_
    exact kt
  have J115 : ∃ (T' : State) (h' : Heap) (L' : List Loc), Stand p l e room_1 s m #[(.long q1), (.int p2)] below meth c T' L' 1 8 ∧ T'.heap = h' ∧ Keep h0 h' [] ∧ Fr n0 L' ∧ AF Z h' b3 .byte v2.toNatClampNeg (own_g q1 8) ∧ ∀ t, Steps p.tables e below (T'.setTop (mkF m 133 #[.val (.long q1), .second, .val (.int p2), .val (.int v2), .val (.ref b3), .unset, .unset, .unset, .unset, .unset, .unset] [])) t → Steps p.tables e below (s₁.setTop (entryFrame m #[(.long q1), (.int p2)] maxLocals)) t := by
    by_cases hc109 : (7 : Int32) < v2
    · obtain ⟨cl111, Ar111, S111, H111⟩ := V_b3108
      have hin111 := AF_in (j := (7 : Int32)) S111 (by decide) (own_hi (by decide) hc109)
      obtain ⟨T111, h111, X111, e111, W111, st111⟩ := stB X104 hx hZ e105 Ar111 (j := (7 : Int32)) hin111 (g := (mkF m 132 #[.val (.long q1), .second, .val (.int p2), .val (.int v2), .val (.ref b3), .unset, .unset, .unset, .unset, .unset, .unset] [(.int ((((q1.toUInt64 >>> ((56 : Int32) &&& 0x3f).toInt64.toUInt64).toInt64).toInt32).toInt8.toInt32)), (.int (7 : Int32)), (.ref b3)])) rfl rfl (hb hby at_132)
      have V111 := AF.same Ar111 S111 H111 W111
      have N111 := Fr.snoc X111 N107 gb3
      have KK111 : Keep h0 h111 [] := KK106.wr W111 (Or.inr sz3)
      obtain ⟨L111, l111⟩ : ∃ z, z = L103 ++ [(⟨b3, ((7 : Int32) : Int32).toNatClampNeg⟩ : Loc)] := ⟨_, rfl⟩
      rw [← l111] at X111 N111
      have VS111 := own_set 7 V111 (own_bb _) rfl
      have R112 : ∀ t, Steps p.tables e below (T111.setTop (mkF m 133 #[.val (.long q1), .second, .val (.int p2), .val (.int v2), .val (.ref b3), .unset, .unset, .unset, .unset, .unset, .unset] [])) t → Steps p.tables e below (s₁.setTop (entryFrame m #[(.long q1), (.int p2)] maxLocals)) t := by
        intro t kt
        refine R110 _ ?_
        show Steps p.tables e below (T101.setTop (mkF m 119 #[.val (.long q1), .second, .val (.int p2), .val (.int v2), .val (.ref b3), .unset, .unset, .unset, .unset, .unset, .unset] [(.int (7 : Int32)), (.int v2)])) _
        refine XS.icmpNo X104.here hx rfl (hb hby at_119) rfl (tlt hc109).2.2.2 ?_
        show Steps p.tables e below (T101.setTop (mkF m 122 #[.val (.long q1), .second, .val (.int p2), .val (.int v2), .val (.ref b3), .unset, .unset, .unset, .unset, .unset, .unset] [])) _
        refine XS.aload X104.here hx rfl (hb hby at_122) rfl rfl ?_
        show Steps p.tables e below (T101.setTop (mkF m 124 #[.val (.long q1), .second, .val (.int p2), .val (.int v2), .val (.ref b3), .unset, .unset, .unset, .unset, .unset, .unset] [(.ref b3)])) _
        refine XS.bipush X104.here hx rfl (hb hby at_124) ?_
        show Steps p.tables e below (T101.setTop (mkF m 126 #[.val (.long q1), .second, .val (.int p2), .val (.int v2), .val (.ref b3), .unset, .unset, .unset, .unset, .unset, .unset] [(.int (7 : Int32)), (.ref b3)])) _
        refine XS.lloadN X104.here hx rfl (hb hby at_126) rfl ?_
        show Steps p.tables e below (T101.setTop (mkF m 127 #[.val (.long q1), .second, .val (.int p2), .val (.int v2), .val (.ref b3), .unset, .unset, .unset, .unset, .unset, .unset] [(.long q1), (.int (7 : Int32)), (.ref b3)])) _
        refine XS.bipush X104.here hx rfl (hb hby at_127) ?_
        show Steps p.tables e below (T101.setTop (mkF m 129 #[.val (.long q1), .second, .val (.int p2), .val (.int v2), .val (.ref b3), .unset, .unset, .unset, .unset, .unset, .unset] [(.int (56 : Int32)), (.long q1), (.int (7 : Int32)), (.ref b3)])) _
        refine XS.lushr X104.here hx rfl (hb hby at_129) rfl ?_
        show Steps p.tables e below (T101.setTop (mkF m 130 #[.val (.long q1), .second, .val (.int p2), .val (.int v2), .val (.ref b3), .unset, .unset, .unset, .unset, .unset, .unset] [(.long ((q1.toUInt64 >>> ((56 : Int32) &&& 0x3f).toInt64.toUInt64).toInt64)), (.int (7 : Int32)), (.ref b3)])) _
        refine XS.l2i X104.here hx rfl (hb hby at_130) rfl ?_
        show Steps p.tables e below (T101.setTop (mkF m 131 #[.val (.long q1), .second, .val (.int p2), .val (.int v2), .val (.ref b3), .unset, .unset, .unset, .unset, .unset, .unset] [(.int (((q1.toUInt64 >>> ((56 : Int32) &&& 0x3f).toInt64.toUInt64).toInt64).toInt32)), (.int (7 : Int32)), (.ref b3)])) _
        refine XS.i2b X104.here hx rfl (hb hby at_131) rfl ?_
        show Steps p.tables e below (T101.setTop (mkF m 132 #[.val (.long q1), .second, .val (.int p2), .val (.int v2), .val (.ref b3), .unset, .unset, .unset, .unset, .unset, .unset] [(.int ((((q1.toUInt64 >>> ((56 : Int32) &&& 0x3f).toInt64.toUInt64).toInt64).toInt32).toInt8.toInt32)), (.int (7 : Int32)), (.ref b3)])) _
        refine st111 _ ?_
        exact kt
      exact ⟨T111, h111, L111, X111, e111, KK111, N111, VS111, R112⟩
    · have R113 : ∀ t, Steps p.tables e below (T101.setTop (mkF m 133 #[.val (.long q1), .second, .val (.int p2), .val (.int v2), .val (.ref b3), .unset, .unset, .unset, .unset, .unset, .unset] [])) t → Steps p.tables e below (s₁.setTop (entryFrame m #[(.long q1), (.int p2)] maxLocals)) t := by
        intro t kt
        refine R110 _ ?_
        show Steps p.tables e below (T101.setTop (mkF m 119 #[.val (.long q1), .second, .val (.int p2), .val (.int v2), .val (.ref b3), .unset, .unset, .unset, .unset, .unset, .unset] [(.int (7 : Int32)), (.int v2)])) _
        refine XS.icmpYes X104.here hx rfl (pc0 := 119) (pc' := 133) rfl (hb hby at_119) rfl (flt hc109).2.2.2 (by decide) (by decide) ?_
        exact kt
      exact ⟨T101, h102, L103, X104, e105, KK106, N107, (own_skip (by decide) (by decide) hc109 V_b3108), R113⟩
  obtain ⟨T116, h117, L118, X119, e120, KK121, N122, V_b3123, R114⟩ := J115
  have R125 : ∀ t, Steps p.tables e below (T116.setTop (mkF m 139 #[.val (.long q1), .second, .val (.int p2), .val (.int v2), .val (.ref b3), .val (.long (-3750763034362895579 : Int64)), .second, .unset, .unset, .unset, .unset] [(.int v2)])) t → Steps p.tables e below (s₁.setTop (entryFrame m #[(.long q1), (.int p2)] maxLocals)) t := by
    intro t kt
    refine R114 _ ?_
    show Steps p.tables e below (T116.setTop (mkF m 133 #[.val (.long q1), .second, .val (.int p2), .val (.int v2), .val (.ref b3), .unset, .unset, .unset, .unset, .unset, .unset] [])) _
    refine X119.ldc2Long hx hown (mvT hZ (hw _ (List.mem_of_getElem? (i := 2) rfl))) (g := (mkF m 133 #[.val (.long q1), .second, .val (.int p2), .val (.int v2), .val (.ref b3), .unset, .unset, .unset, .unset, .unset, .unset] [])) rfl (hb hby at_133) _ ?_
    show Steps p.tables e below (T116.setTop (mkF m 136 #[.val (.long q1), .second, .val (.int p2), .val (.int v2), .val (.ref b3), .unset, .unset, .unset, .unset, .unset, .unset] [(.long (-3750763034362895579 : Int64))])) _
    refine XS.lstore X119.here hx rfl (hb hby at_136) rfl (l' := #[.val (.long q1), .second, .val (.int p2), .val (.int v2), .val (.ref b3), .val (.long (-3750763034362895579 : Int64)), .second, .unset, .unset, .unset, .unset]) rfl ?_
    show Steps p.tables e below (T116.setTop (mkF m 138 #[.val (.long q1), .second, .val (.int p2), .val (.int v2), .val (.ref b3), .val (.long (-3750763034362895579 : Int64)), .second, .unset, .unset, .unset, .unset] [])) _
    refine XS.iloadN X119.here hx rfl (hb hby at_138) rfl ?_
    exact kt
  have J131 : ∃ (T' : State) (v129 : Int64), Stand p l e room_1 s m #[(.long q1), (.int p2)] below meth c T' L118 1 8 ∧ T'.heap = h117 ∧ v129 = (if (0 : Int32) < v2 then (F1 (-3750763034362895579 : Int64) q1 (0 : Int32)) else (-3750763034362895579 : Int64)) ∧ ∀ t, Steps p.tables e below (T'.setTop (mkF m 151 #[.val (.long q1), .second, .val (.int p2), .val (.int v2), .val (.ref b3), .val (.long v129), .second, .unset, .unset, .unset, .unset] [])) t → Steps p.tables e below (s₁.setTop (entryFrame m #[(.long q1), (.int p2)] maxLocals)) t := by
    by_cases hc124 : (0 : Int32) < v2
    · obtain ⟨_, _, ⟨T126, L126, k126, n126⟩, -, X126, ⟨Lc126, hQ126, l126, y126, z126⟩, st126⟩ := Jvm.LawKit.callS X119 hx (y := (⟨"com/example/relicary/relicary/siard/ContainerHashPinLaw", "step", "(JJI)J"⟩ : MethodName)) hown (mvT hZ (hw _ (List.mem_of_getElem? (i := 3) rfl))) (mvT hZ (hw _ (List.mem_of_getElem? (i := 4) rfl))) (mvT hZ (hw _ (List.mem_of_getElem? (i := 5) rfl))) (mvT hZ (hw _ (List.mem_of_getElem? (i := 6) rfl))) (by decide) (backOf (W := 0) (rm1 l Z a0 hw [] (-3750763034362895579 : Int64) q1 (0 : Int32) h117 n0 (Nat.le_trans Z0 KK121.1)) hZ (hw _ (List.mem_of_getElem? (i := 6) rfl)) (hw _ (List.mem_of_getElem? (i := 5) rfl)) (by decide) (by decide)) (g := (mkF m 146 #[.val (.long q1), .second, .val (.int p2), .val (.int v2), .val (.ref b3), .val (.long (-3750763034362895579 : Int64)), .second, .unset, .unset, .unset, .unset] [(.int (0 : Int32)), (.long q1), (.long (-3750763034362895579 : Int64))])) rfl (by rw [hml]; rfl) (argsL := [(.long (-3750763034362895579 : Int64)), (.long q1), (.int (0 : Int32))]) (rest := []) (lenOf pd_0_1 rfl) rfl (by show 2 * 0 + _ ≤ _; exact Nat.le_of_eq rfl) (hb hby at_146) (fun _ _ => ⟨rfl, e120, (by decide : 1 + 0 ≤ _), (by decide : 8 + 0 ≤ _)⟩)
      dsimp only [Pt.U, Pt.locs, Pt.cells, Pt.slots] at X126 l126 y126 z126 st126 hQ126
      subst l126 y126 z126
      obtain ⟨rfl, rfl, e126⟩ := hQ126
      rw [List.append_nil] at X126
      replace X126 : Stand p l e room_1 s m #[(.long q1), (.int p2)] below meth c T126 L118 1 8 := X126
      have R127 : ∀ t, Steps p.tables e below (T126.setTop (mkF m 151 #[.val (.long q1), .second, .val (.int p2), .val (.int v2), .val (.ref b3), .val (.long (F1 (-3750763034362895579 : Int64) q1 (0 : Int32))), .second, .unset, .unset, .unset, .unset] [])) t → Steps p.tables e below (s₁.setTop (entryFrame m #[(.long q1), (.int p2)] maxLocals)) t := by
        intro t kt
        refine R125 _ ?_
        show Steps p.tables e below (T116.setTop (mkF m 139 #[.val (.long q1), .second, .val (.int p2), .val (.int v2), .val (.ref b3), .val (.long (-3750763034362895579 : Int64)), .second, .unset, .unset, .unset, .unset] [(.int v2)])) _
        refine XS.ifNo X119.here hx rfl (hb hby at_139) rfl ((if0 _ _).trans (tlt hc124).2.2.2) ?_
        show Steps p.tables e below (T116.setTop (mkF m 142 #[.val (.long q1), .second, .val (.int p2), .val (.int v2), .val (.ref b3), .val (.long (-3750763034362895579 : Int64)), .second, .unset, .unset, .unset, .unset] [])) _
        refine XS.lload X119.here hx rfl (hb hby at_142) rfl ?_
        show Steps p.tables e below (T116.setTop (mkF m 144 #[.val (.long q1), .second, .val (.int p2), .val (.int v2), .val (.ref b3), .val (.long (-3750763034362895579 : Int64)), .second, .unset, .unset, .unset, .unset] [(.long (-3750763034362895579 : Int64))])) _
        refine XS.lloadN X119.here hx rfl (hb hby at_144) rfl ?_
        show Steps p.tables e below (T116.setTop (mkF m 145 #[.val (.long q1), .second, .val (.int p2), .val (.int v2), .val (.ref b3), .val (.long (-3750763034362895579 : Int64)), .second, .unset, .unset, .unset, .unset] [(.long q1), (.long (-3750763034362895579 : Int64))])) _
        refine XS.iconst X119.here hx rfl (hb hby at_145) ?_
        show Steps p.tables e below (T116.setTop (mkF m 146 #[.val (.long q1), .second, .val (.int p2), .val (.int v2), .val (.ref b3), .val (.long (-3750763034362895579 : Int64)), .second, .unset, .unset, .unset, .unset] [(.int (0 : Int32)), (.long q1), (.long (-3750763034362895579 : Int64))])) _
        refine st126 _ ?_
        show Steps p.tables e below (T126.setTop (mkF m 149 #[.val (.long q1), .second, .val (.int p2), .val (.int v2), .val (.ref b3), .val (.long (-3750763034362895579 : Int64)), .second, .unset, .unset, .unset, .unset] [(.long (F1 (-3750763034362895579 : Int64) q1 (0 : Int32)))])) _
        refine XS.lstore X126.here hx rfl (hb hby at_149) rfl (l' := #[.val (.long q1), .second, .val (.int p2), .val (.int v2), .val (.ref b3), .val (.long (F1 (-3750763034362895579 : Int64) q1 (0 : Int32))), .second, .unset, .unset, .unset, .unset]) rfl ?_
        exact kt
      exact ⟨T126, (F1 (-3750763034362895579 : Int64) q1 (0 : Int32)), X126, e126, (by rw [if_pos hc124]), R127⟩
    · have R128 : ∀ t, Steps p.tables e below (T116.setTop (mkF m 151 #[.val (.long q1), .second, .val (.int p2), .val (.int v2), .val (.ref b3), .val (.long (-3750763034362895579 : Int64)), .second, .unset, .unset, .unset, .unset] [])) t → Steps p.tables e below (s₁.setTop (entryFrame m #[(.long q1), (.int p2)] maxLocals)) t := by
        intro t kt
        refine R125 _ ?_
        show Steps p.tables e below (T116.setTop (mkF m 139 #[.val (.long q1), .second, .val (.int p2), .val (.int v2), .val (.ref b3), .val (.long (-3750763034362895579 : Int64)), .second, .unset, .unset, .unset, .unset] [(.int v2)])) _
        refine XS.ifYes X119.here hx rfl (pc0 := 139) (pc' := 151) rfl (hb hby at_139) rfl ((if0 _ _).trans (flt hc124).2.2.2) (by decide) (by decide) ?_
        exact kt
      exact ⟨T116, (-3750763034362895579 : Int64), X119, e120, (by rw [if_neg hc124]), R128⟩
  obtain ⟨T132, v129, X133, e134, hv129, R130⟩ := J131
  have R136 : ∀ t, Steps p.tables e below (T132.setTop (mkF m 153 #[.val (.long q1), .second, .val (.int p2), .val (.int v2), .val (.ref b3), .val (.long v129), .second, .unset, .unset, .unset, .unset] [(.int (1 : Int32)), (.int v2)])) t → Steps p.tables e below (s₁.setTop (entryFrame m #[(.long q1), (.int p2)] maxLocals)) t := by
    intro t kt
    refine R130 _ ?_
    show Steps p.tables e below (T132.setTop (mkF m 151 #[.val (.long q1), .second, .val (.int p2), .val (.int v2), .val (.ref b3), .val (.long v129), .second, .unset, .unset, .unset, .unset] [])) _
    refine XS.iloadN X133.here hx rfl (hb hby at_151) rfl ?_
    show Steps p.tables e below (T132.setTop (mkF m 152 #[.val (.long q1), .second, .val (.int p2), .val (.int v2), .val (.ref b3), .val (.long v129), .second, .unset, .unset, .unset, .unset] [(.int v2)])) _
    refine XS.iconst X133.here hx rfl (hb hby at_152) ?_
    exact kt
  have J142 : ∃ (T' : State) (v140 : Int64), Stand p l e room_1 s m #[(.long q1), (.int p2)] below meth c T' L118 1 8 ∧ T'.heap = h117 ∧ v140 = (if (1 : Int32) < v2 then (F1 v129 q1 (1 : Int32)) else v129) ∧ ∀ t, Steps p.tables e below (T'.setTop (mkF m 165 #[.val (.long q1), .second, .val (.int p2), .val (.int v2), .val (.ref b3), .val (.long v140), .second, .unset, .unset, .unset, .unset] [])) t → Steps p.tables e below (s₁.setTop (entryFrame m #[(.long q1), (.int p2)] maxLocals)) t := by
    by_cases hc135 : (1 : Int32) < v2
    · obtain ⟨_, _, ⟨T137, L137, k137, n137⟩, -, X137, ⟨Lc137, hQ137, l137, y137, z137⟩, st137⟩ := Jvm.LawKit.callS X133 hx (y := (⟨"com/example/relicary/relicary/siard/ContainerHashPinLaw", "step", "(JJI)J"⟩ : MethodName)) hown (mvT hZ (hw _ (List.mem_of_getElem? (i := 3) rfl))) (mvT hZ (hw _ (List.mem_of_getElem? (i := 4) rfl))) (mvT hZ (hw _ (List.mem_of_getElem? (i := 5) rfl))) (mvT hZ (hw _ (List.mem_of_getElem? (i := 6) rfl))) (by decide) (backOf (W := 0) (rm1 l Z a0 hw [] v129 q1 (1 : Int32) h117 n0 (Nat.le_trans Z0 KK121.1)) hZ (hw _ (List.mem_of_getElem? (i := 6) rfl)) (hw _ (List.mem_of_getElem? (i := 5) rfl)) (by decide) (by decide)) (g := (mkF m 160 #[.val (.long q1), .second, .val (.int p2), .val (.int v2), .val (.ref b3), .val (.long v129), .second, .unset, .unset, .unset, .unset] [(.int (1 : Int32)), (.long q1), (.long v129)])) rfl (by rw [hml]; rfl) (argsL := [(.long v129), (.long q1), (.int (1 : Int32))]) (rest := []) (lenOf pd_0_1 rfl) rfl (by show 2 * 0 + _ ≤ _; exact Nat.le_of_eq rfl) (hb hby at_160) (fun _ _ => ⟨rfl, e134, (by decide : 1 + 0 ≤ _), (by decide : 8 + 0 ≤ _)⟩)
      dsimp only [Pt.U, Pt.locs, Pt.cells, Pt.slots] at X137 l137 y137 z137 st137 hQ137
      subst l137 y137 z137
      obtain ⟨rfl, rfl, e137⟩ := hQ137
      rw [List.append_nil] at X137
      replace X137 : Stand p l e room_1 s m #[(.long q1), (.int p2)] below meth c T137 L118 1 8 := X137
      have R138 : ∀ t, Steps p.tables e below (T137.setTop (mkF m 165 #[.val (.long q1), .second, .val (.int p2), .val (.int v2), .val (.ref b3), .val (.long (F1 v129 q1 (1 : Int32))), .second, .unset, .unset, .unset, .unset] [])) t → Steps p.tables e below (s₁.setTop (entryFrame m #[(.long q1), (.int p2)] maxLocals)) t := by
        intro t kt
        refine R136 _ ?_
        show Steps p.tables e below (T132.setTop (mkF m 153 #[.val (.long q1), .second, .val (.int p2), .val (.int v2), .val (.ref b3), .val (.long v129), .second, .unset, .unset, .unset, .unset] [(.int (1 : Int32)), (.int v2)])) _
        refine XS.icmpNo X133.here hx rfl (hb hby at_153) rfl (tlt hc135).2.2.2 ?_
        show Steps p.tables e below (T132.setTop (mkF m 156 #[.val (.long q1), .second, .val (.int p2), .val (.int v2), .val (.ref b3), .val (.long v129), .second, .unset, .unset, .unset, .unset] [])) _
        refine XS.lload X133.here hx rfl (hb hby at_156) rfl ?_
        show Steps p.tables e below (T132.setTop (mkF m 158 #[.val (.long q1), .second, .val (.int p2), .val (.int v2), .val (.ref b3), .val (.long v129), .second, .unset, .unset, .unset, .unset] [(.long v129)])) _
        refine XS.lloadN X133.here hx rfl (hb hby at_158) rfl ?_
        show Steps p.tables e below (T132.setTop (mkF m 159 #[.val (.long q1), .second, .val (.int p2), .val (.int v2), .val (.ref b3), .val (.long v129), .second, .unset, .unset, .unset, .unset] [(.long q1), (.long v129)])) _
        refine XS.iconst X133.here hx rfl (hb hby at_159) ?_
        show Steps p.tables e below (T132.setTop (mkF m 160 #[.val (.long q1), .second, .val (.int p2), .val (.int v2), .val (.ref b3), .val (.long v129), .second, .unset, .unset, .unset, .unset] [(.int (1 : Int32)), (.long q1), (.long v129)])) _
        refine st137 _ ?_
        show Steps p.tables e below (T137.setTop (mkF m 163 #[.val (.long q1), .second, .val (.int p2), .val (.int v2), .val (.ref b3), .val (.long v129), .second, .unset, .unset, .unset, .unset] [(.long (F1 v129 q1 (1 : Int32)))])) _
        refine XS.lstore X137.here hx rfl (hb hby at_163) rfl (l' := #[.val (.long q1), .second, .val (.int p2), .val (.int v2), .val (.ref b3), .val (.long (F1 v129 q1 (1 : Int32))), .second, .unset, .unset, .unset, .unset]) rfl ?_
        exact kt
      exact ⟨T137, (F1 v129 q1 (1 : Int32)), X137, e137, (by rw [if_pos hc135]), R138⟩
    · have R139 : ∀ t, Steps p.tables e below (T132.setTop (mkF m 165 #[.val (.long q1), .second, .val (.int p2), .val (.int v2), .val (.ref b3), .val (.long v129), .second, .unset, .unset, .unset, .unset] [])) t → Steps p.tables e below (s₁.setTop (entryFrame m #[(.long q1), (.int p2)] maxLocals)) t := by
        intro t kt
        refine R136 _ ?_
        show Steps p.tables e below (T132.setTop (mkF m 153 #[.val (.long q1), .second, .val (.int p2), .val (.int v2), .val (.ref b3), .val (.long v129), .second, .unset, .unset, .unset, .unset] [(.int (1 : Int32)), (.int v2)])) _
        refine XS.icmpYes X133.here hx rfl (pc0 := 153) (pc' := 165) rfl (hb hby at_153) rfl (flt hc135).2.2.2 (by decide) (by decide) ?_
        exact kt
      exact ⟨T132, v129, X133, e134, (by rw [if_neg hc135]), R139⟩
  obtain ⟨T143, v140, X144, e145, hv140, R141⟩ := J142
  have R147 : ∀ t, Steps p.tables e below (T143.setTop (mkF m 167 #[.val (.long q1), .second, .val (.int p2), .val (.int v2), .val (.ref b3), .val (.long v140), .second, .unset, .unset, .unset, .unset] [(.int (2 : Int32)), (.int v2)])) t → Steps p.tables e below (s₁.setTop (entryFrame m #[(.long q1), (.int p2)] maxLocals)) t := by
    intro t kt
    refine R141 _ ?_
    show Steps p.tables e below (T143.setTop (mkF m 165 #[.val (.long q1), .second, .val (.int p2), .val (.int v2), .val (.ref b3), .val (.long v140), .second, .unset, .unset, .unset, .unset] [])) _
    refine XS.iloadN X144.here hx rfl (hb hby at_165) rfl ?_
    show Steps p.tables e below (T143.setTop (mkF m 166 #[.val (.long q1), .second, .val (.int p2), .val (.int v2), .val (.ref b3), .val (.long v140), .second, .unset, .unset, .unset, .unset] [(.int v2)])) _
    refine XS.iconst X144.here hx rfl (hb hby at_166) ?_
    exact kt
  have J153 : ∃ (T' : State) (v151 : Int64), Stand p l e room_1 s m #[(.long q1), (.int p2)] below meth c T' L118 1 8 ∧ T'.heap = h117 ∧ v151 = (if (2 : Int32) < v2 then (F1 v140 q1 (2 : Int32)) else v140) ∧ ∀ t, Steps p.tables e below (T'.setTop (mkF m 179 #[.val (.long q1), .second, .val (.int p2), .val (.int v2), .val (.ref b3), .val (.long v151), .second, .unset, .unset, .unset, .unset] [])) t → Steps p.tables e below (s₁.setTop (entryFrame m #[(.long q1), (.int p2)] maxLocals)) t := by
    by_cases hc146 : (2 : Int32) < v2
    · obtain ⟨_, _, ⟨T148, L148, k148, n148⟩, -, X148, ⟨Lc148, hQ148, l148, y148, z148⟩, st148⟩ := Jvm.LawKit.callS X144 hx (y := (⟨"com/example/relicary/relicary/siard/ContainerHashPinLaw", "step", "(JJI)J"⟩ : MethodName)) hown (mvT hZ (hw _ (List.mem_of_getElem? (i := 3) rfl))) (mvT hZ (hw _ (List.mem_of_getElem? (i := 4) rfl))) (mvT hZ (hw _ (List.mem_of_getElem? (i := 5) rfl))) (mvT hZ (hw _ (List.mem_of_getElem? (i := 6) rfl))) (by decide) (backOf (W := 0) (rm1 l Z a0 hw [] v140 q1 (2 : Int32) h117 n0 (Nat.le_trans Z0 KK121.1)) hZ (hw _ (List.mem_of_getElem? (i := 6) rfl)) (hw _ (List.mem_of_getElem? (i := 5) rfl)) (by decide) (by decide)) (g := (mkF m 174 #[.val (.long q1), .second, .val (.int p2), .val (.int v2), .val (.ref b3), .val (.long v140), .second, .unset, .unset, .unset, .unset] [(.int (2 : Int32)), (.long q1), (.long v140)])) rfl (by rw [hml]; rfl) (argsL := [(.long v140), (.long q1), (.int (2 : Int32))]) (rest := []) (lenOf pd_0_1 rfl) rfl (by show 2 * 0 + _ ≤ _; exact Nat.le_of_eq rfl) (hb hby at_174) (fun _ _ => ⟨rfl, e145, (by decide : 1 + 0 ≤ _), (by decide : 8 + 0 ≤ _)⟩)
      dsimp only [Pt.U, Pt.locs, Pt.cells, Pt.slots] at X148 l148 y148 z148 st148 hQ148
      subst l148 y148 z148
      obtain ⟨rfl, rfl, e148⟩ := hQ148
      rw [List.append_nil] at X148
      replace X148 : Stand p l e room_1 s m #[(.long q1), (.int p2)] below meth c T148 L118 1 8 := X148
      have R149 : ∀ t, Steps p.tables e below (T148.setTop (mkF m 179 #[.val (.long q1), .second, .val (.int p2), .val (.int v2), .val (.ref b3), .val (.long (F1 v140 q1 (2 : Int32))), .second, .unset, .unset, .unset, .unset] [])) t → Steps p.tables e below (s₁.setTop (entryFrame m #[(.long q1), (.int p2)] maxLocals)) t := by
        intro t kt
        refine R147 _ ?_
        show Steps p.tables e below (T143.setTop (mkF m 167 #[.val (.long q1), .second, .val (.int p2), .val (.int v2), .val (.ref b3), .val (.long v140), .second, .unset, .unset, .unset, .unset] [(.int (2 : Int32)), (.int v2)])) _
        refine XS.icmpNo X144.here hx rfl (hb hby at_167) rfl (tlt hc146).2.2.2 ?_
        show Steps p.tables e below (T143.setTop (mkF m 170 #[.val (.long q1), .second, .val (.int p2), .val (.int v2), .val (.ref b3), .val (.long v140), .second, .unset, .unset, .unset, .unset] [])) _
        refine XS.lload X144.here hx rfl (hb hby at_170) rfl ?_
        show Steps p.tables e below (T143.setTop (mkF m 172 #[.val (.long q1), .second, .val (.int p2), .val (.int v2), .val (.ref b3), .val (.long v140), .second, .unset, .unset, .unset, .unset] [(.long v140)])) _
        refine XS.lloadN X144.here hx rfl (hb hby at_172) rfl ?_
        show Steps p.tables e below (T143.setTop (mkF m 173 #[.val (.long q1), .second, .val (.int p2), .val (.int v2), .val (.ref b3), .val (.long v140), .second, .unset, .unset, .unset, .unset] [(.long q1), (.long v140)])) _
        refine XS.iconst X144.here hx rfl (hb hby at_173) ?_
        show Steps p.tables e below (T143.setTop (mkF m 174 #[.val (.long q1), .second, .val (.int p2), .val (.int v2), .val (.ref b3), .val (.long v140), .second, .unset, .unset, .unset, .unset] [(.int (2 : Int32)), (.long q1), (.long v140)])) _
        refine st148 _ ?_
        show Steps p.tables e below (T148.setTop (mkF m 177 #[.val (.long q1), .second, .val (.int p2), .val (.int v2), .val (.ref b3), .val (.long v140), .second, .unset, .unset, .unset, .unset] [(.long (F1 v140 q1 (2 : Int32)))])) _
        refine XS.lstore X148.here hx rfl (hb hby at_177) rfl (l' := #[.val (.long q1), .second, .val (.int p2), .val (.int v2), .val (.ref b3), .val (.long (F1 v140 q1 (2 : Int32))), .second, .unset, .unset, .unset, .unset]) rfl ?_
        exact kt
      exact ⟨T148, (F1 v140 q1 (2 : Int32)), X148, e148, (by rw [if_pos hc146]), R149⟩
    · have R150 : ∀ t, Steps p.tables e below (T143.setTop (mkF m 179 #[.val (.long q1), .second, .val (.int p2), .val (.int v2), .val (.ref b3), .val (.long v140), .second, .unset, .unset, .unset, .unset] [])) t → Steps p.tables e below (s₁.setTop (entryFrame m #[(.long q1), (.int p2)] maxLocals)) t := by
        intro t kt
        refine R147 _ ?_
        show Steps p.tables e below (T143.setTop (mkF m 167 #[.val (.long q1), .second, .val (.int p2), .val (.int v2), .val (.ref b3), .val (.long v140), .second, .unset, .unset, .unset, .unset] [(.int (2 : Int32)), (.int v2)])) _
        refine XS.icmpYes X144.here hx rfl (pc0 := 167) (pc' := 179) rfl (hb hby at_167) rfl (flt hc146).2.2.2 (by decide) (by decide) ?_
        exact kt
      exact ⟨T143, v140, X144, e145, (by rw [if_neg hc146]), R150⟩
  obtain ⟨T154, v151, X155, e156, hv151, R152⟩ := J153
  have R158 : ∀ t, Steps p.tables e below (T154.setTop (mkF m 181 #[.val (.long q1), .second, .val (.int p2), .val (.int v2), .val (.ref b3), .val (.long v151), .second, .unset, .unset, .unset, .unset] [(.int (3 : Int32)), (.int v2)])) t → Steps p.tables e below (s₁.setTop (entryFrame m #[(.long q1), (.int p2)] maxLocals)) t := by
    intro t kt
    refine R152 _ ?_
    show Steps p.tables e below (T154.setTop (mkF m 179 #[.val (.long q1), .second, .val (.int p2), .val (.int v2), .val (.ref b3), .val (.long v151), .second, .unset, .unset, .unset, .unset] [])) _
    refine XS.iloadN X155.here hx rfl (hb hby at_179) rfl ?_
    show Steps p.tables e below (T154.setTop (mkF m 180 #[.val (.long q1), .second, .val (.int p2), .val (.int v2), .val (.ref b3), .val (.long v151), .second, .unset, .unset, .unset, .unset] [(.int v2)])) _
    refine XS.iconst X155.here hx rfl (hb hby at_180) ?_
    exact kt
  have J164 : ∃ (T' : State) (v162 : Int64), Stand p l e room_1 s m #[(.long q1), (.int p2)] below meth c T' L118 1 8 ∧ T'.heap = h117 ∧ v162 = (if (3 : Int32) < v2 then (F1 v151 q1 (3 : Int32)) else v151) ∧ ∀ t, Steps p.tables e below (T'.setTop (mkF m 193 #[.val (.long q1), .second, .val (.int p2), .val (.int v2), .val (.ref b3), .val (.long v162), .second, .unset, .unset, .unset, .unset] [])) t → Steps p.tables e below (s₁.setTop (entryFrame m #[(.long q1), (.int p2)] maxLocals)) t := by
    by_cases hc157 : (3 : Int32) < v2
    · obtain ⟨_, _, ⟨T159, L159, k159, n159⟩, -, X159, ⟨Lc159, hQ159, l159, y159, z159⟩, st159⟩ := Jvm.LawKit.callS X155 hx (y := (⟨"com/example/relicary/relicary/siard/ContainerHashPinLaw", "step", "(JJI)J"⟩ : MethodName)) hown (mvT hZ (hw _ (List.mem_of_getElem? (i := 3) rfl))) (mvT hZ (hw _ (List.mem_of_getElem? (i := 4) rfl))) (mvT hZ (hw _ (List.mem_of_getElem? (i := 5) rfl))) (mvT hZ (hw _ (List.mem_of_getElem? (i := 6) rfl))) (by decide) (backOf (W := 0) (rm1 l Z a0 hw [] v151 q1 (3 : Int32) h117 n0 (Nat.le_trans Z0 KK121.1)) hZ (hw _ (List.mem_of_getElem? (i := 6) rfl)) (hw _ (List.mem_of_getElem? (i := 5) rfl)) (by decide) (by decide)) (g := (mkF m 188 #[.val (.long q1), .second, .val (.int p2), .val (.int v2), .val (.ref b3), .val (.long v151), .second, .unset, .unset, .unset, .unset] [(.int (3 : Int32)), (.long q1), (.long v151)])) rfl (by rw [hml]; rfl) (argsL := [(.long v151), (.long q1), (.int (3 : Int32))]) (rest := []) (lenOf pd_0_1 rfl) rfl (by show 2 * 0 + _ ≤ _; exact Nat.le_of_eq rfl) (hb hby at_188) (fun _ _ => ⟨rfl, e156, (by decide : 1 + 0 ≤ _), (by decide : 8 + 0 ≤ _)⟩)
      dsimp only [Pt.U, Pt.locs, Pt.cells, Pt.slots] at X159 l159 y159 z159 st159 hQ159
      subst l159 y159 z159
      obtain ⟨rfl, rfl, e159⟩ := hQ159
      rw [List.append_nil] at X159
      replace X159 : Stand p l e room_1 s m #[(.long q1), (.int p2)] below meth c T159 L118 1 8 := X159
      have R160 : ∀ t, Steps p.tables e below (T159.setTop (mkF m 193 #[.val (.long q1), .second, .val (.int p2), .val (.int v2), .val (.ref b3), .val (.long (F1 v151 q1 (3 : Int32))), .second, .unset, .unset, .unset, .unset] [])) t → Steps p.tables e below (s₁.setTop (entryFrame m #[(.long q1), (.int p2)] maxLocals)) t := by
        intro t kt
        refine R158 _ ?_
        show Steps p.tables e below (T154.setTop (mkF m 181 #[.val (.long q1), .second, .val (.int p2), .val (.int v2), .val (.ref b3), .val (.long v151), .second, .unset, .unset, .unset, .unset] [(.int (3 : Int32)), (.int v2)])) _
        refine XS.icmpNo X155.here hx rfl (hb hby at_181) rfl (tlt hc157).2.2.2 ?_
        show Steps p.tables e below (T154.setTop (mkF m 184 #[.val (.long q1), .second, .val (.int p2), .val (.int v2), .val (.ref b3), .val (.long v151), .second, .unset, .unset, .unset, .unset] [])) _
        refine XS.lload X155.here hx rfl (hb hby at_184) rfl ?_
        show Steps p.tables e below (T154.setTop (mkF m 186 #[.val (.long q1), .second, .val (.int p2), .val (.int v2), .val (.ref b3), .val (.long v151), .second, .unset, .unset, .unset, .unset] [(.long v151)])) _
        refine XS.lloadN X155.here hx rfl (hb hby at_186) rfl ?_
        show Steps p.tables e below (T154.setTop (mkF m 187 #[.val (.long q1), .second, .val (.int p2), .val (.int v2), .val (.ref b3), .val (.long v151), .second, .unset, .unset, .unset, .unset] [(.long q1), (.long v151)])) _
        refine XS.iconst X155.here hx rfl (hb hby at_187) ?_
        show Steps p.tables e below (T154.setTop (mkF m 188 #[.val (.long q1), .second, .val (.int p2), .val (.int v2), .val (.ref b3), .val (.long v151), .second, .unset, .unset, .unset, .unset] [(.int (3 : Int32)), (.long q1), (.long v151)])) _
        refine st159 _ ?_
        show Steps p.tables e below (T159.setTop (mkF m 191 #[.val (.long q1), .second, .val (.int p2), .val (.int v2), .val (.ref b3), .val (.long v151), .second, .unset, .unset, .unset, .unset] [(.long (F1 v151 q1 (3 : Int32)))])) _
        refine XS.lstore X159.here hx rfl (hb hby at_191) rfl (l' := #[.val (.long q1), .second, .val (.int p2), .val (.int v2), .val (.ref b3), .val (.long (F1 v151 q1 (3 : Int32))), .second, .unset, .unset, .unset, .unset]) rfl ?_
        exact kt
      exact ⟨T159, (F1 v151 q1 (3 : Int32)), X159, e159, (by rw [if_pos hc157]), R160⟩
    · have R161 : ∀ t, Steps p.tables e below (T154.setTop (mkF m 193 #[.val (.long q1), .second, .val (.int p2), .val (.int v2), .val (.ref b3), .val (.long v151), .second, .unset, .unset, .unset, .unset] [])) t → Steps p.tables e below (s₁.setTop (entryFrame m #[(.long q1), (.int p2)] maxLocals)) t := by
        intro t kt
        refine R158 _ ?_
        show Steps p.tables e below (T154.setTop (mkF m 181 #[.val (.long q1), .second, .val (.int p2), .val (.int v2), .val (.ref b3), .val (.long v151), .second, .unset, .unset, .unset, .unset] [(.int (3 : Int32)), (.int v2)])) _
        refine XS.icmpYes X155.here hx rfl (pc0 := 181) (pc' := 193) rfl (hb hby at_181) rfl (flt hc157).2.2.2 (by decide) (by decide) ?_
        exact kt
      exact ⟨T154, v151, X155, e156, (by rw [if_neg hc157]), R161⟩
  obtain ⟨T165, v162, X166, e167, hv162, R163⟩ := J164
  have R169 : ∀ t, Steps p.tables e below (T165.setTop (mkF m 195 #[.val (.long q1), .second, .val (.int p2), .val (.int v2), .val (.ref b3), .val (.long v162), .second, .unset, .unset, .unset, .unset] [(.int (4 : Int32)), (.int v2)])) t → Steps p.tables e below (s₁.setTop (entryFrame m #[(.long q1), (.int p2)] maxLocals)) t := by
    intro t kt
    refine R163 _ ?_
    show Steps p.tables e below (T165.setTop (mkF m 193 #[.val (.long q1), .second, .val (.int p2), .val (.int v2), .val (.ref b3), .val (.long v162), .second, .unset, .unset, .unset, .unset] [])) _
    refine XS.iloadN X166.here hx rfl (hb hby at_193) rfl ?_
    show Steps p.tables e below (T165.setTop (mkF m 194 #[.val (.long q1), .second, .val (.int p2), .val (.int v2), .val (.ref b3), .val (.long v162), .second, .unset, .unset, .unset, .unset] [(.int v2)])) _
    refine XS.iconst X166.here hx rfl (hb hby at_194) ?_
    exact kt
  have J175 : ∃ (T' : State) (v173 : Int64), Stand p l e room_1 s m #[(.long q1), (.int p2)] below meth c T' L118 1 8 ∧ T'.heap = h117 ∧ v173 = (if (4 : Int32) < v2 then (F1 v162 q1 (4 : Int32)) else v162) ∧ ∀ t, Steps p.tables e below (T'.setTop (mkF m 207 #[.val (.long q1), .second, .val (.int p2), .val (.int v2), .val (.ref b3), .val (.long v173), .second, .unset, .unset, .unset, .unset] [])) t → Steps p.tables e below (s₁.setTop (entryFrame m #[(.long q1), (.int p2)] maxLocals)) t := by
    by_cases hc168 : (4 : Int32) < v2
    · obtain ⟨_, _, ⟨T170, L170, k170, n170⟩, -, X170, ⟨Lc170, hQ170, l170, y170, z170⟩, st170⟩ := Jvm.LawKit.callS X166 hx (y := (⟨"com/example/relicary/relicary/siard/ContainerHashPinLaw", "step", "(JJI)J"⟩ : MethodName)) hown (mvT hZ (hw _ (List.mem_of_getElem? (i := 3) rfl))) (mvT hZ (hw _ (List.mem_of_getElem? (i := 4) rfl))) (mvT hZ (hw _ (List.mem_of_getElem? (i := 5) rfl))) (mvT hZ (hw _ (List.mem_of_getElem? (i := 6) rfl))) (by decide) (backOf (W := 0) (rm1 l Z a0 hw [] v162 q1 (4 : Int32) h117 n0 (Nat.le_trans Z0 KK121.1)) hZ (hw _ (List.mem_of_getElem? (i := 6) rfl)) (hw _ (List.mem_of_getElem? (i := 5) rfl)) (by decide) (by decide)) (g := (mkF m 202 #[.val (.long q1), .second, .val (.int p2), .val (.int v2), .val (.ref b3), .val (.long v162), .second, .unset, .unset, .unset, .unset] [(.int (4 : Int32)), (.long q1), (.long v162)])) rfl (by rw [hml]; rfl) (argsL := [(.long v162), (.long q1), (.int (4 : Int32))]) (rest := []) (lenOf pd_0_1 rfl) rfl (by show 2 * 0 + _ ≤ _; exact Nat.le_of_eq rfl) (hb hby at_202) (fun _ _ => ⟨rfl, e167, (by decide : 1 + 0 ≤ _), (by decide : 8 + 0 ≤ _)⟩)
      dsimp only [Pt.U, Pt.locs, Pt.cells, Pt.slots] at X170 l170 y170 z170 st170 hQ170
      subst l170 y170 z170
      obtain ⟨rfl, rfl, e170⟩ := hQ170
      rw [List.append_nil] at X170
      replace X170 : Stand p l e room_1 s m #[(.long q1), (.int p2)] below meth c T170 L118 1 8 := X170
      have R171 : ∀ t, Steps p.tables e below (T170.setTop (mkF m 207 #[.val (.long q1), .second, .val (.int p2), .val (.int v2), .val (.ref b3), .val (.long (F1 v162 q1 (4 : Int32))), .second, .unset, .unset, .unset, .unset] [])) t → Steps p.tables e below (s₁.setTop (entryFrame m #[(.long q1), (.int p2)] maxLocals)) t := by
        intro t kt
        refine R169 _ ?_
        show Steps p.tables e below (T165.setTop (mkF m 195 #[.val (.long q1), .second, .val (.int p2), .val (.int v2), .val (.ref b3), .val (.long v162), .second, .unset, .unset, .unset, .unset] [(.int (4 : Int32)), (.int v2)])) _
        refine XS.icmpNo X166.here hx rfl (hb hby at_195) rfl (tlt hc168).2.2.2 ?_
        show Steps p.tables e below (T165.setTop (mkF m 198 #[.val (.long q1), .second, .val (.int p2), .val (.int v2), .val (.ref b3), .val (.long v162), .second, .unset, .unset, .unset, .unset] [])) _
        refine XS.lload X166.here hx rfl (hb hby at_198) rfl ?_
        show Steps p.tables e below (T165.setTop (mkF m 200 #[.val (.long q1), .second, .val (.int p2), .val (.int v2), .val (.ref b3), .val (.long v162), .second, .unset, .unset, .unset, .unset] [(.long v162)])) _
        refine XS.lloadN X166.here hx rfl (hb hby at_200) rfl ?_
        show Steps p.tables e below (T165.setTop (mkF m 201 #[.val (.long q1), .second, .val (.int p2), .val (.int v2), .val (.ref b3), .val (.long v162), .second, .unset, .unset, .unset, .unset] [(.long q1), (.long v162)])) _
        refine XS.iconst X166.here hx rfl (hb hby at_201) ?_
        show Steps p.tables e below (T165.setTop (mkF m 202 #[.val (.long q1), .second, .val (.int p2), .val (.int v2), .val (.ref b3), .val (.long v162), .second, .unset, .unset, .unset, .unset] [(.int (4 : Int32)), (.long q1), (.long v162)])) _
        refine st170 _ ?_
        show Steps p.tables e below (T170.setTop (mkF m 205 #[.val (.long q1), .second, .val (.int p2), .val (.int v2), .val (.ref b3), .val (.long v162), .second, .unset, .unset, .unset, .unset] [(.long (F1 v162 q1 (4 : Int32)))])) _
        refine XS.lstore X170.here hx rfl (hb hby at_205) rfl (l' := #[.val (.long q1), .second, .val (.int p2), .val (.int v2), .val (.ref b3), .val (.long (F1 v162 q1 (4 : Int32))), .second, .unset, .unset, .unset, .unset]) rfl ?_
        exact kt
      exact ⟨T170, (F1 v162 q1 (4 : Int32)), X170, e170, (by rw [if_pos hc168]), R171⟩
    · have R172 : ∀ t, Steps p.tables e below (T165.setTop (mkF m 207 #[.val (.long q1), .second, .val (.int p2), .val (.int v2), .val (.ref b3), .val (.long v162), .second, .unset, .unset, .unset, .unset] [])) t → Steps p.tables e below (s₁.setTop (entryFrame m #[(.long q1), (.int p2)] maxLocals)) t := by
        intro t kt
        refine R169 _ ?_
        show Steps p.tables e below (T165.setTop (mkF m 195 #[.val (.long q1), .second, .val (.int p2), .val (.int v2), .val (.ref b3), .val (.long v162), .second, .unset, .unset, .unset, .unset] [(.int (4 : Int32)), (.int v2)])) _
        refine XS.icmpYes X166.here hx rfl (pc0 := 195) (pc' := 207) rfl (hb hby at_195) rfl (flt hc168).2.2.2 (by decide) (by decide) ?_
        exact kt
      exact ⟨T165, v162, X166, e167, (by rw [if_neg hc168]), R172⟩
  obtain ⟨T176, v173, X177, e178, hv173, R174⟩ := J175
  have R180 : ∀ t, Steps p.tables e below (T176.setTop (mkF m 209 #[.val (.long q1), .second, .val (.int p2), .val (.int v2), .val (.ref b3), .val (.long v173), .second, .unset, .unset, .unset, .unset] [(.int (5 : Int32)), (.int v2)])) t → Steps p.tables e below (s₁.setTop (entryFrame m #[(.long q1), (.int p2)] maxLocals)) t := by
    intro t kt
    refine R174 _ ?_
    show Steps p.tables e below (T176.setTop (mkF m 207 #[.val (.long q1), .second, .val (.int p2), .val (.int v2), .val (.ref b3), .val (.long v173), .second, .unset, .unset, .unset, .unset] [])) _
    refine XS.iloadN X177.here hx rfl (hb hby at_207) rfl ?_
    show Steps p.tables e below (T176.setTop (mkF m 208 #[.val (.long q1), .second, .val (.int p2), .val (.int v2), .val (.ref b3), .val (.long v173), .second, .unset, .unset, .unset, .unset] [(.int v2)])) _
    refine XS.iconst X177.here hx rfl (hb hby at_208) ?_
    exact kt
  have J186 : ∃ (T' : State) (v184 : Int64), Stand p l e room_1 s m #[(.long q1), (.int p2)] below meth c T' L118 1 8 ∧ T'.heap = h117 ∧ v184 = (if (5 : Int32) < v2 then (F1 v173 q1 (5 : Int32)) else v173) ∧ ∀ t, Steps p.tables e below (T'.setTop (mkF m 221 #[.val (.long q1), .second, .val (.int p2), .val (.int v2), .val (.ref b3), .val (.long v184), .second, .unset, .unset, .unset, .unset] [])) t → Steps p.tables e below (s₁.setTop (entryFrame m #[(.long q1), (.int p2)] maxLocals)) t := by
    by_cases hc179 : (5 : Int32) < v2
    · obtain ⟨_, _, ⟨T181, L181, k181, n181⟩, -, X181, ⟨Lc181, hQ181, l181, y181, z181⟩, st181⟩ := Jvm.LawKit.callS X177 hx (y := (⟨"com/example/relicary/relicary/siard/ContainerHashPinLaw", "step", "(JJI)J"⟩ : MethodName)) hown (mvT hZ (hw _ (List.mem_of_getElem? (i := 3) rfl))) (mvT hZ (hw _ (List.mem_of_getElem? (i := 4) rfl))) (mvT hZ (hw _ (List.mem_of_getElem? (i := 5) rfl))) (mvT hZ (hw _ (List.mem_of_getElem? (i := 6) rfl))) (by decide) (backOf (W := 0) (rm1 l Z a0 hw [] v173 q1 (5 : Int32) h117 n0 (Nat.le_trans Z0 KK121.1)) hZ (hw _ (List.mem_of_getElem? (i := 6) rfl)) (hw _ (List.mem_of_getElem? (i := 5) rfl)) (by decide) (by decide)) (g := (mkF m 216 #[.val (.long q1), .second, .val (.int p2), .val (.int v2), .val (.ref b3), .val (.long v173), .second, .unset, .unset, .unset, .unset] [(.int (5 : Int32)), (.long q1), (.long v173)])) rfl (by rw [hml]; rfl) (argsL := [(.long v173), (.long q1), (.int (5 : Int32))]) (rest := []) (lenOf pd_0_1 rfl) rfl (by show 2 * 0 + _ ≤ _; exact Nat.le_of_eq rfl) (hb hby at_216) (fun _ _ => ⟨rfl, e178, (by decide : 1 + 0 ≤ _), (by decide : 8 + 0 ≤ _)⟩)
      dsimp only [Pt.U, Pt.locs, Pt.cells, Pt.slots] at X181 l181 y181 z181 st181 hQ181
      subst l181 y181 z181
      obtain ⟨rfl, rfl, e181⟩ := hQ181
      rw [List.append_nil] at X181
      replace X181 : Stand p l e room_1 s m #[(.long q1), (.int p2)] below meth c T181 L118 1 8 := X181
      have R182 : ∀ t, Steps p.tables e below (T181.setTop (mkF m 221 #[.val (.long q1), .second, .val (.int p2), .val (.int v2), .val (.ref b3), .val (.long (F1 v173 q1 (5 : Int32))), .second, .unset, .unset, .unset, .unset] [])) t → Steps p.tables e below (s₁.setTop (entryFrame m #[(.long q1), (.int p2)] maxLocals)) t := by
        intro t kt
        refine R180 _ ?_
        show Steps p.tables e below (T176.setTop (mkF m 209 #[.val (.long q1), .second, .val (.int p2), .val (.int v2), .val (.ref b3), .val (.long v173), .second, .unset, .unset, .unset, .unset] [(.int (5 : Int32)), (.int v2)])) _
        refine XS.icmpNo X177.here hx rfl (hb hby at_209) rfl (tlt hc179).2.2.2 ?_
        show Steps p.tables e below (T176.setTop (mkF m 212 #[.val (.long q1), .second, .val (.int p2), .val (.int v2), .val (.ref b3), .val (.long v173), .second, .unset, .unset, .unset, .unset] [])) _
        refine XS.lload X177.here hx rfl (hb hby at_212) rfl ?_
        show Steps p.tables e below (T176.setTop (mkF m 214 #[.val (.long q1), .second, .val (.int p2), .val (.int v2), .val (.ref b3), .val (.long v173), .second, .unset, .unset, .unset, .unset] [(.long v173)])) _
        refine XS.lloadN X177.here hx rfl (hb hby at_214) rfl ?_
        show Steps p.tables e below (T176.setTop (mkF m 215 #[.val (.long q1), .second, .val (.int p2), .val (.int v2), .val (.ref b3), .val (.long v173), .second, .unset, .unset, .unset, .unset] [(.long q1), (.long v173)])) _
        refine XS.iconst X177.here hx rfl (hb hby at_215) ?_
        show Steps p.tables e below (T176.setTop (mkF m 216 #[.val (.long q1), .second, .val (.int p2), .val (.int v2), .val (.ref b3), .val (.long v173), .second, .unset, .unset, .unset, .unset] [(.int (5 : Int32)), (.long q1), (.long v173)])) _
        refine st181 _ ?_
        show Steps p.tables e below (T181.setTop (mkF m 219 #[.val (.long q1), .second, .val (.int p2), .val (.int v2), .val (.ref b3), .val (.long v173), .second, .unset, .unset, .unset, .unset] [(.long (F1 v173 q1 (5 : Int32)))])) _
        refine XS.lstore X181.here hx rfl (hb hby at_219) rfl (l' := #[.val (.long q1), .second, .val (.int p2), .val (.int v2), .val (.ref b3), .val (.long (F1 v173 q1 (5 : Int32))), .second, .unset, .unset, .unset, .unset]) rfl ?_
        exact kt
      exact ⟨T181, (F1 v173 q1 (5 : Int32)), X181, e181, (by rw [if_pos hc179]), R182⟩
    · have R183 : ∀ t, Steps p.tables e below (T176.setTop (mkF m 221 #[.val (.long q1), .second, .val (.int p2), .val (.int v2), .val (.ref b3), .val (.long v173), .second, .unset, .unset, .unset, .unset] [])) t → Steps p.tables e below (s₁.setTop (entryFrame m #[(.long q1), (.int p2)] maxLocals)) t := by
        intro t kt
        refine R180 _ ?_
        show Steps p.tables e below (T176.setTop (mkF m 209 #[.val (.long q1), .second, .val (.int p2), .val (.int v2), .val (.ref b3), .val (.long v173), .second, .unset, .unset, .unset, .unset] [(.int (5 : Int32)), (.int v2)])) _
        refine XS.icmpYes X177.here hx rfl (pc0 := 209) (pc' := 221) rfl (hb hby at_209) rfl (flt hc179).2.2.2 (by decide) (by decide) ?_
        exact kt
      exact ⟨T176, v173, X177, e178, (by rw [if_neg hc179]), R183⟩
  obtain ⟨T187, v184, X188, e189, hv184, R185⟩ := J186
  have R191 : ∀ t, Steps p.tables e below (T187.setTop (mkF m 224 #[.val (.long q1), .second, .val (.int p2), .val (.int v2), .val (.ref b3), .val (.long v184), .second, .unset, .unset, .unset, .unset] [(.int (6 : Int32)), (.int v2)])) t → Steps p.tables e below (s₁.setTop (entryFrame m #[(.long q1), (.int p2)] maxLocals)) t := by
    intro t kt
    refine R185 _ ?_
    show Steps p.tables e below (T187.setTop (mkF m 221 #[.val (.long q1), .second, .val (.int p2), .val (.int v2), .val (.ref b3), .val (.long v184), .second, .unset, .unset, .unset, .unset] [])) _
    refine XS.iloadN X188.here hx rfl (hb hby at_221) rfl ?_
    show Steps p.tables e below (T187.setTop (mkF m 222 #[.val (.long q1), .second, .val (.int p2), .val (.int v2), .val (.ref b3), .val (.long v184), .second, .unset, .unset, .unset, .unset] [(.int v2)])) _
    refine XS.bipush X188.here hx rfl (hb hby at_222) ?_
    exact kt
  have J197 : ∃ (T' : State) (v195 : Int64), Stand p l e room_1 s m #[(.long q1), (.int p2)] below meth c T' L118 1 8 ∧ T'.heap = h117 ∧ v195 = (if (6 : Int32) < v2 then (F1 v184 q1 (6 : Int32)) else v184) ∧ ∀ t, Steps p.tables e below (T'.setTop (mkF m 237 #[.val (.long q1), .second, .val (.int p2), .val (.int v2), .val (.ref b3), .val (.long v195), .second, .unset, .unset, .unset, .unset] [])) t → Steps p.tables e below (s₁.setTop (entryFrame m #[(.long q1), (.int p2)] maxLocals)) t := by
    by_cases hc190 : (6 : Int32) < v2
    · obtain ⟨_, _, ⟨T192, L192, k192, n192⟩, -, X192, ⟨Lc192, hQ192, l192, y192, z192⟩, st192⟩ := Jvm.LawKit.callS X188 hx (y := (⟨"com/example/relicary/relicary/siard/ContainerHashPinLaw", "step", "(JJI)J"⟩ : MethodName)) hown (mvT hZ (hw _ (List.mem_of_getElem? (i := 3) rfl))) (mvT hZ (hw _ (List.mem_of_getElem? (i := 4) rfl))) (mvT hZ (hw _ (List.mem_of_getElem? (i := 5) rfl))) (mvT hZ (hw _ (List.mem_of_getElem? (i := 6) rfl))) (by decide) (backOf (W := 0) (rm1 l Z a0 hw [] v184 q1 (6 : Int32) h117 n0 (Nat.le_trans Z0 KK121.1)) hZ (hw _ (List.mem_of_getElem? (i := 6) rfl)) (hw _ (List.mem_of_getElem? (i := 5) rfl)) (by decide) (by decide)) (g := (mkF m 232 #[.val (.long q1), .second, .val (.int p2), .val (.int v2), .val (.ref b3), .val (.long v184), .second, .unset, .unset, .unset, .unset] [(.int (6 : Int32)), (.long q1), (.long v184)])) rfl (by rw [hml]; rfl) (argsL := [(.long v184), (.long q1), (.int (6 : Int32))]) (rest := []) (lenOf pd_0_1 rfl) rfl (by show 2 * 0 + _ ≤ _; exact Nat.le_of_eq rfl) (hb hby at_232) (fun _ _ => ⟨rfl, e189, (by decide : 1 + 0 ≤ _), (by decide : 8 + 0 ≤ _)⟩)
      dsimp only [Pt.U, Pt.locs, Pt.cells, Pt.slots] at X192 l192 y192 z192 st192 hQ192
      subst l192 y192 z192
      obtain ⟨rfl, rfl, e192⟩ := hQ192
      rw [List.append_nil] at X192
      replace X192 : Stand p l e room_1 s m #[(.long q1), (.int p2)] below meth c T192 L118 1 8 := X192
      have R193 : ∀ t, Steps p.tables e below (T192.setTop (mkF m 237 #[.val (.long q1), .second, .val (.int p2), .val (.int v2), .val (.ref b3), .val (.long (F1 v184 q1 (6 : Int32))), .second, .unset, .unset, .unset, .unset] [])) t → Steps p.tables e below (s₁.setTop (entryFrame m #[(.long q1), (.int p2)] maxLocals)) t := by
        intro t kt
        refine R191 _ ?_
        show Steps p.tables e below (T187.setTop (mkF m 224 #[.val (.long q1), .second, .val (.int p2), .val (.int v2), .val (.ref b3), .val (.long v184), .second, .unset, .unset, .unset, .unset] [(.int (6 : Int32)), (.int v2)])) _
        refine XS.icmpNo X188.here hx rfl (hb hby at_224) rfl (tlt hc190).2.2.2 ?_
        show Steps p.tables e below (T187.setTop (mkF m 227 #[.val (.long q1), .second, .val (.int p2), .val (.int v2), .val (.ref b3), .val (.long v184), .second, .unset, .unset, .unset, .unset] [])) _
        refine XS.lload X188.here hx rfl (hb hby at_227) rfl ?_
        show Steps p.tables e below (T187.setTop (mkF m 229 #[.val (.long q1), .second, .val (.int p2), .val (.int v2), .val (.ref b3), .val (.long v184), .second, .unset, .unset, .unset, .unset] [(.long v184)])) _
        refine XS.lloadN X188.here hx rfl (hb hby at_229) rfl ?_
        show Steps p.tables e below (T187.setTop (mkF m 230 #[.val (.long q1), .second, .val (.int p2), .val (.int v2), .val (.ref b3), .val (.long v184), .second, .unset, .unset, .unset, .unset] [(.long q1), (.long v184)])) _
        refine XS.bipush X188.here hx rfl (hb hby at_230) ?_
        show Steps p.tables e below (T187.setTop (mkF m 232 #[.val (.long q1), .second, .val (.int p2), .val (.int v2), .val (.ref b3), .val (.long v184), .second, .unset, .unset, .unset, .unset] [(.int (6 : Int32)), (.long q1), (.long v184)])) _
        refine st192 _ ?_
        show Steps p.tables e below (T192.setTop (mkF m 235 #[.val (.long q1), .second, .val (.int p2), .val (.int v2), .val (.ref b3), .val (.long v184), .second, .unset, .unset, .unset, .unset] [(.long (F1 v184 q1 (6 : Int32)))])) _
        refine XS.lstore X192.here hx rfl (hb hby at_235) rfl (l' := #[.val (.long q1), .second, .val (.int p2), .val (.int v2), .val (.ref b3), .val (.long (F1 v184 q1 (6 : Int32))), .second, .unset, .unset, .unset, .unset]) rfl ?_
        exact kt
      exact ⟨T192, (F1 v184 q1 (6 : Int32)), X192, e192, (by rw [if_pos hc190]), R193⟩
    · have R194 : ∀ t, Steps p.tables e below (T187.setTop (mkF m 237 #[.val (.long q1), .second, .val (.int p2), .val (.int v2), .val (.ref b3), .val (.long v184), .second, .unset, .unset, .unset, .unset] [])) t → Steps p.tables e below (s₁.setTop (entryFrame m #[(.long q1), (.int p2)] maxLocals)) t := by
        intro t kt
        refine R191 _ ?_
        show Steps p.tables e below (T187.setTop (mkF m 224 #[.val (.long q1), .second, .val (.int p2), .val (.int v2), .val (.ref b3), .val (.long v184), .second, .unset, .unset, .unset, .unset] [(.int (6 : Int32)), (.int v2)])) _
        refine XS.icmpYes X188.here hx rfl (pc0 := 224) (pc' := 237) rfl (hb hby at_224) rfl (flt hc190).2.2.2 (by decide) (by decide) ?_
        exact kt
      exact ⟨T187, v184, X188, e189, (by rw [if_neg hc190]), R194⟩
  obtain ⟨T198, v195, X199, e200, hv195, R196⟩ := J197
  have R202 : ∀ t, Steps p.tables e below (T198.setTop (mkF m 240 #[.val (.long q1), .second, .val (.int p2), .val (.int v2), .val (.ref b3), .val (.long v195), .second, .unset, .unset, .unset, .unset] [(.int (7 : Int32)), (.int v2)])) t → Steps p.tables e below (s₁.setTop (entryFrame m #[(.long q1), (.int p2)] maxLocals)) t := by
    intro t kt
    refine R196 _ ?_
    show Steps p.tables e below (T198.setTop (mkF m 237 #[.val (.long q1), .second, .val (.int p2), .val (.int v2), .val (.ref b3), .val (.long v195), .second, .unset, .unset, .unset, .unset] [])) _
    refine XS.iloadN X199.here hx rfl (hb hby at_237) rfl ?_
    show Steps p.tables e below (T198.setTop (mkF m 238 #[.val (.long q1), .second, .val (.int p2), .val (.int v2), .val (.ref b3), .val (.long v195), .second, .unset, .unset, .unset, .unset] [(.int v2)])) _
    refine XS.bipush X199.here hx rfl (hb hby at_238) ?_
    exact kt
  have J208 : ∃ (T' : State) (v206 : Int64), Stand p l e room_1 s m #[(.long q1), (.int p2)] below meth c T' L118 1 8 ∧ T'.heap = h117 ∧ v206 = (if (7 : Int32) < v2 then (F1 v195 q1 (7 : Int32)) else v195) ∧ ∀ t, Steps p.tables e below (T'.setTop (mkF m 253 #[.val (.long q1), .second, .val (.int p2), .val (.int v2), .val (.ref b3), .val (.long v206), .second, .unset, .unset, .unset, .unset] [])) t → Steps p.tables e below (s₁.setTop (entryFrame m #[(.long q1), (.int p2)] maxLocals)) t := by
    by_cases hc201 : (7 : Int32) < v2
    · obtain ⟨_, _, ⟨T203, L203, k203, n203⟩, -, X203, ⟨Lc203, hQ203, l203, y203, z203⟩, st203⟩ := Jvm.LawKit.callS X199 hx (y := (⟨"com/example/relicary/relicary/siard/ContainerHashPinLaw", "step", "(JJI)J"⟩ : MethodName)) hown (mvT hZ (hw _ (List.mem_of_getElem? (i := 3) rfl))) (mvT hZ (hw _ (List.mem_of_getElem? (i := 4) rfl))) (mvT hZ (hw _ (List.mem_of_getElem? (i := 5) rfl))) (mvT hZ (hw _ (List.mem_of_getElem? (i := 6) rfl))) (by decide) (backOf (W := 0) (rm1 l Z a0 hw [] v195 q1 (7 : Int32) h117 n0 (Nat.le_trans Z0 KK121.1)) hZ (hw _ (List.mem_of_getElem? (i := 6) rfl)) (hw _ (List.mem_of_getElem? (i := 5) rfl)) (by decide) (by decide)) (g := (mkF m 248 #[.val (.long q1), .second, .val (.int p2), .val (.int v2), .val (.ref b3), .val (.long v195), .second, .unset, .unset, .unset, .unset] [(.int (7 : Int32)), (.long q1), (.long v195)])) rfl (by rw [hml]; rfl) (argsL := [(.long v195), (.long q1), (.int (7 : Int32))]) (rest := []) (lenOf pd_0_1 rfl) rfl (by show 2 * 0 + _ ≤ _; exact Nat.le_of_eq rfl) (hb hby at_248) (fun _ _ => ⟨rfl, e200, (by decide : 1 + 0 ≤ _), (by decide : 8 + 0 ≤ _)⟩)
      dsimp only [Pt.U, Pt.locs, Pt.cells, Pt.slots] at X203 l203 y203 z203 st203 hQ203
      subst l203 y203 z203
      obtain ⟨rfl, rfl, e203⟩ := hQ203
      rw [List.append_nil] at X203
      replace X203 : Stand p l e room_1 s m #[(.long q1), (.int p2)] below meth c T203 L118 1 8 := X203
      have R204 : ∀ t, Steps p.tables e below (T203.setTop (mkF m 253 #[.val (.long q1), .second, .val (.int p2), .val (.int v2), .val (.ref b3), .val (.long (F1 v195 q1 (7 : Int32))), .second, .unset, .unset, .unset, .unset] [])) t → Steps p.tables e below (s₁.setTop (entryFrame m #[(.long q1), (.int p2)] maxLocals)) t := by
        intro t kt
        refine R202 _ ?_
        show Steps p.tables e below (T198.setTop (mkF m 240 #[.val (.long q1), .second, .val (.int p2), .val (.int v2), .val (.ref b3), .val (.long v195), .second, .unset, .unset, .unset, .unset] [(.int (7 : Int32)), (.int v2)])) _
        refine XS.icmpNo X199.here hx rfl (hb hby at_240) rfl (tlt hc201).2.2.2 ?_
        show Steps p.tables e below (T198.setTop (mkF m 243 #[.val (.long q1), .second, .val (.int p2), .val (.int v2), .val (.ref b3), .val (.long v195), .second, .unset, .unset, .unset, .unset] [])) _
        refine XS.lload X199.here hx rfl (hb hby at_243) rfl ?_
        show Steps p.tables e below (T198.setTop (mkF m 245 #[.val (.long q1), .second, .val (.int p2), .val (.int v2), .val (.ref b3), .val (.long v195), .second, .unset, .unset, .unset, .unset] [(.long v195)])) _
        refine XS.lloadN X199.here hx rfl (hb hby at_245) rfl ?_
        show Steps p.tables e below (T198.setTop (mkF m 246 #[.val (.long q1), .second, .val (.int p2), .val (.int v2), .val (.ref b3), .val (.long v195), .second, .unset, .unset, .unset, .unset] [(.long q1), (.long v195)])) _
        refine XS.bipush X199.here hx rfl (hb hby at_246) ?_
        show Steps p.tables e below (T198.setTop (mkF m 248 #[.val (.long q1), .second, .val (.int p2), .val (.int v2), .val (.ref b3), .val (.long v195), .second, .unset, .unset, .unset, .unset] [(.int (7 : Int32)), (.long q1), (.long v195)])) _
        refine st203 _ ?_
        show Steps p.tables e below (T203.setTop (mkF m 251 #[.val (.long q1), .second, .val (.int p2), .val (.int v2), .val (.ref b3), .val (.long v195), .second, .unset, .unset, .unset, .unset] [(.long (F1 v195 q1 (7 : Int32)))])) _
        refine XS.lstore X203.here hx rfl (hb hby at_251) rfl (l' := #[.val (.long q1), .second, .val (.int p2), .val (.int v2), .val (.ref b3), .val (.long (F1 v195 q1 (7 : Int32))), .second, .unset, .unset, .unset, .unset]) rfl ?_
        exact kt
      exact ⟨T203, (F1 v195 q1 (7 : Int32)), X203, e203, (by rw [if_pos hc201]), R204⟩
    · have R205 : ∀ t, Steps p.tables e below (T198.setTop (mkF m 253 #[.val (.long q1), .second, .val (.int p2), .val (.int v2), .val (.ref b3), .val (.long v195), .second, .unset, .unset, .unset, .unset] [])) t → Steps p.tables e below (s₁.setTop (entryFrame m #[(.long q1), (.int p2)] maxLocals)) t := by
        intro t kt
        refine R202 _ ?_
        show Steps p.tables e below (T198.setTop (mkF m 240 #[.val (.long q1), .second, .val (.int p2), .val (.int v2), .val (.ref b3), .val (.long v195), .second, .unset, .unset, .unset, .unset] [(.int (7 : Int32)), (.int v2)])) _
        refine XS.icmpYes X199.here hx rfl (pc0 := 240) (pc' := 253) rfl (hb hby at_240) rfl (flt hc201).2.2.2 (by decide) (by decide) ?_
        exact kt
      exact ⟨T198, v195, X199, e200, (by rw [if_neg hc201]), R205⟩
  obtain ⟨T209, v206, X210, e211, hv206, R207⟩ := J208
  obtain ⟨_, _, ⟨T212, L212, k212, n212⟩, -, X212, ⟨Lc212, hQ212, l212, y212, z212⟩, st212⟩ := Jvm.LawKit.callS X210 hx (y := (⟨"com/example/relicary/relicary/siard/Container", "hash", "([B)J"⟩ : MethodName)) hown (mvT hZ (hw _ (List.mem_of_getElem? (i := 9) rfl))) (mvT hZ (hw _ (List.mem_of_getElem? (i := 10) rfl))) (mvT hZ (hw _ (List.mem_of_getElem? (i := 11) rfl))) (mvT hZ (hw _ (List.mem_of_getElem? (i := 12) rfl))) (by decide) (backOf (W := 0) (rm2 l Z a0 hw [] b3 v2 (own_b q1) h117 n0 (Nat.le_trans Z0 KK121.1) (own_g8 (own_le hv2) V_b3123) (own_nn hv2)) hZ (hw _ (List.mem_of_getElem? (i := 12) rfl)) (hw _ (List.mem_of_getElem? (i := 11) rfl)) (by decide) (by decide)) (g := (mkF m 255 #[.val (.long q1), .second, .val (.int p2), .val (.int v2), .val (.ref b3), .val (.long v206), .second, .unset, .unset, .unset, .unset] [(.ref b3)])) rfl (by rw [hml]; rfl) (argsL := [(.ref b3)]) (rest := []) (lenOf pd_0_2 rfl) rfl (by show 2 * 0 + _ ≤ _; exact Nat.le_of_eq rfl) (hb hby at_255) (fun _ _ => ⟨rfl, e211, (by decide : 1 + 0 ≤ _), (by decide : 8 + 0 ≤ _)⟩)
  dsimp only [Pt.U, Pt.locs, Pt.cells, Pt.slots] at X212 l212 y212 z212 st212 hQ212
  subst l212 y212 z212
  obtain ⟨rfl, rfl, e212⟩ := hQ212
  rw [List.append_nil] at X212
  replace X212 : Stand p l e room_1 s m #[(.long q1), (.int p2)] below meth c T212 L118 1 8 := X212
  have R213 : ∀ t, Steps p.tables e below (T212.setTop (mkF m 268 #[.val (.long q1), .second, .val (.int p2), .val (.int v2), .val (.ref b3), .val (.long v206), .second, .val (.long (F2 v2 (own_b q1))), .second, .unset, .unset] [(.long ((F2 v2 (own_b q1)) ^^^ (((F2 v2 (own_b q1)).toUInt64 >>> ((33 : Int32) &&& 0x3f).toInt64.toUInt64).toInt64)))])) t → Steps p.tables e below (s₁.setTop (entryFrame m #[(.long q1), (.int p2)] maxLocals)) t := by
    intro t kt
    refine R207 _ ?_
    show Steps p.tables e below (T209.setTop (mkF m 253 #[.val (.long q1), .second, .val (.int p2), .val (.int v2), .val (.ref b3), .val (.long v206), .second, .unset, .unset, .unset, .unset] [])) _
    refine XS.aload X210.here hx rfl (hb hby at_253) rfl rfl ?_
    show Steps p.tables e below (T209.setTop (mkF m 255 #[.val (.long q1), .second, .val (.int p2), .val (.int v2), .val (.ref b3), .val (.long v206), .second, .unset, .unset, .unset, .unset] [(.ref b3)])) _
    refine st212 _ ?_
    show Steps p.tables e below (T212.setTop (mkF m 258 #[.val (.long q1), .second, .val (.int p2), .val (.int v2), .val (.ref b3), .val (.long v206), .second, .unset, .unset, .unset, .unset] [(.long (F2 v2 (own_b q1)))])) _
    refine XS.lstore X212.here hx rfl (hb hby at_258) rfl (l' := #[.val (.long q1), .second, .val (.int p2), .val (.int v2), .val (.ref b3), .val (.long v206), .second, .val (.long (F2 v2 (own_b q1))), .second, .unset, .unset]) rfl ?_
    show Steps p.tables e below (T212.setTop (mkF m 260 #[.val (.long q1), .second, .val (.int p2), .val (.int v2), .val (.ref b3), .val (.long v206), .second, .val (.long (F2 v2 (own_b q1))), .second, .unset, .unset] [])) _
    refine XS.lload X212.here hx rfl (hb hby at_260) rfl ?_
    show Steps p.tables e below (T212.setTop (mkF m 262 #[.val (.long q1), .second, .val (.int p2), .val (.int v2), .val (.ref b3), .val (.long v206), .second, .val (.long (F2 v2 (own_b q1))), .second, .unset, .unset] [(.long (F2 v2 (own_b q1)))])) _
    refine XS.lload X212.here hx rfl (hb hby at_262) rfl ?_
    show Steps p.tables e below (T212.setTop (mkF m 264 #[.val (.long q1), .second, .val (.int p2), .val (.int v2), .val (.ref b3), .val (.long v206), .second, .val (.long (F2 v2 (own_b q1))), .second, .unset, .unset] [(.long (F2 v2 (own_b q1))), (.long (F2 v2 (own_b q1)))])) _
    refine XS.bipush X212.here hx rfl (hb hby at_264) ?_
    show Steps p.tables e below (T212.setTop (mkF m 266 #[.val (.long q1), .second, .val (.int p2), .val (.int v2), .val (.ref b3), .val (.long v206), .second, .val (.long (F2 v2 (own_b q1))), .second, .unset, .unset] [(.int (33 : Int32)), (.long (F2 v2 (own_b q1))), (.long (F2 v2 (own_b q1)))])) _
    refine XS.lushr X212.here hx rfl (hb hby at_266) rfl ?_
    show Steps p.tables e below (T212.setTop (mkF m 267 #[.val (.long q1), .second, .val (.int p2), .val (.int v2), .val (.ref b3), .val (.long v206), .second, .val (.long (F2 v2 (own_b q1))), .second, .unset, .unset] [(.long (((F2 v2 (own_b q1)).toUInt64 >>> ((33 : Int32) &&& 0x3f).toInt64.toUInt64).toInt64)), (.long (F2 v2 (own_b q1)))])) _
    refine XS.lxor X212.here hx rfl (hb hby at_267) rfl ?_
    exact kt
  obtain ⟨v214, hv214⟩ : ∃ zz9 : Int64, zz9 = ((F2 v2 (own_b q1)) ^^^ (((F2 v2 (own_b q1)).toUInt64 >>> ((33 : Int32) &&& 0x3f).toInt64.toUInt64).toInt64)) := ⟨_, rfl⟩
  rw [← hv214] at R213
  obtain ⟨_, _, ⟨T215, L215, k215, n215⟩, -, X215, ⟨Lc215, hQ215, l215, y215, z215⟩, st215⟩ := Jvm.LawKit.callS X212 hx (y := (⟨"com/example/relicary/relicary/siard/ContainerHashPinLaw", "inverse", "(J)J"⟩ : MethodName)) hown (mvT hZ (hw _ (List.mem_of_getElem? (i := 18) rfl))) (mvT hZ (hw _ (List.mem_of_getElem? (i := 19) rfl))) (mvT hZ (hw _ (List.mem_of_getElem? (i := 5) rfl))) (mvT hZ (hw _ (List.mem_of_getElem? (i := 20) rfl))) (by decide) (backOf (W := 2) (rm3 l Z a0 hw [] (-4265267296055464877 : Int64) h117 n0 (Nat.le_trans Z0 KK121.1)) hZ (hw _ (List.mem_of_getElem? (i := 20) rfl)) (hw _ (List.mem_of_getElem? (i := 5) rfl)) (by decide) (by decide)) (g := (mkF m 275 #[.val (.long q1), .second, .val (.int p2), .val (.int v2), .val (.ref b3), .val (.long v206), .second, .val (.long (F2 v2 (own_b q1))), .second, .val (.long v214), .second] [(.long (-4265267296055464877 : Int64)), (.long v214)])) rfl (by rw [hml]; rfl) (argsL := [(.long (-4265267296055464877 : Int64))]) (rest := [(.long v214)]) (lenOf pd_0_3 rfl) rfl (by show 2 * 0 + _ ≤ _; exact Nat.le_of_eq rfl) (hb hby at_275) (fun _ _ => ⟨rfl, e212, (by decide : 1 + 0 ≤ _), (by decide : 8 + 0 ≤ _)⟩)
  dsimp only [Pt.U, Pt.locs, Pt.cells, Pt.slots] at X215 l215 y215 z215 st215 hQ215
  subst l215 y215 z215
  obtain ⟨rfl, rfl, e215⟩ := hQ215
  rw [List.append_nil] at X215
  replace X215 : Stand p l e room_1 s m #[(.long q1), (.int p2)] below meth c T215 L118 1 8 := X215
  have R216 : ∀ t, Steps p.tables e below (T215.setTop (mkF m 279 #[.val (.long q1), .second, .val (.int p2), .val (.int v2), .val (.ref b3), .val (.long v206), .second, .val (.long (F2 v2 (own_b q1))), .second, .val (.long v214), .second] [(.long (v214 * (F3 (-4265267296055464877 : Int64))))])) t → Steps p.tables e below (s₁.setTop (entryFrame m #[(.long q1), (.int p2)] maxLocals)) t := by
    intro t kt
    refine R213 _ ?_
    show Steps p.tables e below (T212.setTop (mkF m 268 #[.val (.long q1), .second, .val (.int p2), .val (.int v2), .val (.ref b3), .val (.long v206), .second, .val (.long (F2 v2 (own_b q1))), .second, .unset, .unset] [(.long v214)])) _
    refine XS.lstore X212.here hx rfl (hb hby at_268) rfl (l' := #[.val (.long q1), .second, .val (.int p2), .val (.int v2), .val (.ref b3), .val (.long v206), .second, .val (.long (F2 v2 (own_b q1))), .second, .val (.long v214), .second]) rfl ?_
    show Steps p.tables e below (T212.setTop (mkF m 270 #[.val (.long q1), .second, .val (.int p2), .val (.int v2), .val (.ref b3), .val (.long v206), .second, .val (.long (F2 v2 (own_b q1))), .second, .val (.long v214), .second] [])) _
    refine XS.lload X212.here hx rfl (hb hby at_270) rfl ?_
    show Steps p.tables e below (T212.setTop (mkF m 272 #[.val (.long q1), .second, .val (.int p2), .val (.int v2), .val (.ref b3), .val (.long v206), .second, .val (.long (F2 v2 (own_b q1))), .second, .val (.long v214), .second] [(.long v214)])) _
    refine X212.ldc2Long hx hown (mvT hZ (hw _ (List.mem_of_getElem? (i := 17) rfl))) (g := (mkF m 272 #[.val (.long q1), .second, .val (.int p2), .val (.int v2), .val (.ref b3), .val (.long v206), .second, .val (.long (F2 v2 (own_b q1))), .second, .val (.long v214), .second] [(.long v214)])) rfl (hb hby at_272) _ ?_
    show Steps p.tables e below (T212.setTop (mkF m 275 #[.val (.long q1), .second, .val (.int p2), .val (.int v2), .val (.ref b3), .val (.long v206), .second, .val (.long (F2 v2 (own_b q1))), .second, .val (.long v214), .second] [(.long (-4265267296055464877 : Int64)), (.long v214)])) _
    refine st215 _ ?_
    show Steps p.tables e below (T215.setTop (mkF m 278 #[.val (.long q1), .second, .val (.int p2), .val (.int v2), .val (.ref b3), .val (.long v206), .second, .val (.long (F2 v2 (own_b q1))), .second, .val (.long v214), .second] [(.long (F3 (-4265267296055464877 : Int64))), (.long v214)])) _
    refine XS.lmul X215.here hx rfl (hb hby at_278) rfl ?_
    exact kt
  obtain ⟨v217, hv217⟩ : ∃ zz9 : Int64, zz9 = (v214 * (F3 (-4265267296055464877 : Int64))) := ⟨_, rfl⟩
  rw [← hv217] at R216
  have R218 : ∀ t, Steps p.tables e below (T215.setTop (mkF m 289 #[.val (.long q1), .second, .val (.int p2), .val (.int v2), .val (.ref b3), .val (.long v206), .second, .val (.long (F2 v2 (own_b q1))), .second, .val (.long v217), .second] [(.long (v217 ^^^ ((v217.toUInt64 >>> ((33 : Int32) &&& 0x3f).toInt64.toUInt64).toInt64)))])) t → Steps p.tables e below (s₁.setTop (entryFrame m #[(.long q1), (.int p2)] maxLocals)) t := by
    intro t kt
    refine R216 _ ?_
    show Steps p.tables e below (T215.setTop (mkF m 279 #[.val (.long q1), .second, .val (.int p2), .val (.int v2), .val (.ref b3), .val (.long v206), .second, .val (.long (F2 v2 (own_b q1))), .second, .val (.long v214), .second] [(.long v217)])) _
    refine XS.lstore X215.here hx rfl (hb hby at_279) rfl (l' := #[.val (.long q1), .second, .val (.int p2), .val (.int v2), .val (.ref b3), .val (.long v206), .second, .val (.long (F2 v2 (own_b q1))), .second, .val (.long v217), .second]) rfl ?_
    show Steps p.tables e below (T215.setTop (mkF m 281 #[.val (.long q1), .second, .val (.int p2), .val (.int v2), .val (.ref b3), .val (.long v206), .second, .val (.long (F2 v2 (own_b q1))), .second, .val (.long v217), .second] [])) _
    refine XS.lload X215.here hx rfl (hb hby at_281) rfl ?_
    show Steps p.tables e below (T215.setTop (mkF m 283 #[.val (.long q1), .second, .val (.int p2), .val (.int v2), .val (.ref b3), .val (.long v206), .second, .val (.long (F2 v2 (own_b q1))), .second, .val (.long v217), .second] [(.long v217)])) _
    refine XS.lload X215.here hx rfl (hb hby at_283) rfl ?_
    show Steps p.tables e below (T215.setTop (mkF m 285 #[.val (.long q1), .second, .val (.int p2), .val (.int v2), .val (.ref b3), .val (.long v206), .second, .val (.long (F2 v2 (own_b q1))), .second, .val (.long v217), .second] [(.long v217), (.long v217)])) _
    refine XS.bipush X215.here hx rfl (hb hby at_285) ?_
    show Steps p.tables e below (T215.setTop (mkF m 287 #[.val (.long q1), .second, .val (.int p2), .val (.int v2), .val (.ref b3), .val (.long v206), .second, .val (.long (F2 v2 (own_b q1))), .second, .val (.long v217), .second] [(.int (33 : Int32)), (.long v217), (.long v217)])) _
    refine XS.lushr X215.here hx rfl (hb hby at_287) rfl ?_
    show Steps p.tables e below (T215.setTop (mkF m 288 #[.val (.long q1), .second, .val (.int p2), .val (.int v2), .val (.ref b3), .val (.long v206), .second, .val (.long (F2 v2 (own_b q1))), .second, .val (.long v217), .second] [(.long ((v217.toUInt64 >>> ((33 : Int32) &&& 0x3f).toInt64.toUInt64).toInt64)), (.long v217)])) _
    refine XS.lxor X215.here hx rfl (hb hby at_288) rfl ?_
    exact kt
  obtain ⟨v219, hv219⟩ : ∃ zz9 : Int64, zz9 = (v217 ^^^ ((v217.toUInt64 >>> ((33 : Int32) &&& 0x3f).toInt64.toUInt64).toInt64)) := ⟨_, rfl⟩
  rw [← hv219] at R218
  obtain ⟨_, _, ⟨T220, L220, k220, n220⟩, -, X220, ⟨Lc220, hQ220, l220, y220, z220⟩, st220⟩ := Jvm.LawKit.callS X215 hx (y := (⟨"com/example/relicary/relicary/siard/ContainerHashPinLaw", "inverse", "(J)J"⟩ : MethodName)) hown (mvT hZ (hw _ (List.mem_of_getElem? (i := 18) rfl))) (mvT hZ (hw _ (List.mem_of_getElem? (i := 19) rfl))) (mvT hZ (hw _ (List.mem_of_getElem? (i := 5) rfl))) (mvT hZ (hw _ (List.mem_of_getElem? (i := 20) rfl))) (by decide) (backOf (W := 2) (rm3 l Z a0 hw [] (-49064778989728563 : Int64) h117 n0 (Nat.le_trans Z0 KK121.1)) hZ (hw _ (List.mem_of_getElem? (i := 20) rfl)) (hw _ (List.mem_of_getElem? (i := 5) rfl)) (by decide) (by decide)) (g := (mkF m 296 #[.val (.long q1), .second, .val (.int p2), .val (.int v2), .val (.ref b3), .val (.long v206), .second, .val (.long (F2 v2 (own_b q1))), .second, .val (.long v219), .second] [(.long (-49064778989728563 : Int64)), (.long v219)])) rfl (by rw [hml]; rfl) (argsL := [(.long (-49064778989728563 : Int64))]) (rest := [(.long v219)]) (lenOf pd_0_3 rfl) rfl (by show 2 * 0 + _ ≤ _; exact Nat.le_of_eq rfl) (hb hby at_296) (fun _ _ => ⟨rfl, e215, (by decide : 1 + 0 ≤ _), (by decide : 8 + 0 ≤ _)⟩)
  dsimp only [Pt.U, Pt.locs, Pt.cells, Pt.slots] at X220 l220 y220 z220 st220 hQ220
  subst l220 y220 z220
  obtain ⟨rfl, rfl, e220⟩ := hQ220
  rw [List.append_nil] at X220
  replace X220 : Stand p l e room_1 s m #[(.long q1), (.int p2)] below meth c T220 L118 1 8 := X220
  have R221 : ∀ t, Steps p.tables e below (T220.setTop (mkF m 300 #[.val (.long q1), .second, .val (.int p2), .val (.int v2), .val (.ref b3), .val (.long v206), .second, .val (.long (F2 v2 (own_b q1))), .second, .val (.long v219), .second] [(.long (v219 * (F3 (-49064778989728563 : Int64))))])) t → Steps p.tables e below (s₁.setTop (entryFrame m #[(.long q1), (.int p2)] maxLocals)) t := by
    intro t kt
    refine R218 _ ?_
    show Steps p.tables e below (T215.setTop (mkF m 289 #[.val (.long q1), .second, .val (.int p2), .val (.int v2), .val (.ref b3), .val (.long v206), .second, .val (.long (F2 v2 (own_b q1))), .second, .val (.long v217), .second] [(.long v219)])) _
    refine XS.lstore X215.here hx rfl (hb hby at_289) rfl (l' := #[.val (.long q1), .second, .val (.int p2), .val (.int v2), .val (.ref b3), .val (.long v206), .second, .val (.long (F2 v2 (own_b q1))), .second, .val (.long v219), .second]) rfl ?_
    show Steps p.tables e below (T215.setTop (mkF m 291 #[.val (.long q1), .second, .val (.int p2), .val (.int v2), .val (.ref b3), .val (.long v206), .second, .val (.long (F2 v2 (own_b q1))), .second, .val (.long v219), .second] [])) _
    refine XS.lload X215.here hx rfl (hb hby at_291) rfl ?_
    show Steps p.tables e below (T215.setTop (mkF m 293 #[.val (.long q1), .second, .val (.int p2), .val (.int v2), .val (.ref b3), .val (.long v206), .second, .val (.long (F2 v2 (own_b q1))), .second, .val (.long v219), .second] [(.long v219)])) _
    refine X215.ldc2Long hx hown (mvT hZ (hw _ (List.mem_of_getElem? (i := 22) rfl))) (g := (mkF m 293 #[.val (.long q1), .second, .val (.int p2), .val (.int v2), .val (.ref b3), .val (.long v206), .second, .val (.long (F2 v2 (own_b q1))), .second, .val (.long v219), .second] [(.long v219)])) rfl (hb hby at_293) _ ?_
    show Steps p.tables e below (T215.setTop (mkF m 296 #[.val (.long q1), .second, .val (.int p2), .val (.int v2), .val (.ref b3), .val (.long v206), .second, .val (.long (F2 v2 (own_b q1))), .second, .val (.long v219), .second] [(.long (-49064778989728563 : Int64)), (.long v219)])) _
    refine st220 _ ?_
    show Steps p.tables e below (T220.setTop (mkF m 299 #[.val (.long q1), .second, .val (.int p2), .val (.int v2), .val (.ref b3), .val (.long v206), .second, .val (.long (F2 v2 (own_b q1))), .second, .val (.long v219), .second] [(.long (F3 (-49064778989728563 : Int64))), (.long v219)])) _
    refine XS.lmul X220.here hx rfl (hb hby at_299) rfl ?_
    exact kt
  obtain ⟨v222, hv222⟩ : ∃ zz9 : Int64, zz9 = (v219 * (F3 (-49064778989728563 : Int64))) := ⟨_, rfl⟩
  rw [← hv222] at R221
  have R223 : ∀ t, Steps p.tables e below (T220.setTop (mkF m 310 #[.val (.long q1), .second, .val (.int p2), .val (.int v2), .val (.ref b3), .val (.long v206), .second, .val (.long (F2 v2 (own_b q1))), .second, .val (.long v222), .second] [(.long (v222 ^^^ ((v222.toUInt64 >>> ((33 : Int32) &&& 0x3f).toInt64.toUInt64).toInt64)))])) t → Steps p.tables e below (s₁.setTop (entryFrame m #[(.long q1), (.int p2)] maxLocals)) t := by
    intro t kt
    refine R221 _ ?_
    show Steps p.tables e below (T220.setTop (mkF m 300 #[.val (.long q1), .second, .val (.int p2), .val (.int v2), .val (.ref b3), .val (.long v206), .second, .val (.long (F2 v2 (own_b q1))), .second, .val (.long v219), .second] [(.long v222)])) _
    refine XS.lstore X220.here hx rfl (hb hby at_300) rfl (l' := #[.val (.long q1), .second, .val (.int p2), .val (.int v2), .val (.ref b3), .val (.long v206), .second, .val (.long (F2 v2 (own_b q1))), .second, .val (.long v222), .second]) rfl ?_
    show Steps p.tables e below (T220.setTop (mkF m 302 #[.val (.long q1), .second, .val (.int p2), .val (.int v2), .val (.ref b3), .val (.long v206), .second, .val (.long (F2 v2 (own_b q1))), .second, .val (.long v222), .second] [])) _
    refine XS.lload X220.here hx rfl (hb hby at_302) rfl ?_
    show Steps p.tables e below (T220.setTop (mkF m 304 #[.val (.long q1), .second, .val (.int p2), .val (.int v2), .val (.ref b3), .val (.long v206), .second, .val (.long (F2 v2 (own_b q1))), .second, .val (.long v222), .second] [(.long v222)])) _
    refine XS.lload X220.here hx rfl (hb hby at_304) rfl ?_
    show Steps p.tables e below (T220.setTop (mkF m 306 #[.val (.long q1), .second, .val (.int p2), .val (.int v2), .val (.ref b3), .val (.long v206), .second, .val (.long (F2 v2 (own_b q1))), .second, .val (.long v222), .second] [(.long v222), (.long v222)])) _
    refine XS.bipush X220.here hx rfl (hb hby at_306) ?_
    show Steps p.tables e below (T220.setTop (mkF m 308 #[.val (.long q1), .second, .val (.int p2), .val (.int v2), .val (.ref b3), .val (.long v206), .second, .val (.long (F2 v2 (own_b q1))), .second, .val (.long v222), .second] [(.int (33 : Int32)), (.long v222), (.long v222)])) _
    refine XS.lushr X220.here hx rfl (hb hby at_308) rfl ?_
    show Steps p.tables e below (T220.setTop (mkF m 309 #[.val (.long q1), .second, .val (.int p2), .val (.int v2), .val (.ref b3), .val (.long v206), .second, .val (.long (F2 v2 (own_b q1))), .second, .val (.long v222), .second] [(.long ((v222.toUInt64 >>> ((33 : Int32) &&& 0x3f).toInt64.toUInt64).toInt64)), (.long v222)])) _
    refine XS.lxor X220.here hx rfl (hb hby at_309) rfl ?_
    exact kt
  obtain ⟨v224, hv224⟩ : ∃ zz9 : Int64, zz9 = (v222 ^^^ ((v222.toUInt64 >>> ((33 : Int32) &&& 0x3f).toInt64.toUInt64).toInt64)) := ⟨_, rfl⟩
  rw [← hv224] at R223
  have R226 : ∀ t, Steps p.tables e below (T220.setTop (mkF m 317 #[.val (.long q1), .second, .val (.int p2), .val (.int v2), .val (.ref b3), .val (.long v206), .second, .val (.long (F2 v2 (own_b q1))), .second, .val (.long v224), .second] [(.int (lcmpW v224 v206))])) t → Steps p.tables e below (s₁.setTop (entryFrame m #[(.long q1), (.int p2)] maxLocals)) t := by
    intro t kt
    refine R223 _ ?_
    show Steps p.tables e below (T220.setTop (mkF m 310 #[.val (.long q1), .second, .val (.int p2), .val (.int v2), .val (.ref b3), .val (.long v206), .second, .val (.long (F2 v2 (own_b q1))), .second, .val (.long v222), .second] [(.long v224)])) _
    refine XS.lstore X220.here hx rfl (hb hby at_310) rfl (l' := #[.val (.long q1), .second, .val (.int p2), .val (.int v2), .val (.ref b3), .val (.long v206), .second, .val (.long (F2 v2 (own_b q1))), .second, .val (.long v224), .second]) rfl ?_
    show Steps p.tables e below (T220.setTop (mkF m 312 #[.val (.long q1), .second, .val (.int p2), .val (.int v2), .val (.ref b3), .val (.long v206), .second, .val (.long (F2 v2 (own_b q1))), .second, .val (.long v224), .second] [])) _
    refine XS.lload X220.here hx rfl (hb hby at_312) rfl ?_
    show Steps p.tables e below (T220.setTop (mkF m 314 #[.val (.long q1), .second, .val (.int p2), .val (.int v2), .val (.ref b3), .val (.long v206), .second, .val (.long (F2 v2 (own_b q1))), .second, .val (.long v224), .second] [(.long v224)])) _
    refine XS.lload X220.here hx rfl (hb hby at_314) rfl ?_
    show Steps p.tables e below (T220.setTop (mkF m 316 #[.val (.long q1), .second, .val (.int p2), .val (.int v2), .val (.ref b3), .val (.long v206), .second, .val (.long (F2 v2 (own_b q1))), .second, .val (.long v224), .second] [(.long v206), (.long v224)])) _
    refine XS.lcmp X220.here hx rfl (hb hby at_316) rfl ?_
    exact kt
  have J231 : ∃ (v229 : Int32), v229 = (if v224 = v206 then (1 : Int32) else (0 : Int32)) ∧ ∀ t, Steps p.tables e below (T220.setTop (mkF m 325 #[.val (.long q1), .second, .val (.int p2), .val (.int v2), .val (.ref b3), .val (.long v206), .second, .val (.long (F2 v2 (own_b q1))), .second, .val (.long v224), .second] [(.int v229)])) t → Steps p.tables e below (s₁.setTop (entryFrame m #[(.long q1), (.int p2)] maxLocals)) t := by
    by_cases hc225 : v224 = v206
    · have R227 : ∀ t, Steps p.tables e below (T220.setTop (mkF m 325 #[.val (.long q1), .second, .val (.int p2), .val (.int v2), .val (.ref b3), .val (.long v206), .second, .val (.long (F2 v2 (own_b q1))), .second, .val (.long v224), .second] [(.int (1 : Int32))])) t → Steps p.tables e below (s₁.setTop (entryFrame m #[(.long q1), (.int p2)] maxLocals)) t := by
        intro t kt
        refine R226 _ ?_
        show Steps p.tables e below (T220.setTop (mkF m 317 #[.val (.long q1), .second, .val (.int p2), .val (.int v2), .val (.ref b3), .val (.long v206), .second, .val (.long (F2 v2 (own_b q1))), .second, .val (.long v224), .second] [(.int (lcmpW v224 v206))])) _
        refine XS.ifNo X220.here hx rfl (hb hby at_317) rfl ((if0 _ _).trans (teq ((lw_eq _ _).mpr hc225)).2) ?_
        show Steps p.tables e below (T220.setTop (mkF m 320 #[.val (.long q1), .second, .val (.int p2), .val (.int v2), .val (.ref b3), .val (.long v206), .second, .val (.long (F2 v2 (own_b q1))), .second, .val (.long v224), .second] [])) _
        refine XS.iconst X220.here hx rfl (hb hby at_320) ?_
        show Steps p.tables e below (T220.setTop (mkF m 321 #[.val (.long q1), .second, .val (.int p2), .val (.int v2), .val (.ref b3), .val (.long v206), .second, .val (.long (F2 v2 (own_b q1))), .second, .val (.long v224), .second] [(.int (1 : Int32))])) _
        refine XS.goto X220.here hx rfl (pc0 := 321) (pc' := 325) rfl (hb hby at_321) (by decide) (by decide) ?_
        exact kt
      exact ⟨(1 : Int32), (by rw [if_pos hc225]), R227⟩
    · have R228 : ∀ t, Steps p.tables e below (T220.setTop (mkF m 325 #[.val (.long q1), .second, .val (.int p2), .val (.int v2), .val (.ref b3), .val (.long v206), .second, .val (.long (F2 v2 (own_b q1))), .second, .val (.long v224), .second] [(.int (0 : Int32))])) t → Steps p.tables e below (s₁.setTop (entryFrame m #[(.long q1), (.int p2)] maxLocals)) t := by
        intro t kt
        refine R226 _ ?_
        show Steps p.tables e below (T220.setTop (mkF m 317 #[.val (.long q1), .second, .val (.int p2), .val (.int v2), .val (.ref b3), .val (.long v206), .second, .val (.long (F2 v2 (own_b q1))), .second, .val (.long v224), .second] [(.int (lcmpW v224 v206))])) _
        refine XS.ifYes X220.here hx rfl (pc0 := 317) (pc' := 324) rfl (hb hby at_317) rfl ((if0 _ _).trans (feq (fun q => hc225 ((lw_eq _ _).mp q))).2) (by decide) (by decide) ?_
        show Steps p.tables e below (T220.setTop (mkF m 324 #[.val (.long q1), .second, .val (.int p2), .val (.int v2), .val (.ref b3), .val (.long v206), .second, .val (.long (F2 v2 (own_b q1))), .second, .val (.long v224), .second] [])) _
        refine XS.iconst X220.here hx rfl (hb hby at_324) ?_
        exact kt
      exact ⟨(0 : Int32), (by rw [if_neg hc225]), R228⟩
  obtain ⟨v229, hv229, R230⟩ := J231
  obtain ⟨fs, hr, hrun, hended, hW, hsame⟩ := X220.leave (v := some (.int (nar .boolean v229))) (fun h => by rw [Bd.returns] at h; cases h)
  refine ⟨_, _, R230 _ ?_, hrun, hended, _, _, rfl, ?_, ⟨_, rfl⟩, hW, hsame.mono (by decide) (by decide)⟩
  · show Steps p.tables e below (T220.setTop (mkF m 325 #[.val (.long q1), .second, .val (.int p2), .val (.int v2), .val (.ref b3), .val (.long v206), .second, .val (.long (F2 v2 (own_b q1))), .second, .val (.long v224), .second] [(.int v229)])) _
    exact retN X220 hx (t := .boolean) Bd.returns (by simp) (hb hby at_325) hr
  · show Q0 Z q1 p2 h0 n0 _ T220.heap _
    rw [e220]
    refine ⟨?_, N122⟩
    subst hv2 hv129 hv140 hv151 hv162 hv173 hv184 hv195 hv206 hv214 hv217 hv219 hv222 hv224 hv229; rfl
theorem own_enum (c : Int32) (lo : Int) (n : Nat) (h1 : lo ≤ c.toInt) (h2 : c.toInt < lo + n) : ∃ k : Fin n, c = Int32.ofInt (lo + k.val) :=
  ⟨⟨(c.toInt - lo).toNat, by omega⟩, by
    show c = Int32.ofInt (lo + ((c.toInt - lo).toNat : Int))
    rw [show lo + ((c.toInt - lo).toNat : Int) = c.toInt by omega, Int32.ofInt_toInt]⟩
theorem own_byte (x : Int64) : (((x.toInt32.toInt8.toInt32) &&& (255 : Int32)).toInt64) = (x &&& (255 : Int64)) := by
  apply Int64.toInt_inj.mp
  have a := c_mask (x.toInt32.toInt8.toInt32) 255 8 (by decide) (by decide)
  have b := c_maskL x 255 8 (by decide) (by decide)
  have c := c_i2b x.toInt32
  have d := c_l2i x
  rw [c_i2l, a, b]
  rw [show ((2 ^ 8 : Nat) : Int) = 256 from rfl]
  omega
theorem own_sh0 (q : Int64) : ((q.toUInt64 >>> (((8 : Int32) * (0 : Int32)) &&& 0x3f).toInt64.toUInt64).toInt64) = q := by
  rw [show (((8 : Int32) * (0 : Int32)) &&& 0x3f).toInt64.toUInt64 = 0 from by decide]
  simp
theorem own_step0 (v q : Int64) : F1 v q (0 : Int32) = (v ^^^ ((own_b q 0 &&& (255 : Int32)).toInt64)) * (1099511628211 : Int64) := by
  show (v ^^^ (((q.toUInt64 >>> (((8 : Int32) * (0 : Int32)) &&& 0x3f).toInt64.toUInt64).toInt64) &&& (255 : Int64))) * (1099511628211 : Int64) = _
  rw [own_sh0, ← own_byte]; rfl
theorem own_step1 (v q : Int64) : F1 v q (1 : Int32) = (v ^^^ ((own_b q 1 &&& (255 : Int32)).toInt64)) * (1099511628211 : Int64) := by
  show (v ^^^ (((q.toUInt64 >>> ((8 : Int32) &&& 0x3f).toInt64.toUInt64).toInt64) &&& (255 : Int64))) * (1099511628211 : Int64) = _
  rw [← own_byte]; rfl
theorem own_step2 (v q : Int64) : F1 v q (2 : Int32) = (v ^^^ ((own_b q 2 &&& (255 : Int32)).toInt64)) * (1099511628211 : Int64) := by
  show (v ^^^ (((q.toUInt64 >>> ((16 : Int32) &&& 0x3f).toInt64.toUInt64).toInt64) &&& (255 : Int64))) * (1099511628211 : Int64) = _
  rw [← own_byte]; rfl
theorem own_step3 (v q : Int64) : F1 v q (3 : Int32) = (v ^^^ ((own_b q 3 &&& (255 : Int32)).toInt64)) * (1099511628211 : Int64) := by
  show (v ^^^ (((q.toUInt64 >>> ((24 : Int32) &&& 0x3f).toInt64.toUInt64).toInt64) &&& (255 : Int64))) * (1099511628211 : Int64) = _
  rw [← own_byte]; rfl
theorem own_step4 (v q : Int64) : F1 v q (4 : Int32) = (v ^^^ ((own_b q 4 &&& (255 : Int32)).toInt64)) * (1099511628211 : Int64) := by
  show (v ^^^ (((q.toUInt64 >>> ((32 : Int32) &&& 0x3f).toInt64.toUInt64).toInt64) &&& (255 : Int64))) * (1099511628211 : Int64) = _
  rw [← own_byte]; rfl
theorem own_step5 (v q : Int64) : F1 v q (5 : Int32) = (v ^^^ ((own_b q 5 &&& (255 : Int32)).toInt64)) * (1099511628211 : Int64) := by
  show (v ^^^ (((q.toUInt64 >>> ((40 : Int32) &&& 0x3f).toInt64.toUInt64).toInt64) &&& (255 : Int64))) * (1099511628211 : Int64) = _
  rw [← own_byte]; rfl
theorem own_step6 (v q : Int64) : F1 v q (6 : Int32) = (v ^^^ ((own_b q 6 &&& (255 : Int32)).toInt64)) * (1099511628211 : Int64) := by
  show (v ^^^ (((q.toUInt64 >>> ((48 : Int32) &&& 0x3f).toInt64.toUInt64).toInt64) &&& (255 : Int64))) * (1099511628211 : Int64) = _
  rw [← own_byte]; rfl
theorem own_step7 (v q : Int64) : F1 v q (7 : Int32) = (v ^^^ ((own_b q 7 &&& (255 : Int32)).toInt64)) * (1099511628211 : Int64) := by
  show (v ^^^ (((q.toUInt64 >>> ((56 : Int32) &&& 0x3f).toInt64.toUInt64).toInt64) &&& (255 : Int64))) * (1099511628211 : Int64) = _
  rw [← own_byte]; rfl
def own_C (v : Int32) (q1 : Int64) : Int64 :=
  let c0 : Int64 := (if (0 : Int32) < v then (F1 (-3750763034362895579 : Int64) q1 (0 : Int32)) else (-3750763034362895579 : Int64))
  let c1 : Int64 := (if (1 : Int32) < v then (F1 c0 q1 (1 : Int32)) else c0)
  let c2 : Int64 := (if (2 : Int32) < v then (F1 c1 q1 (2 : Int32)) else c1)
  let c3 : Int64 := (if (3 : Int32) < v then (F1 c2 q1 (3 : Int32)) else c2)
  let c4 : Int64 := (if (4 : Int32) < v then (F1 c3 q1 (4 : Int32)) else c3)
  let c5 : Int64 := (if (5 : Int32) < v then (F1 c4 q1 (5 : Int32)) else c4)
  let c6 : Int64 := (if (6 : Int32) < v then (F1 c5 q1 (6 : Int32)) else c5)
  let c7 : Int64 := (if (7 : Int32) < v then (F1 c6 q1 (7 : Int32)) else c6)
  c7
theorem own_C0 (q : Int64) : own_C (0 : Int32) q = own_h (own_b q) 0 := by
  simp only [own_C, if_neg (show ¬ (0 : Int32) < (0 : Int32) from by decide), if_neg (show ¬ (1 : Int32) < (0 : Int32) from by decide), if_neg (show ¬ (2 : Int32) < (0 : Int32) from by decide), if_neg (show ¬ (3 : Int32) < (0 : Int32) from by decide), if_neg (show ¬ (4 : Int32) < (0 : Int32) from by decide), if_neg (show ¬ (5 : Int32) < (0 : Int32) from by decide), if_neg (show ¬ (6 : Int32) < (0 : Int32) from by decide), if_neg (show ¬ (7 : Int32) < (0 : Int32) from by decide)]
  rfl
theorem own_C1 (q : Int64) : own_C (1 : Int32) q = own_h (own_b q) 1 := by
  simp only [own_C, if_pos (show (0 : Int32) < (1 : Int32) from by decide), if_neg (show ¬ (1 : Int32) < (1 : Int32) from by decide), if_neg (show ¬ (2 : Int32) < (1 : Int32) from by decide), if_neg (show ¬ (3 : Int32) < (1 : Int32) from by decide), if_neg (show ¬ (4 : Int32) < (1 : Int32) from by decide), if_neg (show ¬ (5 : Int32) < (1 : Int32) from by decide), if_neg (show ¬ (6 : Int32) < (1 : Int32) from by decide), if_neg (show ¬ (7 : Int32) < (1 : Int32) from by decide), own_step0]
  rfl
theorem own_C2 (q : Int64) : own_C (2 : Int32) q = own_h (own_b q) 2 := by
  simp only [own_C, if_pos (show (0 : Int32) < (2 : Int32) from by decide), if_pos (show (1 : Int32) < (2 : Int32) from by decide), if_neg (show ¬ (2 : Int32) < (2 : Int32) from by decide), if_neg (show ¬ (3 : Int32) < (2 : Int32) from by decide), if_neg (show ¬ (4 : Int32) < (2 : Int32) from by decide), if_neg (show ¬ (5 : Int32) < (2 : Int32) from by decide), if_neg (show ¬ (6 : Int32) < (2 : Int32) from by decide), if_neg (show ¬ (7 : Int32) < (2 : Int32) from by decide), own_step0, own_step1]
  rfl
theorem own_C3 (q : Int64) : own_C (3 : Int32) q = own_h (own_b q) 3 := by
  simp only [own_C, if_pos (show (0 : Int32) < (3 : Int32) from by decide), if_pos (show (1 : Int32) < (3 : Int32) from by decide), if_pos (show (2 : Int32) < (3 : Int32) from by decide), if_neg (show ¬ (3 : Int32) < (3 : Int32) from by decide), if_neg (show ¬ (4 : Int32) < (3 : Int32) from by decide), if_neg (show ¬ (5 : Int32) < (3 : Int32) from by decide), if_neg (show ¬ (6 : Int32) < (3 : Int32) from by decide), if_neg (show ¬ (7 : Int32) < (3 : Int32) from by decide), own_step0, own_step1, own_step2]
  rfl
theorem own_C4 (q : Int64) : own_C (4 : Int32) q = own_h (own_b q) 4 := by
  simp only [own_C, if_pos (show (0 : Int32) < (4 : Int32) from by decide), if_pos (show (1 : Int32) < (4 : Int32) from by decide), if_pos (show (2 : Int32) < (4 : Int32) from by decide), if_pos (show (3 : Int32) < (4 : Int32) from by decide), if_neg (show ¬ (4 : Int32) < (4 : Int32) from by decide), if_neg (show ¬ (5 : Int32) < (4 : Int32) from by decide), if_neg (show ¬ (6 : Int32) < (4 : Int32) from by decide), if_neg (show ¬ (7 : Int32) < (4 : Int32) from by decide), own_step0, own_step1, own_step2, own_step3]
  rfl
theorem own_C5 (q : Int64) : own_C (5 : Int32) q = own_h (own_b q) 5 := by
  simp only [own_C, if_pos (show (0 : Int32) < (5 : Int32) from by decide), if_pos (show (1 : Int32) < (5 : Int32) from by decide), if_pos (show (2 : Int32) < (5 : Int32) from by decide), if_pos (show (3 : Int32) < (5 : Int32) from by decide), if_pos (show (4 : Int32) < (5 : Int32) from by decide), if_neg (show ¬ (5 : Int32) < (5 : Int32) from by decide), if_neg (show ¬ (6 : Int32) < (5 : Int32) from by decide), if_neg (show ¬ (7 : Int32) < (5 : Int32) from by decide), own_step0, own_step1, own_step2, own_step3, own_step4]
  rfl
theorem own_C6 (q : Int64) : own_C (6 : Int32) q = own_h (own_b q) 6 := by
  simp only [own_C, if_pos (show (0 : Int32) < (6 : Int32) from by decide), if_pos (show (1 : Int32) < (6 : Int32) from by decide), if_pos (show (2 : Int32) < (6 : Int32) from by decide), if_pos (show (3 : Int32) < (6 : Int32) from by decide), if_pos (show (4 : Int32) < (6 : Int32) from by decide), if_pos (show (5 : Int32) < (6 : Int32) from by decide), if_neg (show ¬ (6 : Int32) < (6 : Int32) from by decide), if_neg (show ¬ (7 : Int32) < (6 : Int32) from by decide), own_step0, own_step1, own_step2, own_step3, own_step4, own_step5]
  rfl
theorem own_C7 (q : Int64) : own_C (7 : Int32) q = own_h (own_b q) 7 := by
  simp only [own_C, if_pos (show (0 : Int32) < (7 : Int32) from by decide), if_pos (show (1 : Int32) < (7 : Int32) from by decide), if_pos (show (2 : Int32) < (7 : Int32) from by decide), if_pos (show (3 : Int32) < (7 : Int32) from by decide), if_pos (show (4 : Int32) < (7 : Int32) from by decide), if_pos (show (5 : Int32) < (7 : Int32) from by decide), if_pos (show (6 : Int32) < (7 : Int32) from by decide), if_neg (show ¬ (7 : Int32) < (7 : Int32) from by decide), own_step0, own_step1, own_step2, own_step3, own_step4, own_step5, own_step6]
  rfl
theorem own_C8 (q : Int64) : own_C (8 : Int32) q = own_h (own_b q) 8 := by
  simp only [own_C, if_pos (show (0 : Int32) < (8 : Int32) from by decide), if_pos (show (1 : Int32) < (8 : Int32) from by decide), if_pos (show (2 : Int32) < (8 : Int32) from by decide), if_pos (show (3 : Int32) < (8 : Int32) from by decide), if_pos (show (4 : Int32) < (8 : Int32) from by decide), if_pos (show (5 : Int32) < (8 : Int32) from by decide), if_pos (show (6 : Int32) < (8 : Int32) from by decide), if_pos (show (7 : Int32) < (8 : Int32) from by decide), own_step0, own_step1, own_step2, own_step3, own_step4, own_step5, own_step6, own_step7]
  rfl
theorem own_chain (v : Int32) (q : Int64) (h1 : 0 ≤ v.toInt) (h2 : v.toInt < 9) : own_C v q = own_h (own_b q) v.toNatClampNeg := by
  obtain ⟨k, rfl⟩ := own_enum v 0 9 (by omega) (by omega)
  match k with
  | ⟨0, _⟩ => exact own_C0 q
  | ⟨1, _⟩ => exact own_C1 q
  | ⟨2, _⟩ => exact own_C2 q
  | ⟨3, _⟩ => exact own_C3 q
  | ⟨4, _⟩ => exact own_C4 q
  | ⟨5, _⟩ => exact own_C5 q
  | ⟨6, _⟩ => exact own_C6 q
  | ⟨7, _⟩ => exact own_C7 q
  | ⟨8, _⟩ => exact own_C8 q
def own_x (x : Int64) : Int64 := (x ^^^ ((x.toUInt64 >>> ((33 : Int32) &&& 0x3f).toInt64.toUInt64).toInt64))
theorem own_xx (x : Int64) : own_x (own_x x) = x := by
  have e : ∀ y : Int64, (own_x y).toBitVec = y.toBitVec ^^^ (y.toBitVec >>> 33) := fun y => by
    unfold own_x
    rw [show ((33 : Int32) &&& 0x3f).toInt64.toUInt64 = (33 : UInt64) from by decide, Int64.toBitVec_xor]
    rfl
  rw [← Int64.toBitVec_inj, e, e]
  apply BitVec.eq_of_getLsbD_eq
  intro i hi
  simp only [BitVec.getLsbD_xor, BitVec.getLsbD_ushiftRight]
  have z : x.toBitVec.getLsbD (33 + (33 + i)) = false := BitVec.getLsbD_of_ge _ _ (by omega)
  rw [z]
  cases x.toBitVec.getLsbD i <;> cases x.toBitVec.getLsbD (33 + i) <;> rfl
theorem own_inv1 (x : Int64) : (x * (-49064778989728563 : Int64)) * F3 (-49064778989728563 : Int64) = x := by
  rw [Int64.mul_assoc, show (-49064778989728563 : Int64) * F3 (-49064778989728563 : Int64) = 1 from by decide +kernel, Int64.mul_one]
theorem own_inv2 (x : Int64) : (x * (-4265267296055464877 : Int64)) * F3 (-4265267296055464877 : Int64) = x := by
  rw [Int64.mul_assoc, show (-4265267296055464877 : Int64) * F3 (-4265267296055464877 : Int64) = 1 from by decide +kernel, Int64.mul_one]
theorem own_undo (x : Int64) : own_x ((own_x (own_x (own_x ((own_x ((own_x x) * (-49064778989728563 : Int64))) * (-4265267296055464877 : Int64))) * F3 (-4265267296055464877 : Int64))) * F3 (-49064778989728563 : Int64)) = x := by
  rw [own_xx, own_inv2, own_xx, own_inv1, own_xx]
theorem own_core (a b : Int64) (h : a = b) : nar .boolean (if a = b then (1 : Int32) else (0 : Int32)) = 1 := by rw [if_pos h]; rfl
theorem own_plain (q1 : Int64) (p2 : Int32) : F0 q1 p2 = 1 := by
  have r := own_rem (p := p2) rfl
  exact own_core _ _ ((own_undo (own_h (own_b q1) ((p2 &&& (2147483647 : Int32)) % (9 : Int32)).toNatClampNeg)).trans (own_chain _ q1 r.1 r.2).symm)
theorem own_fin {Z : State} (q1 : Int64) (p2 : Int32) (h0 : Heap) (n0 : Nat) (h : Heap) (L : List Loc) {v : Option Value} (q : Q0 Z q1 p2 h0 n0 v h L) : v = some (.int (1 : Int32)) ∧ Fr n0 L := by
  obtain ⟨rfl, N⟩ := q
  exact ⟨by rw [own_plain], N⟩
set_option maxRecDepth 65536 in
set_option maxHeartbeats 40000000 in
theorem comes_1 {Post : Tables → Env → Array Value → State → Outcome → State → Prop} (hpost : ∀ tb e args s v u, (limb_1_1.after args s (.returned v) u = true ∧ limb_1_2.after args s (.returned v) u = true ∧ True) → FrameEnd s (.returned v) u (Jvm.fieldLocs frame_1_writes args s ++ Jvm.arrayLocs frame_1_arrays args s ++ Jvm.staticLocs frame_1_statics s) 16 128 → Post tb e args s (.returned v) u) :
    ArmFor flags0 classFile x code maxLocals ret World_1 tables_1 room_1 Calls_1 rest_1 Pre_1 Post := by
  intro l hfl _ _ p e ha hc hk s m args below hf hA hF happ hP
  obtain ⟨hcalls, hrest, hpre⟩ := hP
  obtain ⟨-, -, -, hnamed, -, -, -, hat⟩ := (Spec.applies_iff hf).mp happ
  obtain ⟨hg, hn⟩ := and_e (Cond.before_iff.mp (show (Jvm.Cond.and given_1 narrow_1).before args s = true from hpre))
  obtain ⟨ga0, gb0⟩ := and_e hg
  obtain ⟨ga1, gb1⟩ := and_e gb0
  obtain ⟨w0, w1, rfl⟩ : ∃ w0 w1 : Value, args = #[w0, w1] := by
    have hs : args.size = 2 := by simpa [Cond.value, given_1] using ga0
    obtain ⟨L⟩ := args
    match L, hs with
    | [w0, w1], _ => exact ⟨w0, w1, rfl⟩
  have hw := fun d (hd : d ∈ tables_1) => atoms_spec (ws := Jvm.Cond.code x code maxLocals ret :: tables_1) hat d (List.mem_cons_of_mem _ hd)
  have hfit : Fit s := fun {y c} hc i hi => by
    obtain ⟨ha, rfl⟩ := Array.getElem?_eq_some_iff.mp hc
    have q := List.all_eq_true.mp ((Array.all_eq_true_iff_forall_mem.mp hF) _ (Array.getElem_mem ha)) i (List.mem_range.mpr hi)
    simpa [Array.getElem?_eq_getElem hi] using q
  obtain ⟨i0, ei0⟩ := isL_v ga1
  obtain rfl : w0 = (.long i0) := Option.some.inj ei0
  obtain ⟨i1, ei1⟩ := is_v gb1
  obtain rfl : w1 = (.int i1) := Option.some.inj ei1
  obtain ⟨n, o, h1, h2, h3, v, L, rfl, hQ, hq⟩ := rm0 l s _ hw tables_1 i0 i1 s.heap s.heap.size (Nat.le_refl _) p e ha hc hk s m _ below hf ((Spec.applies_iff_loose hf).mp happ).1 ⟨rfl, State.Warmed39.refl s, rfl⟩ trivial
  obtain ⟨rfl, N⟩ := own_fin i0 i1 _ _ _ _ hQ
  refine ⟨n, _, h1, h2, h3, hpost _ _ _ _ _ _ ⟨Cond.after_iff.mpr rfl, Cond.after_iff.mpr (eq_i res_at (Term.int_eval (1)) rfl), trivial⟩ ⟨hq.1, hq.2.1, (hq.2.2.sift fun y hy => Or.inr (N y hy)).mono (by decide) (by decide)⟩⟩
theorem main_1_1 : Claimed_1_1 := comes_1 fun _ _ _ _ _ _ h hF => ⟨h.1, hF⟩
theorem main_1_2 : Claimed_1_2 := comes_1 fun _ _ _ _ _ _ h hF => ⟨h.2.1, hF⟩
end Jvm.Pilot.@@N@@
namespace Jvm.Pilot.@@N@@
open Jvm Jvm.ClassFile Sem Op Lib Jvm.Free Jvm.Stand Jvm.Pilot.@@N@@.Jvm.D
/-! MADE BY PROGRAM (witnessworld.py) out of the Statement's table words and the real class files: 11 classes; the members and pool entries that the words name. The judged class is class 1, her method 1. -/
namespace start1
open Jvm.ClassFile
def u (s : String) : CpInfo := .utf8 (stringToUtf16 s)
/-- a pool by its gaps: so many unusable entries, then the entry; so many at the end -/
def gap : Nat → List CpInfo → List CpInfo
  | 0, r => r
  | n + 1, r => .unusable :: gap n r
def poolList (es : List (Nat × CpInfo)) (last : Nat) : List CpInfo := es.foldr (fun e r => gap e.1 (e.2 :: r)) (gap last [])
def pool (es : List (Nat × CpInfo)) (last : Nat) : Array CpInfo := ⟨poolList es last⟩
def fileOf (pool : Array CpInfo) (this : Nat) (attrs : Array Attribute := #[]) (ms : Array MethodInfo := #[]) (fl : Nat := 33) (sup : Nat := 0) (ifs : Array Nat := #[]) (fds : Array FieldInfo := #[]) : ClassFile where
  minorVersion := 0
  majorVersion := 65
  constantPool := pool
  accessFlags := fl
  thisClass := this
  superClass := sup
  interfaces := ifs
  fields := fds
  methods := ms
  attributes := attrs
def plain (name : String) (sup : Option ClassId) : Class where
  name := name
  kind := .ordinary
  loader := none
  accessFlags := 33
  super := sup
  interfaces := #[]
  cf := none
  fields := #[]
  methods := #[]
  instanceTypes := #[]
  staticTypes := #[]
  resolved := #[]
  callSites := []
  init := .initialized
  statics := none
  mirror := none

def pool0 : Array CpInfo := pool [(5, u "<init>"), (0, u "()V"), (1, .class_ 10), (1, u "java/lang/Object")] 113

def k0m0 : Method := { name := "<init>", desc := "()V", sig := { parameters := [], returnType := none }, accessFlags := 1, code := none }
/-- java/lang/Object -/
def k0 : Class := { plain "java/lang/Object" none with
  accessFlags := 33
  interfaces := #[]
  cf := some (fileOf pool0 8 #[] #[{ accessFlags := 1, nameIndex := 5, descriptorIndex := 6, attributes := #[] }] 33 0 #[] #[])
  fields := #[]
  methods := #[k0m0]
  instanceTypes := #[]
  staticTypes := #[]
  resolved := Array.replicate 124 none
  statics := none }

def pool1 : Array CpInfo := pool [(2, .class_ 4), (1, u "java/lang/Object"), (0, u "<init>"), (0, u "()V"), (0, .integer 2147483647), (0, .long 14695981039346656037), (1, .methodref 11 12), (0, .class_ 13), (0, .nameAndType 14 15), (0, u "com/example/relicary/relicary/siard/ContainerHashPinLaw"), (0, u "step"), (0, u "(JJI)J"), (0, .methodref 17 18), (0, .class_ 19), (0, .nameAndType 20 21), (0, u "com/example/relicary/relicary/siard/Container"), (0, u "hash"), (0, u "([B)J"), (0, .long 14181476777654086739), (1, .methodref 11 25), (0, .nameAndType 26 27), (0, u "inverse"), (0, u "(J)J"), (0, .long 18397679294719823053), (1, .long 255), (1, .long 1099511628211), (1, .long 2), (3, u "law"), (0, u "(JI)Z")] 5

def k1m0 : Method := { name := "<init>", desc := "()V", sig := { parameters := [], returnType := none }, accessFlags := 1, code := none }
def k1c1 : Code := { maxStack := 5, maxLocals := 11, code := code, exceptionTable := #[], attributes := #[] }
def k1m1 : Method := { name := "law", desc := "(JI)Z", sig := { parameters := [.long, .int], returnType := some .boolean }, accessFlags := 9, code := some k1c1 }
def k1c2 : Code := { maxStack := 4, maxLocals := 7, code := method_3_code, exceptionTable := #[], attributes := #[] }
def k1m2 : Method := { name := "step", desc := "(JJI)J", sig := { parameters := [.long, .long, .int], returnType := some .long }, accessFlags := 10, code := some k1c2 }
def k1c3 : Code := { maxStack := 8, maxLocals := 4, code := method_4_code, exceptionTable := #[], attributes := #[] }
def k1m3 : Method := { name := "inverse", desc := "(J)J", sig := { parameters := [.long], returnType := some .long }, accessFlags := 10, code := some k1c3 }
/-- com/example/relicary/relicary/siard/ContainerHashPinLaw -/
def k1 : Class := { plain "com/example/relicary/relicary/siard/ContainerHashPinLaw" (some 0) with
  accessFlags := 49
  interfaces := #[]
  cf := some (fileOf pool1 11 #[] #[{ accessFlags := 1, nameIndex := 5, descriptorIndex := 6, attributes := #[] }, { accessFlags := 9, nameIndex := 38, descriptorIndex := 39, attributes := #[] }, { accessFlags := 10, nameIndex := 14, descriptorIndex := 15, attributes := #[] }, { accessFlags := 10, nameIndex := 26, descriptorIndex := 27, attributes := #[] }] 49 2 #[] #[])
  fields := #[]
  methods := #[k1m0, k1m1, k1m2, k1m3]
  instanceTypes := #[]
  staticTypes := #[]
  resolved := Array.replicate 45 none
  statics := none }

def pool2 : Array CpInfo := pool [(1, .class_ 2), (0, u "java/lang/AutoCloseable"), (0, .class_ 4), (0, u "java/lang/Object")] 7

/-- java/lang/AutoCloseable -/
def k2 : Class := { plain "java/lang/AutoCloseable" (some 0) with
  accessFlags := 1537
  interfaces := #[]
  cf := some (fileOf pool2 1 #[] #[] 1537 3 #[] #[])
  fields := #[]
  methods := #[]
  instanceTypes := #[]
  staticTypes := #[]
  resolved := Array.replicate 12 none
  statics := none }

def pool3 : Array CpInfo := pool [(1, .class_ 2), (0, u "java/io/Closeable"), (0, .class_ 4), (0, u "java/lang/Object"), (0, .class_ 6), (0, u "java/lang/AutoCloseable")] 7

/-- java/io/Closeable -/
def k3 : Class := { plain "java/io/Closeable" (some 0) with
  accessFlags := 1537
  interfaces := #[2]
  cf := some (fileOf pool3 1 #[] #[] 1537 3 #[5] #[])
  fields := #[]
  methods := #[]
  instanceTypes := #[]
  staticTypes := #[]
  resolved := Array.replicate 14 none
  statics := none }

def pool4 : Array CpInfo := pool [(4, .class_ 6), (1, u "java/lang/Object"), (6, .class_ 15), (1, u "com/example/relicary/relicary/siard/Container"), (0, u "names"), (0, u "Lcom/example/relicary/relicary/siard/NameIndex;"), (19, u "header"), (0, u "Ljava/nio/ByteBuffer;"), (4, u "headerPlace"), (0, u "J"), (29, u "utf8"), (0, u "Ljava/nio/charset/CharsetDecoder;"), (2, u "file"), (0, u "Ljava/nio/channels/FileChannel;"), (2, u "directoryStart"), (2, u "directoryLength"), (2, u "shift"), (83, .class_ 173), (0, u "com/example/relicary/relicary/siard/Container$Walk"), (10, u "I"), (1, .class_ 188), (1, u "com/example/relicary/relicary/siard/Container$Entry"), (25, u "hash"), (0, u "([B)J"), (27, .class_ 244), (0, u "com/example/relicary/relicary/siard/Container$1"), (51, .class_ 297), (0, u "com/example/relicary/relicary/siard/Container$Checked"), (49, .class_ 348), (0, u "com/example/relicary/relicary/siard/Container$2"), (8, .class_ 358), (0, u "com/example/relicary/relicary/siard/Container$Entries"), (22, u "ROOT"), (0, u "Ljava/util/regex/Pattern;"), (15, u "SEPARATOR"), (30, .long 14695981039346656037), (1, .long 1099511628211), (1, .long 18397679294719823053), (1, .long 14181476777654086739), (78, .class_ 515), (0, u "java/io/Closeable"), (0, u "COMMENT_BYTES"), (1, u "WALK_BYTES")] 81

def k4c0 : Code := { maxStack := 5, maxLocals := 7, code := prog_62_method_19_code, exceptionTable := #[], attributes := #[] }
def k4m0 : Method := { name := "hash", desc := "([B)J", sig := { parameters := [(.array .byte)], returnType := some .long }, accessFlags := 8, code := some k4c0 }
/-- com/example/relicary/relicary/siard/Container -/
def k4 : Class := { plain "com/example/relicary/relicary/siard/Container" (some 0) with
  accessFlags := 48
  interfaces := #[3]
  cf := some (fileOf pool4 13 #[.nestMembers #[172, 296, 357, 186, 347, 243]] #[{ accessFlags := 8, nameIndex := 214, descriptorIndex := 215, attributes := #[] }] 48 4 #[514] #[{ accessFlags := 26, nameIndex := 381, descriptorIndex := 382, attributes := #[] }, { accessFlags := 26, nameIndex := 398, descriptorIndex := 382, attributes := #[] }, { accessFlags := 26, nameIndex := 516, descriptorIndex := 184, attributes := #[] }, { accessFlags := 26, nameIndex := 518, descriptorIndex := 184, attributes := #[] }, { accessFlags := 18, nameIndex := 78, descriptorIndex := 79, attributes := #[] }, { accessFlags := 18, nameIndex := 82, descriptorIndex := 44, attributes := #[] }, { accessFlags := 18, nameIndex := 85, descriptorIndex := 44, attributes := #[] }, { accessFlags := 18, nameIndex := 88, descriptorIndex := 44, attributes := #[] }, { accessFlags := 18, nameIndex := 16, descriptorIndex := 17, attributes := #[] }, { accessFlags := 18, nameIndex := 37, descriptorIndex := 38, attributes := #[] }, { accessFlags := 2, nameIndex := 43, descriptorIndex := 44, attributes := #[] }, { accessFlags := 18, nameIndex := 74, descriptorIndex := 75, attributes := #[] }])
  fields := #[{ name := "ROOT", type := (.object "java/util/regex/Pattern"), accessFlags := 26, slot := 0, constantValue := 0 }, { name := "SEPARATOR", type := (.object "java/util/regex/Pattern"), accessFlags := 26, slot := 1, constantValue := 0 }, { name := "COMMENT_BYTES", type := .int, accessFlags := 26, slot := 2, constantValue := 0 }, { name := "WALK_BYTES", type := .int, accessFlags := 26, slot := 3, constantValue := 0 }, { name := "file", type := (.object "java/nio/channels/FileChannel"), accessFlags := 18, slot := 0, constantValue := 0 }, { name := "directoryStart", type := .long, accessFlags := 18, slot := 1, constantValue := 0 }, { name := "directoryLength", type := .long, accessFlags := 18, slot := 2, constantValue := 0 }, { name := "shift", type := .long, accessFlags := 18, slot := 3, constantValue := 0 }, { name := "names", type := (.object "com/example/relicary/relicary/siard/NameIndex"), accessFlags := 18, slot := 4, constantValue := 0 }, { name := "header", type := (.object "java/nio/ByteBuffer"), accessFlags := 18, slot := 5, constantValue := 0 }, { name := "headerPlace", type := .long, accessFlags := 2, slot := 6, constantValue := 0 }, { name := "utf8", type := (.object "java/nio/charset/CharsetDecoder"), accessFlags := 18, slot := 7, constantValue := 0 }]
  methods := #[k4m0]
  instanceTypes := #[(.object "java/nio/channels/FileChannel"), .long, .long, .long, (.object "com/example/relicary/relicary/siard/NameIndex"), (.object "java/nio/ByteBuffer"), .long, (.object "java/nio/charset/CharsetDecoder")]
  staticTypes := #[(.object "java/util/regex/Pattern"), (.object "java/util/regex/Pattern"), .int, .int]
  resolved := Array.replicate 600 none
  statics := none }

def pool5 : Array CpInfo := pool [(1, u "java/lang/Cloneable"), (0, .class_ 1), (0, u "java/lang/Object"), (0, .class_ 3)] 3

/-- java/lang/Cloneable -/
def k5 : Class := { plain "java/lang/Cloneable" (some 0) with
  accessFlags := 1537
  interfaces := #[]
  cf := some (fileOf pool5 2 #[] #[] 1537 4 #[] #[])
  fields := #[]
  methods := #[]
  instanceTypes := #[]
  staticTypes := #[]
  resolved := Array.replicate 8 none
  statics := none }

def pool6 : Array CpInfo := pool [(1, u "java/io/Serializable"), (0, .class_ 1), (0, u "java/lang/Object"), (0, .class_ 3)] 3

/-- java/io/Serializable -/
def k6 : Class := { plain "java/io/Serializable" (some 0) with
  accessFlags := 1537
  interfaces := #[]
  cf := some (fileOf pool6 2 #[] #[] 1537 4 #[] #[])
  fields := #[]
  methods := #[]
  instanceTypes := #[]
  staticTypes := #[]
  resolved := Array.replicate 8 none
  statics := none }

/-- the primitive byte -/
def k7 : Class := { plain "byte" none with kind := .primitive 'B', accessFlags := 0x411 }
/-- [B -/
def k8 : Class := { plain "[B" (some 0) with kind := .array 7 .byte, interfaces := #[5, 6], accessFlags := 1041 }

/-- the primitive int -/
def k9 : Class := { plain "int" none with kind := .primitive 'I', accessFlags := 0x411 }
/-- [I -/
def k10 : Class := { plain "[I" (some 0) with kind := .array 9 .int, interfaces := #[5, 6], accessFlags := 1041 }

def heap : Heap := #[]
def classes : Array Class := #[k0, k1, k2, k3, k4, k5, k6, k7, k8, k9, k10]
def interned : List (Array UInt16 × Addr) := []
def slotsUsed : Nat := 0
def theMethod : MethodId := ⟨1, 1⟩
def args0 : Array Value := #[.long 25, .int 7]
def aboutOver (below : List Frame) : State where
  vm := { classes := classes, interned := interned.toArray }
  heap := heap
  slotsUsed := slotsUsed
  threads := #[{ frames := .invoking theMethod args0 :: below }]
def below0 : List Frame := [.native { method := ⟨0, 0⟩, args := #[] }]
def about1 : State := aboutOver below0
def p0 : Program := .bare "" "" ""
def e0 : Env := launch0.env 0 0 0
theorem w_frames : about1.frames = Frame.invoking theMethod args0 :: below0 := rfl
set_option maxRecDepth 65536 in
theorem w_args : argsFit about1.vm theMethod args0 = true := by decide +kernel
set_option maxRecDepth 65536 in
theorem w_heap : heapFits about1 = true := by decide +kernel
set_option maxRecDepth 65536 in
theorem w_runnable : about1.curStatus? = some .runnable := by decide +kernel
set_option maxRecDepth 65536 in
theorem w_alone : about1.alone = true := by decide +kernel
set_option maxRecDepth 65536 in
theorem w_named : about1.methodNamed? x = some theMethod := by decide +kernel
set_option maxRecDepth 65536 in
theorem w_hears : about1.hears theMethod below0 = true := by decide +kernel
set_option maxRecDepth 65536 in
theorem w_ripe : about1.ripe theMethod args0 below0 = true := by decide +kernel
theorem w_running : about1.status = .running := rfl
set_option maxRecDepth 65536 in
theorem w_room : about1.hasRoom e0.platform room_1 = true :=
  launch0.hasRoom_least _ room_1 (by decide +kernel) (by decide +kernel) (by decide +kernel) (by decide +kernel) (by decide +kernel) (by decide +kernel)
theorem allAtoms_all (ts : List Jvm.Cond) (a : Array Jvm.Value) (st : Jvm.State) : (allAtoms ts).before a st = ts.all (fun c => c.before a st) := by
  induction ts with
  | nil => rfl
  | cons c t ih =>
    show (Jvm.Cond.and c (allAtoms t)).before a st = _
    rw [Jvm.Cond.before_and, ih, List.all_cons]
def words1 : List Jvm.Cond := Jvm.Cond.code x code maxLocals ret :: tables_1
/-- a 'code' word, met by the world's own term for the bytes: nothing is compared byte by byte -/
theorem code_word {y : MethodName} {bytes : ByteArray} {mx : Nat} {rt : Option FieldType} {a : Array Value} {s : State} {m : MethodId} {meth : Method} {c : Code} (h1 : s.methodNamed? y = some m) (h2 : s.vm.method? m = some meth) (h3 : meth.code = some c) (h4 : c.code = bytes)
    (h5 : (c.maxLocals == mx && c.exceptionTable.isEmpty && decide (c.maxStack ≤ mostOperands) && decide (meth.sig.returnType = rt) && !meth.locks && decide (parseMethodDescriptor y.desc = some meth.sig)) = true) : (Jvm.Cond.code y bytes mx rt).before a s = true := by
  simp only [Bool.and_eq_true, beq_iff_eq, Bool.not_eq_true', decide_eq_true_eq] at h5
  obtain ⟨⟨⟨⟨⟨g1, g2⟩, g3⟩, g4⟩, g5⟩, g6⟩ := h5
  simp [Cond.before, Cond.holds, Cond.value, h1, h2, h3, h4, g1, g2, g3, g4, g5, g6]
def isCode : Jvm.Cond → Bool
  | .code _ _ _ _ => true
  | _ => false
theorem all_split {L : List Jvm.Cond} {P : Jvm.Cond → Bool} (h1 : L.all (fun c => isCode c || P c) = true) (h2 : ∀ c ∈ L.filter isCode, P c = true) : L.all P = true := by
  refine List.all_eq_true.mpr fun c hc => ?_
  have h := List.all_eq_true.mp h1 c hc
  rcases Bool.eq_false_or_eq_true (isCode c) with hi | hi
  · exact h2 c (List.mem_filter.mpr ⟨hc, hi⟩)
  · simpa [hi] using h
set_option maxRecDepth 65536 in
theorem w_c0 : (Jvm.Cond.code x code maxLocals ret).before args0 about1 = true := code_word (m := ⟨1, 1⟩) (meth := k1m1) (c := k1c1) (by decide +kernel) rfl rfl rfl (by decide +kernel)
set_option maxRecDepth 65536 in
theorem w_c1 : (Jvm.Cond.code ({ cls := "com/example/relicary/relicary/siard/ContainerHashPinLaw", name := "step", desc := "(JJI)J" } : Jvm.MethodName) method_3_code (7 : Nat) (Option.some Jvm.ClassFile.FieldType.long)).before args0 about1 = true := code_word (m := ⟨1, 2⟩) (meth := k1m2) (c := k1c2) (by decide +kernel) rfl rfl rfl (by decide +kernel)
set_option maxRecDepth 65536 in
theorem w_c2 : (Jvm.Cond.code ({ cls := "com/example/relicary/relicary/siard/Container", name := "hash", desc := "([B)J" } : Jvm.MethodName) prog_62_method_19_code (7 : Nat) (Option.some Jvm.ClassFile.FieldType.long)).before args0 about1 = true := code_word (m := ⟨4, 0⟩) (meth := k4m0) (c := k4c0) (by decide +kernel) rfl rfl rfl (by decide +kernel)
set_option maxRecDepth 65536 in
theorem w_c3 : (Jvm.Cond.code ({ cls := "com/example/relicary/relicary/siard/ContainerHashPinLaw", name := "inverse", desc := "(J)J" } : Jvm.MethodName) method_4_code (4 : Nat) (Option.some Jvm.ClassFile.FieldType.long)).before args0 about1 = true := code_word (m := ⟨1, 3⟩) (meth := k1m3) (c := k1c3) (by decide +kernel) rfl rfl rfl (by decide +kernel)
def codes1 : List Jvm.Cond := [Jvm.Cond.code x code maxLocals ret, Jvm.Cond.code ({ cls := "com/example/relicary/relicary/siard/ContainerHashPinLaw", name := "step", desc := "(JJI)J" } : Jvm.MethodName) method_3_code (7 : Nat) (Option.some Jvm.ClassFile.FieldType.long), Jvm.Cond.code ({ cls := "com/example/relicary/relicary/siard/Container", name := "hash", desc := "([B)J" } : Jvm.MethodName) prog_62_method_19_code (7 : Nat) (Option.some Jvm.ClassFile.FieldType.long), Jvm.Cond.code ({ cls := "com/example/relicary/relicary/siard/ContainerHashPinLaw", name := "inverse", desc := "(J)J" } : Jvm.MethodName) method_4_code (4 : Nat) (Option.some Jvm.ClassFile.FieldType.long)]
set_option maxRecDepth 65536 in
theorem codes_eq : words1.filter isCode = codes1 := rfl
theorem w_codes : ∀ c ∈ words1.filter isCode, c.before args0 about1 = true := by
  rw [codes_eq]
  intro c hc
  simp only [codes1, List.mem_cons, List.not_mem_nil, or_false] at hc
  rcases hc with rfl | rfl | rfl | rfl
  · exact w_c0
  · exact w_c1
  · exact w_c2
  · exact w_c3
set_option maxRecDepth 65536 in
theorem w_t1 : words1.all (fun c => isCode c || c.before args0 about1) = true := by decide +kernel
theorem w_tables : (allAtoms (Jvm.Cond.code x code maxLocals ret :: tables_1)).before args0 about1 = true := by
  rw [allAtoms_all]
  show words1.all (fun c => c.before args0 about1) = true
  refine all_split ?_ w_codes
  rw [w_t1]
set_option maxRecDepth 65536 in
theorem w_case : (Jvm.Cond.and given_1 narrow_1).before args0 about1 = true := by decide +kernel
theorem w_applies : (headSpec (Jvm.Cond.code x code maxLocals ret :: tables_1) room_1).applies x e0.platform about1 = true :=
  (Spec.applies_iff w_frames).mpr ⟨w_running, w_runnable, w_alone, w_named, w_hears, w_ripe, w_room, w_tables⟩
theorem atStart : AtStart classFile x code maxLocals ret World_1 tables_1 room_1 Calls_1 rest_1 Pre_1 launch0 p0 e0 about1 theMethod args0 below0 :=
  ⟨lists_1, trivial, launch0.admits_env _ _ _, launch0.least_env, fairChoices_fair.cas, fairChoices_fair.clock, w_frames, w_args, w_heap, w_applies, trivial, trivial, w_case⟩
end start1
theorem witness_1 : WitnessClaimed_1 := ⟨start1.p0, start1.e0, start1.about1, start1.theMethod, start1.args0, start1.below0, start1.atStart⟩
end Jvm.Pilot.@@N@@
