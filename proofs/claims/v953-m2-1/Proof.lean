import JvmDerived
import JvmDerived.Pilot.@@N@@Statement
import JvmDerived.Pilot.@@N@@Code
set_option linter.unusedVariables false
set_option linter.unusedSimpArgs false
namespace Jvm.RoadKit
open Sem ClassFile Op Lib Jvm.Stand Jvm.Free Jvm.LawKit
section New
variable {p : Program} {l : Launch} {e : Env} {R : Room} {s : State} {m : MethodId} {args : Array Value} {below : List Frame} {meth : Method} {c : Code} {T : State} {locs : List Loc} {cells slots : Nat}
theorem retI (X : Stand p l e R s m args below meth c T locs cells slots) (hx : p.tables.exec = Jvm.exec) {pc : Nat} {Ls : Array Slot} {z : Int32} {rest : List Value} (hret : meth.sig.returnType = some .int) (hd : decode c.code pc = .ok (.ireturn, 1)) {fs : List Frame}
    (hl : ∀ (f : JFrame) (acts : List Action), f.method = m → f.locked = none → f.entered = [] → (doReturn e (T.setTop f) acts (some (.int z))).1 = T.setFrames fs) : Steps p.tables e below (T.setTop (mkF m pc Ls (.int z :: rest))) (T.setFrames fs) := by
  have hm' : T.vm.method? m = some meth := X.method'
  have hn : narrow .int (.int z) = .int z := rfl
  show Steps p.tables e below (T.setTop { method := m, pc := pc, locals := Ls, stack := _ :: rest, locked := none }) _
  jvm_step X.here [X.here.top, hx, hd, hm', hret, hn]
  first | (intro acts; rw [hl _ acts rfl rfl rfl]) | rw [hl _ _ rfl rfl rfl]
  exact Steps.refl _
end New
end Jvm.RoadKit
namespace Jvm.Pilot.@@N@@
open Jvm Jvm.ClassFile Sem Op Lib Jvm.Free Jvm.Stand Jvm.LawKit Jvm.RoadKit Bundle Jvm.Pilot.@@N@@.Jvm.D
theorem d1_0 : decode prog_5_method_11_code 0 = .ok (.iload_n 0, 1) := by decide +kernel
theorem d1_1 : decode prog_5_method_11_code 1 = .ok (.i2l, 1) := by decide +kernel
theorem d1_2 : decode prog_5_method_11_code 2 = .ok (.ldc2_w 217, 3) := by decide +kernel
theorem d1_5 : decode prog_5_method_11_code 5 = .ok (.lmul, 1) := by decide +kernel
theorem d1_6 : decode prog_5_method_11_code 6 = .ok (.ldc2_w 219, 3) := by decide +kernel
theorem d1_9 : decode prog_5_method_11_code 9 = .ok (.lsub, 1) := by decide +kernel
theorem d1_10 : decode prog_5_method_11_code 10 = .ok (.bipush 20, 2) := by decide +kernel
theorem d1_12 : decode prog_5_method_11_code 12 = .ok (.lshr, 1) := by decide +kernel
theorem d1_13 : decode prog_5_method_11_code 13 = .ok (.l2i, 1) := by decide +kernel
theorem d1_14 : decode prog_5_method_11_code 14 = .ok (.ireturn, 1) := by decide +kernel
theorem pn_1 : plainName "com/example/cellstream/cellstream/io/BinaryToDecimal" = true := by first | (simp [plainName, overriddenIn]; done) | decide +kernel
theorem ef_1 (m : MethodId) (x0 : Int32) : entryFrame m #[(.int x0)] 1 = mkF m 0 #[.val (.int x0)] [] := by first | (simp [entryFrame, mkF, argsToLocals, Value.category]; done) | rfl
def F1 (p1 : Int32) : Int32 :=
  (((((p1.toInt64) * (315653 : Int64)) - (131007 : Int64)) >>> ((20 : Int32) &&& 0x3f).toInt64).toInt32)
def Q1 (Z : State) (p1 : Int32) (h0 : Heap) (n0 : Nat) (v : Option Value) (h : Heap) (L : List Loc) : Prop := v = some (.int (F1 p1)) ∧ L = [] ∧ h = h0
set_option maxRecDepth 65536 in
set_option maxHeartbeats 40000000 in
theorem rm1 (l : Launch) (Z : State) (a0 : Array Value) (hw : ∀ d ∈ tables_1, d.before a0 Z = true) (ws : List Jvm.Cond) (p1 : Int32) (h0 : Heap) (n0 : Nat) (Z0 : n0 ≤ h0.size) :
    MetFree l (⟨"com/example/cellstream/cellstream/io/BinaryToDecimal", "floorLog10ThreeQuartersPow2", "(I)I"⟩ : MethodName) (head1 (Jvm.Cond.code (⟨"com/example/cellstream/cellstream/io/BinaryToDecimal", "floorLog10ThreeQuartersPow2", "(I)I"⟩ : MethodName) prog_5_method_11_code 1 (some .int) :: ws) ({ frames := 0, cells := 0, slots := 0, locals := 0 } : Room)) (fun a U => a = #[(.int p1)] ∧ Z.Warmed39 U.vm ∧ U.heap = h0) (fun _ _ _ _ _ => True) (fun _ U o U' => ∃ v L, o = .returned v ∧ Q1 Z p1 h0 n0 v U'.heap L ∧ FrameEnd U o U' L ({ frames := 0, cells := 0, slots := 0, locals := 0 } : Room).cells ({ frames := 0, cells := 0, slots := 0, locals := 0 } : Room).slots) := by
  refine MetFree.of_bodySF (plainFor_of_name pn_1) hisR ?_
  intro p e s m args below meth c s₁ Bd hml0 hP hK
  obtain ⟨rfl, hZ, hh⟩ := hP
  have hx := Bd.exec
  have hby := Bd.bytes
  have hml : c.maxLocals = 1 := hml0
  have hown : s.vm.findClass "com/example/cellstream/cellstream/io/BinaryToDecimal" = some m.cls := findClass_of_methodNamed Bd.named
  have hnm := (name_of_methodNamed Bd.named Bd.method).1
  have X0 : Stand p l e ({ frames := 0, cells := 0, slots := 0, locals := 0 } : Room) s m #[(.int p1)] below meth c s₁ [] 0 0 := Stand.of_body Bd
  have e0 : s₁.heap = h0 := by rw [← hh, Bd.state]; rfl
  have N0 := Fr.nil n0
  have pre0 : ∀ t, Steps p.tables e below (s₁.setTop (mkF m 0 #[.val (.int p1)] [])) t → Steps p.tables e below (s₁.setTop (entryFrame m #[(.int p1)] 1)) t := fun t k => castTop (ef_1 m p1) k
  have R1 : ∀ t, Steps p.tables e below (s₁.setTop (mkF m 14 #[.val (.int p1)] [(.int (((((p1.toInt64) * (315653 : Int64)) - (131007 : Int64)) >>> ((20 : Int32) &&& 0x3f).toInt64).toInt32))])) t → Steps p.tables e below (s₁.setTop (entryFrame m #[(.int p1)] 1)) t := by
    intro t kt
    refine pre0 _ ?_
    show Steps p.tables e below (s₁.setTop (mkF m 0 #[.val (.int p1)] [])) _
    refine XS.iloadN X0.here hx rfl (hb hby d1_0) rfl ?_
    show Steps p.tables e below (s₁.setTop (mkF m 1 #[.val (.int p1)] [(.int p1)])) _
    refine XS.i2l X0.here hx rfl (hb hby d1_1) rfl ?_
    show Steps p.tables e below (s₁.setTop (mkF m 2 #[.val (.int p1)] [(.long (p1.toInt64))])) _
    refine X0.ldc2Long hx hown (mvT hZ (hw _ (List.mem_of_getElem? (i := 5) rfl))) (g := (mkF m 2 #[.val (.int p1)] [(.long (p1.toInt64))])) rfl (hb hby d1_2) _ ?_
    show Steps p.tables e below (s₁.setTop (mkF m 5 #[.val (.int p1)] [(.long (315653 : Int64)), (.long (p1.toInt64))])) _
    refine XS.lmul X0.here hx rfl (hb hby d1_5) rfl ?_
    show Steps p.tables e below (s₁.setTop (mkF m 6 #[.val (.int p1)] [(.long ((p1.toInt64) * (315653 : Int64)))])) _
    refine X0.ldc2Long hx hown (mvT hZ (hw _ (List.mem_of_getElem? (i := 6) rfl))) (g := (mkF m 6 #[.val (.int p1)] [(.long ((p1.toInt64) * (315653 : Int64)))])) rfl (hb hby d1_6) _ ?_
    show Steps p.tables e below (s₁.setTop (mkF m 9 #[.val (.int p1)] [(.long (131007 : Int64)), (.long ((p1.toInt64) * (315653 : Int64)))])) _
    refine XS.lsub X0.here hx rfl (hb hby d1_9) rfl ?_
    show Steps p.tables e below (s₁.setTop (mkF m 10 #[.val (.int p1)] [(.long (((p1.toInt64) * (315653 : Int64)) - (131007 : Int64)))])) _
    refine XS.bipush X0.here hx rfl (hb hby d1_10) ?_
    show Steps p.tables e below (s₁.setTop (mkF m 12 #[.val (.int p1)] [(.int (20 : Int32)), (.long (((p1.toInt64) * (315653 : Int64)) - (131007 : Int64)))])) _
    refine XS.lshr X0.here hx rfl (hb hby d1_12) rfl ?_
    show Steps p.tables e below (s₁.setTop (mkF m 13 #[.val (.int p1)] [(.long ((((p1.toInt64) * (315653 : Int64)) - (131007 : Int64)) >>> ((20 : Int32) &&& 0x3f).toInt64))])) _
    refine XS.l2i X0.here hx rfl (hb hby d1_13) rfl ?_
    exact kt
  obtain ⟨fs, hr, hrun, hended, hW, hsame⟩ := X0.leave (v := some (.int (((((p1.toInt64) * (315653 : Int64)) - (131007 : Int64)) >>> ((20 : Int32) &&& 0x3f).toInt64).toInt32))) (fun h => by rw [Bd.returns] at h; cases h)
  refine ⟨_, _, R1 _ ?_, hrun, hended, _, _, rfl, ?_, ⟨_, rfl⟩, hW, hsame.mono (by decide) (by decide)⟩
  · show Steps p.tables e below (s₁.setTop (mkF m 14 #[.val (.int p1)] [(.int (((((p1.toInt64) * (315653 : Int64)) - (131007 : Int64)) >>> ((20 : Int32) &&& 0x3f).toInt64).toInt32))])) _
    exact retI X0 hx Bd.returns (hb hby d1_14) hr
  · show Q1 Z p1 h0 n0 _ s₁.heap _
    rw [e0]
    refine ⟨?_, rfl, rfl⟩
    rfl
def F3 (p1 : Int32) : Int64 := ([1, 10, 100, 1000, 10000, 100000, 1000000, 10000000, 100000000, 1000000000, 10000000000, 100000000000, 1000000000000, 10000000000000, 100000000000000, 1000000000000000, 10000000000000000, 100000000000000000, 1000000000000000000] : List Int64).getD p1.toNatClampNeg 0
theorem own_inb {p : Int32} (h : 0 ≤ p.toInt ∧ p.toInt ≤ 18) : ¬ p < 0 ∧ p < (19 : Int32) := by
  simp only [Int32.lt_iff_toInt_lt, show (0 : Int32).toInt = 0 from rfl, show (19 : Int32).toInt = 19 from rfl]; omega
theorem own_getD (f : Int64 → Value) : ∀ (l : List Int64) (k : Nat) (d : Int64), (l.map f).getD k (f d) = f (l.getD k d)
  | [], _, _ => rfl
  | _ :: _, 0, _ => rfl
  | _ :: r, k + 1, d => own_getD f r k d
theorem own_i1 {p : Int32} (h1 : ¬ p < (0 : Int32)) (h2 : ¬ (18 : Int32) < p) : 0 ≤ p.toInt ∧ p.toInt ≤ 18 := by
  simp only [Int32.lt_iff_toInt_lt, show (0 : Int32).toInt = 0 from rfl, show (18 : Int32).toInt = 18 from rfl] at h1 h2; omega
theorem own_i2 {p : Int32} (h1 : ¬ (0 : Int32) < p) (h2 : ¬ p < (-18 : Int32)) : 0 ≤ (-p).toInt ∧ (-p).toInt ≤ 18 := by
  have a := c_ineg p
  have r := rng32 (-p)
  simp only [Int32.lt_iff_toInt_lt, show (0 : Int32).toInt = 0 from rfl, show (-18 : Int32).toInt = -18 from rfl] at h1 h2; omega
theorem own_i3 {p : Int32} (h1 : ¬ (0 : Int32) < p) (h2 : ¬ p < (-18 : Int32)) (h3 : ¬ (-p) = (0 : Int32)) : 0 ≤ ((-p) - (1 : Int32)).toInt ∧ ((-p) - (1 : Int32)).toInt ≤ 18 := by
  have q := own_i2 h1 h2
  have a := c_isub (-p) 1
  have r := rng32 ((-p) - 1)
  rw [show (1 : Int32).toInt = 1 from rfl] at a
  have n : (-p).toInt ≠ 0 := fun z => h3 (Int32.toInt_inj.mp z)
  omega
theorem own_at (p : Int32) : ([(.long (1 : Int64)), (.long (10 : Int64)), (.long (100 : Int64)), (.long (1000 : Int64)), (.long (10000 : Int64)), (.long (100000 : Int64)), (.long (1000000 : Int64)), (.long (10000000 : Int64)), (.long (100000000 : Int64)), (.long (1000000000 : Int64)), (.long (10000000000 : Int64)), (.long (100000000000 : Int64)), (.long (1000000000000 : Int64)), (.long (10000000000000 : Int64)), (.long (100000000000000 : Int64)), (.long (1000000000000000 : Int64)), (.long (10000000000000000 : Int64)), (.long (100000000000000000 : Int64)), (.long (1000000000000000000 : Int64))] : List Value).getD p.toNatClampNeg (.long (0 : Int64)) = .long (F3 p) :=
  own_getD .long [1, 10, 100, 1000, 10000, 100000, 1000000, 10000000, 100000000, 1000000000, 10000000000, 100000000000, 1000000000000, 10000000000000, 100000000000000, 1000000000000000, 10000000000000000, 100000000000000000, 1000000000000000000] p.toNatClampNeg 0
theorem d3_0 : decode method_4_code 0 = .ok (.bipush 19, 2) := by decide +kernel
theorem d3_2 : decode method_4_code 2 = .ok (.newarray .long, 2) := by decide +kernel
theorem d3_4 : decode method_4_code 4 = .ok (.dup, 1) := by decide +kernel
theorem d3_5 : decode method_4_code 5 = .ok (.iconst 0, 1) := by decide +kernel
theorem d3_6 : decode method_4_code 6 = .ok (.lconst 1, 1) := by decide +kernel
theorem d3_7 : decode method_4_code 7 = .ok (.lastore, 1) := by decide +kernel
theorem d3_8 : decode method_4_code 8 = .ok (.dup, 1) := by decide +kernel
theorem d3_9 : decode method_4_code 9 = .ok (.iconst 1, 1) := by decide +kernel
theorem d3_10 : decode method_4_code 10 = .ok (.ldc2_w 28, 3) := by decide +kernel
theorem d3_13 : decode method_4_code 13 = .ok (.lastore, 1) := by decide +kernel
theorem d3_14 : decode method_4_code 14 = .ok (.dup, 1) := by decide +kernel
theorem d3_15 : decode method_4_code 15 = .ok (.iconst 2, 1) := by decide +kernel
theorem d3_16 : decode method_4_code 16 = .ok (.ldc2_w 30, 3) := by decide +kernel
theorem d3_19 : decode method_4_code 19 = .ok (.lastore, 1) := by decide +kernel
theorem d3_20 : decode method_4_code 20 = .ok (.dup, 1) := by decide +kernel
theorem d3_21 : decode method_4_code 21 = .ok (.iconst 3, 1) := by decide +kernel
theorem d3_22 : decode method_4_code 22 = .ok (.ldc2_w 32, 3) := by decide +kernel
theorem d3_25 : decode method_4_code 25 = .ok (.lastore, 1) := by decide +kernel
theorem d3_26 : decode method_4_code 26 = .ok (.dup, 1) := by decide +kernel
theorem d3_27 : decode method_4_code 27 = .ok (.iconst 4, 1) := by decide +kernel
theorem d3_28 : decode method_4_code 28 = .ok (.ldc2_w 34, 3) := by decide +kernel
theorem d3_31 : decode method_4_code 31 = .ok (.lastore, 1) := by decide +kernel
theorem d3_32 : decode method_4_code 32 = .ok (.dup, 1) := by decide +kernel
theorem d3_33 : decode method_4_code 33 = .ok (.iconst 5, 1) := by decide +kernel
theorem d3_34 : decode method_4_code 34 = .ok (.ldc2_w 36, 3) := by decide +kernel
theorem d3_37 : decode method_4_code 37 = .ok (.lastore, 1) := by decide +kernel
theorem d3_38 : decode method_4_code 38 = .ok (.dup, 1) := by decide +kernel
theorem d3_39 : decode method_4_code 39 = .ok (.bipush 6, 2) := by decide +kernel
theorem d3_41 : decode method_4_code 41 = .ok (.ldc2_w 38, 3) := by decide +kernel
theorem d3_44 : decode method_4_code 44 = .ok (.lastore, 1) := by decide +kernel
theorem d3_45 : decode method_4_code 45 = .ok (.dup, 1) := by decide +kernel
theorem d3_46 : decode method_4_code 46 = .ok (.bipush 7, 2) := by decide +kernel
theorem d3_48 : decode method_4_code 48 = .ok (.ldc2_w 40, 3) := by decide +kernel
theorem d3_51 : decode method_4_code 51 = .ok (.lastore, 1) := by decide +kernel
theorem d3_52 : decode method_4_code 52 = .ok (.dup, 1) := by decide +kernel
theorem d3_53 : decode method_4_code 53 = .ok (.bipush 8, 2) := by decide +kernel
theorem d3_55 : decode method_4_code 55 = .ok (.ldc2_w 42, 3) := by decide +kernel
theorem d3_58 : decode method_4_code 58 = .ok (.lastore, 1) := by decide +kernel
theorem d3_59 : decode method_4_code 59 = .ok (.dup, 1) := by decide +kernel
theorem d3_60 : decode method_4_code 60 = .ok (.bipush 9, 2) := by decide +kernel
theorem d3_62 : decode method_4_code 62 = .ok (.ldc2_w 44, 3) := by decide +kernel
theorem d3_65 : decode method_4_code 65 = .ok (.lastore, 1) := by decide +kernel
theorem d3_66 : decode method_4_code 66 = .ok (.dup, 1) := by decide +kernel
theorem d3_67 : decode method_4_code 67 = .ok (.bipush 10, 2) := by decide +kernel
theorem d3_69 : decode method_4_code 69 = .ok (.ldc2_w 46, 3) := by decide +kernel
theorem d3_72 : decode method_4_code 72 = .ok (.lastore, 1) := by decide +kernel
theorem d3_73 : decode method_4_code 73 = .ok (.dup, 1) := by decide +kernel
theorem d3_74 : decode method_4_code 74 = .ok (.bipush 11, 2) := by decide +kernel
theorem d3_76 : decode method_4_code 76 = .ok (.ldc2_w 48, 3) := by decide +kernel
theorem d3_79 : decode method_4_code 79 = .ok (.lastore, 1) := by decide +kernel
theorem d3_80 : decode method_4_code 80 = .ok (.dup, 1) := by decide +kernel
theorem d3_81 : decode method_4_code 81 = .ok (.bipush 12, 2) := by decide +kernel
theorem d3_83 : decode method_4_code 83 = .ok (.ldc2_w 50, 3) := by decide +kernel
theorem d3_86 : decode method_4_code 86 = .ok (.lastore, 1) := by decide +kernel
theorem d3_87 : decode method_4_code 87 = .ok (.dup, 1) := by decide +kernel
theorem d3_88 : decode method_4_code 88 = .ok (.bipush 13, 2) := by decide +kernel
theorem d3_90 : decode method_4_code 90 = .ok (.ldc2_w 52, 3) := by decide +kernel
theorem d3_93 : decode method_4_code 93 = .ok (.lastore, 1) := by decide +kernel
theorem d3_94 : decode method_4_code 94 = .ok (.dup, 1) := by decide +kernel
theorem d3_95 : decode method_4_code 95 = .ok (.bipush 14, 2) := by decide +kernel
theorem d3_97 : decode method_4_code 97 = .ok (.ldc2_w 54, 3) := by decide +kernel
theorem d3_100 : decode method_4_code 100 = .ok (.lastore, 1) := by decide +kernel
theorem d3_101 : decode method_4_code 101 = .ok (.dup, 1) := by decide +kernel
theorem d3_102 : decode method_4_code 102 = .ok (.bipush 15, 2) := by decide +kernel
theorem d3_104 : decode method_4_code 104 = .ok (.ldc2_w 56, 3) := by decide +kernel
theorem d3_107 : decode method_4_code 107 = .ok (.lastore, 1) := by decide +kernel
theorem d3_108 : decode method_4_code 108 = .ok (.dup, 1) := by decide +kernel
theorem d3_109 : decode method_4_code 109 = .ok (.bipush 16, 2) := by decide +kernel
theorem d3_111 : decode method_4_code 111 = .ok (.ldc2_w 58, 3) := by decide +kernel
theorem d3_114 : decode method_4_code 114 = .ok (.lastore, 1) := by decide +kernel
theorem d3_115 : decode method_4_code 115 = .ok (.dup, 1) := by decide +kernel
theorem d3_116 : decode method_4_code 116 = .ok (.bipush 17, 2) := by decide +kernel
theorem d3_118 : decode method_4_code 118 = .ok (.ldc2_w 60, 3) := by decide +kernel
theorem d3_121 : decode method_4_code 121 = .ok (.lastore, 1) := by decide +kernel
theorem d3_122 : decode method_4_code 122 = .ok (.dup, 1) := by decide +kernel
theorem d3_123 : decode method_4_code 123 = .ok (.bipush 18, 2) := by decide +kernel
theorem d3_125 : decode method_4_code 125 = .ok (.ldc2_w 62, 3) := by decide +kernel
theorem d3_128 : decode method_4_code 128 = .ok (.lastore, 1) := by decide +kernel
theorem d3_129 : decode method_4_code 129 = .ok (.astore_n 1, 1) := by decide +kernel
theorem d3_130 : decode method_4_code 130 = .ok (.aload_n 1, 1) := by decide +kernel
theorem d3_131 : decode method_4_code 131 = .ok (.iload_n 0, 1) := by decide +kernel
theorem d3_132 : decode method_4_code 132 = .ok (.laload, 1) := by decide +kernel
theorem d3_133 : decode method_4_code 133 = .ok (.lreturn, 1) := by decide +kernel
theorem pn_3 : plainName "com/example/cellstream/cellstream/io/BinaryToDecimalFloorLog10ThreeQuartersPow2PinLaw" = true := by first | (simp [plainName, overriddenIn]; done) | decide +kernel
theorem ef_3 (m : MethodId) (x0 : Int32) : entryFrame m #[(.int x0)] 2 = mkF m 0 #[.val (.int x0), .unset] [] := by first | (simp [entryFrame, mkF, argsToLocals, Value.category]; done) | rfl
def Q3 (Z : State) (p1 : Int32) (h0 : Heap) (n0 : Nat) (v : Option Value) (h : Heap) (L : List Loc) : Prop := v = some (.long (F3 p1)) ∧ Fr n0 L ∧ Keep h0 h []
set_option maxRecDepth 65536 in
set_option maxHeartbeats 40000000 in
theorem rm3 (l : Launch) (Z : State) (a0 : Array Value) (hw : ∀ d ∈ tables_1, d.before a0 Z = true) (ws : List Jvm.Cond) (p1 : Int32) (h0 : Heap) (n0 : Nat) (Z0 : n0 ≤ h0.size) (hp : 0 ≤ p1.toInt ∧ p1.toInt ≤ 18) :
    MetFree l (⟨"com/example/cellstream/cellstream/io/BinaryToDecimalFloorLog10ThreeQuartersPow2PinLaw", "pow10", "(I)J"⟩ : MethodName) (head1 (Jvm.Cond.code (⟨"com/example/cellstream/cellstream/io/BinaryToDecimalFloorLog10ThreeQuartersPow2PinLaw", "pow10", "(I)J"⟩ : MethodName) method_4_code 2 (some .long) :: ws) ({ frames := 0, cells := 1, slots := 19, locals := 0 } : Room)) (fun a U => a = #[(.int p1)] ∧ Z.Warmed39 U.vm ∧ U.heap = h0) (fun _ _ _ _ _ => True) (fun _ U o U' => ∃ v L, o = .returned v ∧ Q3 Z p1 h0 n0 v U'.heap L ∧ FrameEnd U o U' L ({ frames := 0, cells := 1, slots := 19, locals := 0 } : Room).cells ({ frames := 0, cells := 1, slots := 19, locals := 0 } : Room).slots) := by
  refine MetFree.of_bodySF (plainFor_of_name pn_3) hisR ?_
  intro p e s m args below meth c s₁ Bd hml0 hP hK
  obtain ⟨rfl, hZ, hh⟩ := hP
  have hx := Bd.exec
  have hby := Bd.bytes
  have hml : c.maxLocals = 2 := hml0
  have hown : s.vm.findClass "com/example/cellstream/cellstream/io/BinaryToDecimalFloorLog10ThreeQuartersPow2PinLaw" = some m.cls := findClass_of_methodNamed Bd.named
  have hnm := (name_of_methodNamed Bd.named Bd.method).1
  have X0 : Stand p l e ({ frames := 0, cells := 1, slots := 19, locals := 0 } : Room) s m #[(.int p1)] below meth c s₁ [] 0 0 := Stand.of_body Bd
  have e0 : s₁.heap = h0 := by rw [← hh, Bd.state]; rfl
  have N0 := Fr.nil n0
  have pre0 : ∀ t, Steps p.tables e below (s₁.setTop (mkF m 0 #[.val (.int p1), .unset] [])) t → Steps p.tables e below (s₁.setTop (entryFrame m #[(.int p1)] 2)) t := fun t k => castTop (ef_3 m p1) k
  obtain ⟨T2, h2, k2, X2, e2, E2, A2, st2⟩ := newP X0 hx hZ (hw _ (List.mem_of_getElem? (i := 15) rfl)) e0 (g := (mkF m 2 #[.val (.int p1), .unset] [(.int (19 : Int32))])) rfl (hb hby d3_2) rfl (by decide) (cap := 19) (by decide) (by decide) (by decide) (by decide)
  obtain ⟨b2, g2⟩ : ∃ z, z = h0.size := ⟨_, rfl⟩
  rw [← g2] at A2 st2
  have V_b2 : Arv Z h2 b2 k2 .long (19 : Int32) [(.long (0 : Int64)), (.long (0 : Int64)), (.long (0 : Int64)), (.long (0 : Int64)), (.long (0 : Int64)), (.long (0 : Int64)), (.long (0 : Int64)), (.long (0 : Int64)), (.long (0 : Int64)), (.long (0 : Int64)), (.long (0 : Int64)), (.long (0 : Int64)), (.long (0 : Int64)), (.long (0 : Int64)), (.long (0 : Int64)), (.long (0 : Int64)), (.long (0 : Int64)), (.long (0 : Int64)), (.long (0 : Int64))] (.long (0 : Int64)) := (Arv.new A2 (by decide)).pad (pad_rep [] (.long (0 : Int64)) 19)
  have g_b2 : n0 ≤ b2 := Nat.le_trans Z0 (Nat.le_of_eq g2.symm)
  have sz_b2 : h0.size ≤ b2 := (Nat.le_trans (Keep.refl h0 []).1 (Nat.le_of_eq g2.symm))
  have K2 : Keep h0 h2 [] := (Keep.refl h0 []).ext E2
  obtain ⟨cl_b2_7, Ar_b2, q_b2, S_b2, N_b2, H_b2, G_b2⟩ := V_b2
  have hin7 : ¬ ((0 : Int32) < 0 ∨ cl_b2_7.slots.size ≤ ((0 : Int32)).toNatClampNeg) := inb_of S_b2 ⟨by decide, by decide⟩
  obtain ⟨T3, h3, X3, e3, W3, st3⟩ := stJ X2 hx hZ e2 Ar_b2 (j := (0 : Int32)) hin7 (g := (mkF m 7 #[.val (.int p1), .unset] [(.long (1 : Int64)), (.int (0 : Int32)), (.ref b2), (.ref b2)])) rfl rfl (hb hby d3_7)
  have V_b2_3 := Arv.set Ar_b2 q_b2 S_b2 N_b2 H_b2 G_b2 rfl W3 0 rfl (Nat.le_of_ble_eq_true rfl)
  have K3 : Keep h0 h3 [] := K2.wr W3 (Or.inr sz_b2)
  have N3 := Fr.snoc X3 N0 g_b2
  obtain ⟨cl_b2_13, Ar_b2, q_b2, S_b2, N_b2, H_b2, G_b2⟩ := V_b2_3
  have hin13 : ¬ ((1 : Int32) < 0 ∨ cl_b2_13.slots.size ≤ ((1 : Int32)).toNatClampNeg) := inb_of S_b2 ⟨by decide, by decide⟩
  obtain ⟨T4, h4, X4, e4, W4, st4⟩ := stJ X3 hx hZ e3 Ar_b2 (j := (1 : Int32)) hin13 (g := (mkF m 13 #[.val (.int p1), .unset] [(.long (10 : Int64)), (.int (1 : Int32)), (.ref b2), (.ref b2)])) rfl rfl (hb hby d3_13)
  have V_b2_4 := Arv.set Ar_b2 q_b2 S_b2 N_b2 H_b2 G_b2 rfl W4 1 rfl (Nat.le_of_ble_eq_true rfl)
  have K4 : Keep h0 h4 [] := K3.wr W4 (Or.inr sz_b2)
  have N4 := Fr.snoc X4 N3 g_b2
  obtain ⟨cl_b2_19, Ar_b2, q_b2, S_b2, N_b2, H_b2, G_b2⟩ := V_b2_4
  have hin19 : ¬ ((2 : Int32) < 0 ∨ cl_b2_19.slots.size ≤ ((2 : Int32)).toNatClampNeg) := inb_of S_b2 ⟨by decide, by decide⟩
  obtain ⟨T5, h5, X5, e5, W5, st5⟩ := stJ X4 hx hZ e4 Ar_b2 (j := (2 : Int32)) hin19 (g := (mkF m 19 #[.val (.int p1), .unset] [(.long (100 : Int64)), (.int (2 : Int32)), (.ref b2), (.ref b2)])) rfl rfl (hb hby d3_19)
  have V_b2_5 := Arv.set Ar_b2 q_b2 S_b2 N_b2 H_b2 G_b2 rfl W5 2 rfl (Nat.le_of_ble_eq_true rfl)
  have K5 : Keep h0 h5 [] := K4.wr W5 (Or.inr sz_b2)
  have N5 := Fr.snoc X5 N4 g_b2
  obtain ⟨cl_b2_25, Ar_b2, q_b2, S_b2, N_b2, H_b2, G_b2⟩ := V_b2_5
  have hin25 : ¬ ((3 : Int32) < 0 ∨ cl_b2_25.slots.size ≤ ((3 : Int32)).toNatClampNeg) := inb_of S_b2 ⟨by decide, by decide⟩
  obtain ⟨T6, h6, X6, e6, W6, st6⟩ := stJ X5 hx hZ e5 Ar_b2 (j := (3 : Int32)) hin25 (g := (mkF m 25 #[.val (.int p1), .unset] [(.long (1000 : Int64)), (.int (3 : Int32)), (.ref b2), (.ref b2)])) rfl rfl (hb hby d3_25)
  have V_b2_6 := Arv.set Ar_b2 q_b2 S_b2 N_b2 H_b2 G_b2 rfl W6 3 rfl (Nat.le_of_ble_eq_true rfl)
  have K6 : Keep h0 h6 [] := K5.wr W6 (Or.inr sz_b2)
  have N6 := Fr.snoc X6 N5 g_b2
  obtain ⟨cl_b2_31, Ar_b2, q_b2, S_b2, N_b2, H_b2, G_b2⟩ := V_b2_6
  have hin31 : ¬ ((4 : Int32) < 0 ∨ cl_b2_31.slots.size ≤ ((4 : Int32)).toNatClampNeg) := inb_of S_b2 ⟨by decide, by decide⟩
  obtain ⟨T7, h7, X7, e7, W7, st7⟩ := stJ X6 hx hZ e6 Ar_b2 (j := (4 : Int32)) hin31 (g := (mkF m 31 #[.val (.int p1), .unset] [(.long (10000 : Int64)), (.int (4 : Int32)), (.ref b2), (.ref b2)])) rfl rfl (hb hby d3_31)
  have V_b2_7 := Arv.set Ar_b2 q_b2 S_b2 N_b2 H_b2 G_b2 rfl W7 4 rfl (Nat.le_of_ble_eq_true rfl)
  have K7 : Keep h0 h7 [] := K6.wr W7 (Or.inr sz_b2)
  have N7 := Fr.snoc X7 N6 g_b2
  obtain ⟨cl_b2_37, Ar_b2, q_b2, S_b2, N_b2, H_b2, G_b2⟩ := V_b2_7
  have hin37 : ¬ ((5 : Int32) < 0 ∨ cl_b2_37.slots.size ≤ ((5 : Int32)).toNatClampNeg) := inb_of S_b2 ⟨by decide, by decide⟩
  obtain ⟨T8, h8, X8, e8, W8, st8⟩ := stJ X7 hx hZ e7 Ar_b2 (j := (5 : Int32)) hin37 (g := (mkF m 37 #[.val (.int p1), .unset] [(.long (100000 : Int64)), (.int (5 : Int32)), (.ref b2), (.ref b2)])) rfl rfl (hb hby d3_37)
  have V_b2_8 := Arv.set Ar_b2 q_b2 S_b2 N_b2 H_b2 G_b2 rfl W8 5 rfl (Nat.le_of_ble_eq_true rfl)
  have K8 : Keep h0 h8 [] := K7.wr W8 (Or.inr sz_b2)
  have N8 := Fr.snoc X8 N7 g_b2
  obtain ⟨cl_b2_44, Ar_b2, q_b2, S_b2, N_b2, H_b2, G_b2⟩ := V_b2_8
  have hin44 : ¬ ((6 : Int32) < 0 ∨ cl_b2_44.slots.size ≤ ((6 : Int32)).toNatClampNeg) := inb_of S_b2 ⟨by decide, by decide⟩
  obtain ⟨T9, h9, X9, e9, W9, st9⟩ := stJ X8 hx hZ e8 Ar_b2 (j := (6 : Int32)) hin44 (g := (mkF m 44 #[.val (.int p1), .unset] [(.long (1000000 : Int64)), (.int (6 : Int32)), (.ref b2), (.ref b2)])) rfl rfl (hb hby d3_44)
  have V_b2_9 := Arv.set Ar_b2 q_b2 S_b2 N_b2 H_b2 G_b2 rfl W9 6 rfl (Nat.le_of_ble_eq_true rfl)
  have K9 : Keep h0 h9 [] := K8.wr W9 (Or.inr sz_b2)
  have N9 := Fr.snoc X9 N8 g_b2
  obtain ⟨cl_b2_51, Ar_b2, q_b2, S_b2, N_b2, H_b2, G_b2⟩ := V_b2_9
  have hin51 : ¬ ((7 : Int32) < 0 ∨ cl_b2_51.slots.size ≤ ((7 : Int32)).toNatClampNeg) := inb_of S_b2 ⟨by decide, by decide⟩
  obtain ⟨T10, h10, X10, e10, W10, st10⟩ := stJ X9 hx hZ e9 Ar_b2 (j := (7 : Int32)) hin51 (g := (mkF m 51 #[.val (.int p1), .unset] [(.long (10000000 : Int64)), (.int (7 : Int32)), (.ref b2), (.ref b2)])) rfl rfl (hb hby d3_51)
  have V_b2_10 := Arv.set Ar_b2 q_b2 S_b2 N_b2 H_b2 G_b2 rfl W10 7 rfl (Nat.le_of_ble_eq_true rfl)
  have K10 : Keep h0 h10 [] := K9.wr W10 (Or.inr sz_b2)
  have N10 := Fr.snoc X10 N9 g_b2
  obtain ⟨cl_b2_58, Ar_b2, q_b2, S_b2, N_b2, H_b2, G_b2⟩ := V_b2_10
  have hin58 : ¬ ((8 : Int32) < 0 ∨ cl_b2_58.slots.size ≤ ((8 : Int32)).toNatClampNeg) := inb_of S_b2 ⟨by decide, by decide⟩
  obtain ⟨T11, h11, X11, e11, W11, st11⟩ := stJ X10 hx hZ e10 Ar_b2 (j := (8 : Int32)) hin58 (g := (mkF m 58 #[.val (.int p1), .unset] [(.long (100000000 : Int64)), (.int (8 : Int32)), (.ref b2), (.ref b2)])) rfl rfl (hb hby d3_58)
  have V_b2_11 := Arv.set Ar_b2 q_b2 S_b2 N_b2 H_b2 G_b2 rfl W11 8 rfl (Nat.le_of_ble_eq_true rfl)
  have K11 : Keep h0 h11 [] := K10.wr W11 (Or.inr sz_b2)
  have N11 := Fr.snoc X11 N10 g_b2
  obtain ⟨cl_b2_65, Ar_b2, q_b2, S_b2, N_b2, H_b2, G_b2⟩ := V_b2_11
  have hin65 : ¬ ((9 : Int32) < 0 ∨ cl_b2_65.slots.size ≤ ((9 : Int32)).toNatClampNeg) := inb_of S_b2 ⟨by decide, by decide⟩
  obtain ⟨T12, h12, X12, e12, W12, st12⟩ := stJ X11 hx hZ e11 Ar_b2 (j := (9 : Int32)) hin65 (g := (mkF m 65 #[.val (.int p1), .unset] [(.long (1000000000 : Int64)), (.int (9 : Int32)), (.ref b2), (.ref b2)])) rfl rfl (hb hby d3_65)
  have V_b2_12 := Arv.set Ar_b2 q_b2 S_b2 N_b2 H_b2 G_b2 rfl W12 9 rfl (Nat.le_of_ble_eq_true rfl)
  have K12 : Keep h0 h12 [] := K11.wr W12 (Or.inr sz_b2)
  have N12 := Fr.snoc X12 N11 g_b2
  obtain ⟨cl_b2_72, Ar_b2, q_b2, S_b2, N_b2, H_b2, G_b2⟩ := V_b2_12
  have hin72 : ¬ ((10 : Int32) < 0 ∨ cl_b2_72.slots.size ≤ ((10 : Int32)).toNatClampNeg) := inb_of S_b2 ⟨by decide, by decide⟩
  obtain ⟨T13, h13, X13, e13, W13, st13⟩ := stJ X12 hx hZ e12 Ar_b2 (j := (10 : Int32)) hin72 (g := (mkF m 72 #[.val (.int p1), .unset] [(.long (10000000000 : Int64)), (.int (10 : Int32)), (.ref b2), (.ref b2)])) rfl rfl (hb hby d3_72)
  have V_b2_13 := Arv.set Ar_b2 q_b2 S_b2 N_b2 H_b2 G_b2 rfl W13 10 rfl (Nat.le_of_ble_eq_true rfl)
  have K13 : Keep h0 h13 [] := K12.wr W13 (Or.inr sz_b2)
  have N13 := Fr.snoc X13 N12 g_b2
  obtain ⟨cl_b2_79, Ar_b2, q_b2, S_b2, N_b2, H_b2, G_b2⟩ := V_b2_13
  have hin79 : ¬ ((11 : Int32) < 0 ∨ cl_b2_79.slots.size ≤ ((11 : Int32)).toNatClampNeg) := inb_of S_b2 ⟨by decide, by decide⟩
  obtain ⟨T14, h14, X14, e14, W14, st14⟩ := stJ X13 hx hZ e13 Ar_b2 (j := (11 : Int32)) hin79 (g := (mkF m 79 #[.val (.int p1), .unset] [(.long (100000000000 : Int64)), (.int (11 : Int32)), (.ref b2), (.ref b2)])) rfl rfl (hb hby d3_79)
  have V_b2_14 := Arv.set Ar_b2 q_b2 S_b2 N_b2 H_b2 G_b2 rfl W14 11 rfl (Nat.le_of_ble_eq_true rfl)
  have K14 : Keep h0 h14 [] := K13.wr W14 (Or.inr sz_b2)
  have N14 := Fr.snoc X14 N13 g_b2
  obtain ⟨cl_b2_86, Ar_b2, q_b2, S_b2, N_b2, H_b2, G_b2⟩ := V_b2_14
  have hin86 : ¬ ((12 : Int32) < 0 ∨ cl_b2_86.slots.size ≤ ((12 : Int32)).toNatClampNeg) := inb_of S_b2 ⟨by decide, by decide⟩
  obtain ⟨T15, h15, X15, e15, W15, st15⟩ := stJ X14 hx hZ e14 Ar_b2 (j := (12 : Int32)) hin86 (g := (mkF m 86 #[.val (.int p1), .unset] [(.long (1000000000000 : Int64)), (.int (12 : Int32)), (.ref b2), (.ref b2)])) rfl rfl (hb hby d3_86)
  have V_b2_15 := Arv.set Ar_b2 q_b2 S_b2 N_b2 H_b2 G_b2 rfl W15 12 rfl (Nat.le_of_ble_eq_true rfl)
  have K15 : Keep h0 h15 [] := K14.wr W15 (Or.inr sz_b2)
  have N15 := Fr.snoc X15 N14 g_b2
  obtain ⟨cl_b2_93, Ar_b2, q_b2, S_b2, N_b2, H_b2, G_b2⟩ := V_b2_15
  have hin93 : ¬ ((13 : Int32) < 0 ∨ cl_b2_93.slots.size ≤ ((13 : Int32)).toNatClampNeg) := inb_of S_b2 ⟨by decide, by decide⟩
  obtain ⟨T16, h16, X16, e16, W16, st16⟩ := stJ X15 hx hZ e15 Ar_b2 (j := (13 : Int32)) hin93 (g := (mkF m 93 #[.val (.int p1), .unset] [(.long (10000000000000 : Int64)), (.int (13 : Int32)), (.ref b2), (.ref b2)])) rfl rfl (hb hby d3_93)
  have V_b2_16 := Arv.set Ar_b2 q_b2 S_b2 N_b2 H_b2 G_b2 rfl W16 13 rfl (Nat.le_of_ble_eq_true rfl)
  have K16 : Keep h0 h16 [] := K15.wr W16 (Or.inr sz_b2)
  have N16 := Fr.snoc X16 N15 g_b2
  obtain ⟨cl_b2_100, Ar_b2, q_b2, S_b2, N_b2, H_b2, G_b2⟩ := V_b2_16
  have hin100 : ¬ ((14 : Int32) < 0 ∨ cl_b2_100.slots.size ≤ ((14 : Int32)).toNatClampNeg) := inb_of S_b2 ⟨by decide, by decide⟩
  obtain ⟨T17, h17, X17, e17, W17, st17⟩ := stJ X16 hx hZ e16 Ar_b2 (j := (14 : Int32)) hin100 (g := (mkF m 100 #[.val (.int p1), .unset] [(.long (100000000000000 : Int64)), (.int (14 : Int32)), (.ref b2), (.ref b2)])) rfl rfl (hb hby d3_100)
  have V_b2_17 := Arv.set Ar_b2 q_b2 S_b2 N_b2 H_b2 G_b2 rfl W17 14 rfl (Nat.le_of_ble_eq_true rfl)
  have K17 : Keep h0 h17 [] := K16.wr W17 (Or.inr sz_b2)
  have N17 := Fr.snoc X17 N16 g_b2
  obtain ⟨cl_b2_107, Ar_b2, q_b2, S_b2, N_b2, H_b2, G_b2⟩ := V_b2_17
  have hin107 : ¬ ((15 : Int32) < 0 ∨ cl_b2_107.slots.size ≤ ((15 : Int32)).toNatClampNeg) := inb_of S_b2 ⟨by decide, by decide⟩
  obtain ⟨T18, h18, X18, e18, W18, st18⟩ := stJ X17 hx hZ e17 Ar_b2 (j := (15 : Int32)) hin107 (g := (mkF m 107 #[.val (.int p1), .unset] [(.long (1000000000000000 : Int64)), (.int (15 : Int32)), (.ref b2), (.ref b2)])) rfl rfl (hb hby d3_107)
  have V_b2_18 := Arv.set Ar_b2 q_b2 S_b2 N_b2 H_b2 G_b2 rfl W18 15 rfl (Nat.le_of_ble_eq_true rfl)
  have K18 : Keep h0 h18 [] := K17.wr W18 (Or.inr sz_b2)
  have N18 := Fr.snoc X18 N17 g_b2
  obtain ⟨cl_b2_114, Ar_b2, q_b2, S_b2, N_b2, H_b2, G_b2⟩ := V_b2_18
  have hin114 : ¬ ((16 : Int32) < 0 ∨ cl_b2_114.slots.size ≤ ((16 : Int32)).toNatClampNeg) := inb_of S_b2 ⟨by decide, by decide⟩
  obtain ⟨T19, h19, X19, e19, W19, st19⟩ := stJ X18 hx hZ e18 Ar_b2 (j := (16 : Int32)) hin114 (g := (mkF m 114 #[.val (.int p1), .unset] [(.long (10000000000000000 : Int64)), (.int (16 : Int32)), (.ref b2), (.ref b2)])) rfl rfl (hb hby d3_114)
  have V_b2_19 := Arv.set Ar_b2 q_b2 S_b2 N_b2 H_b2 G_b2 rfl W19 16 rfl (Nat.le_of_ble_eq_true rfl)
  have K19 : Keep h0 h19 [] := K18.wr W19 (Or.inr sz_b2)
  have N19 := Fr.snoc X19 N18 g_b2
  obtain ⟨cl_b2_121, Ar_b2, q_b2, S_b2, N_b2, H_b2, G_b2⟩ := V_b2_19
  have hin121 : ¬ ((17 : Int32) < 0 ∨ cl_b2_121.slots.size ≤ ((17 : Int32)).toNatClampNeg) := inb_of S_b2 ⟨by decide, by decide⟩
  obtain ⟨T20, h20, X20, e20, W20, st20⟩ := stJ X19 hx hZ e19 Ar_b2 (j := (17 : Int32)) hin121 (g := (mkF m 121 #[.val (.int p1), .unset] [(.long (100000000000000000 : Int64)), (.int (17 : Int32)), (.ref b2), (.ref b2)])) rfl rfl (hb hby d3_121)
  have V_b2_20 := Arv.set Ar_b2 q_b2 S_b2 N_b2 H_b2 G_b2 rfl W20 17 rfl (Nat.le_of_ble_eq_true rfl)
  have K20 : Keep h0 h20 [] := K19.wr W20 (Or.inr sz_b2)
  have N20 := Fr.snoc X20 N19 g_b2
  obtain ⟨cl_b2_128, Ar_b2, q_b2, S_b2, N_b2, H_b2, G_b2⟩ := V_b2_20
  have hin128 : ¬ ((18 : Int32) < 0 ∨ cl_b2_128.slots.size ≤ ((18 : Int32)).toNatClampNeg) := inb_of S_b2 ⟨by decide, by decide⟩
  obtain ⟨T21, h21, X21, e21, W21, st21⟩ := stJ X20 hx hZ e20 Ar_b2 (j := (18 : Int32)) hin128 (g := (mkF m 128 #[.val (.int p1), .unset] [(.long (1000000000000000000 : Int64)), (.int (18 : Int32)), (.ref b2), (.ref b2)])) rfl rfl (hb hby d3_128)
  have V_b2_21 := Arv.set Ar_b2 q_b2 S_b2 N_b2 H_b2 G_b2 rfl W21 18 rfl (Nat.le_of_ble_eq_true rfl)
  have K21 : Keep h0 h21 [] := K20.wr W21 (Or.inr sz_b2)
  have N21 := Fr.snoc X21 N20 g_b2
  obtain ⟨cl_b2_132, Ar_b2, q_b2, S_b2, N_b2, H_b2, G_b2⟩ := V_b2_21
  have hin132 : ¬ (p1 < 0 ∨ cl_b2_132.slots.size ≤ p1.toNatClampNeg) := inb_of S_b2 (own_inb hp)
  have hat132 : cl_b2_132.slots[p1.toNatClampNeg]? = some (.long (F3 p1)) := Has.at H_b2 hin132 (own_at p1)
  obtain ⟨fs, hr, hrun, hended, hW, hsame⟩ := X21.leave (v := some (.long (F3 p1))) (fun h => by rw [Bd.returns] at h; cases h)
  refine ⟨_, _, pre0 _ ?_, hrun, hended, _, _, rfl, ?_, ⟨_, rfl⟩, hW, hsame.mono (by decide) (by decide)⟩
  · show Steps p.tables e below (s₁.setTop (mkF m 0 #[.val (.int p1), .unset] [])) _
    refine XS.bipush X0.here hx rfl (hb hby d3_0) ?_
    show Steps p.tables e below (s₁.setTop (mkF m 2 #[.val (.int p1), .unset] [(.int (19 : Int32))])) _
    refine st2 _ ?_
    show Steps p.tables e below (T2.setTop (mkF m 4 #[.val (.int p1), .unset] [(.ref b2)])) _
    refine XS.dup X2.here hx rfl (hb hby d3_4) rfl rfl ?_
    show Steps p.tables e below (T2.setTop (mkF m 5 #[.val (.int p1), .unset] [(.ref b2), (.ref b2)])) _
    refine XS.iconst X2.here hx rfl (hb hby d3_5) ?_
    show Steps p.tables e below (T2.setTop (mkF m 6 #[.val (.int p1), .unset] [(.int (0 : Int32)), (.ref b2), (.ref b2)])) _
    refine XS.lconst X2.here hx rfl (hb hby d3_6) ?_
    show Steps p.tables e below (T2.setTop (mkF m 7 #[.val (.int p1), .unset] [(.long (1 : Int64)), (.int (0 : Int32)), (.ref b2), (.ref b2)])) _
    refine st3 _ ?_
    show Steps p.tables e below (T3.setTop (mkF m 8 #[.val (.int p1), .unset] [(.ref b2)])) _
    refine XS.dup X3.here hx rfl (hb hby d3_8) rfl rfl ?_
    show Steps p.tables e below (T3.setTop (mkF m 9 #[.val (.int p1), .unset] [(.ref b2), (.ref b2)])) _
    refine XS.iconst X3.here hx rfl (hb hby d3_9) ?_
    show Steps p.tables e below (T3.setTop (mkF m 10 #[.val (.int p1), .unset] [(.int (1 : Int32)), (.ref b2), (.ref b2)])) _
    refine X3.ldc2Long hx hown (mvT hZ (hw _ (List.mem_of_getElem? (i := 16) rfl))) (g := (mkF m 10 #[.val (.int p1), .unset] [(.int (1 : Int32)), (.ref b2), (.ref b2)])) rfl (hb hby d3_10) _ ?_
    show Steps p.tables e below (T3.setTop (mkF m 13 #[.val (.int p1), .unset] [(.long (10 : Int64)), (.int (1 : Int32)), (.ref b2), (.ref b2)])) _
    refine st4 _ ?_
    show Steps p.tables e below (T4.setTop (mkF m 14 #[.val (.int p1), .unset] [(.ref b2)])) _
    refine XS.dup X4.here hx rfl (hb hby d3_14) rfl rfl ?_
    show Steps p.tables e below (T4.setTop (mkF m 15 #[.val (.int p1), .unset] [(.ref b2), (.ref b2)])) _
    refine XS.iconst X4.here hx rfl (hb hby d3_15) ?_
    show Steps p.tables e below (T4.setTop (mkF m 16 #[.val (.int p1), .unset] [(.int (2 : Int32)), (.ref b2), (.ref b2)])) _
    refine X4.ldc2Long hx hown (mvT hZ (hw _ (List.mem_of_getElem? (i := 17) rfl))) (g := (mkF m 16 #[.val (.int p1), .unset] [(.int (2 : Int32)), (.ref b2), (.ref b2)])) rfl (hb hby d3_16) _ ?_
    show Steps p.tables e below (T4.setTop (mkF m 19 #[.val (.int p1), .unset] [(.long (100 : Int64)), (.int (2 : Int32)), (.ref b2), (.ref b2)])) _
    refine st5 _ ?_
    show Steps p.tables e below (T5.setTop (mkF m 20 #[.val (.int p1), .unset] [(.ref b2)])) _
    refine XS.dup X5.here hx rfl (hb hby d3_20) rfl rfl ?_
    show Steps p.tables e below (T5.setTop (mkF m 21 #[.val (.int p1), .unset] [(.ref b2), (.ref b2)])) _
    refine XS.iconst X5.here hx rfl (hb hby d3_21) ?_
    show Steps p.tables e below (T5.setTop (mkF m 22 #[.val (.int p1), .unset] [(.int (3 : Int32)), (.ref b2), (.ref b2)])) _
    refine X5.ldc2Long hx hown (mvT hZ (hw _ (List.mem_of_getElem? (i := 18) rfl))) (g := (mkF m 22 #[.val (.int p1), .unset] [(.int (3 : Int32)), (.ref b2), (.ref b2)])) rfl (hb hby d3_22) _ ?_
    show Steps p.tables e below (T5.setTop (mkF m 25 #[.val (.int p1), .unset] [(.long (1000 : Int64)), (.int (3 : Int32)), (.ref b2), (.ref b2)])) _
    refine st6 _ ?_
    show Steps p.tables e below (T6.setTop (mkF m 26 #[.val (.int p1), .unset] [(.ref b2)])) _
    refine XS.dup X6.here hx rfl (hb hby d3_26) rfl rfl ?_
    show Steps p.tables e below (T6.setTop (mkF m 27 #[.val (.int p1), .unset] [(.ref b2), (.ref b2)])) _
    refine XS.iconst X6.here hx rfl (hb hby d3_27) ?_
    show Steps p.tables e below (T6.setTop (mkF m 28 #[.val (.int p1), .unset] [(.int (4 : Int32)), (.ref b2), (.ref b2)])) _
    refine X6.ldc2Long hx hown (mvT hZ (hw _ (List.mem_of_getElem? (i := 19) rfl))) (g := (mkF m 28 #[.val (.int p1), .unset] [(.int (4 : Int32)), (.ref b2), (.ref b2)])) rfl (hb hby d3_28) _ ?_
    show Steps p.tables e below (T6.setTop (mkF m 31 #[.val (.int p1), .unset] [(.long (10000 : Int64)), (.int (4 : Int32)), (.ref b2), (.ref b2)])) _
    refine st7 _ ?_
    show Steps p.tables e below (T7.setTop (mkF m 32 #[.val (.int p1), .unset] [(.ref b2)])) _
    refine XS.dup X7.here hx rfl (hb hby d3_32) rfl rfl ?_
    show Steps p.tables e below (T7.setTop (mkF m 33 #[.val (.int p1), .unset] [(.ref b2), (.ref b2)])) _
    refine XS.iconst X7.here hx rfl (hb hby d3_33) ?_
    show Steps p.tables e below (T7.setTop (mkF m 34 #[.val (.int p1), .unset] [(.int (5 : Int32)), (.ref b2), (.ref b2)])) _
    refine X7.ldc2Long hx hown (mvT hZ (hw _ (List.mem_of_getElem? (i := 20) rfl))) (g := (mkF m 34 #[.val (.int p1), .unset] [(.int (5 : Int32)), (.ref b2), (.ref b2)])) rfl (hb hby d3_34) _ ?_
    show Steps p.tables e below (T7.setTop (mkF m 37 #[.val (.int p1), .unset] [(.long (100000 : Int64)), (.int (5 : Int32)), (.ref b2), (.ref b2)])) _
    refine st8 _ ?_
    show Steps p.tables e below (T8.setTop (mkF m 38 #[.val (.int p1), .unset] [(.ref b2)])) _
    refine XS.dup X8.here hx rfl (hb hby d3_38) rfl rfl ?_
    show Steps p.tables e below (T8.setTop (mkF m 39 #[.val (.int p1), .unset] [(.ref b2), (.ref b2)])) _
    refine XS.bipush X8.here hx rfl (hb hby d3_39) ?_
    show Steps p.tables e below (T8.setTop (mkF m 41 #[.val (.int p1), .unset] [(.int (6 : Int32)), (.ref b2), (.ref b2)])) _
    refine X8.ldc2Long hx hown (mvT hZ (hw _ (List.mem_of_getElem? (i := 21) rfl))) (g := (mkF m 41 #[.val (.int p1), .unset] [(.int (6 : Int32)), (.ref b2), (.ref b2)])) rfl (hb hby d3_41) _ ?_
    show Steps p.tables e below (T8.setTop (mkF m 44 #[.val (.int p1), .unset] [(.long (1000000 : Int64)), (.int (6 : Int32)), (.ref b2), (.ref b2)])) _
    refine st9 _ ?_
    show Steps p.tables e below (T9.setTop (mkF m 45 #[.val (.int p1), .unset] [(.ref b2)])) _
    refine XS.dup X9.here hx rfl (hb hby d3_45) rfl rfl ?_
    show Steps p.tables e below (T9.setTop (mkF m 46 #[.val (.int p1), .unset] [(.ref b2), (.ref b2)])) _
    refine XS.bipush X9.here hx rfl (hb hby d3_46) ?_
    show Steps p.tables e below (T9.setTop (mkF m 48 #[.val (.int p1), .unset] [(.int (7 : Int32)), (.ref b2), (.ref b2)])) _
    refine X9.ldc2Long hx hown (mvT hZ (hw _ (List.mem_of_getElem? (i := 22) rfl))) (g := (mkF m 48 #[.val (.int p1), .unset] [(.int (7 : Int32)), (.ref b2), (.ref b2)])) rfl (hb hby d3_48) _ ?_
    show Steps p.tables e below (T9.setTop (mkF m 51 #[.val (.int p1), .unset] [(.long (10000000 : Int64)), (.int (7 : Int32)), (.ref b2), (.ref b2)])) _
    refine st10 _ ?_
    show Steps p.tables e below (T10.setTop (mkF m 52 #[.val (.int p1), .unset] [(.ref b2)])) _
    refine XS.dup X10.here hx rfl (hb hby d3_52) rfl rfl ?_
    show Steps p.tables e below (T10.setTop (mkF m 53 #[.val (.int p1), .unset] [(.ref b2), (.ref b2)])) _
    refine XS.bipush X10.here hx rfl (hb hby d3_53) ?_
    show Steps p.tables e below (T10.setTop (mkF m 55 #[.val (.int p1), .unset] [(.int (8 : Int32)), (.ref b2), (.ref b2)])) _
    refine X10.ldc2Long hx hown (mvT hZ (hw _ (List.mem_of_getElem? (i := 23) rfl))) (g := (mkF m 55 #[.val (.int p1), .unset] [(.int (8 : Int32)), (.ref b2), (.ref b2)])) rfl (hb hby d3_55) _ ?_
    show Steps p.tables e below (T10.setTop (mkF m 58 #[.val (.int p1), .unset] [(.long (100000000 : Int64)), (.int (8 : Int32)), (.ref b2), (.ref b2)])) _
    refine st11 _ ?_
    show Steps p.tables e below (T11.setTop (mkF m 59 #[.val (.int p1), .unset] [(.ref b2)])) _
    refine XS.dup X11.here hx rfl (hb hby d3_59) rfl rfl ?_
    show Steps p.tables e below (T11.setTop (mkF m 60 #[.val (.int p1), .unset] [(.ref b2), (.ref b2)])) _
    refine XS.bipush X11.here hx rfl (hb hby d3_60) ?_
    show Steps p.tables e below (T11.setTop (mkF m 62 #[.val (.int p1), .unset] [(.int (9 : Int32)), (.ref b2), (.ref b2)])) _
    refine X11.ldc2Long hx hown (mvT hZ (hw _ (List.mem_of_getElem? (i := 24) rfl))) (g := (mkF m 62 #[.val (.int p1), .unset] [(.int (9 : Int32)), (.ref b2), (.ref b2)])) rfl (hb hby d3_62) _ ?_
    show Steps p.tables e below (T11.setTop (mkF m 65 #[.val (.int p1), .unset] [(.long (1000000000 : Int64)), (.int (9 : Int32)), (.ref b2), (.ref b2)])) _
    refine st12 _ ?_
    show Steps p.tables e below (T12.setTop (mkF m 66 #[.val (.int p1), .unset] [(.ref b2)])) _
    refine XS.dup X12.here hx rfl (hb hby d3_66) rfl rfl ?_
    show Steps p.tables e below (T12.setTop (mkF m 67 #[.val (.int p1), .unset] [(.ref b2), (.ref b2)])) _
    refine XS.bipush X12.here hx rfl (hb hby d3_67) ?_
    show Steps p.tables e below (T12.setTop (mkF m 69 #[.val (.int p1), .unset] [(.int (10 : Int32)), (.ref b2), (.ref b2)])) _
    refine X12.ldc2Long hx hown (mvT hZ (hw _ (List.mem_of_getElem? (i := 25) rfl))) (g := (mkF m 69 #[.val (.int p1), .unset] [(.int (10 : Int32)), (.ref b2), (.ref b2)])) rfl (hb hby d3_69) _ ?_
    show Steps p.tables e below (T12.setTop (mkF m 72 #[.val (.int p1), .unset] [(.long (10000000000 : Int64)), (.int (10 : Int32)), (.ref b2), (.ref b2)])) _
    refine st13 _ ?_
    show Steps p.tables e below (T13.setTop (mkF m 73 #[.val (.int p1), .unset] [(.ref b2)])) _
    refine XS.dup X13.here hx rfl (hb hby d3_73) rfl rfl ?_
    show Steps p.tables e below (T13.setTop (mkF m 74 #[.val (.int p1), .unset] [(.ref b2), (.ref b2)])) _
    refine XS.bipush X13.here hx rfl (hb hby d3_74) ?_
    show Steps p.tables e below (T13.setTop (mkF m 76 #[.val (.int p1), .unset] [(.int (11 : Int32)), (.ref b2), (.ref b2)])) _
    refine X13.ldc2Long hx hown (mvT hZ (hw _ (List.mem_of_getElem? (i := 26) rfl))) (g := (mkF m 76 #[.val (.int p1), .unset] [(.int (11 : Int32)), (.ref b2), (.ref b2)])) rfl (hb hby d3_76) _ ?_
    show Steps p.tables e below (T13.setTop (mkF m 79 #[.val (.int p1), .unset] [(.long (100000000000 : Int64)), (.int (11 : Int32)), (.ref b2), (.ref b2)])) _
    refine st14 _ ?_
    show Steps p.tables e below (T14.setTop (mkF m 80 #[.val (.int p1), .unset] [(.ref b2)])) _
    refine XS.dup X14.here hx rfl (hb hby d3_80) rfl rfl ?_
    show Steps p.tables e below (T14.setTop (mkF m 81 #[.val (.int p1), .unset] [(.ref b2), (.ref b2)])) _
    refine XS.bipush X14.here hx rfl (hb hby d3_81) ?_
    show Steps p.tables e below (T14.setTop (mkF m 83 #[.val (.int p1), .unset] [(.int (12 : Int32)), (.ref b2), (.ref b2)])) _
    refine X14.ldc2Long hx hown (mvT hZ (hw _ (List.mem_of_getElem? (i := 27) rfl))) (g := (mkF m 83 #[.val (.int p1), .unset] [(.int (12 : Int32)), (.ref b2), (.ref b2)])) rfl (hb hby d3_83) _ ?_
    show Steps p.tables e below (T14.setTop (mkF m 86 #[.val (.int p1), .unset] [(.long (1000000000000 : Int64)), (.int (12 : Int32)), (.ref b2), (.ref b2)])) _
    refine st15 _ ?_
    show Steps p.tables e below (T15.setTop (mkF m 87 #[.val (.int p1), .unset] [(.ref b2)])) _
    refine XS.dup X15.here hx rfl (hb hby d3_87) rfl rfl ?_
    show Steps p.tables e below (T15.setTop (mkF m 88 #[.val (.int p1), .unset] [(.ref b2), (.ref b2)])) _
    refine XS.bipush X15.here hx rfl (hb hby d3_88) ?_
    show Steps p.tables e below (T15.setTop (mkF m 90 #[.val (.int p1), .unset] [(.int (13 : Int32)), (.ref b2), (.ref b2)])) _
    refine X15.ldc2Long hx hown (mvT hZ (hw _ (List.mem_of_getElem? (i := 28) rfl))) (g := (mkF m 90 #[.val (.int p1), .unset] [(.int (13 : Int32)), (.ref b2), (.ref b2)])) rfl (hb hby d3_90) _ ?_
    show Steps p.tables e below (T15.setTop (mkF m 93 #[.val (.int p1), .unset] [(.long (10000000000000 : Int64)), (.int (13 : Int32)), (.ref b2), (.ref b2)])) _
    refine st16 _ ?_
    show Steps p.tables e below (T16.setTop (mkF m 94 #[.val (.int p1), .unset] [(.ref b2)])) _
    refine XS.dup X16.here hx rfl (hb hby d3_94) rfl rfl ?_
    show Steps p.tables e below (T16.setTop (mkF m 95 #[.val (.int p1), .unset] [(.ref b2), (.ref b2)])) _
    refine XS.bipush X16.here hx rfl (hb hby d3_95) ?_
    show Steps p.tables e below (T16.setTop (mkF m 97 #[.val (.int p1), .unset] [(.int (14 : Int32)), (.ref b2), (.ref b2)])) _
    refine X16.ldc2Long hx hown (mvT hZ (hw _ (List.mem_of_getElem? (i := 29) rfl))) (g := (mkF m 97 #[.val (.int p1), .unset] [(.int (14 : Int32)), (.ref b2), (.ref b2)])) rfl (hb hby d3_97) _ ?_
    show Steps p.tables e below (T16.setTop (mkF m 100 #[.val (.int p1), .unset] [(.long (100000000000000 : Int64)), (.int (14 : Int32)), (.ref b2), (.ref b2)])) _
    refine st17 _ ?_
    show Steps p.tables e below (T17.setTop (mkF m 101 #[.val (.int p1), .unset] [(.ref b2)])) _
    refine XS.dup X17.here hx rfl (hb hby d3_101) rfl rfl ?_
    show Steps p.tables e below (T17.setTop (mkF m 102 #[.val (.int p1), .unset] [(.ref b2), (.ref b2)])) _
    refine XS.bipush X17.here hx rfl (hb hby d3_102) ?_
    show Steps p.tables e below (T17.setTop (mkF m 104 #[.val (.int p1), .unset] [(.int (15 : Int32)), (.ref b2), (.ref b2)])) _
    refine X17.ldc2Long hx hown (mvT hZ (hw _ (List.mem_of_getElem? (i := 30) rfl))) (g := (mkF m 104 #[.val (.int p1), .unset] [(.int (15 : Int32)), (.ref b2), (.ref b2)])) rfl (hb hby d3_104) _ ?_
    show Steps p.tables e below (T17.setTop (mkF m 107 #[.val (.int p1), .unset] [(.long (1000000000000000 : Int64)), (.int (15 : Int32)), (.ref b2), (.ref b2)])) _
    refine st18 _ ?_
    show Steps p.tables e below (T18.setTop (mkF m 108 #[.val (.int p1), .unset] [(.ref b2)])) _
    refine XS.dup X18.here hx rfl (hb hby d3_108) rfl rfl ?_
    show Steps p.tables e below (T18.setTop (mkF m 109 #[.val (.int p1), .unset] [(.ref b2), (.ref b2)])) _
    refine XS.bipush X18.here hx rfl (hb hby d3_109) ?_
    show Steps p.tables e below (T18.setTop (mkF m 111 #[.val (.int p1), .unset] [(.int (16 : Int32)), (.ref b2), (.ref b2)])) _
    refine X18.ldc2Long hx hown (mvT hZ (hw _ (List.mem_of_getElem? (i := 31) rfl))) (g := (mkF m 111 #[.val (.int p1), .unset] [(.int (16 : Int32)), (.ref b2), (.ref b2)])) rfl (hb hby d3_111) _ ?_
    show Steps p.tables e below (T18.setTop (mkF m 114 #[.val (.int p1), .unset] [(.long (10000000000000000 : Int64)), (.int (16 : Int32)), (.ref b2), (.ref b2)])) _
    refine st19 _ ?_
    show Steps p.tables e below (T19.setTop (mkF m 115 #[.val (.int p1), .unset] [(.ref b2)])) _
    refine XS.dup X19.here hx rfl (hb hby d3_115) rfl rfl ?_
    show Steps p.tables e below (T19.setTop (mkF m 116 #[.val (.int p1), .unset] [(.ref b2), (.ref b2)])) _
    refine XS.bipush X19.here hx rfl (hb hby d3_116) ?_
    show Steps p.tables e below (T19.setTop (mkF m 118 #[.val (.int p1), .unset] [(.int (17 : Int32)), (.ref b2), (.ref b2)])) _
    refine X19.ldc2Long hx hown (mvT hZ (hw _ (List.mem_of_getElem? (i := 32) rfl))) (g := (mkF m 118 #[.val (.int p1), .unset] [(.int (17 : Int32)), (.ref b2), (.ref b2)])) rfl (hb hby d3_118) _ ?_
    show Steps p.tables e below (T19.setTop (mkF m 121 #[.val (.int p1), .unset] [(.long (100000000000000000 : Int64)), (.int (17 : Int32)), (.ref b2), (.ref b2)])) _
    refine st20 _ ?_
    show Steps p.tables e below (T20.setTop (mkF m 122 #[.val (.int p1), .unset] [(.ref b2)])) _
    refine XS.dup X20.here hx rfl (hb hby d3_122) rfl rfl ?_
    show Steps p.tables e below (T20.setTop (mkF m 123 #[.val (.int p1), .unset] [(.ref b2), (.ref b2)])) _
    refine XS.bipush X20.here hx rfl (hb hby d3_123) ?_
    show Steps p.tables e below (T20.setTop (mkF m 125 #[.val (.int p1), .unset] [(.int (18 : Int32)), (.ref b2), (.ref b2)])) _
    refine X20.ldc2Long hx hown (mvT hZ (hw _ (List.mem_of_getElem? (i := 33) rfl))) (g := (mkF m 125 #[.val (.int p1), .unset] [(.int (18 : Int32)), (.ref b2), (.ref b2)])) rfl (hb hby d3_125) _ ?_
    show Steps p.tables e below (T20.setTop (mkF m 128 #[.val (.int p1), .unset] [(.long (1000000000000000000 : Int64)), (.int (18 : Int32)), (.ref b2), (.ref b2)])) _
    refine st21 _ ?_
    show Steps p.tables e below (T21.setTop (mkF m 129 #[.val (.int p1), .unset] [(.ref b2)])) _
    refine XS.astoreN X21.here hx rfl (hb hby d3_129) rfl rfl (l' := #[.val (.int p1), .val (.ref b2)]) rfl ?_
    show Steps p.tables e below (T21.setTop (mkF m 130 #[.val (.int p1), .val (.ref b2)] [])) _
    refine XS.aloadN X21.here hx rfl (hb hby d3_130) rfl rfl ?_
    show Steps p.tables e below (T21.setTop (mkF m 131 #[.val (.int p1), .val (.ref b2)] [(.ref b2)])) _
    refine XS.iloadN X21.here hx rfl (hb hby d3_131) rfl ?_
    show Steps p.tables e below (T21.setTop (mkF m 132 #[.val (.int p1), .val (.ref b2)] [(.int p1), (.ref b2)])) _
    refine X21.laload hx (j := p1) (v := (.long (F3 p1))) (by rw [e21]; exact Ar_b2.1) (State.isArrayOf_alike hZ.alike Ar_b2.2.1) Ar_b2.2.2 hin132 hat132 (g := (mkF m 132 #[.val (.int p1), .val (.ref b2)] [(.int p1), (.ref b2)])) rfl rfl (hb hby d3_132) _ ?_
    show Steps p.tables e below (T21.setTop (mkF m 133 #[.val (.int p1), .val (.ref b2)] [(.long (F3 p1))])) _
    jvm_step X21.here [X21.here.top, hx, (hb hby d3_133), X21.method', Bd.returns, narrow]
    first | (intro acts; rw [hr _ acts rfl rfl rfl]) | rw [hr _ _ rfl rfl rfl]
    exact Steps.refl _
  · show Q3 Z p1 h0 n0 _ T21.heap _
    rw [e21]
    exact ⟨rfl, N21, K21⟩

theorem d2_0 : decode method_3_code 0 = .ok (.iload_n 0, 1) := by decide +kernel
theorem d2_1 : decode method_3_code 1 = .ok (.ifCond .lt 51, 3) := by decide +kernel
theorem d2_4 : decode method_3_code 4 = .ok (.iload_n 1, 1) := by decide +kernel
theorem d2_5 : decode method_3_code 5 = .ok (.ifCond .lt 9, 3) := by decide +kernel
theorem d2_8 : decode method_3_code 8 = .ok (.iload_n 1, 1) := by decide +kernel
theorem d2_9 : decode method_3_code 9 = .ok (.bipush 18, 2) := by decide +kernel
theorem d2_11 : decode method_3_code 11 = .ok (.if_icmp .le 5, 3) := by decide +kernel
theorem d2_14 : decode method_3_code 14 = .ok (.iconst 0, 1) := by decide +kernel
theorem d2_15 : decode method_3_code 15 = .ok (.ireturn, 1) := by decide +kernel
theorem d2_16 : decode method_3_code 16 = .ok (.ldc2_w 20, 3) := by decide +kernel
theorem d2_19 : decode method_3_code 19 = .ok (.iload_n 0, 1) := by decide +kernel
theorem d2_20 : decode method_3_code 20 = .ok (.lshl, 1) := by decide +kernel
theorem d2_21 : decode method_3_code 21 = .ok (.lstore_n 2, 1) := by decide +kernel
theorem d2_22 : decode method_3_code 22 = .ok (.iload_n 1, 1) := by decide +kernel
theorem d2_23 : decode method_3_code 23 = .ok (.invokestatic 24, 3) := by decide +kernel
theorem d2_26 : decode method_3_code 26 = .ok (.lstore 4, 2) := by decide +kernel
theorem d2_28 : decode method_3_code 28 = .ok (.lload 4, 2) := by decide +kernel
theorem d2_30 : decode method_3_code 30 = .ok (.lload_n 2, 1) := by decide +kernel
theorem d2_31 : decode method_3_code 31 = .ok (.lcmp, 1) := by decide +kernel
theorem d2_32 : decode method_3_code 32 = .ok (.ifCond .gt 18, 3) := by decide +kernel
theorem d2_35 : decode method_3_code 35 = .ok (.lload_n 2, 1) := by decide +kernel
theorem d2_36 : decode method_3_code 36 = .ok (.ldc2_w 28, 3) := by decide +kernel
theorem d2_39 : decode method_3_code 39 = .ok (.ldiv, 1) := by decide +kernel
theorem d2_40 : decode method_3_code 40 = .ok (.lload 4, 2) := by decide +kernel
theorem d2_42 : decode method_3_code 42 = .ok (.lcmp, 1) := by decide +kernel
theorem d2_43 : decode method_3_code 43 = .ok (.ifCond .ge 7, 3) := by decide +kernel
theorem d2_46 : decode method_3_code 46 = .ok (.iconst 1, 1) := by decide +kernel
theorem d2_47 : decode method_3_code 47 = .ok (.goto 4, 3) := by decide +kernel
theorem d2_50 : decode method_3_code 50 = .ok (.iconst 0, 1) := by decide +kernel
theorem d2_51 : decode method_3_code 51 = .ok (.ireturn, 1) := by decide +kernel
theorem d2_52 : decode method_3_code 52 = .ok (.iload_n 1, 1) := by decide +kernel
theorem d2_53 : decode method_3_code 53 = .ok (.ifCond .gt 9, 3) := by decide +kernel
theorem d2_56 : decode method_3_code 56 = .ok (.iload_n 1, 1) := by decide +kernel
theorem d2_57 : decode method_3_code 57 = .ok (.bipush (-18), 2) := by decide +kernel
theorem d2_59 : decode method_3_code 59 = .ok (.if_icmp .ge 5, 3) := by decide +kernel
theorem d2_62 : decode method_3_code 62 = .ok (.iconst 0, 1) := by decide +kernel
theorem d2_63 : decode method_3_code 63 = .ok (.ireturn, 1) := by decide +kernel
theorem d2_64 : decode method_3_code 64 = .ok (.iload_n 1, 1) := by decide +kernel
theorem d2_65 : decode method_3_code 65 = .ok (.ineg, 1) := by decide +kernel
theorem d2_66 : decode method_3_code 66 = .ok (.istore_n 2, 1) := by decide +kernel
theorem d2_67 : decode method_3_code 67 = .ok (.lconst 1, 1) := by decide +kernel
theorem d2_68 : decode method_3_code 68 = .ok (.iload_n 0, 1) := by decide +kernel
theorem d2_69 : decode method_3_code 69 = .ok (.ineg, 1) := by decide +kernel
theorem d2_70 : decode method_3_code 70 = .ok (.lshl, 1) := by decide +kernel
theorem d2_71 : decode method_3_code 71 = .ok (.lstore_n 3, 1) := by decide +kernel
theorem d2_72 : decode method_3_code 72 = .ok (.lload_n 3, 1) := by decide +kernel
theorem d2_73 : decode method_3_code 73 = .ok (.ldc2_w 20, 3) := by decide +kernel
theorem d2_76 : decode method_3_code 76 = .ok (.iload_n 2, 1) := by decide +kernel
theorem d2_77 : decode method_3_code 77 = .ok (.invokestatic 24, 3) := by decide +kernel
theorem d2_80 : decode method_3_code 80 = .ok (.lmul, 1) := by decide +kernel
theorem d2_81 : decode method_3_code 81 = .ok (.lcmp, 1) := by decide +kernel
theorem d2_82 : decode method_3_code 82 = .ok (.ifCond .gt 7, 3) := by decide +kernel
theorem d2_85 : decode method_3_code 85 = .ok (.iconst 1, 1) := by decide +kernel
theorem d2_86 : decode method_3_code 86 = .ok (.goto 4, 3) := by decide +kernel
theorem d2_89 : decode method_3_code 89 = .ok (.iconst 0, 1) := by decide +kernel
theorem d2_90 : decode method_3_code 90 = .ok (.istore 5, 2) := by decide +kernel
theorem d2_92 : decode method_3_code 92 = .ok (.iload_n 2, 1) := by decide +kernel
theorem d2_93 : decode method_3_code 93 = .ok (.ifCond .eq 18, 3) := by decide +kernel
theorem d2_96 : decode method_3_code 96 = .ok (.ldc2_w 20, 3) := by decide +kernel
theorem d2_99 : decode method_3_code 99 = .ok (.iload_n 2, 1) := by decide +kernel
theorem d2_100 : decode method_3_code 100 = .ok (.iconst 1, 1) := by decide +kernel
theorem d2_101 : decode method_3_code 101 = .ok (.isub, 1) := by decide +kernel
theorem d2_102 : decode method_3_code 102 = .ok (.invokestatic 24, 3) := by decide +kernel
theorem d2_105 : decode method_3_code 105 = .ok (.lmul, 1) := by decide +kernel
theorem d2_106 : decode method_3_code 106 = .ok (.lload_n 3, 1) := by decide +kernel
theorem d2_107 : decode method_3_code 107 = .ok (.lcmp, 1) := by decide +kernel
theorem d2_108 : decode method_3_code 108 = .ok (.ifCond .ge 7, 3) := by decide +kernel
theorem d2_111 : decode method_3_code 111 = .ok (.iconst 1, 1) := by decide +kernel
theorem d2_112 : decode method_3_code 112 = .ok (.goto 4, 3) := by decide +kernel
theorem d2_115 : decode method_3_code 115 = .ok (.iconst 0, 1) := by decide +kernel
theorem d2_116 : decode method_3_code 116 = .ok (.istore 6, 2) := by decide +kernel
theorem d2_118 : decode method_3_code 118 = .ok (.iload 5, 2) := by decide +kernel
theorem d2_120 : decode method_3_code 120 = .ok (.ifCond .eq 12, 3) := by decide +kernel
theorem d2_123 : decode method_3_code 123 = .ok (.iload 6, 2) := by decide +kernel
theorem d2_125 : decode method_3_code 125 = .ok (.ifCond .eq 7, 3) := by decide +kernel
theorem d2_128 : decode method_3_code 128 = .ok (.iconst 1, 1) := by decide +kernel
theorem d2_129 : decode method_3_code 129 = .ok (.goto 4, 3) := by decide +kernel
theorem d2_132 : decode method_3_code 132 = .ok (.iconst 0, 1) := by decide +kernel
theorem d2_133 : decode method_3_code 133 = .ok (.ireturn, 1) := by decide +kernel
theorem pn_2 : plainName "com/example/cellstream/cellstream/io/BinaryToDecimalFloorLog10ThreeQuartersPow2PinLaw" = true := by first | (simp [plainName, overriddenIn]; done) | decide +kernel
theorem pd_2_3 : parseMethodDescriptor "(I)J" = some ⟨[.int], some .long⟩ := by decide +kernel
theorem ef_2 (m : MethodId) (x0 : Int32) (x1 : Int32) : entryFrame m #[(.int x0), (.int x1)] 7 = mkF m 0 #[.val (.int x0), .val (.int x1), .unset, .unset, .unset, .unset, .unset] [] := by first | (simp [entryFrame, mkF, argsToLocals, Value.category]; done) | rfl
def F2 (p1 : Int32) (p2 : Int32) : Int32 :=
  (if p1 < (0 : Int32) then (if (0 : Int32) < p2 then (0 : Int32) else (if p2 < (-18 : Int32) then (0 : Int32) else (let v14 : Int32 := (if ((3 : Int64) * (F3 (-p2))) < ((1 : Int64) <<< ((-p1) &&& 0x3f).toInt64) then (0 : Int32) else (1 : Int32)); (if (-p2) = (0 : Int32) then (let v26 : Int32 := (if v14 = (0 : Int32) then (0 : Int32) else (if (1 : Int32) = (0 : Int32) then (0 : Int32) else (1 : Int32))); (nar .boolean v26)) else (let v34 : Int32 := (if ((3 : Int64) * (F3 ((-p2) - (1 : Int32)))) < ((1 : Int64) <<< ((-p1) &&& 0x3f).toInt64) then (1 : Int32) else (0 : Int32)); let v44 : Int32 := (if v14 = (0 : Int32) then (0 : Int32) else (if v34 = (0 : Int32) then (0 : Int32) else (1 : Int32))); (nar .boolean v44)))))) else (if p2 < (0 : Int32) then (0 : Int32) else (if (18 : Int32) < p2 then (0 : Int32) else (let v61 : Int32 := (if ((3 : Int64) <<< (p1 &&& 0x3f).toInt64) < (F3 p2) then (0 : Int32) else (if (((3 : Int64) <<< (p1 &&& 0x3f).toInt64) / (10 : Int64)) < (F3 p2) then (1 : Int32) else (0 : Int32))); (nar .boolean v61)))))
def Q2 (Z : State) (p1 : Int32) (p2 : Int32) (h0 : Heap) (n0 : Nat) (v : Option Value) (h : Heap) (L : List Loc) : Prop := v = some (.int (F2 p1 p2)) ∧ Fr n0 L ∧ Keep h0 h []
set_option maxRecDepth 65536 in
set_option maxHeartbeats 40000000 in
theorem rm2 (l : Launch) (Z : State) (a0 : Array Value) (hw : ∀ d ∈ tables_1, d.before a0 Z = true) (ws : List Jvm.Cond) (p1 : Int32) (p2 : Int32) (h0 : Heap) (n0 : Nat) (Z0 : n0 ≤ h0.size) :
    MetFree l (⟨"com/example/cellstream/cellstream/io/BinaryToDecimalFloorLog10ThreeQuartersPow2PinLaw", "exactFloor", "(II)Z"⟩ : MethodName) (head1 (Jvm.Cond.code (⟨"com/example/cellstream/cellstream/io/BinaryToDecimalFloorLog10ThreeQuartersPow2PinLaw", "exactFloor", "(II)Z"⟩ : MethodName) method_3_code 7 (some .boolean) :: ws) ({ frames := 1, cells := 2, slots := 38, locals := 17 } : Room)) (fun a U => a = #[(.int p1), (.int p2)] ∧ Z.Warmed39 U.vm ∧ U.heap = h0) (fun _ _ _ _ _ => True) (fun _ U o U' => ∃ v L, o = .returned v ∧ Q2 Z p1 p2 h0 n0 v U'.heap L ∧ FrameEnd U o U' L ({ frames := 1, cells := 2, slots := 38, locals := 17 } : Room).cells ({ frames := 1, cells := 2, slots := 38, locals := 17 } : Room).slots) := by
  refine MetFree.of_bodySF (plainFor_of_name pn_2) hisR ?_
  intro p e s m args below meth c s₁ Bd hml0 hP hK
  obtain ⟨rfl, hZ, hh⟩ := hP
  have hx := Bd.exec
  have hby := Bd.bytes
  have hml : c.maxLocals = 7 := hml0
  have hown : s.vm.findClass "com/example/cellstream/cellstream/io/BinaryToDecimalFloorLog10ThreeQuartersPow2PinLaw" = some m.cls := findClass_of_methodNamed Bd.named
  have hnm := (name_of_methodNamed Bd.named Bd.method).1
  have X0 : Stand p l e ({ frames := 1, cells := 2, slots := 38, locals := 17 } : Room) s m #[(.int p1), (.int p2)] below meth c s₁ [] 0 0 := Stand.of_body Bd
  have e0 : s₁.heap = h0 := by rw [← hh, Bd.state]; rfl
  have N0 := Fr.nil n0
  have pre0 : ∀ t, Steps p.tables e below (s₁.setTop (mkF m 0 #[.val (.int p1), .val (.int p2), .unset, .unset, .unset, .unset, .unset] [])) t → Steps p.tables e below (s₁.setTop (entryFrame m #[(.int p1), (.int p2)] 7)) t := fun t k => castTop (ef_2 m p1 p2) k
  have R2 : ∀ t, Steps p.tables e below (s₁.setTop (mkF m 1 #[.val (.int p1), .val (.int p2), .unset, .unset, .unset, .unset, .unset] [(.int p1)])) t → Steps p.tables e below (s₁.setTop (entryFrame m #[(.int p1), (.int p2)] 7)) t := by
    intro t kt
    refine pre0 _ ?_
    show Steps p.tables e below (s₁.setTop (mkF m 0 #[.val (.int p1), .val (.int p2), .unset, .unset, .unset, .unset, .unset] [])) _
    refine XS.iloadN X0.here hx rfl (hb hby d2_0) rfl ?_
    exact kt
  by_cases hc1 : p1 < (0 : Int32)
  · have R4 : ∀ t, Steps p.tables e below (s₁.setTop (mkF m 53 #[.val (.int p1), .val (.int p2), .unset, .unset, .unset, .unset, .unset] [(.int p2)])) t → Steps p.tables e below (s₁.setTop (entryFrame m #[(.int p1), (.int p2)] 7)) t := by
      intro t kt
      refine R2 _ ?_
      show Steps p.tables e below (s₁.setTop (mkF m 1 #[.val (.int p1), .val (.int p2), .unset, .unset, .unset, .unset, .unset] [(.int p1)])) _
      refine XS.ifYes X0.here hx rfl (pc0 := 1) (pc' := 52) rfl (hb hby d2_1) rfl ((if0 _ _).trans (tlt hc1).1) (by decide) (by decide) ?_
      show Steps p.tables e below (s₁.setTop (mkF m 52 #[.val (.int p1), .val (.int p2), .unset, .unset, .unset, .unset, .unset] [])) _
      refine XS.iloadN X0.here hx rfl (hb hby d2_52) rfl ?_
      exact kt
    by_cases hc3 : (0 : Int32) < p2
    · have R5 : ∀ t, Steps p.tables e below (s₁.setTop (mkF m 63 #[.val (.int p1), .val (.int p2), .unset, .unset, .unset, .unset, .unset] [(.int (0 : Int32))])) t → Steps p.tables e below (s₁.setTop (entryFrame m #[(.int p1), (.int p2)] 7)) t := by
        intro t kt
        refine R4 _ ?_
        show Steps p.tables e below (s₁.setTop (mkF m 53 #[.val (.int p1), .val (.int p2), .unset, .unset, .unset, .unset, .unset] [(.int p2)])) _
        refine XS.ifYes X0.here hx rfl (pc0 := 53) (pc' := 62) rfl (hb hby d2_53) rfl ((if0 _ _).trans (tlt hc3).2.2.1) (by decide) (by decide) ?_
        show Steps p.tables e below (s₁.setTop (mkF m 62 #[.val (.int p1), .val (.int p2), .unset, .unset, .unset, .unset, .unset] [])) _
        refine XS.iconst X0.here hx rfl (hb hby d2_62) ?_
        exact kt
      obtain ⟨fs, hr, hrun, hended, hW, hsame⟩ := X0.leave (v := some (.int (0 : Int32))) (fun h => by rw [Bd.returns] at h; cases h)
      refine ⟨_, _, R5 _ ?_, hrun, hended, _, _, rfl, ?_, ⟨_, rfl⟩, hW, hsame.mono (by decide) (by decide)⟩
      · show Steps p.tables e below (s₁.setTop (mkF m 63 #[.val (.int p1), .val (.int p2), .unset, .unset, .unset, .unset, .unset] [(.int (0 : Int32))])) _
        exact retN X0 hx (t := .boolean) Bd.returns (by simp) (hb hby d2_63) hr
      · show Q2 Z p1 p2 h0 n0 _ s₁.heap _
        rw [e0]
        refine ⟨?_, (Fr.nil n0), (Keep.refl h0 [])⟩
        simp only [F2, if_pos hc1, if_pos hc3]
    · have R7 : ∀ t, Steps p.tables e below (s₁.setTop (mkF m 59 #[.val (.int p1), .val (.int p2), .unset, .unset, .unset, .unset, .unset] [(.int (-18 : Int32)), (.int p2)])) t → Steps p.tables e below (s₁.setTop (entryFrame m #[(.int p1), (.int p2)] 7)) t := by
        intro t kt
        refine R4 _ ?_
        show Steps p.tables e below (s₁.setTop (mkF m 53 #[.val (.int p1), .val (.int p2), .unset, .unset, .unset, .unset, .unset] [(.int p2)])) _
        refine XS.ifNo X0.here hx rfl (hb hby d2_53) rfl ((if0 _ _).trans (flt hc3).2.2.1) ?_
        show Steps p.tables e below (s₁.setTop (mkF m 56 #[.val (.int p1), .val (.int p2), .unset, .unset, .unset, .unset, .unset] [])) _
        refine XS.iloadN X0.here hx rfl (hb hby d2_56) rfl ?_
        show Steps p.tables e below (s₁.setTop (mkF m 57 #[.val (.int p1), .val (.int p2), .unset, .unset, .unset, .unset, .unset] [(.int p2)])) _
        refine XS.bipush X0.here hx rfl (hb hby d2_57) ?_
        exact kt
      by_cases hc6 : p2 < (-18 : Int32)
      · have R8 : ∀ t, Steps p.tables e below (s₁.setTop (mkF m 63 #[.val (.int p1), .val (.int p2), .unset, .unset, .unset, .unset, .unset] [(.int (0 : Int32))])) t → Steps p.tables e below (s₁.setTop (entryFrame m #[(.int p1), (.int p2)] 7)) t := by
          intro t kt
          refine R7 _ ?_
          show Steps p.tables e below (s₁.setTop (mkF m 59 #[.val (.int p1), .val (.int p2), .unset, .unset, .unset, .unset, .unset] [(.int (-18 : Int32)), (.int p2)])) _
          refine XS.icmpNo X0.here hx rfl (hb hby d2_59) rfl (tlt hc6).2.1 ?_
          show Steps p.tables e below (s₁.setTop (mkF m 62 #[.val (.int p1), .val (.int p2), .unset, .unset, .unset, .unset, .unset] [])) _
          refine XS.iconst X0.here hx rfl (hb hby d2_62) ?_
          exact kt
        obtain ⟨fs, hr, hrun, hended, hW, hsame⟩ := X0.leave (v := some (.int (0 : Int32))) (fun h => by rw [Bd.returns] at h; cases h)
        refine ⟨_, _, R8 _ ?_, hrun, hended, _, _, rfl, ?_, ⟨_, rfl⟩, hW, hsame.mono (by decide) (by decide)⟩
        · show Steps p.tables e below (s₁.setTop (mkF m 63 #[.val (.int p1), .val (.int p2), .unset, .unset, .unset, .unset, .unset] [(.int (0 : Int32))])) _
          exact retN X0 hx (t := .boolean) Bd.returns (by simp) (hb hby d2_63) hr
        · show Q2 Z p1 p2 h0 n0 _ s₁.heap _
          rw [e0]
          refine ⟨?_, (Fr.nil n0), (Keep.refl h0 [])⟩
          simp only [F2, if_pos hc1, if_neg hc3, if_pos hc6]
      · obtain ⟨_, _, ⟨T9, L9, k9, n9⟩, -, X9, ⟨Lc9, hQ9, l9, y9, z9⟩, st9⟩ := Jvm.LawKit.callS X0 hx (y := (⟨"com/example/cellstream/cellstream/io/BinaryToDecimalFloorLog10ThreeQuartersPow2PinLaw", "pow10", "(I)J"⟩ : MethodName)) hown (mvT hZ (hw _ (List.mem_of_getElem? (i := 12) rfl))) (mvT hZ (hw _ (List.mem_of_getElem? (i := 13) rfl))) (mvT hZ (hw _ (List.mem_of_getElem? (i := 9) rfl))) (mvT hZ (hw _ (List.mem_of_getElem? (i := 14) rfl))) (by decide) (backOf (W := 4) (rm3 l Z a0 hw [] (-p2) h0 n0 Z0 (own_i2 hc3 hc6)) hZ (hw _ (List.mem_of_getElem? (i := 14) rfl)) (hw _ (List.mem_of_getElem? (i := 9) rfl)) (by decide) (by decide)) (g := (mkF m 77 #[.val (.int p1), .val (.int p2), .val (.int (-p2)), .val (.long ((1 : Int64) <<< ((-p1) &&& 0x3f).toInt64)), .second, .unset, .unset] [(.int (-p2)), (.long (3 : Int64)), (.long ((1 : Int64) <<< ((-p1) &&& 0x3f).toInt64))])) rfl (by rw [hml]; rfl) (argsL := [(.int (-p2))]) (rest := [(.long (3 : Int64)), (.long ((1 : Int64) <<< ((-p1) &&& 0x3f).toInt64))]) (lenOf pd_2_3 rfl) rfl (by show 2 * 0 + _ ≤ _; exact Nat.le_of_eq rfl) (hb hby d2_77) (fun _ _ => ⟨rfl, e0, (by decide : 0 + 1 ≤ _), (by decide : 0 + 19 ≤ _)⟩)
        dsimp only [Pt.U, Pt.locs, Pt.cells, Pt.slots] at X9 l9 y9 z9 st9 hQ9
        subst l9 y9 z9
        obtain ⟨rfl, N9q, K9⟩ := hQ9
        have N9 := Fr.app (Fr.nil n0) N9q
        have KK9 : Keep h0 T9.heap [] := (Keep.refl h0 []).trans K9 (fun _ q => nomatch q)
        have Z9 : n0 ≤ T9.heap.size := Nat.le_trans Z0 K9.1
        replace X9 : Stand p l e ({ frames := 1, cells := 2, slots := 38, locals := 17 } : Room) s m #[(.int p1), (.int p2)] below meth c T9 L9 1 19 := X9
        have R11 : ∀ t, Steps p.tables e below (T9.setTop (mkF m 82 #[.val (.int p1), .val (.int p2), .val (.int (-p2)), .val (.long ((1 : Int64) <<< ((-p1) &&& 0x3f).toInt64)), .second, .unset, .unset] [(.int (lcmpW ((1 : Int64) <<< ((-p1) &&& 0x3f).toInt64) ((3 : Int64) * (F3 (-p2)))))])) t → Steps p.tables e below (s₁.setTop (entryFrame m #[(.int p1), (.int p2)] 7)) t := by
          intro t kt
          refine R7 _ ?_
          show Steps p.tables e below (s₁.setTop (mkF m 59 #[.val (.int p1), .val (.int p2), .unset, .unset, .unset, .unset, .unset] [(.int (-18 : Int32)), (.int p2)])) _
          refine XS.icmpYes X0.here hx rfl (pc0 := 59) (pc' := 64) rfl (hb hby d2_59) rfl (flt hc6).2.1 (by decide) (by decide) ?_
          show Steps p.tables e below (s₁.setTop (mkF m 64 #[.val (.int p1), .val (.int p2), .unset, .unset, .unset, .unset, .unset] [])) _
          refine XS.iloadN X0.here hx rfl (hb hby d2_64) rfl ?_
          show Steps p.tables e below (s₁.setTop (mkF m 65 #[.val (.int p1), .val (.int p2), .unset, .unset, .unset, .unset, .unset] [(.int p2)])) _
          refine XS.ineg X0.here hx rfl (hb hby d2_65) rfl ?_
          show Steps p.tables e below (s₁.setTop (mkF m 66 #[.val (.int p1), .val (.int p2), .unset, .unset, .unset, .unset, .unset] [(.int (-p2))])) _
          refine XS.istoreN X0.here hx rfl (hb hby d2_66) rfl (l' := #[.val (.int p1), .val (.int p2), .val (.int (-p2)), .unset, .unset, .unset, .unset]) rfl ?_
          show Steps p.tables e below (s₁.setTop (mkF m 67 #[.val (.int p1), .val (.int p2), .val (.int (-p2)), .unset, .unset, .unset, .unset] [])) _
          refine XS.lconst X0.here hx rfl (hb hby d2_67) ?_
          show Steps p.tables e below (s₁.setTop (mkF m 68 #[.val (.int p1), .val (.int p2), .val (.int (-p2)), .unset, .unset, .unset, .unset] [(.long (1 : Int64))])) _
          refine XS.iloadN X0.here hx rfl (hb hby d2_68) rfl ?_
          show Steps p.tables e below (s₁.setTop (mkF m 69 #[.val (.int p1), .val (.int p2), .val (.int (-p2)), .unset, .unset, .unset, .unset] [(.int p1), (.long (1 : Int64))])) _
          refine XS.ineg X0.here hx rfl (hb hby d2_69) rfl ?_
          show Steps p.tables e below (s₁.setTop (mkF m 70 #[.val (.int p1), .val (.int p2), .val (.int (-p2)), .unset, .unset, .unset, .unset] [(.int (-p1)), (.long (1 : Int64))])) _
          refine XS.lshl X0.here hx rfl (hb hby d2_70) rfl ?_
          show Steps p.tables e below (s₁.setTop (mkF m 71 #[.val (.int p1), .val (.int p2), .val (.int (-p2)), .unset, .unset, .unset, .unset] [(.long ((1 : Int64) <<< ((-p1) &&& 0x3f).toInt64))])) _
          refine XS.lstoreN X0.here hx rfl (hb hby d2_71) rfl (l' := #[.val (.int p1), .val (.int p2), .val (.int (-p2)), .val (.long ((1 : Int64) <<< ((-p1) &&& 0x3f).toInt64)), .second, .unset, .unset]) rfl ?_
          show Steps p.tables e below (s₁.setTop (mkF m 72 #[.val (.int p1), .val (.int p2), .val (.int (-p2)), .val (.long ((1 : Int64) <<< ((-p1) &&& 0x3f).toInt64)), .second, .unset, .unset] [])) _
          refine XS.lloadN X0.here hx rfl (hb hby d2_72) rfl ?_
          show Steps p.tables e below (s₁.setTop (mkF m 73 #[.val (.int p1), .val (.int p2), .val (.int (-p2)), .val (.long ((1 : Int64) <<< ((-p1) &&& 0x3f).toInt64)), .second, .unset, .unset] [(.long ((1 : Int64) <<< ((-p1) &&& 0x3f).toInt64))])) _
          refine X0.ldc2Long hx hown (mvT hZ (hw _ (List.mem_of_getElem? (i := 11) rfl))) (g := (mkF m 73 #[.val (.int p1), .val (.int p2), .val (.int (-p2)), .val (.long ((1 : Int64) <<< ((-p1) &&& 0x3f).toInt64)), .second, .unset, .unset] [(.long ((1 : Int64) <<< ((-p1) &&& 0x3f).toInt64))])) rfl (hb hby d2_73) _ ?_
          show Steps p.tables e below (s₁.setTop (mkF m 76 #[.val (.int p1), .val (.int p2), .val (.int (-p2)), .val (.long ((1 : Int64) <<< ((-p1) &&& 0x3f).toInt64)), .second, .unset, .unset] [(.long (3 : Int64)), (.long ((1 : Int64) <<< ((-p1) &&& 0x3f).toInt64))])) _
          refine XS.iloadN X0.here hx rfl (hb hby d2_76) rfl ?_
          show Steps p.tables e below (s₁.setTop (mkF m 77 #[.val (.int p1), .val (.int p2), .val (.int (-p2)), .val (.long ((1 : Int64) <<< ((-p1) &&& 0x3f).toInt64)), .second, .unset, .unset] [(.int (-p2)), (.long (3 : Int64)), (.long ((1 : Int64) <<< ((-p1) &&& 0x3f).toInt64))])) _
          refine st9 _ ?_
          show Steps p.tables e below (T9.setTop (mkF m 80 #[.val (.int p1), .val (.int p2), .val (.int (-p2)), .val (.long ((1 : Int64) <<< ((-p1) &&& 0x3f).toInt64)), .second, .unset, .unset] [(.long (F3 (-p2))), (.long (3 : Int64)), (.long ((1 : Int64) <<< ((-p1) &&& 0x3f).toInt64))])) _
          refine XS.lmul X9.here hx rfl (hb hby d2_80) rfl ?_
          show Steps p.tables e below (T9.setTop (mkF m 81 #[.val (.int p1), .val (.int p2), .val (.int (-p2)), .val (.long ((1 : Int64) <<< ((-p1) &&& 0x3f).toInt64)), .second, .unset, .unset] [(.long ((3 : Int64) * (F3 (-p2)))), (.long ((1 : Int64) <<< ((-p1) &&& 0x3f).toInt64))])) _
          refine XS.lcmp X9.here hx rfl (hb hby d2_81) rfl ?_
          exact kt
        have J16 : ∃ (v14 : Int32), v14 = (if ((3 : Int64) * (F3 (-p2))) < ((1 : Int64) <<< ((-p1) &&& 0x3f).toInt64) then (0 : Int32) else (1 : Int32)) ∧ ∀ t, Steps p.tables e below (T9.setTop (mkF m 90 #[.val (.int p1), .val (.int p2), .val (.int (-p2)), .val (.long ((1 : Int64) <<< ((-p1) &&& 0x3f).toInt64)), .second, .unset, .unset] [(.int v14)])) t → Steps p.tables e below (s₁.setTop (entryFrame m #[(.int p1), (.int p2)] 7)) t := by
          by_cases hc10 : ((3 : Int64) * (F3 (-p2))) < ((1 : Int64) <<< ((-p1) &&& 0x3f).toInt64)
          · have R12 : ∀ t, Steps p.tables e below (T9.setTop (mkF m 90 #[.val (.int p1), .val (.int p2), .val (.int (-p2)), .val (.long ((1 : Int64) <<< ((-p1) &&& 0x3f).toInt64)), .second, .unset, .unset] [(.int (0 : Int32))])) t → Steps p.tables e below (s₁.setTop (entryFrame m #[(.int p1), (.int p2)] 7)) t := by
              intro t kt
              refine R11 _ ?_
              show Steps p.tables e below (T9.setTop (mkF m 82 #[.val (.int p1), .val (.int p2), .val (.int (-p2)), .val (.long ((1 : Int64) <<< ((-p1) &&& 0x3f).toInt64)), .second, .unset, .unset] [(.int (lcmpW ((1 : Int64) <<< ((-p1) &&& 0x3f).toInt64) ((3 : Int64) * (F3 (-p2)))))])) _
              refine XS.ifYes X9.here hx rfl (pc0 := 82) (pc' := 89) rfl (hb hby d2_82) rfl ((if0 _ _).trans (tlt ((lw_gt _ _).mpr hc10)).2.2.1) (by decide) (by decide) ?_
              show Steps p.tables e below (T9.setTop (mkF m 89 #[.val (.int p1), .val (.int p2), .val (.int (-p2)), .val (.long ((1 : Int64) <<< ((-p1) &&& 0x3f).toInt64)), .second, .unset, .unset] [])) _
              refine XS.iconst X9.here hx rfl (hb hby d2_89) ?_
              exact kt
            exact ⟨(0 : Int32), (by rw [if_pos hc10]), R12⟩
          · have R13 : ∀ t, Steps p.tables e below (T9.setTop (mkF m 90 #[.val (.int p1), .val (.int p2), .val (.int (-p2)), .val (.long ((1 : Int64) <<< ((-p1) &&& 0x3f).toInt64)), .second, .unset, .unset] [(.int (1 : Int32))])) t → Steps p.tables e below (s₁.setTop (entryFrame m #[(.int p1), (.int p2)] 7)) t := by
              intro t kt
              refine R11 _ ?_
              show Steps p.tables e below (T9.setTop (mkF m 82 #[.val (.int p1), .val (.int p2), .val (.int (-p2)), .val (.long ((1 : Int64) <<< ((-p1) &&& 0x3f).toInt64)), .second, .unset, .unset] [(.int (lcmpW ((1 : Int64) <<< ((-p1) &&& 0x3f).toInt64) ((3 : Int64) * (F3 (-p2)))))])) _
              refine XS.ifNo X9.here hx rfl (hb hby d2_82) rfl ((if0 _ _).trans (flt (fun q => hc10 ((lw_gt _ _).mp q))).2.2.1) ?_
              show Steps p.tables e below (T9.setTop (mkF m 85 #[.val (.int p1), .val (.int p2), .val (.int (-p2)), .val (.long ((1 : Int64) <<< ((-p1) &&& 0x3f).toInt64)), .second, .unset, .unset] [])) _
              refine XS.iconst X9.here hx rfl (hb hby d2_85) ?_
              show Steps p.tables e below (T9.setTop (mkF m 86 #[.val (.int p1), .val (.int p2), .val (.int (-p2)), .val (.long ((1 : Int64) <<< ((-p1) &&& 0x3f).toInt64)), .second, .unset, .unset] [(.int (1 : Int32))])) _
              refine XS.goto X9.here hx rfl (pc0 := 86) (pc' := 90) rfl (hb hby d2_86) (by decide) (by decide) ?_
              exact kt
            exact ⟨(1 : Int32), (by rw [if_neg hc10]), R13⟩
        obtain ⟨v14, hv14, R15⟩ := J16
        have R18 : ∀ t, Steps p.tables e below (T9.setTop (mkF m 93 #[.val (.int p1), .val (.int p2), .val (.int (-p2)), .val (.long ((1 : Int64) <<< ((-p1) &&& 0x3f).toInt64)), .second, .val (.int v14), .unset] [(.int (-p2))])) t → Steps p.tables e below (s₁.setTop (entryFrame m #[(.int p1), (.int p2)] 7)) t := by
          intro t kt
          refine R15 _ ?_
          show Steps p.tables e below (T9.setTop (mkF m 90 #[.val (.int p1), .val (.int p2), .val (.int (-p2)), .val (.long ((1 : Int64) <<< ((-p1) &&& 0x3f).toInt64)), .second, .unset, .unset] [(.int v14)])) _
          refine XS.istore X9.here hx rfl (hb hby d2_90) rfl (l' := #[.val (.int p1), .val (.int p2), .val (.int (-p2)), .val (.long ((1 : Int64) <<< ((-p1) &&& 0x3f).toInt64)), .second, .val (.int v14), .unset]) rfl ?_
          show Steps p.tables e below (T9.setTop (mkF m 92 #[.val (.int p1), .val (.int p2), .val (.int (-p2)), .val (.long ((1 : Int64) <<< ((-p1) &&& 0x3f).toInt64)), .second, .val (.int v14), .unset] [])) _
          refine XS.iloadN X9.here hx rfl (hb hby d2_92) rfl ?_
          exact kt
        by_cases hc17 : (-p2) = (0 : Int32)
        · have R20 : ∀ t, Steps p.tables e below (T9.setTop (mkF m 120 #[.val (.int p1), .val (.int p2), .val (.int (-p2)), .val (.long ((1 : Int64) <<< ((-p1) &&& 0x3f).toInt64)), .second, .val (.int v14), .val (.int (1 : Int32))] [(.int v14)])) t → Steps p.tables e below (s₁.setTop (entryFrame m #[(.int p1), (.int p2)] 7)) t := by
            intro t kt
            refine R18 _ ?_
            show Steps p.tables e below (T9.setTop (mkF m 93 #[.val (.int p1), .val (.int p2), .val (.int (-p2)), .val (.long ((1 : Int64) <<< ((-p1) &&& 0x3f).toInt64)), .second, .val (.int v14), .unset] [(.int (-p2))])) _
            refine XS.ifYes X9.here hx rfl (pc0 := 93) (pc' := 111) rfl (hb hby d2_93) rfl ((if0 _ _).trans (teq hc17).1) (by decide) (by decide) ?_
            show Steps p.tables e below (T9.setTop (mkF m 111 #[.val (.int p1), .val (.int p2), .val (.int (-p2)), .val (.long ((1 : Int64) <<< ((-p1) &&& 0x3f).toInt64)), .second, .val (.int v14), .unset] [])) _
            refine XS.iconst X9.here hx rfl (hb hby d2_111) ?_
            show Steps p.tables e below (T9.setTop (mkF m 112 #[.val (.int p1), .val (.int p2), .val (.int (-p2)), .val (.long ((1 : Int64) <<< ((-p1) &&& 0x3f).toInt64)), .second, .val (.int v14), .unset] [(.int (1 : Int32))])) _
            refine XS.goto X9.here hx rfl (pc0 := 112) (pc' := 116) rfl (hb hby d2_112) (by decide) (by decide) ?_
            show Steps p.tables e below (T9.setTop (mkF m 116 #[.val (.int p1), .val (.int p2), .val (.int (-p2)), .val (.long ((1 : Int64) <<< ((-p1) &&& 0x3f).toInt64)), .second, .val (.int v14), .unset] [(.int (1 : Int32))])) _
            refine XS.istore X9.here hx rfl (hb hby d2_116) rfl (l' := #[.val (.int p1), .val (.int p2), .val (.int (-p2)), .val (.long ((1 : Int64) <<< ((-p1) &&& 0x3f).toInt64)), .second, .val (.int v14), .val (.int (1 : Int32))]) rfl ?_
            show Steps p.tables e below (T9.setTop (mkF m 118 #[.val (.int p1), .val (.int p2), .val (.int (-p2)), .val (.long ((1 : Int64) <<< ((-p1) &&& 0x3f).toInt64)), .second, .val (.int v14), .val (.int (1 : Int32))] [])) _
            refine XS.iload X9.here hx rfl (hb hby d2_118) rfl ?_
            exact kt
          have J28 : ∃ (v26 : Int32), v26 = (if v14 = (0 : Int32) then (0 : Int32) else (if (1 : Int32) = (0 : Int32) then (0 : Int32) else (1 : Int32))) ∧ ∀ t, Steps p.tables e below (T9.setTop (mkF m 133 #[.val (.int p1), .val (.int p2), .val (.int (-p2)), .val (.long ((1 : Int64) <<< ((-p1) &&& 0x3f).toInt64)), .second, .val (.int v14), .val (.int (1 : Int32))] [(.int v26)])) t → Steps p.tables e below (s₁.setTop (entryFrame m #[(.int p1), (.int p2)] 7)) t := by
            by_cases hc19 : v14 = (0 : Int32)
            · have R21 : ∀ t, Steps p.tables e below (T9.setTop (mkF m 133 #[.val (.int p1), .val (.int p2), .val (.int (-p2)), .val (.long ((1 : Int64) <<< ((-p1) &&& 0x3f).toInt64)), .second, .val (.int v14), .val (.int (1 : Int32))] [(.int (0 : Int32))])) t → Steps p.tables e below (s₁.setTop (entryFrame m #[(.int p1), (.int p2)] 7)) t := by
                intro t kt
                refine R20 _ ?_
                show Steps p.tables e below (T9.setTop (mkF m 120 #[.val (.int p1), .val (.int p2), .val (.int (-p2)), .val (.long ((1 : Int64) <<< ((-p1) &&& 0x3f).toInt64)), .second, .val (.int v14), .val (.int (1 : Int32))] [(.int v14)])) _
                refine XS.ifYes X9.here hx rfl (pc0 := 120) (pc' := 132) rfl (hb hby d2_120) rfl ((if0 _ _).trans (teq hc19).1) (by decide) (by decide) ?_
                show Steps p.tables e below (T9.setTop (mkF m 132 #[.val (.int p1), .val (.int p2), .val (.int (-p2)), .val (.long ((1 : Int64) <<< ((-p1) &&& 0x3f).toInt64)), .second, .val (.int v14), .val (.int (1 : Int32))] [])) _
                refine XS.iconst X9.here hx rfl (hb hby d2_132) ?_
                exact kt
              exact ⟨(0 : Int32), (by rw [if_pos hc19]), R21⟩
            · have R23 : ∀ t, Steps p.tables e below (T9.setTop (mkF m 125 #[.val (.int p1), .val (.int p2), .val (.int (-p2)), .val (.long ((1 : Int64) <<< ((-p1) &&& 0x3f).toInt64)), .second, .val (.int v14), .val (.int (1 : Int32))] [(.int (1 : Int32))])) t → Steps p.tables e below (s₁.setTop (entryFrame m #[(.int p1), (.int p2)] 7)) t := by
                intro t kt
                refine R20 _ ?_
                show Steps p.tables e below (T9.setTop (mkF m 120 #[.val (.int p1), .val (.int p2), .val (.int (-p2)), .val (.long ((1 : Int64) <<< ((-p1) &&& 0x3f).toInt64)), .second, .val (.int v14), .val (.int (1 : Int32))] [(.int v14)])) _
                refine XS.ifNo X9.here hx rfl (hb hby d2_120) rfl ((if0 _ _).trans (feq hc19).1) ?_
                show Steps p.tables e below (T9.setTop (mkF m 123 #[.val (.int p1), .val (.int p2), .val (.int (-p2)), .val (.long ((1 : Int64) <<< ((-p1) &&& 0x3f).toInt64)), .second, .val (.int v14), .val (.int (1 : Int32))] [])) _
                refine XS.iload X9.here hx rfl (hb hby d2_123) rfl ?_
                exact kt
              by_cases hc22 : (1 : Int32) = (0 : Int32)
              · have R24 : ∀ t, Steps p.tables e below (T9.setTop (mkF m 133 #[.val (.int p1), .val (.int p2), .val (.int (-p2)), .val (.long ((1 : Int64) <<< ((-p1) &&& 0x3f).toInt64)), .second, .val (.int v14), .val (.int (1 : Int32))] [(.int (0 : Int32))])) t → Steps p.tables e below (s₁.setTop (entryFrame m #[(.int p1), (.int p2)] 7)) t := by
                  intro t kt
                  refine R23 _ ?_
                  show Steps p.tables e below (T9.setTop (mkF m 125 #[.val (.int p1), .val (.int p2), .val (.int (-p2)), .val (.long ((1 : Int64) <<< ((-p1) &&& 0x3f).toInt64)), .second, .val (.int v14), .val (.int (1 : Int32))] [(.int (1 : Int32))])) _
                  refine XS.ifYes X9.here hx rfl (pc0 := 125) (pc' := 132) rfl (hb hby d2_125) rfl ((if0 _ _).trans (teq hc22).1) (by decide) (by decide) ?_
                  show Steps p.tables e below (T9.setTop (mkF m 132 #[.val (.int p1), .val (.int p2), .val (.int (-p2)), .val (.long ((1 : Int64) <<< ((-p1) &&& 0x3f).toInt64)), .second, .val (.int v14), .val (.int (1 : Int32))] [])) _
                  refine XS.iconst X9.here hx rfl (hb hby d2_132) ?_
                  exact kt
                exact ⟨(0 : Int32), (by rw [if_neg hc19, if_pos hc22]), R24⟩
              · have R25 : ∀ t, Steps p.tables e below (T9.setTop (mkF m 133 #[.val (.int p1), .val (.int p2), .val (.int (-p2)), .val (.long ((1 : Int64) <<< ((-p1) &&& 0x3f).toInt64)), .second, .val (.int v14), .val (.int (1 : Int32))] [(.int (1 : Int32))])) t → Steps p.tables e below (s₁.setTop (entryFrame m #[(.int p1), (.int p2)] 7)) t := by
                  intro t kt
                  refine R23 _ ?_
                  show Steps p.tables e below (T9.setTop (mkF m 125 #[.val (.int p1), .val (.int p2), .val (.int (-p2)), .val (.long ((1 : Int64) <<< ((-p1) &&& 0x3f).toInt64)), .second, .val (.int v14), .val (.int (1 : Int32))] [(.int (1 : Int32))])) _
                  refine XS.ifNo X9.here hx rfl (hb hby d2_125) rfl ((if0 _ _).trans (feq hc22).1) ?_
                  show Steps p.tables e below (T9.setTop (mkF m 128 #[.val (.int p1), .val (.int p2), .val (.int (-p2)), .val (.long ((1 : Int64) <<< ((-p1) &&& 0x3f).toInt64)), .second, .val (.int v14), .val (.int (1 : Int32))] [])) _
                  refine XS.iconst X9.here hx rfl (hb hby d2_128) ?_
                  show Steps p.tables e below (T9.setTop (mkF m 129 #[.val (.int p1), .val (.int p2), .val (.int (-p2)), .val (.long ((1 : Int64) <<< ((-p1) &&& 0x3f).toInt64)), .second, .val (.int v14), .val (.int (1 : Int32))] [(.int (1 : Int32))])) _
                  refine XS.goto X9.here hx rfl (pc0 := 129) (pc' := 133) rfl (hb hby d2_129) (by decide) (by decide) ?_
                  exact kt
                exact ⟨(1 : Int32), (by rw [if_neg hc19, if_neg hc22]), R25⟩
          obtain ⟨v26, hv26, R27⟩ := J28
          obtain ⟨fs, hr, hrun, hended, hW, hsame⟩ := X9.leave (v := some (.int (nar .boolean v26))) (fun h => by rw [Bd.returns] at h; cases h)
          refine ⟨_, _, R27 _ ?_, hrun, hended, _, _, rfl, ?_, ⟨_, rfl⟩, hW, hsame.mono (by decide) (by decide)⟩
          · show Steps p.tables e below (T9.setTop (mkF m 133 #[.val (.int p1), .val (.int p2), .val (.int (-p2)), .val (.long ((1 : Int64) <<< ((-p1) &&& 0x3f).toInt64)), .second, .val (.int v14), .val (.int (1 : Int32))] [(.int v26)])) _
            exact retN X9 hx (t := .boolean) Bd.returns (by simp) (hb hby d2_133) hr
          · show Q2 Z p1 p2 h0 n0 _ T9.heap _
            refine ⟨?_, N9, KK9⟩
            subst hv14 hv26; simp only [F2, if_pos hc1, if_neg hc3, if_neg hc6, if_pos hc17]
        · obtain ⟨_, _, ⟨T29, L29, k29, n29⟩, -, X29, ⟨Lc29, hQ29, l29, y29, z29⟩, st29⟩ := Jvm.LawKit.callS X9 hx (y := (⟨"com/example/cellstream/cellstream/io/BinaryToDecimalFloorLog10ThreeQuartersPow2PinLaw", "pow10", "(I)J"⟩ : MethodName)) hown (mvT hZ (hw _ (List.mem_of_getElem? (i := 12) rfl))) (mvT hZ (hw _ (List.mem_of_getElem? (i := 13) rfl))) (mvT hZ (hw _ (List.mem_of_getElem? (i := 9) rfl))) (mvT hZ (hw _ (List.mem_of_getElem? (i := 14) rfl))) (by decide) (backOf (W := 2) (rm3 l Z a0 hw [] ((-p2) - (1 : Int32)) T9.heap n0 Z9 (own_i3 hc3 hc6 hc17)) hZ (hw _ (List.mem_of_getElem? (i := 14) rfl)) (hw _ (List.mem_of_getElem? (i := 9) rfl)) (by decide) (by decide)) (g := (mkF m 102 #[.val (.int p1), .val (.int p2), .val (.int (-p2)), .val (.long ((1 : Int64) <<< ((-p1) &&& 0x3f).toInt64)), .second, .val (.int v14), .unset] [(.int ((-p2) - (1 : Int32))), (.long (3 : Int64))])) rfl (by rw [hml]; rfl) (argsL := [(.int ((-p2) - (1 : Int32)))]) (rest := [(.long (3 : Int64))]) (lenOf pd_2_3 rfl) rfl (by show 2 * 0 + _ ≤ _; exact Nat.le_of_eq rfl) (hb hby d2_102) (fun _ _ => ⟨rfl, rfl, (by decide : 1 + 1 ≤ _), (by decide : 19 + 19 ≤ _)⟩)
          dsimp only [Pt.U, Pt.locs, Pt.cells, Pt.slots] at X29 l29 y29 z29 st29 hQ29
          subst l29 y29 z29
          obtain ⟨rfl, N29q, K29⟩ := hQ29
          have N29 := Fr.app N9 N29q
          have KK29 : Keep h0 T29.heap [] := KK9.trans K29 (fun _ q => nomatch q)
          have Z29 : n0 ≤ T29.heap.size := Nat.le_trans Z9 K29.1
          replace X29 : Stand p l e ({ frames := 1, cells := 2, slots := 38, locals := 17 } : Room) s m #[(.int p1), (.int p2)] below meth c T29 (L9 ++ Lc29) 2 38 := X29
          have R31 : ∀ t, Steps p.tables e below (T29.setTop (mkF m 108 #[.val (.int p1), .val (.int p2), .val (.int (-p2)), .val (.long ((1 : Int64) <<< ((-p1) &&& 0x3f).toInt64)), .second, .val (.int v14), .unset] [(.int (lcmpW ((3 : Int64) * (F3 ((-p2) - (1 : Int32)))) ((1 : Int64) <<< ((-p1) &&& 0x3f).toInt64)))])) t → Steps p.tables e below (s₁.setTop (entryFrame m #[(.int p1), (.int p2)] 7)) t := by
            intro t kt
            refine R18 _ ?_
            show Steps p.tables e below (T9.setTop (mkF m 93 #[.val (.int p1), .val (.int p2), .val (.int (-p2)), .val (.long ((1 : Int64) <<< ((-p1) &&& 0x3f).toInt64)), .second, .val (.int v14), .unset] [(.int (-p2))])) _
            refine XS.ifNo X9.here hx rfl (hb hby d2_93) rfl ((if0 _ _).trans (feq hc17).1) ?_
            show Steps p.tables e below (T9.setTop (mkF m 96 #[.val (.int p1), .val (.int p2), .val (.int (-p2)), .val (.long ((1 : Int64) <<< ((-p1) &&& 0x3f).toInt64)), .second, .val (.int v14), .unset] [])) _
            refine X9.ldc2Long hx hown (mvT hZ (hw _ (List.mem_of_getElem? (i := 11) rfl))) (g := (mkF m 96 #[.val (.int p1), .val (.int p2), .val (.int (-p2)), .val (.long ((1 : Int64) <<< ((-p1) &&& 0x3f).toInt64)), .second, .val (.int v14), .unset] [])) rfl (hb hby d2_96) _ ?_
            show Steps p.tables e below (T9.setTop (mkF m 99 #[.val (.int p1), .val (.int p2), .val (.int (-p2)), .val (.long ((1 : Int64) <<< ((-p1) &&& 0x3f).toInt64)), .second, .val (.int v14), .unset] [(.long (3 : Int64))])) _
            refine XS.iloadN X9.here hx rfl (hb hby d2_99) rfl ?_
            show Steps p.tables e below (T9.setTop (mkF m 100 #[.val (.int p1), .val (.int p2), .val (.int (-p2)), .val (.long ((1 : Int64) <<< ((-p1) &&& 0x3f).toInt64)), .second, .val (.int v14), .unset] [(.int (-p2)), (.long (3 : Int64))])) _
            refine XS.iconst X9.here hx rfl (hb hby d2_100) ?_
            show Steps p.tables e below (T9.setTop (mkF m 101 #[.val (.int p1), .val (.int p2), .val (.int (-p2)), .val (.long ((1 : Int64) <<< ((-p1) &&& 0x3f).toInt64)), .second, .val (.int v14), .unset] [(.int (1 : Int32)), (.int (-p2)), (.long (3 : Int64))])) _
            refine XS.isub X9.here hx rfl (hb hby d2_101) rfl ?_
            show Steps p.tables e below (T9.setTop (mkF m 102 #[.val (.int p1), .val (.int p2), .val (.int (-p2)), .val (.long ((1 : Int64) <<< ((-p1) &&& 0x3f).toInt64)), .second, .val (.int v14), .unset] [(.int ((-p2) - (1 : Int32))), (.long (3 : Int64))])) _
            refine st29 _ ?_
            show Steps p.tables e below (T29.setTop (mkF m 105 #[.val (.int p1), .val (.int p2), .val (.int (-p2)), .val (.long ((1 : Int64) <<< ((-p1) &&& 0x3f).toInt64)), .second, .val (.int v14), .unset] [(.long (F3 ((-p2) - (1 : Int32)))), (.long (3 : Int64))])) _
            refine XS.lmul X29.here hx rfl (hb hby d2_105) rfl ?_
            show Steps p.tables e below (T29.setTop (mkF m 106 #[.val (.int p1), .val (.int p2), .val (.int (-p2)), .val (.long ((1 : Int64) <<< ((-p1) &&& 0x3f).toInt64)), .second, .val (.int v14), .unset] [(.long ((3 : Int64) * (F3 ((-p2) - (1 : Int32)))))])) _
            refine XS.lloadN X29.here hx rfl (hb hby d2_106) rfl ?_
            show Steps p.tables e below (T29.setTop (mkF m 107 #[.val (.int p1), .val (.int p2), .val (.int (-p2)), .val (.long ((1 : Int64) <<< ((-p1) &&& 0x3f).toInt64)), .second, .val (.int v14), .unset] [(.long ((1 : Int64) <<< ((-p1) &&& 0x3f).toInt64)), (.long ((3 : Int64) * (F3 ((-p2) - (1 : Int32)))))])) _
            refine XS.lcmp X29.here hx rfl (hb hby d2_107) rfl ?_
            exact kt
          have J36 : ∃ (v34 : Int32), v34 = (if ((3 : Int64) * (F3 ((-p2) - (1 : Int32)))) < ((1 : Int64) <<< ((-p1) &&& 0x3f).toInt64) then (1 : Int32) else (0 : Int32)) ∧ ∀ t, Steps p.tables e below (T29.setTop (mkF m 116 #[.val (.int p1), .val (.int p2), .val (.int (-p2)), .val (.long ((1 : Int64) <<< ((-p1) &&& 0x3f).toInt64)), .second, .val (.int v14), .unset] [(.int v34)])) t → Steps p.tables e below (s₁.setTop (entryFrame m #[(.int p1), (.int p2)] 7)) t := by
            by_cases hc30 : ((3 : Int64) * (F3 ((-p2) - (1 : Int32)))) < ((1 : Int64) <<< ((-p1) &&& 0x3f).toInt64)
            · have R32 : ∀ t, Steps p.tables e below (T29.setTop (mkF m 116 #[.val (.int p1), .val (.int p2), .val (.int (-p2)), .val (.long ((1 : Int64) <<< ((-p1) &&& 0x3f).toInt64)), .second, .val (.int v14), .unset] [(.int (1 : Int32))])) t → Steps p.tables e below (s₁.setTop (entryFrame m #[(.int p1), (.int p2)] 7)) t := by
                intro t kt
                refine R31 _ ?_
                show Steps p.tables e below (T29.setTop (mkF m 108 #[.val (.int p1), .val (.int p2), .val (.int (-p2)), .val (.long ((1 : Int64) <<< ((-p1) &&& 0x3f).toInt64)), .second, .val (.int v14), .unset] [(.int (lcmpW ((3 : Int64) * (F3 ((-p2) - (1 : Int32)))) ((1 : Int64) <<< ((-p1) &&& 0x3f).toInt64)))])) _
                refine XS.ifNo X29.here hx rfl (hb hby d2_108) rfl ((if0 _ _).trans (tlt ((lw_lt _ _).mpr hc30)).2.1) ?_
                show Steps p.tables e below (T29.setTop (mkF m 111 #[.val (.int p1), .val (.int p2), .val (.int (-p2)), .val (.long ((1 : Int64) <<< ((-p1) &&& 0x3f).toInt64)), .second, .val (.int v14), .unset] [])) _
                refine XS.iconst X29.here hx rfl (hb hby d2_111) ?_
                show Steps p.tables e below (T29.setTop (mkF m 112 #[.val (.int p1), .val (.int p2), .val (.int (-p2)), .val (.long ((1 : Int64) <<< ((-p1) &&& 0x3f).toInt64)), .second, .val (.int v14), .unset] [(.int (1 : Int32))])) _
                refine XS.goto X29.here hx rfl (pc0 := 112) (pc' := 116) rfl (hb hby d2_112) (by decide) (by decide) ?_
                exact kt
              exact ⟨(1 : Int32), (by rw [if_pos hc30]), R32⟩
            · have R33 : ∀ t, Steps p.tables e below (T29.setTop (mkF m 116 #[.val (.int p1), .val (.int p2), .val (.int (-p2)), .val (.long ((1 : Int64) <<< ((-p1) &&& 0x3f).toInt64)), .second, .val (.int v14), .unset] [(.int (0 : Int32))])) t → Steps p.tables e below (s₁.setTop (entryFrame m #[(.int p1), (.int p2)] 7)) t := by
                intro t kt
                refine R31 _ ?_
                show Steps p.tables e below (T29.setTop (mkF m 108 #[.val (.int p1), .val (.int p2), .val (.int (-p2)), .val (.long ((1 : Int64) <<< ((-p1) &&& 0x3f).toInt64)), .second, .val (.int v14), .unset] [(.int (lcmpW ((3 : Int64) * (F3 ((-p2) - (1 : Int32)))) ((1 : Int64) <<< ((-p1) &&& 0x3f).toInt64)))])) _
                refine XS.ifYes X29.here hx rfl (pc0 := 108) (pc' := 115) rfl (hb hby d2_108) rfl ((if0 _ _).trans (flt (fun q => hc30 ((lw_lt _ _).mp q))).2.1) (by decide) (by decide) ?_
                show Steps p.tables e below (T29.setTop (mkF m 115 #[.val (.int p1), .val (.int p2), .val (.int (-p2)), .val (.long ((1 : Int64) <<< ((-p1) &&& 0x3f).toInt64)), .second, .val (.int v14), .unset] [])) _
                refine XS.iconst X29.here hx rfl (hb hby d2_115) ?_
                exact kt
              exact ⟨(0 : Int32), (by rw [if_neg hc30]), R33⟩
          obtain ⟨v34, hv34, R35⟩ := J36
          have R38 : ∀ t, Steps p.tables e below (T29.setTop (mkF m 120 #[.val (.int p1), .val (.int p2), .val (.int (-p2)), .val (.long ((1 : Int64) <<< ((-p1) &&& 0x3f).toInt64)), .second, .val (.int v14), .val (.int v34)] [(.int v14)])) t → Steps p.tables e below (s₁.setTop (entryFrame m #[(.int p1), (.int p2)] 7)) t := by
            intro t kt
            refine R35 _ ?_
            show Steps p.tables e below (T29.setTop (mkF m 116 #[.val (.int p1), .val (.int p2), .val (.int (-p2)), .val (.long ((1 : Int64) <<< ((-p1) &&& 0x3f).toInt64)), .second, .val (.int v14), .unset] [(.int v34)])) _
            refine XS.istore X29.here hx rfl (hb hby d2_116) rfl (l' := #[.val (.int p1), .val (.int p2), .val (.int (-p2)), .val (.long ((1 : Int64) <<< ((-p1) &&& 0x3f).toInt64)), .second, .val (.int v14), .val (.int v34)]) rfl ?_
            show Steps p.tables e below (T29.setTop (mkF m 118 #[.val (.int p1), .val (.int p2), .val (.int (-p2)), .val (.long ((1 : Int64) <<< ((-p1) &&& 0x3f).toInt64)), .second, .val (.int v14), .val (.int v34)] [])) _
            refine XS.iload X29.here hx rfl (hb hby d2_118) rfl ?_
            exact kt
          have J46 : ∃ (v44 : Int32), v44 = (if v14 = (0 : Int32) then (0 : Int32) else (if v34 = (0 : Int32) then (0 : Int32) else (1 : Int32))) ∧ ∀ t, Steps p.tables e below (T29.setTop (mkF m 133 #[.val (.int p1), .val (.int p2), .val (.int (-p2)), .val (.long ((1 : Int64) <<< ((-p1) &&& 0x3f).toInt64)), .second, .val (.int v14), .val (.int v34)] [(.int v44)])) t → Steps p.tables e below (s₁.setTop (entryFrame m #[(.int p1), (.int p2)] 7)) t := by
            by_cases hc37 : v14 = (0 : Int32)
            · have R39 : ∀ t, Steps p.tables e below (T29.setTop (mkF m 133 #[.val (.int p1), .val (.int p2), .val (.int (-p2)), .val (.long ((1 : Int64) <<< ((-p1) &&& 0x3f).toInt64)), .second, .val (.int v14), .val (.int v34)] [(.int (0 : Int32))])) t → Steps p.tables e below (s₁.setTop (entryFrame m #[(.int p1), (.int p2)] 7)) t := by
                intro t kt
                refine R38 _ ?_
                show Steps p.tables e below (T29.setTop (mkF m 120 #[.val (.int p1), .val (.int p2), .val (.int (-p2)), .val (.long ((1 : Int64) <<< ((-p1) &&& 0x3f).toInt64)), .second, .val (.int v14), .val (.int v34)] [(.int v14)])) _
                refine XS.ifYes X29.here hx rfl (pc0 := 120) (pc' := 132) rfl (hb hby d2_120) rfl ((if0 _ _).trans (teq hc37).1) (by decide) (by decide) ?_
                show Steps p.tables e below (T29.setTop (mkF m 132 #[.val (.int p1), .val (.int p2), .val (.int (-p2)), .val (.long ((1 : Int64) <<< ((-p1) &&& 0x3f).toInt64)), .second, .val (.int v14), .val (.int v34)] [])) _
                refine XS.iconst X29.here hx rfl (hb hby d2_132) ?_
                exact kt
              exact ⟨(0 : Int32), (by rw [if_pos hc37]), R39⟩
            · have R41 : ∀ t, Steps p.tables e below (T29.setTop (mkF m 125 #[.val (.int p1), .val (.int p2), .val (.int (-p2)), .val (.long ((1 : Int64) <<< ((-p1) &&& 0x3f).toInt64)), .second, .val (.int v14), .val (.int v34)] [(.int v34)])) t → Steps p.tables e below (s₁.setTop (entryFrame m #[(.int p1), (.int p2)] 7)) t := by
                intro t kt
                refine R38 _ ?_
                show Steps p.tables e below (T29.setTop (mkF m 120 #[.val (.int p1), .val (.int p2), .val (.int (-p2)), .val (.long ((1 : Int64) <<< ((-p1) &&& 0x3f).toInt64)), .second, .val (.int v14), .val (.int v34)] [(.int v14)])) _
                refine XS.ifNo X29.here hx rfl (hb hby d2_120) rfl ((if0 _ _).trans (feq hc37).1) ?_
                show Steps p.tables e below (T29.setTop (mkF m 123 #[.val (.int p1), .val (.int p2), .val (.int (-p2)), .val (.long ((1 : Int64) <<< ((-p1) &&& 0x3f).toInt64)), .second, .val (.int v14), .val (.int v34)] [])) _
                refine XS.iload X29.here hx rfl (hb hby d2_123) rfl ?_
                exact kt
              by_cases hc40 : v34 = (0 : Int32)
              · have R42 : ∀ t, Steps p.tables e below (T29.setTop (mkF m 133 #[.val (.int p1), .val (.int p2), .val (.int (-p2)), .val (.long ((1 : Int64) <<< ((-p1) &&& 0x3f).toInt64)), .second, .val (.int v14), .val (.int v34)] [(.int (0 : Int32))])) t → Steps p.tables e below (s₁.setTop (entryFrame m #[(.int p1), (.int p2)] 7)) t := by
                  intro t kt
                  refine R41 _ ?_
                  show Steps p.tables e below (T29.setTop (mkF m 125 #[.val (.int p1), .val (.int p2), .val (.int (-p2)), .val (.long ((1 : Int64) <<< ((-p1) &&& 0x3f).toInt64)), .second, .val (.int v14), .val (.int v34)] [(.int v34)])) _
                  refine XS.ifYes X29.here hx rfl (pc0 := 125) (pc' := 132) rfl (hb hby d2_125) rfl ((if0 _ _).trans (teq hc40).1) (by decide) (by decide) ?_
                  show Steps p.tables e below (T29.setTop (mkF m 132 #[.val (.int p1), .val (.int p2), .val (.int (-p2)), .val (.long ((1 : Int64) <<< ((-p1) &&& 0x3f).toInt64)), .second, .val (.int v14), .val (.int v34)] [])) _
                  refine XS.iconst X29.here hx rfl (hb hby d2_132) ?_
                  exact kt
                exact ⟨(0 : Int32), (by rw [if_neg hc37, if_pos hc40]), R42⟩
              · have R43 : ∀ t, Steps p.tables e below (T29.setTop (mkF m 133 #[.val (.int p1), .val (.int p2), .val (.int (-p2)), .val (.long ((1 : Int64) <<< ((-p1) &&& 0x3f).toInt64)), .second, .val (.int v14), .val (.int v34)] [(.int (1 : Int32))])) t → Steps p.tables e below (s₁.setTop (entryFrame m #[(.int p1), (.int p2)] 7)) t := by
                  intro t kt
                  refine R41 _ ?_
                  show Steps p.tables e below (T29.setTop (mkF m 125 #[.val (.int p1), .val (.int p2), .val (.int (-p2)), .val (.long ((1 : Int64) <<< ((-p1) &&& 0x3f).toInt64)), .second, .val (.int v14), .val (.int v34)] [(.int v34)])) _
                  refine XS.ifNo X29.here hx rfl (hb hby d2_125) rfl ((if0 _ _).trans (feq hc40).1) ?_
                  show Steps p.tables e below (T29.setTop (mkF m 128 #[.val (.int p1), .val (.int p2), .val (.int (-p2)), .val (.long ((1 : Int64) <<< ((-p1) &&& 0x3f).toInt64)), .second, .val (.int v14), .val (.int v34)] [])) _
                  refine XS.iconst X29.here hx rfl (hb hby d2_128) ?_
                  show Steps p.tables e below (T29.setTop (mkF m 129 #[.val (.int p1), .val (.int p2), .val (.int (-p2)), .val (.long ((1 : Int64) <<< ((-p1) &&& 0x3f).toInt64)), .second, .val (.int v14), .val (.int v34)] [(.int (1 : Int32))])) _
                  refine XS.goto X29.here hx rfl (pc0 := 129) (pc' := 133) rfl (hb hby d2_129) (by decide) (by decide) ?_
                  exact kt
                exact ⟨(1 : Int32), (by rw [if_neg hc37, if_neg hc40]), R43⟩
          obtain ⟨v44, hv44, R45⟩ := J46
          obtain ⟨fs, hr, hrun, hended, hW, hsame⟩ := X29.leave (v := some (.int (nar .boolean v44))) (fun h => by rw [Bd.returns] at h; cases h)
          refine ⟨_, _, R45 _ ?_, hrun, hended, _, _, rfl, ?_, ⟨_, rfl⟩, hW, hsame.mono (by decide) (by decide)⟩
          · show Steps p.tables e below (T29.setTop (mkF m 133 #[.val (.int p1), .val (.int p2), .val (.int (-p2)), .val (.long ((1 : Int64) <<< ((-p1) &&& 0x3f).toInt64)), .second, .val (.int v14), .val (.int v34)] [(.int v44)])) _
            exact retN X29 hx (t := .boolean) Bd.returns (by simp) (hb hby d2_133) hr
          · show Q2 Z p1 p2 h0 n0 _ T29.heap _
            refine ⟨?_, N29, KK29⟩
            subst hv14 hv34 hv44; simp only [F2, if_pos hc1, if_neg hc3, if_neg hc6, if_neg hc17]
  · have R48 : ∀ t, Steps p.tables e below (s₁.setTop (mkF m 5 #[.val (.int p1), .val (.int p2), .unset, .unset, .unset, .unset, .unset] [(.int p2)])) t → Steps p.tables e below (s₁.setTop (entryFrame m #[(.int p1), (.int p2)] 7)) t := by
      intro t kt
      refine R2 _ ?_
      show Steps p.tables e below (s₁.setTop (mkF m 1 #[.val (.int p1), .val (.int p2), .unset, .unset, .unset, .unset, .unset] [(.int p1)])) _
      refine XS.ifNo X0.here hx rfl (hb hby d2_1) rfl ((if0 _ _).trans (flt hc1).1) ?_
      show Steps p.tables e below (s₁.setTop (mkF m 4 #[.val (.int p1), .val (.int p2), .unset, .unset, .unset, .unset, .unset] [])) _
      refine XS.iloadN X0.here hx rfl (hb hby d2_4) rfl ?_
      exact kt
    by_cases hc47 : p2 < (0 : Int32)
    · have R49 : ∀ t, Steps p.tables e below (s₁.setTop (mkF m 15 #[.val (.int p1), .val (.int p2), .unset, .unset, .unset, .unset, .unset] [(.int (0 : Int32))])) t → Steps p.tables e below (s₁.setTop (entryFrame m #[(.int p1), (.int p2)] 7)) t := by
        intro t kt
        refine R48 _ ?_
        show Steps p.tables e below (s₁.setTop (mkF m 5 #[.val (.int p1), .val (.int p2), .unset, .unset, .unset, .unset, .unset] [(.int p2)])) _
        refine XS.ifYes X0.here hx rfl (pc0 := 5) (pc' := 14) rfl (hb hby d2_5) rfl ((if0 _ _).trans (tlt hc47).1) (by decide) (by decide) ?_
        show Steps p.tables e below (s₁.setTop (mkF m 14 #[.val (.int p1), .val (.int p2), .unset, .unset, .unset, .unset, .unset] [])) _
        refine XS.iconst X0.here hx rfl (hb hby d2_14) ?_
        exact kt
      obtain ⟨fs, hr, hrun, hended, hW, hsame⟩ := X0.leave (v := some (.int (0 : Int32))) (fun h => by rw [Bd.returns] at h; cases h)
      refine ⟨_, _, R49 _ ?_, hrun, hended, _, _, rfl, ?_, ⟨_, rfl⟩, hW, hsame.mono (by decide) (by decide)⟩
      · show Steps p.tables e below (s₁.setTop (mkF m 15 #[.val (.int p1), .val (.int p2), .unset, .unset, .unset, .unset, .unset] [(.int (0 : Int32))])) _
        exact retN X0 hx (t := .boolean) Bd.returns (by simp) (hb hby d2_15) hr
      · show Q2 Z p1 p2 h0 n0 _ s₁.heap _
        rw [e0]
        refine ⟨?_, (Fr.nil n0), (Keep.refl h0 [])⟩
        simp only [F2, if_neg hc1, if_pos hc47]
    · have R51 : ∀ t, Steps p.tables e below (s₁.setTop (mkF m 11 #[.val (.int p1), .val (.int p2), .unset, .unset, .unset, .unset, .unset] [(.int (18 : Int32)), (.int p2)])) t → Steps p.tables e below (s₁.setTop (entryFrame m #[(.int p1), (.int p2)] 7)) t := by
        intro t kt
        refine R48 _ ?_
        show Steps p.tables e below (s₁.setTop (mkF m 5 #[.val (.int p1), .val (.int p2), .unset, .unset, .unset, .unset, .unset] [(.int p2)])) _
        refine XS.ifNo X0.here hx rfl (hb hby d2_5) rfl ((if0 _ _).trans (flt hc47).1) ?_
        show Steps p.tables e below (s₁.setTop (mkF m 8 #[.val (.int p1), .val (.int p2), .unset, .unset, .unset, .unset, .unset] [])) _
        refine XS.iloadN X0.here hx rfl (hb hby d2_8) rfl ?_
        show Steps p.tables e below (s₁.setTop (mkF m 9 #[.val (.int p1), .val (.int p2), .unset, .unset, .unset, .unset, .unset] [(.int p2)])) _
        refine XS.bipush X0.here hx rfl (hb hby d2_9) ?_
        exact kt
      by_cases hc50 : (18 : Int32) < p2
      · have R52 : ∀ t, Steps p.tables e below (s₁.setTop (mkF m 15 #[.val (.int p1), .val (.int p2), .unset, .unset, .unset, .unset, .unset] [(.int (0 : Int32))])) t → Steps p.tables e below (s₁.setTop (entryFrame m #[(.int p1), (.int p2)] 7)) t := by
          intro t kt
          refine R51 _ ?_
          show Steps p.tables e below (s₁.setTop (mkF m 11 #[.val (.int p1), .val (.int p2), .unset, .unset, .unset, .unset, .unset] [(.int (18 : Int32)), (.int p2)])) _
          refine XS.icmpNo X0.here hx rfl (hb hby d2_11) rfl (tlt hc50).2.2.2 ?_
          show Steps p.tables e below (s₁.setTop (mkF m 14 #[.val (.int p1), .val (.int p2), .unset, .unset, .unset, .unset, .unset] [])) _
          refine XS.iconst X0.here hx rfl (hb hby d2_14) ?_
          exact kt
        obtain ⟨fs, hr, hrun, hended, hW, hsame⟩ := X0.leave (v := some (.int (0 : Int32))) (fun h => by rw [Bd.returns] at h; cases h)
        refine ⟨_, _, R52 _ ?_, hrun, hended, _, _, rfl, ?_, ⟨_, rfl⟩, hW, hsame.mono (by decide) (by decide)⟩
        · show Steps p.tables e below (s₁.setTop (mkF m 15 #[.val (.int p1), .val (.int p2), .unset, .unset, .unset, .unset, .unset] [(.int (0 : Int32))])) _
          exact retN X0 hx (t := .boolean) Bd.returns (by simp) (hb hby d2_15) hr
        · show Q2 Z p1 p2 h0 n0 _ s₁.heap _
          rw [e0]
          refine ⟨?_, (Fr.nil n0), (Keep.refl h0 [])⟩
          simp only [F2, if_neg hc1, if_neg hc47, if_pos hc50]
      · obtain ⟨_, _, ⟨T53, L53, k53, n53⟩, -, X53, ⟨Lc53, hQ53, l53, y53, z53⟩, st53⟩ := Jvm.LawKit.callS X0 hx (y := (⟨"com/example/cellstream/cellstream/io/BinaryToDecimalFloorLog10ThreeQuartersPow2PinLaw", "pow10", "(I)J"⟩ : MethodName)) hown (mvT hZ (hw _ (List.mem_of_getElem? (i := 12) rfl))) (mvT hZ (hw _ (List.mem_of_getElem? (i := 13) rfl))) (mvT hZ (hw _ (List.mem_of_getElem? (i := 9) rfl))) (mvT hZ (hw _ (List.mem_of_getElem? (i := 14) rfl))) (by decide) (backOf (W := 0) (rm3 l Z a0 hw [] p2 h0 n0 Z0 (own_i1 hc47 hc50)) hZ (hw _ (List.mem_of_getElem? (i := 14) rfl)) (hw _ (List.mem_of_getElem? (i := 9) rfl)) (by decide) (by decide)) (g := (mkF m 23 #[.val (.int p1), .val (.int p2), .val (.long ((3 : Int64) <<< (p1 &&& 0x3f).toInt64)), .second, .unset, .unset, .unset] [(.int p2)])) rfl (by rw [hml]; rfl) (argsL := [(.int p2)]) (rest := []) (lenOf pd_2_3 rfl) rfl (by show 2 * 0 + _ ≤ _; exact Nat.le_of_eq rfl) (hb hby d2_23) (fun _ _ => ⟨rfl, e0, (by decide : 0 + 1 ≤ _), (by decide : 0 + 19 ≤ _)⟩)
        dsimp only [Pt.U, Pt.locs, Pt.cells, Pt.slots] at X53 l53 y53 z53 st53 hQ53
        subst l53 y53 z53
        obtain ⟨rfl, N53q, K53⟩ := hQ53
        have N53 := Fr.app (Fr.nil n0) N53q
        have KK53 : Keep h0 T53.heap [] := (Keep.refl h0 []).trans K53 (fun _ q => nomatch q)
        have Z53 : n0 ≤ T53.heap.size := Nat.le_trans Z0 K53.1
        replace X53 : Stand p l e ({ frames := 1, cells := 2, slots := 38, locals := 17 } : Room) s m #[(.int p1), (.int p2)] below meth c T53 L53 1 19 := X53
        have R55 : ∀ t, Steps p.tables e below (T53.setTop (mkF m 32 #[.val (.int p1), .val (.int p2), .val (.long ((3 : Int64) <<< (p1 &&& 0x3f).toInt64)), .second, .val (.long (F3 p2)), .second, .unset] [(.int (lcmpW (F3 p2) ((3 : Int64) <<< (p1 &&& 0x3f).toInt64)))])) t → Steps p.tables e below (s₁.setTop (entryFrame m #[(.int p1), (.int p2)] 7)) t := by
          intro t kt
          refine R51 _ ?_
          show Steps p.tables e below (s₁.setTop (mkF m 11 #[.val (.int p1), .val (.int p2), .unset, .unset, .unset, .unset, .unset] [(.int (18 : Int32)), (.int p2)])) _
          refine XS.icmpYes X0.here hx rfl (pc0 := 11) (pc' := 16) rfl (hb hby d2_11) rfl (flt hc50).2.2.2 (by decide) (by decide) ?_
          show Steps p.tables e below (s₁.setTop (mkF m 16 #[.val (.int p1), .val (.int p2), .unset, .unset, .unset, .unset, .unset] [])) _
          refine X0.ldc2Long hx hown (mvT hZ (hw _ (List.mem_of_getElem? (i := 11) rfl))) (g := (mkF m 16 #[.val (.int p1), .val (.int p2), .unset, .unset, .unset, .unset, .unset] [])) rfl (hb hby d2_16) _ ?_
          show Steps p.tables e below (s₁.setTop (mkF m 19 #[.val (.int p1), .val (.int p2), .unset, .unset, .unset, .unset, .unset] [(.long (3 : Int64))])) _
          refine XS.iloadN X0.here hx rfl (hb hby d2_19) rfl ?_
          show Steps p.tables e below (s₁.setTop (mkF m 20 #[.val (.int p1), .val (.int p2), .unset, .unset, .unset, .unset, .unset] [(.int p1), (.long (3 : Int64))])) _
          refine XS.lshl X0.here hx rfl (hb hby d2_20) rfl ?_
          show Steps p.tables e below (s₁.setTop (mkF m 21 #[.val (.int p1), .val (.int p2), .unset, .unset, .unset, .unset, .unset] [(.long ((3 : Int64) <<< (p1 &&& 0x3f).toInt64))])) _
          refine XS.lstoreN X0.here hx rfl (hb hby d2_21) rfl (l' := #[.val (.int p1), .val (.int p2), .val (.long ((3 : Int64) <<< (p1 &&& 0x3f).toInt64)), .second, .unset, .unset, .unset]) rfl ?_
          show Steps p.tables e below (s₁.setTop (mkF m 22 #[.val (.int p1), .val (.int p2), .val (.long ((3 : Int64) <<< (p1 &&& 0x3f).toInt64)), .second, .unset, .unset, .unset] [])) _
          refine XS.iloadN X0.here hx rfl (hb hby d2_22) rfl ?_
          show Steps p.tables e below (s₁.setTop (mkF m 23 #[.val (.int p1), .val (.int p2), .val (.long ((3 : Int64) <<< (p1 &&& 0x3f).toInt64)), .second, .unset, .unset, .unset] [(.int p2)])) _
          refine st53 _ ?_
          show Steps p.tables e below (T53.setTop (mkF m 26 #[.val (.int p1), .val (.int p2), .val (.long ((3 : Int64) <<< (p1 &&& 0x3f).toInt64)), .second, .unset, .unset, .unset] [(.long (F3 p2))])) _
          refine XS.lstore X53.here hx rfl (hb hby d2_26) rfl (l' := #[.val (.int p1), .val (.int p2), .val (.long ((3 : Int64) <<< (p1 &&& 0x3f).toInt64)), .second, .val (.long (F3 p2)), .second, .unset]) rfl ?_
          show Steps p.tables e below (T53.setTop (mkF m 28 #[.val (.int p1), .val (.int p2), .val (.long ((3 : Int64) <<< (p1 &&& 0x3f).toInt64)), .second, .val (.long (F3 p2)), .second, .unset] [])) _
          refine XS.lload X53.here hx rfl (hb hby d2_28) rfl ?_
          show Steps p.tables e below (T53.setTop (mkF m 30 #[.val (.int p1), .val (.int p2), .val (.long ((3 : Int64) <<< (p1 &&& 0x3f).toInt64)), .second, .val (.long (F3 p2)), .second, .unset] [(.long (F3 p2))])) _
          refine XS.lloadN X53.here hx rfl (hb hby d2_30) rfl ?_
          show Steps p.tables e below (T53.setTop (mkF m 31 #[.val (.int p1), .val (.int p2), .val (.long ((3 : Int64) <<< (p1 &&& 0x3f).toInt64)), .second, .val (.long (F3 p2)), .second, .unset] [(.long ((3 : Int64) <<< (p1 &&& 0x3f).toInt64)), (.long (F3 p2))])) _
          refine XS.lcmp X53.here hx rfl (hb hby d2_31) rfl ?_
          exact kt
        have J63 : ∃ (v61 : Int32), v61 = (if ((3 : Int64) <<< (p1 &&& 0x3f).toInt64) < (F3 p2) then (0 : Int32) else (if (((3 : Int64) <<< (p1 &&& 0x3f).toInt64) / (10 : Int64)) < (F3 p2) then (1 : Int32) else (0 : Int32))) ∧ ∀ t, Steps p.tables e below (T53.setTop (mkF m 51 #[.val (.int p1), .val (.int p2), .val (.long ((3 : Int64) <<< (p1 &&& 0x3f).toInt64)), .second, .val (.long (F3 p2)), .second, .unset] [(.int v61)])) t → Steps p.tables e below (s₁.setTop (entryFrame m #[(.int p1), (.int p2)] 7)) t := by
          by_cases hc54 : ((3 : Int64) <<< (p1 &&& 0x3f).toInt64) < (F3 p2)
          · have R56 : ∀ t, Steps p.tables e below (T53.setTop (mkF m 51 #[.val (.int p1), .val (.int p2), .val (.long ((3 : Int64) <<< (p1 &&& 0x3f).toInt64)), .second, .val (.long (F3 p2)), .second, .unset] [(.int (0 : Int32))])) t → Steps p.tables e below (s₁.setTop (entryFrame m #[(.int p1), (.int p2)] 7)) t := by
              intro t kt
              refine R55 _ ?_
              show Steps p.tables e below (T53.setTop (mkF m 32 #[.val (.int p1), .val (.int p2), .val (.long ((3 : Int64) <<< (p1 &&& 0x3f).toInt64)), .second, .val (.long (F3 p2)), .second, .unset] [(.int (lcmpW (F3 p2) ((3 : Int64) <<< (p1 &&& 0x3f).toInt64)))])) _
              refine XS.ifYes X53.here hx rfl (pc0 := 32) (pc' := 50) rfl (hb hby d2_32) rfl ((if0 _ _).trans (tlt ((lw_gt _ _).mpr hc54)).2.2.1) (by decide) (by decide) ?_
              show Steps p.tables e below (T53.setTop (mkF m 50 #[.val (.int p1), .val (.int p2), .val (.long ((3 : Int64) <<< (p1 &&& 0x3f).toInt64)), .second, .val (.long (F3 p2)), .second, .unset] [])) _
              refine XS.iconst X53.here hx rfl (hb hby d2_50) ?_
              exact kt
            exact ⟨(0 : Int32), (by rw [if_pos hc54]), R56⟩
          · have R58 : ∀ t, Steps p.tables e below (T53.setTop (mkF m 43 #[.val (.int p1), .val (.int p2), .val (.long ((3 : Int64) <<< (p1 &&& 0x3f).toInt64)), .second, .val (.long (F3 p2)), .second, .unset] [(.int (lcmpW (((3 : Int64) <<< (p1 &&& 0x3f).toInt64) / (10 : Int64)) (F3 p2)))])) t → Steps p.tables e below (s₁.setTop (entryFrame m #[(.int p1), (.int p2)] 7)) t := by
              intro t kt
              refine R55 _ ?_
              show Steps p.tables e below (T53.setTop (mkF m 32 #[.val (.int p1), .val (.int p2), .val (.long ((3 : Int64) <<< (p1 &&& 0x3f).toInt64)), .second, .val (.long (F3 p2)), .second, .unset] [(.int (lcmpW (F3 p2) ((3 : Int64) <<< (p1 &&& 0x3f).toInt64)))])) _
              refine XS.ifNo X53.here hx rfl (hb hby d2_32) rfl ((if0 _ _).trans (flt (fun q => hc54 ((lw_gt _ _).mp q))).2.2.1) ?_
              show Steps p.tables e below (T53.setTop (mkF m 35 #[.val (.int p1), .val (.int p2), .val (.long ((3 : Int64) <<< (p1 &&& 0x3f).toInt64)), .second, .val (.long (F3 p2)), .second, .unset] [])) _
              refine XS.lloadN X53.here hx rfl (hb hby d2_35) rfl ?_
              show Steps p.tables e below (T53.setTop (mkF m 36 #[.val (.int p1), .val (.int p2), .val (.long ((3 : Int64) <<< (p1 &&& 0x3f).toInt64)), .second, .val (.long (F3 p2)), .second, .unset] [(.long ((3 : Int64) <<< (p1 &&& 0x3f).toInt64))])) _
              refine X53.ldc2Long hx hown (mvT hZ (hw _ (List.mem_of_getElem? (i := 16) rfl))) (g := (mkF m 36 #[.val (.int p1), .val (.int p2), .val (.long ((3 : Int64) <<< (p1 &&& 0x3f).toInt64)), .second, .val (.long (F3 p2)), .second, .unset] [(.long ((3 : Int64) <<< (p1 &&& 0x3f).toInt64))])) rfl (hb hby d2_36) _ ?_
              show Steps p.tables e below (T53.setTop (mkF m 39 #[.val (.int p1), .val (.int p2), .val (.long ((3 : Int64) <<< (p1 &&& 0x3f).toInt64)), .second, .val (.long (F3 p2)), .second, .unset] [(.long (10 : Int64)), (.long ((3 : Int64) <<< (p1 &&& 0x3f).toInt64))])) _
              refine XS.ldiv X53.here hx rfl (hb hby d2_39) rfl (by decide) ?_
              show Steps p.tables e below (T53.setTop (mkF m 40 #[.val (.int p1), .val (.int p2), .val (.long ((3 : Int64) <<< (p1 &&& 0x3f).toInt64)), .second, .val (.long (F3 p2)), .second, .unset] [(.long (((3 : Int64) <<< (p1 &&& 0x3f).toInt64) / (10 : Int64)))])) _
              refine XS.lload X53.here hx rfl (hb hby d2_40) rfl ?_
              show Steps p.tables e below (T53.setTop (mkF m 42 #[.val (.int p1), .val (.int p2), .val (.long ((3 : Int64) <<< (p1 &&& 0x3f).toInt64)), .second, .val (.long (F3 p2)), .second, .unset] [(.long (F3 p2)), (.long (((3 : Int64) <<< (p1 &&& 0x3f).toInt64) / (10 : Int64)))])) _
              refine XS.lcmp X53.here hx rfl (hb hby d2_42) rfl ?_
              exact kt
            by_cases hc57 : (((3 : Int64) <<< (p1 &&& 0x3f).toInt64) / (10 : Int64)) < (F3 p2)
            · have R59 : ∀ t, Steps p.tables e below (T53.setTop (mkF m 51 #[.val (.int p1), .val (.int p2), .val (.long ((3 : Int64) <<< (p1 &&& 0x3f).toInt64)), .second, .val (.long (F3 p2)), .second, .unset] [(.int (1 : Int32))])) t → Steps p.tables e below (s₁.setTop (entryFrame m #[(.int p1), (.int p2)] 7)) t := by
                intro t kt
                refine R58 _ ?_
                show Steps p.tables e below (T53.setTop (mkF m 43 #[.val (.int p1), .val (.int p2), .val (.long ((3 : Int64) <<< (p1 &&& 0x3f).toInt64)), .second, .val (.long (F3 p2)), .second, .unset] [(.int (lcmpW (((3 : Int64) <<< (p1 &&& 0x3f).toInt64) / (10 : Int64)) (F3 p2)))])) _
                refine XS.ifNo X53.here hx rfl (hb hby d2_43) rfl ((if0 _ _).trans (tlt ((lw_lt _ _).mpr hc57)).2.1) ?_
                show Steps p.tables e below (T53.setTop (mkF m 46 #[.val (.int p1), .val (.int p2), .val (.long ((3 : Int64) <<< (p1 &&& 0x3f).toInt64)), .second, .val (.long (F3 p2)), .second, .unset] [])) _
                refine XS.iconst X53.here hx rfl (hb hby d2_46) ?_
                show Steps p.tables e below (T53.setTop (mkF m 47 #[.val (.int p1), .val (.int p2), .val (.long ((3 : Int64) <<< (p1 &&& 0x3f).toInt64)), .second, .val (.long (F3 p2)), .second, .unset] [(.int (1 : Int32))])) _
                refine XS.goto X53.here hx rfl (pc0 := 47) (pc' := 51) rfl (hb hby d2_47) (by decide) (by decide) ?_
                exact kt
              exact ⟨(1 : Int32), (by rw [if_neg hc54, if_pos hc57]), R59⟩
            · have R60 : ∀ t, Steps p.tables e below (T53.setTop (mkF m 51 #[.val (.int p1), .val (.int p2), .val (.long ((3 : Int64) <<< (p1 &&& 0x3f).toInt64)), .second, .val (.long (F3 p2)), .second, .unset] [(.int (0 : Int32))])) t → Steps p.tables e below (s₁.setTop (entryFrame m #[(.int p1), (.int p2)] 7)) t := by
                intro t kt
                refine R58 _ ?_
                show Steps p.tables e below (T53.setTop (mkF m 43 #[.val (.int p1), .val (.int p2), .val (.long ((3 : Int64) <<< (p1 &&& 0x3f).toInt64)), .second, .val (.long (F3 p2)), .second, .unset] [(.int (lcmpW (((3 : Int64) <<< (p1 &&& 0x3f).toInt64) / (10 : Int64)) (F3 p2)))])) _
                refine XS.ifYes X53.here hx rfl (pc0 := 43) (pc' := 50) rfl (hb hby d2_43) rfl ((if0 _ _).trans (flt (fun q => hc57 ((lw_lt _ _).mp q))).2.1) (by decide) (by decide) ?_
                show Steps p.tables e below (T53.setTop (mkF m 50 #[.val (.int p1), .val (.int p2), .val (.long ((3 : Int64) <<< (p1 &&& 0x3f).toInt64)), .second, .val (.long (F3 p2)), .second, .unset] [])) _
                refine XS.iconst X53.here hx rfl (hb hby d2_50) ?_
                exact kt
              exact ⟨(0 : Int32), (by rw [if_neg hc54, if_neg hc57]), R60⟩
        obtain ⟨v61, hv61, R62⟩ := J63
        obtain ⟨fs, hr, hrun, hended, hW, hsame⟩ := X53.leave (v := some (.int (nar .boolean v61))) (fun h => by rw [Bd.returns] at h; cases h)
        refine ⟨_, _, R62 _ ?_, hrun, hended, _, _, rfl, ?_, ⟨_, rfl⟩, hW, hsame.mono (by decide) (by decide)⟩
        · show Steps p.tables e below (T53.setTop (mkF m 51 #[.val (.int p1), .val (.int p2), .val (.long ((3 : Int64) <<< (p1 &&& 0x3f).toInt64)), .second, .val (.long (F3 p2)), .second, .unset] [(.int v61)])) _
          exact retN X53 hx (t := .boolean) Bd.returns (by simp) (hb hby d2_51) hr
        · show Q2 Z p1 p2 h0 n0 _ T53.heap _
          refine ⟨?_, N53, KK53⟩
          subst hv61; simp only [F2, if_neg hc1, if_neg hc47, if_neg hc50]
theorem pn_0 : plainName "com/example/cellstream/cellstream/io/BinaryToDecimalFloorLog10ThreeQuartersPow2PinLaw" = true := by first | (simp [plainName, overriddenIn]; done) | decide +kernel
theorem pd_0_1 : parseMethodDescriptor "(I)I" = some ⟨[.int], some .int⟩ := by decide +kernel
theorem pd_0_2 : parseMethodDescriptor "(II)Z" = some ⟨[.int, .int], some .boolean⟩ := by decide +kernel
theorem ef_0 (m : MethodId) (x0 : Int32) (x1 : Int32) : entryFrame m #[(.int x0), (.int x1)] maxLocals = mkF m 0 #[.val (.int x0), .val (.int x1), .unset, .unset, .unset, .unset, .unset, .unset, .unset, .unset, .unset, .unset, .unset, .unset] [] := by first | (simp [entryFrame, mkF, argsToLocals, Value.category, maxLocals]; done) | rfl
def F0 (p1 : Int32) (p2 : Int32) : Int32 :=
  let v2 : Int32 := (((p1 &&& (2147483647 : Int32)) % (123 : Int32)) - (61 : Int32))
  let v6 : Int32 := (((p2 &&& (2147483647 : Int32)) % (2391 : Int32)) - (1200 : Int32))
  let v11 : Int64 := (((F1 (v6 + (1 : Int32))).toInt64) - ((F1 v6).toInt64))
  let v13 : Int64 := (((F1 (v6 + (10 : Int32))).toInt64) - ((F1 v6).toInt64))
  let v27 : Int32 := (if v11 < (0 : Int64) then (0 : Int32) else (if (1 : Int64) < v11 then (0 : Int32) else (if v13 < (3 : Int64) then (0 : Int32) else (if (4 : Int64) < v13 then (0 : Int32) else (1 : Int32)))))
  let v37 : Int32 := (if (F2 v2 (F1 (v2 + (2 : Int32)))) = (0 : Int32) then (0 : Int32) else (if v27 = (0 : Int32) then (0 : Int32) else (1 : Int32)))
  (nar .boolean v37)
def Q0 (Z : State) (p1 : Int32) (p2 : Int32) (h0 : Heap) (n0 : Nat) (v : Option Value) (h : Heap) (L : List Loc) : Prop := v = some (.int (F0 p1 p2)) ∧ Fr n0 L
set_option maxRecDepth 65536 in
set_option maxHeartbeats 40000000 in
theorem rm0 (l : Launch) (Z : State) (a0 : Array Value) (hw : ∀ d ∈ tables_1, d.before a0 Z = true) (ws : List Jvm.Cond) (p1 : Int32) (p2 : Int32) (h0 : Heap) (n0 : Nat) (Z0 : n0 ≤ h0.size) :
    MetFree l x (head1 (Jvm.Cond.code x code maxLocals ret :: ws) room_1) (fun a U => a = #[(.int p1), (.int p2)] ∧ Z.Warmed39 U.vm ∧ U.heap = h0) (fun _ _ _ _ _ => True) (fun _ U o U' => ∃ v L, o = .returned v ∧ Q0 Z p1 p2 h0 n0 v U'.heap L ∧ FrameEnd U o U' L room_1.cells room_1.slots) := by
  refine MetFree.of_bodySF (plainFor_of_name pn_0) hisR ?_
  intro p e s m args below meth c s₁ Bd hml0 hP hK
  obtain ⟨rfl, hZ, hh⟩ := hP
  have hx := Bd.exec
  have hby := Bd.bytes
  have hml : c.maxLocals = 14 := hml0
  have hown : s.vm.findClass "com/example/cellstream/cellstream/io/BinaryToDecimalFloorLog10ThreeQuartersPow2PinLaw" = some m.cls := findClass_of_methodNamed Bd.named
  have hnm := (name_of_methodNamed Bd.named Bd.method).1
  have X0 : Stand p l e room_1 s m #[(.int p1), (.int p2)] below meth c s₁ [] 0 0 := Stand.of_body Bd
  have e0 : s₁.heap = h0 := by rw [← hh, Bd.state]; rfl
  have N0 := Fr.nil n0
  have pre0 : ∀ t, Steps p.tables e below (s₁.setTop (mkF m 0 #[.val (.int p1), .val (.int p2), .unset, .unset, .unset, .unset, .unset, .unset, .unset, .unset, .unset, .unset, .unset, .unset] [])) t → Steps p.tables e below (s₁.setTop (entryFrame m #[(.int p1), (.int p2)] maxLocals)) t := fun t k => castTop (ef_0 m p1 p2) k
  have R1 : ∀ t, Steps p.tables e below (s₁.setTop (mkF m 10 #[.val (.int p1), .val (.int p2), .unset, .unset, .unset, .unset, .unset, .unset, .unset, .unset, .unset, .unset, .unset, .unset] [(.int (((p1 &&& (2147483647 : Int32)) % (123 : Int32)) - (61 : Int32)))])) t → Steps p.tables e below (s₁.setTop (entryFrame m #[(.int p1), (.int p2)] maxLocals)) t := by
    intro t kt
    refine pre0 _ ?_
    show Steps p.tables e below (s₁.setTop (mkF m 0 #[.val (.int p1), .val (.int p2), .unset, .unset, .unset, .unset, .unset, .unset, .unset, .unset, .unset, .unset, .unset, .unset] [])) _
    refine XS.iloadN X0.here hx rfl (hb hby at_0) rfl ?_
    show Steps p.tables e below (s₁.setTop (mkF m 1 #[.val (.int p1), .val (.int p2), .unset, .unset, .unset, .unset, .unset, .unset, .unset, .unset, .unset, .unset, .unset, .unset] [(.int p1)])) _
    refine X0.ldcInt hx hown (mvT hZ (hw _ (List.mem_of_getElem? (i := 0) rfl))) (g := (mkF m 1 #[.val (.int p1), .val (.int p2), .unset, .unset, .unset, .unset, .unset, .unset, .unset, .unset, .unset, .unset, .unset, .unset] [(.int p1)])) rfl (hb hby at_1) _ ?_
    show Steps p.tables e below (s₁.setTop (mkF m 3 #[.val (.int p1), .val (.int p2), .unset, .unset, .unset, .unset, .unset, .unset, .unset, .unset, .unset, .unset, .unset, .unset] [(.int (2147483647 : Int32)), (.int p1)])) _
    refine XS.iand X0.here hx rfl (hb hby at_3) rfl ?_
    show Steps p.tables e below (s₁.setTop (mkF m 4 #[.val (.int p1), .val (.int p2), .unset, .unset, .unset, .unset, .unset, .unset, .unset, .unset, .unset, .unset, .unset, .unset] [(.int (p1 &&& (2147483647 : Int32)))])) _
    refine XS.bipush X0.here hx rfl (hb hby at_4) ?_
    show Steps p.tables e below (s₁.setTop (mkF m 6 #[.val (.int p1), .val (.int p2), .unset, .unset, .unset, .unset, .unset, .unset, .unset, .unset, .unset, .unset, .unset, .unset] [(.int (123 : Int32)), (.int (p1 &&& (2147483647 : Int32)))])) _
    refine iremM X0 hx rfl (hb hby at_6) rfl (by decide) ?_
    show Steps p.tables e below (s₁.setTop (mkF m 7 #[.val (.int p1), .val (.int p2), .unset, .unset, .unset, .unset, .unset, .unset, .unset, .unset, .unset, .unset, .unset, .unset] [(.int ((p1 &&& (2147483647 : Int32)) % (123 : Int32)))])) _
    refine XS.bipush X0.here hx rfl (hb hby at_7) ?_
    show Steps p.tables e below (s₁.setTop (mkF m 9 #[.val (.int p1), .val (.int p2), .unset, .unset, .unset, .unset, .unset, .unset, .unset, .unset, .unset, .unset, .unset, .unset] [(.int (61 : Int32)), (.int ((p1 &&& (2147483647 : Int32)) % (123 : Int32)))])) _
    refine XS.isub X0.here hx rfl (hb hby at_9) rfl ?_
    exact kt
  obtain ⟨v2, hv2⟩ : ∃ zz9 : Int32, zz9 = (((p1 &&& (2147483647 : Int32)) % (123 : Int32)) - (61 : Int32)) := ⟨_, rfl⟩
  rw [← hv2] at R1
  obtain ⟨_, _, ⟨T3, L3, k3, n3⟩, -, X3, ⟨Lc3, hQ3, l3, y3, z3⟩, st3⟩ := Jvm.LawKit.callS X0 hx (y := (⟨"com/example/cellstream/cellstream/io/BinaryToDecimal", "floorLog10ThreeQuartersPow2", "(I)I"⟩ : MethodName)) hown (mvT hZ (hw _ (List.mem_of_getElem? (i := 1) rfl))) (mvT hZ (hw _ (List.mem_of_getElem? (i := 2) rfl))) (mvT hZ (hw _ (List.mem_of_getElem? (i := 3) rfl))) (mvT hZ (hw _ (List.mem_of_getElem? (i := 4) rfl))) (by decide) (backOf (W := 0) (rm1 l Z a0 hw [] (v2 + (2 : Int32)) h0 n0 Z0) hZ (hw _ (List.mem_of_getElem? (i := 4) rfl)) (hw _ (List.mem_of_getElem? (i := 3) rfl)) (by decide) (by decide)) (g := (mkF m 14 #[.val (.int p1), .val (.int p2), .val (.int v2), .unset, .unset, .unset, .unset, .unset, .unset, .unset, .unset, .unset, .unset, .unset] [(.int (v2 + (2 : Int32)))])) rfl (by rw [hml]; rfl) (argsL := [(.int (v2 + (2 : Int32)))]) (rest := []) (lenOf pd_0_1 rfl) rfl (by show 2 * 0 + _ ≤ _; exact Nat.le_of_eq rfl) (hb hby at_14) (fun _ _ => ⟨rfl, e0, (by decide : 0 + 0 ≤ _), (by decide : 0 + 0 ≤ _)⟩)
  dsimp only [Pt.U, Pt.locs, Pt.cells, Pt.slots] at X3 l3 y3 z3 st3 hQ3
  subst l3 y3 z3
  obtain ⟨rfl, rfl, e3⟩ := hQ3
  replace X3 : Stand p l e room_1 s m #[(.int p1), (.int p2)] below meth c T3 [] 0 0 := X3
  obtain ⟨_, _, ⟨T4, L4, k4, n4⟩, -, X4, ⟨Lc4, hQ4, l4, y4, z4⟩, st4⟩ := Jvm.LawKit.callS X3 hx (y := (⟨"com/example/cellstream/cellstream/io/BinaryToDecimalFloorLog10ThreeQuartersPow2PinLaw", "exactFloor", "(II)Z"⟩ : MethodName)) hown (mvT hZ (hw _ (List.mem_of_getElem? (i := 7) rfl))) (mvT hZ (hw _ (List.mem_of_getElem? (i := 8) rfl))) (mvT hZ (hw _ (List.mem_of_getElem? (i := 9) rfl))) (mvT hZ (hw _ (List.mem_of_getElem? (i := 10) rfl))) (by decide) (backOf (W := 0) (rm2 l Z a0 hw [] v2 (F1 (v2 + (2 : Int32))) h0 n0 Z0) hZ (hw _ (List.mem_of_getElem? (i := 10) rfl)) (hw _ (List.mem_of_getElem? (i := 9) rfl)) (by decide) (by decide)) (g := (mkF m 20 #[.val (.int p1), .val (.int p2), .val (.int v2), .val (.int (F1 (v2 + (2 : Int32)))), .unset, .unset, .unset, .unset, .unset, .unset, .unset, .unset, .unset, .unset] [(.int (F1 (v2 + (2 : Int32)))), (.int v2)])) rfl (by rw [hml]; rfl) (argsL := [(.int v2), (.int (F1 (v2 + (2 : Int32))))]) (rest := []) (lenOf pd_0_2 rfl) rfl (by show 2 * 0 + _ ≤ _; exact Nat.le_of_eq rfl) (hb hby at_20) (fun _ _ => ⟨rfl, e3, (by decide : 0 + 2 ≤ _), (by decide : 0 + 38 ≤ _)⟩)
  dsimp only [Pt.U, Pt.locs, Pt.cells, Pt.slots] at X4 l4 y4 z4 st4 hQ4
  subst l4 y4 z4
  obtain ⟨rfl, N4q, K4⟩ := hQ4
  have N4 := Fr.app (Fr.nil n0) N4q
  have KK4 : Keep h0 T4.heap [] := (Keep.refl h0 []).trans K4 (fun _ q => nomatch q)
  have Z4 : n0 ≤ T4.heap.size := Nat.le_trans Z0 K4.1
  replace X4 : Stand p l e room_1 s m #[(.int p1), (.int p2)] below meth c T4 L4 2 38 := X4
  have R5 : ∀ t, Steps p.tables e below (T4.setTop (mkF m 37 #[.val (.int p1), .val (.int p2), .val (.int v2), .val (.int (F1 (v2 + (2 : Int32)))), .val (.int (F2 v2 (F1 (v2 + (2 : Int32))))), .unset, .unset, .unset, .unset, .unset, .unset, .unset, .unset, .unset] [(.int (((p2 &&& (2147483647 : Int32)) % (2391 : Int32)) - (1200 : Int32)))])) t → Steps p.tables e below (s₁.setTop (entryFrame m #[(.int p1), (.int p2)] maxLocals)) t := by
    intro t kt
    refine R1 _ ?_
    show Steps p.tables e below (s₁.setTop (mkF m 10 #[.val (.int p1), .val (.int p2), .unset, .unset, .unset, .unset, .unset, .unset, .unset, .unset, .unset, .unset, .unset, .unset] [(.int v2)])) _
    refine XS.istoreN X0.here hx rfl (hb hby at_10) rfl (l' := #[.val (.int p1), .val (.int p2), .val (.int v2), .unset, .unset, .unset, .unset, .unset, .unset, .unset, .unset, .unset, .unset, .unset]) rfl ?_
    show Steps p.tables e below (s₁.setTop (mkF m 11 #[.val (.int p1), .val (.int p2), .val (.int v2), .unset, .unset, .unset, .unset, .unset, .unset, .unset, .unset, .unset, .unset, .unset] [])) _
    refine XS.iloadN X0.here hx rfl (hb hby at_11) rfl ?_
    show Steps p.tables e below (s₁.setTop (mkF m 12 #[.val (.int p1), .val (.int p2), .val (.int v2), .unset, .unset, .unset, .unset, .unset, .unset, .unset, .unset, .unset, .unset, .unset] [(.int v2)])) _
    refine XS.iconst X0.here hx rfl (hb hby at_12) ?_
    show Steps p.tables e below (s₁.setTop (mkF m 13 #[.val (.int p1), .val (.int p2), .val (.int v2), .unset, .unset, .unset, .unset, .unset, .unset, .unset, .unset, .unset, .unset, .unset] [(.int (2 : Int32)), (.int v2)])) _
    refine XS.iadd X0.here hx rfl (hb hby at_13) rfl ?_
    show Steps p.tables e below (s₁.setTop (mkF m 14 #[.val (.int p1), .val (.int p2), .val (.int v2), .unset, .unset, .unset, .unset, .unset, .unset, .unset, .unset, .unset, .unset, .unset] [(.int (v2 + (2 : Int32)))])) _
    refine st3 _ ?_
    show Steps p.tables e below (T3.setTop (mkF m 17 #[.val (.int p1), .val (.int p2), .val (.int v2), .unset, .unset, .unset, .unset, .unset, .unset, .unset, .unset, .unset, .unset, .unset] [(.int (F1 (v2 + (2 : Int32))))])) _
    refine XS.istoreN X3.here hx rfl (hb hby at_17) rfl (l' := #[.val (.int p1), .val (.int p2), .val (.int v2), .val (.int (F1 (v2 + (2 : Int32)))), .unset, .unset, .unset, .unset, .unset, .unset, .unset, .unset, .unset, .unset]) rfl ?_
    show Steps p.tables e below (T3.setTop (mkF m 18 #[.val (.int p1), .val (.int p2), .val (.int v2), .val (.int (F1 (v2 + (2 : Int32)))), .unset, .unset, .unset, .unset, .unset, .unset, .unset, .unset, .unset, .unset] [])) _
    refine XS.iloadN X3.here hx rfl (hb hby at_18) rfl ?_
    show Steps p.tables e below (T3.setTop (mkF m 19 #[.val (.int p1), .val (.int p2), .val (.int v2), .val (.int (F1 (v2 + (2 : Int32)))), .unset, .unset, .unset, .unset, .unset, .unset, .unset, .unset, .unset, .unset] [(.int v2)])) _
    refine XS.iloadN X3.here hx rfl (hb hby at_19) rfl ?_
    show Steps p.tables e below (T3.setTop (mkF m 20 #[.val (.int p1), .val (.int p2), .val (.int v2), .val (.int (F1 (v2 + (2 : Int32)))), .unset, .unset, .unset, .unset, .unset, .unset, .unset, .unset, .unset, .unset] [(.int (F1 (v2 + (2 : Int32)))), (.int v2)])) _
    refine st4 _ ?_
    show Steps p.tables e below (T4.setTop (mkF m 23 #[.val (.int p1), .val (.int p2), .val (.int v2), .val (.int (F1 (v2 + (2 : Int32)))), .unset, .unset, .unset, .unset, .unset, .unset, .unset, .unset, .unset, .unset] [(.int (F2 v2 (F1 (v2 + (2 : Int32)))))])) _
    refine XS.istore X4.here hx rfl (hb hby at_23) rfl (l' := #[.val (.int p1), .val (.int p2), .val (.int v2), .val (.int (F1 (v2 + (2 : Int32)))), .val (.int (F2 v2 (F1 (v2 + (2 : Int32))))), .unset, .unset, .unset, .unset, .unset, .unset, .unset, .unset, .unset]) rfl ?_
    show Steps p.tables e below (T4.setTop (mkF m 25 #[.val (.int p1), .val (.int p2), .val (.int v2), .val (.int (F1 (v2 + (2 : Int32)))), .val (.int (F2 v2 (F1 (v2 + (2 : Int32))))), .unset, .unset, .unset, .unset, .unset, .unset, .unset, .unset, .unset] [])) _
    refine XS.iloadN X4.here hx rfl (hb hby at_25) rfl ?_
    show Steps p.tables e below (T4.setTop (mkF m 26 #[.val (.int p1), .val (.int p2), .val (.int v2), .val (.int (F1 (v2 + (2 : Int32)))), .val (.int (F2 v2 (F1 (v2 + (2 : Int32))))), .unset, .unset, .unset, .unset, .unset, .unset, .unset, .unset, .unset] [(.int p2)])) _
    refine X4.ldcInt hx hown (mvT hZ (hw _ (List.mem_of_getElem? (i := 0) rfl))) (g := (mkF m 26 #[.val (.int p1), .val (.int p2), .val (.int v2), .val (.int (F1 (v2 + (2 : Int32)))), .val (.int (F2 v2 (F1 (v2 + (2 : Int32))))), .unset, .unset, .unset, .unset, .unset, .unset, .unset, .unset, .unset] [(.int p2)])) rfl (hb hby at_26) _ ?_
    show Steps p.tables e below (T4.setTop (mkF m 28 #[.val (.int p1), .val (.int p2), .val (.int v2), .val (.int (F1 (v2 + (2 : Int32)))), .val (.int (F2 v2 (F1 (v2 + (2 : Int32))))), .unset, .unset, .unset, .unset, .unset, .unset, .unset, .unset, .unset] [(.int (2147483647 : Int32)), (.int p2)])) _
    refine XS.iand X4.here hx rfl (hb hby at_28) rfl ?_
    show Steps p.tables e below (T4.setTop (mkF m 29 #[.val (.int p1), .val (.int p2), .val (.int v2), .val (.int (F1 (v2 + (2 : Int32)))), .val (.int (F2 v2 (F1 (v2 + (2 : Int32))))), .unset, .unset, .unset, .unset, .unset, .unset, .unset, .unset, .unset] [(.int (p2 &&& (2147483647 : Int32)))])) _
    refine XS.sipush X4.here hx rfl (hb hby at_29) ?_
    show Steps p.tables e below (T4.setTop (mkF m 32 #[.val (.int p1), .val (.int p2), .val (.int v2), .val (.int (F1 (v2 + (2 : Int32)))), .val (.int (F2 v2 (F1 (v2 + (2 : Int32))))), .unset, .unset, .unset, .unset, .unset, .unset, .unset, .unset, .unset] [(.int (2391 : Int32)), (.int (p2 &&& (2147483647 : Int32)))])) _
    refine iremM X4 hx rfl (hb hby at_32) rfl (by decide) ?_
    show Steps p.tables e below (T4.setTop (mkF m 33 #[.val (.int p1), .val (.int p2), .val (.int v2), .val (.int (F1 (v2 + (2 : Int32)))), .val (.int (F2 v2 (F1 (v2 + (2 : Int32))))), .unset, .unset, .unset, .unset, .unset, .unset, .unset, .unset, .unset] [(.int ((p2 &&& (2147483647 : Int32)) % (2391 : Int32)))])) _
    refine XS.sipush X4.here hx rfl (hb hby at_33) ?_
    show Steps p.tables e below (T4.setTop (mkF m 36 #[.val (.int p1), .val (.int p2), .val (.int v2), .val (.int (F1 (v2 + (2 : Int32)))), .val (.int (F2 v2 (F1 (v2 + (2 : Int32))))), .unset, .unset, .unset, .unset, .unset, .unset, .unset, .unset, .unset] [(.int (1200 : Int32)), (.int ((p2 &&& (2147483647 : Int32)) % (2391 : Int32)))])) _
    refine XS.isub X4.here hx rfl (hb hby at_36) rfl ?_
    exact kt
  obtain ⟨v6, hv6⟩ : ∃ zz9 : Int32, zz9 = (((p2 &&& (2147483647 : Int32)) % (2391 : Int32)) - (1200 : Int32)) := ⟨_, rfl⟩
  rw [← hv6] at R5
  obtain ⟨_, _, ⟨T7, L7, k7, n7⟩, -, X7, ⟨Lc7, hQ7, l7, y7, z7⟩, st7⟩ := Jvm.LawKit.callS X4 hx (y := (⟨"com/example/cellstream/cellstream/io/BinaryToDecimal", "floorLog10ThreeQuartersPow2", "(I)I"⟩ : MethodName)) hown (mvT hZ (hw _ (List.mem_of_getElem? (i := 1) rfl))) (mvT hZ (hw _ (List.mem_of_getElem? (i := 2) rfl))) (mvT hZ (hw _ (List.mem_of_getElem? (i := 3) rfl))) (mvT hZ (hw _ (List.mem_of_getElem? (i := 4) rfl))) (by decide) (backOf (W := 0) (rm1 l Z a0 hw [] v6 T4.heap n0 Z4) hZ (hw _ (List.mem_of_getElem? (i := 4) rfl)) (hw _ (List.mem_of_getElem? (i := 3) rfl)) (by decide) (by decide)) (g := (mkF m 41 #[.val (.int p1), .val (.int p2), .val (.int v2), .val (.int (F1 (v2 + (2 : Int32)))), .val (.int (F2 v2 (F1 (v2 + (2 : Int32))))), .val (.int v6), .unset, .unset, .unset, .unset, .unset, .unset, .unset, .unset] [(.int v6)])) rfl (by rw [hml]; rfl) (argsL := [(.int v6)]) (rest := []) (lenOf pd_0_1 rfl) rfl (by show 2 * 0 + _ ≤ _; exact Nat.le_of_eq rfl) (hb hby at_41) (fun _ _ => ⟨rfl, rfl, (by decide : 2 + 0 ≤ _), (by decide : 38 + 0 ≤ _)⟩)
  dsimp only [Pt.U, Pt.locs, Pt.cells, Pt.slots] at X7 l7 y7 z7 st7 hQ7
  subst l7 y7 z7
  obtain ⟨rfl, rfl, e7⟩ := hQ7
  rw [List.append_nil] at X7
  replace X7 : Stand p l e room_1 s m #[(.int p1), (.int p2)] below meth c T7 L4 2 38 := X7
  obtain ⟨_, _, ⟨T8, L8, k8, n8⟩, -, X8, ⟨Lc8, hQ8, l8, y8, z8⟩, st8⟩ := Jvm.LawKit.callS X7 hx (y := (⟨"com/example/cellstream/cellstream/io/BinaryToDecimal", "floorLog10ThreeQuartersPow2", "(I)I"⟩ : MethodName)) hown (mvT hZ (hw _ (List.mem_of_getElem? (i := 1) rfl))) (mvT hZ (hw _ (List.mem_of_getElem? (i := 2) rfl))) (mvT hZ (hw _ (List.mem_of_getElem? (i := 3) rfl))) (mvT hZ (hw _ (List.mem_of_getElem? (i := 4) rfl))) (by decide) (backOf (W := 0) (rm1 l Z a0 hw [] (v6 + (1 : Int32)) T4.heap n0 Z4) hZ (hw _ (List.mem_of_getElem? (i := 4) rfl)) (hw _ (List.mem_of_getElem? (i := 3) rfl)) (by decide) (by decide)) (g := (mkF m 50 #[.val (.int p1), .val (.int p2), .val (.int v2), .val (.int (F1 (v2 + (2 : Int32)))), .val (.int (F2 v2 (F1 (v2 + (2 : Int32))))), .val (.int v6), .val (.int (F1 v6)), .unset, .unset, .unset, .unset, .unset, .unset, .unset] [(.int (v6 + (1 : Int32)))])) rfl (by rw [hml]; rfl) (argsL := [(.int (v6 + (1 : Int32)))]) (rest := []) (lenOf pd_0_1 rfl) rfl (by show 2 * 0 + _ ≤ _; exact Nat.le_of_eq rfl) (hb hby at_50) (fun _ _ => ⟨rfl, e7, (by decide : 2 + 0 ≤ _), (by decide : 38 + 0 ≤ _)⟩)
  dsimp only [Pt.U, Pt.locs, Pt.cells, Pt.slots] at X8 l8 y8 z8 st8 hQ8
  subst l8 y8 z8
  obtain ⟨rfl, rfl, e8⟩ := hQ8
  rw [List.append_nil] at X8
  replace X8 : Stand p l e room_1 s m #[(.int p1), (.int p2)] below meth c T8 L4 2 38 := X8
  obtain ⟨_, _, ⟨T9, L9, k9, n9⟩, -, X9, ⟨Lc9, hQ9, l9, y9, z9⟩, st9⟩ := Jvm.LawKit.callS X8 hx (y := (⟨"com/example/cellstream/cellstream/io/BinaryToDecimal", "floorLog10ThreeQuartersPow2", "(I)I"⟩ : MethodName)) hown (mvT hZ (hw _ (List.mem_of_getElem? (i := 1) rfl))) (mvT hZ (hw _ (List.mem_of_getElem? (i := 2) rfl))) (mvT hZ (hw _ (List.mem_of_getElem? (i := 3) rfl))) (mvT hZ (hw _ (List.mem_of_getElem? (i := 4) rfl))) (by decide) (backOf (W := 0) (rm1 l Z a0 hw [] (v6 + (10 : Int32)) T4.heap n0 Z4) hZ (hw _ (List.mem_of_getElem? (i := 4) rfl)) (hw _ (List.mem_of_getElem? (i := 3) rfl)) (by decide) (by decide)) (g := (mkF m 60 #[.val (.int p1), .val (.int p2), .val (.int v2), .val (.int (F1 (v2 + (2 : Int32)))), .val (.int (F2 v2 (F1 (v2 + (2 : Int32))))), .val (.int v6), .val (.int (F1 v6)), .val (.int (F1 (v6 + (1 : Int32)))), .unset, .unset, .unset, .unset, .unset, .unset] [(.int (v6 + (10 : Int32)))])) rfl (by rw [hml]; rfl) (argsL := [(.int (v6 + (10 : Int32)))]) (rest := []) (lenOf pd_0_1 rfl) rfl (by show 2 * 0 + _ ≤ _; exact Nat.le_of_eq rfl) (hb hby at_60) (fun _ _ => ⟨rfl, e8, (by decide : 2 + 0 ≤ _), (by decide : 38 + 0 ≤ _)⟩)
  dsimp only [Pt.U, Pt.locs, Pt.cells, Pt.slots] at X9 l9 y9 z9 st9 hQ9
  subst l9 y9 z9
  obtain ⟨rfl, rfl, e9⟩ := hQ9
  rw [List.append_nil] at X9
  replace X9 : Stand p l e room_1 s m #[(.int p1), (.int p2)] below meth c T9 L4 2 38 := X9
  have R10 : ∀ t, Steps p.tables e below (T9.setTop (mkF m 72 #[.val (.int p1), .val (.int p2), .val (.int v2), .val (.int (F1 (v2 + (2 : Int32)))), .val (.int (F2 v2 (F1 (v2 + (2 : Int32))))), .val (.int v6), .val (.int (F1 v6)), .val (.int (F1 (v6 + (1 : Int32)))), .val (.int (F1 (v6 + (10 : Int32)))), .unset, .unset, .unset, .unset, .unset] [(.long (((F1 (v6 + (1 : Int32))).toInt64) - ((F1 v6).toInt64)))])) t → Steps p.tables e below (s₁.setTop (entryFrame m #[(.int p1), (.int p2)] maxLocals)) t := by
    intro t kt
    refine R5 _ ?_
    show Steps p.tables e below (T4.setTop (mkF m 37 #[.val (.int p1), .val (.int p2), .val (.int v2), .val (.int (F1 (v2 + (2 : Int32)))), .val (.int (F2 v2 (F1 (v2 + (2 : Int32))))), .unset, .unset, .unset, .unset, .unset, .unset, .unset, .unset, .unset] [(.int v6)])) _
    refine XS.istore X4.here hx rfl (hb hby at_37) rfl (l' := #[.val (.int p1), .val (.int p2), .val (.int v2), .val (.int (F1 (v2 + (2 : Int32)))), .val (.int (F2 v2 (F1 (v2 + (2 : Int32))))), .val (.int v6), .unset, .unset, .unset, .unset, .unset, .unset, .unset, .unset]) rfl ?_
    show Steps p.tables e below (T4.setTop (mkF m 39 #[.val (.int p1), .val (.int p2), .val (.int v2), .val (.int (F1 (v2 + (2 : Int32)))), .val (.int (F2 v2 (F1 (v2 + (2 : Int32))))), .val (.int v6), .unset, .unset, .unset, .unset, .unset, .unset, .unset, .unset] [])) _
    refine XS.iload X4.here hx rfl (hb hby at_39) rfl ?_
    show Steps p.tables e below (T4.setTop (mkF m 41 #[.val (.int p1), .val (.int p2), .val (.int v2), .val (.int (F1 (v2 + (2 : Int32)))), .val (.int (F2 v2 (F1 (v2 + (2 : Int32))))), .val (.int v6), .unset, .unset, .unset, .unset, .unset, .unset, .unset, .unset] [(.int v6)])) _
    refine st7 _ ?_
    show Steps p.tables e below (T7.setTop (mkF m 44 #[.val (.int p1), .val (.int p2), .val (.int v2), .val (.int (F1 (v2 + (2 : Int32)))), .val (.int (F2 v2 (F1 (v2 + (2 : Int32))))), .val (.int v6), .unset, .unset, .unset, .unset, .unset, .unset, .unset, .unset] [(.int (F1 v6))])) _
    refine XS.istore X7.here hx rfl (hb hby at_44) rfl (l' := #[.val (.int p1), .val (.int p2), .val (.int v2), .val (.int (F1 (v2 + (2 : Int32)))), .val (.int (F2 v2 (F1 (v2 + (2 : Int32))))), .val (.int v6), .val (.int (F1 v6)), .unset, .unset, .unset, .unset, .unset, .unset, .unset]) rfl ?_
    show Steps p.tables e below (T7.setTop (mkF m 46 #[.val (.int p1), .val (.int p2), .val (.int v2), .val (.int (F1 (v2 + (2 : Int32)))), .val (.int (F2 v2 (F1 (v2 + (2 : Int32))))), .val (.int v6), .val (.int (F1 v6)), .unset, .unset, .unset, .unset, .unset, .unset, .unset] [])) _
    refine XS.iload X7.here hx rfl (hb hby at_46) rfl ?_
    show Steps p.tables e below (T7.setTop (mkF m 48 #[.val (.int p1), .val (.int p2), .val (.int v2), .val (.int (F1 (v2 + (2 : Int32)))), .val (.int (F2 v2 (F1 (v2 + (2 : Int32))))), .val (.int v6), .val (.int (F1 v6)), .unset, .unset, .unset, .unset, .unset, .unset, .unset] [(.int v6)])) _
    refine XS.iconst X7.here hx rfl (hb hby at_48) ?_
    show Steps p.tables e below (T7.setTop (mkF m 49 #[.val (.int p1), .val (.int p2), .val (.int v2), .val (.int (F1 (v2 + (2 : Int32)))), .val (.int (F2 v2 (F1 (v2 + (2 : Int32))))), .val (.int v6), .val (.int (F1 v6)), .unset, .unset, .unset, .unset, .unset, .unset, .unset] [(.int (1 : Int32)), (.int v6)])) _
    refine XS.iadd X7.here hx rfl (hb hby at_49) rfl ?_
    show Steps p.tables e below (T7.setTop (mkF m 50 #[.val (.int p1), .val (.int p2), .val (.int v2), .val (.int (F1 (v2 + (2 : Int32)))), .val (.int (F2 v2 (F1 (v2 + (2 : Int32))))), .val (.int v6), .val (.int (F1 v6)), .unset, .unset, .unset, .unset, .unset, .unset, .unset] [(.int (v6 + (1 : Int32)))])) _
    refine st8 _ ?_
    show Steps p.tables e below (T8.setTop (mkF m 53 #[.val (.int p1), .val (.int p2), .val (.int v2), .val (.int (F1 (v2 + (2 : Int32)))), .val (.int (F2 v2 (F1 (v2 + (2 : Int32))))), .val (.int v6), .val (.int (F1 v6)), .unset, .unset, .unset, .unset, .unset, .unset, .unset] [(.int (F1 (v6 + (1 : Int32))))])) _
    refine XS.istore X8.here hx rfl (hb hby at_53) rfl (l' := #[.val (.int p1), .val (.int p2), .val (.int v2), .val (.int (F1 (v2 + (2 : Int32)))), .val (.int (F2 v2 (F1 (v2 + (2 : Int32))))), .val (.int v6), .val (.int (F1 v6)), .val (.int (F1 (v6 + (1 : Int32)))), .unset, .unset, .unset, .unset, .unset, .unset]) rfl ?_
    show Steps p.tables e below (T8.setTop (mkF m 55 #[.val (.int p1), .val (.int p2), .val (.int v2), .val (.int (F1 (v2 + (2 : Int32)))), .val (.int (F2 v2 (F1 (v2 + (2 : Int32))))), .val (.int v6), .val (.int (F1 v6)), .val (.int (F1 (v6 + (1 : Int32)))), .unset, .unset, .unset, .unset, .unset, .unset] [])) _
    refine XS.iload X8.here hx rfl (hb hby at_55) rfl ?_
    show Steps p.tables e below (T8.setTop (mkF m 57 #[.val (.int p1), .val (.int p2), .val (.int v2), .val (.int (F1 (v2 + (2 : Int32)))), .val (.int (F2 v2 (F1 (v2 + (2 : Int32))))), .val (.int v6), .val (.int (F1 v6)), .val (.int (F1 (v6 + (1 : Int32)))), .unset, .unset, .unset, .unset, .unset, .unset] [(.int v6)])) _
    refine XS.bipush X8.here hx rfl (hb hby at_57) ?_
    show Steps p.tables e below (T8.setTop (mkF m 59 #[.val (.int p1), .val (.int p2), .val (.int v2), .val (.int (F1 (v2 + (2 : Int32)))), .val (.int (F2 v2 (F1 (v2 + (2 : Int32))))), .val (.int v6), .val (.int (F1 v6)), .val (.int (F1 (v6 + (1 : Int32)))), .unset, .unset, .unset, .unset, .unset, .unset] [(.int (10 : Int32)), (.int v6)])) _
    refine XS.iadd X8.here hx rfl (hb hby at_59) rfl ?_
    show Steps p.tables e below (T8.setTop (mkF m 60 #[.val (.int p1), .val (.int p2), .val (.int v2), .val (.int (F1 (v2 + (2 : Int32)))), .val (.int (F2 v2 (F1 (v2 + (2 : Int32))))), .val (.int v6), .val (.int (F1 v6)), .val (.int (F1 (v6 + (1 : Int32)))), .unset, .unset, .unset, .unset, .unset, .unset] [(.int (v6 + (10 : Int32)))])) _
    refine st9 _ ?_
    show Steps p.tables e below (T9.setTop (mkF m 63 #[.val (.int p1), .val (.int p2), .val (.int v2), .val (.int (F1 (v2 + (2 : Int32)))), .val (.int (F2 v2 (F1 (v2 + (2 : Int32))))), .val (.int v6), .val (.int (F1 v6)), .val (.int (F1 (v6 + (1 : Int32)))), .unset, .unset, .unset, .unset, .unset, .unset] [(.int (F1 (v6 + (10 : Int32))))])) _
    refine XS.istore X9.here hx rfl (hb hby at_63) rfl (l' := #[.val (.int p1), .val (.int p2), .val (.int v2), .val (.int (F1 (v2 + (2 : Int32)))), .val (.int (F2 v2 (F1 (v2 + (2 : Int32))))), .val (.int v6), .val (.int (F1 v6)), .val (.int (F1 (v6 + (1 : Int32)))), .val (.int (F1 (v6 + (10 : Int32)))), .unset, .unset, .unset, .unset, .unset]) rfl ?_
    show Steps p.tables e below (T9.setTop (mkF m 65 #[.val (.int p1), .val (.int p2), .val (.int v2), .val (.int (F1 (v2 + (2 : Int32)))), .val (.int (F2 v2 (F1 (v2 + (2 : Int32))))), .val (.int v6), .val (.int (F1 v6)), .val (.int (F1 (v6 + (1 : Int32)))), .val (.int (F1 (v6 + (10 : Int32)))), .unset, .unset, .unset, .unset, .unset] [])) _
    refine XS.iload X9.here hx rfl (hb hby at_65) rfl ?_
    show Steps p.tables e below (T9.setTop (mkF m 67 #[.val (.int p1), .val (.int p2), .val (.int v2), .val (.int (F1 (v2 + (2 : Int32)))), .val (.int (F2 v2 (F1 (v2 + (2 : Int32))))), .val (.int v6), .val (.int (F1 v6)), .val (.int (F1 (v6 + (1 : Int32)))), .val (.int (F1 (v6 + (10 : Int32)))), .unset, .unset, .unset, .unset, .unset] [(.int (F1 (v6 + (1 : Int32))))])) _
    refine XS.i2l X9.here hx rfl (hb hby at_67) rfl ?_
    show Steps p.tables e below (T9.setTop (mkF m 68 #[.val (.int p1), .val (.int p2), .val (.int v2), .val (.int (F1 (v2 + (2 : Int32)))), .val (.int (F2 v2 (F1 (v2 + (2 : Int32))))), .val (.int v6), .val (.int (F1 v6)), .val (.int (F1 (v6 + (1 : Int32)))), .val (.int (F1 (v6 + (10 : Int32)))), .unset, .unset, .unset, .unset, .unset] [(.long ((F1 (v6 + (1 : Int32))).toInt64))])) _
    refine XS.iload X9.here hx rfl (hb hby at_68) rfl ?_
    show Steps p.tables e below (T9.setTop (mkF m 70 #[.val (.int p1), .val (.int p2), .val (.int v2), .val (.int (F1 (v2 + (2 : Int32)))), .val (.int (F2 v2 (F1 (v2 + (2 : Int32))))), .val (.int v6), .val (.int (F1 v6)), .val (.int (F1 (v6 + (1 : Int32)))), .val (.int (F1 (v6 + (10 : Int32)))), .unset, .unset, .unset, .unset, .unset] [(.int (F1 v6)), (.long ((F1 (v6 + (1 : Int32))).toInt64))])) _
    refine XS.i2l X9.here hx rfl (hb hby at_70) rfl ?_
    show Steps p.tables e below (T9.setTop (mkF m 71 #[.val (.int p1), .val (.int p2), .val (.int v2), .val (.int (F1 (v2 + (2 : Int32)))), .val (.int (F2 v2 (F1 (v2 + (2 : Int32))))), .val (.int v6), .val (.int (F1 v6)), .val (.int (F1 (v6 + (1 : Int32)))), .val (.int (F1 (v6 + (10 : Int32)))), .unset, .unset, .unset, .unset, .unset] [(.long ((F1 v6).toInt64)), (.long ((F1 (v6 + (1 : Int32))).toInt64))])) _
    refine XS.lsub X9.here hx rfl (hb hby at_71) rfl ?_
    exact kt
  obtain ⟨v11, hv11⟩ : ∃ zz9 : Int64, zz9 = (((F1 (v6 + (1 : Int32))).toInt64) - ((F1 v6).toInt64)) := ⟨_, rfl⟩
  rw [← hv11] at R10
  have R12 : ∀ t, Steps p.tables e below (T9.setTop (mkF m 81 #[.val (.int p1), .val (.int p2), .val (.int v2), .val (.int (F1 (v2 + (2 : Int32)))), .val (.int (F2 v2 (F1 (v2 + (2 : Int32))))), .val (.int v6), .val (.int (F1 v6)), .val (.int (F1 (v6 + (1 : Int32)))), .val (.int (F1 (v6 + (10 : Int32)))), .val (.long v11), .second, .unset, .unset, .unset] [(.long (((F1 (v6 + (10 : Int32))).toInt64) - ((F1 v6).toInt64)))])) t → Steps p.tables e below (s₁.setTop (entryFrame m #[(.int p1), (.int p2)] maxLocals)) t := by
    intro t kt
    refine R10 _ ?_
    show Steps p.tables e below (T9.setTop (mkF m 72 #[.val (.int p1), .val (.int p2), .val (.int v2), .val (.int (F1 (v2 + (2 : Int32)))), .val (.int (F2 v2 (F1 (v2 + (2 : Int32))))), .val (.int v6), .val (.int (F1 v6)), .val (.int (F1 (v6 + (1 : Int32)))), .val (.int (F1 (v6 + (10 : Int32)))), .unset, .unset, .unset, .unset, .unset] [(.long v11)])) _
    refine XS.lstore X9.here hx rfl (hb hby at_72) rfl (l' := #[.val (.int p1), .val (.int p2), .val (.int v2), .val (.int (F1 (v2 + (2 : Int32)))), .val (.int (F2 v2 (F1 (v2 + (2 : Int32))))), .val (.int v6), .val (.int (F1 v6)), .val (.int (F1 (v6 + (1 : Int32)))), .val (.int (F1 (v6 + (10 : Int32)))), .val (.long v11), .second, .unset, .unset, .unset]) rfl ?_
    show Steps p.tables e below (T9.setTop (mkF m 74 #[.val (.int p1), .val (.int p2), .val (.int v2), .val (.int (F1 (v2 + (2 : Int32)))), .val (.int (F2 v2 (F1 (v2 + (2 : Int32))))), .val (.int v6), .val (.int (F1 v6)), .val (.int (F1 (v6 + (1 : Int32)))), .val (.int (F1 (v6 + (10 : Int32)))), .val (.long v11), .second, .unset, .unset, .unset] [])) _
    refine XS.iload X9.here hx rfl (hb hby at_74) rfl ?_
    show Steps p.tables e below (T9.setTop (mkF m 76 #[.val (.int p1), .val (.int p2), .val (.int v2), .val (.int (F1 (v2 + (2 : Int32)))), .val (.int (F2 v2 (F1 (v2 + (2 : Int32))))), .val (.int v6), .val (.int (F1 v6)), .val (.int (F1 (v6 + (1 : Int32)))), .val (.int (F1 (v6 + (10 : Int32)))), .val (.long v11), .second, .unset, .unset, .unset] [(.int (F1 (v6 + (10 : Int32))))])) _
    refine XS.i2l X9.here hx rfl (hb hby at_76) rfl ?_
    show Steps p.tables e below (T9.setTop (mkF m 77 #[.val (.int p1), .val (.int p2), .val (.int v2), .val (.int (F1 (v2 + (2 : Int32)))), .val (.int (F2 v2 (F1 (v2 + (2 : Int32))))), .val (.int v6), .val (.int (F1 v6)), .val (.int (F1 (v6 + (1 : Int32)))), .val (.int (F1 (v6 + (10 : Int32)))), .val (.long v11), .second, .unset, .unset, .unset] [(.long ((F1 (v6 + (10 : Int32))).toInt64))])) _
    refine XS.iload X9.here hx rfl (hb hby at_77) rfl ?_
    show Steps p.tables e below (T9.setTop (mkF m 79 #[.val (.int p1), .val (.int p2), .val (.int v2), .val (.int (F1 (v2 + (2 : Int32)))), .val (.int (F2 v2 (F1 (v2 + (2 : Int32))))), .val (.int v6), .val (.int (F1 v6)), .val (.int (F1 (v6 + (1 : Int32)))), .val (.int (F1 (v6 + (10 : Int32)))), .val (.long v11), .second, .unset, .unset, .unset] [(.int (F1 v6)), (.long ((F1 (v6 + (10 : Int32))).toInt64))])) _
    refine XS.i2l X9.here hx rfl (hb hby at_79) rfl ?_
    show Steps p.tables e below (T9.setTop (mkF m 80 #[.val (.int p1), .val (.int p2), .val (.int v2), .val (.int (F1 (v2 + (2 : Int32)))), .val (.int (F2 v2 (F1 (v2 + (2 : Int32))))), .val (.int v6), .val (.int (F1 v6)), .val (.int (F1 (v6 + (1 : Int32)))), .val (.int (F1 (v6 + (10 : Int32)))), .val (.long v11), .second, .unset, .unset, .unset] [(.long ((F1 v6).toInt64)), (.long ((F1 (v6 + (10 : Int32))).toInt64))])) _
    refine XS.lsub X9.here hx rfl (hb hby at_80) rfl ?_
    exact kt
  obtain ⟨v13, hv13⟩ : ∃ zz9 : Int64, zz9 = (((F1 (v6 + (10 : Int32))).toInt64) - ((F1 v6).toInt64)) := ⟨_, rfl⟩
  rw [← hv13] at R12
  have R15 : ∀ t, Steps p.tables e below (T9.setTop (mkF m 87 #[.val (.int p1), .val (.int p2), .val (.int v2), .val (.int (F1 (v2 + (2 : Int32)))), .val (.int (F2 v2 (F1 (v2 + (2 : Int32))))), .val (.int v6), .val (.int (F1 v6)), .val (.int (F1 (v6 + (1 : Int32)))), .val (.int (F1 (v6 + (10 : Int32)))), .val (.long v11), .second, .val (.long v13), .second, .unset] [(.int (lcmpW v11 (0 : Int64)))])) t → Steps p.tables e below (s₁.setTop (entryFrame m #[(.int p1), (.int p2)] maxLocals)) t := by
    intro t kt
    refine R12 _ ?_
    show Steps p.tables e below (T9.setTop (mkF m 81 #[.val (.int p1), .val (.int p2), .val (.int v2), .val (.int (F1 (v2 + (2 : Int32)))), .val (.int (F2 v2 (F1 (v2 + (2 : Int32))))), .val (.int v6), .val (.int (F1 v6)), .val (.int (F1 (v6 + (1 : Int32)))), .val (.int (F1 (v6 + (10 : Int32)))), .val (.long v11), .second, .unset, .unset, .unset] [(.long v13)])) _
    refine XS.lstore X9.here hx rfl (hb hby at_81) rfl (l' := #[.val (.int p1), .val (.int p2), .val (.int v2), .val (.int (F1 (v2 + (2 : Int32)))), .val (.int (F2 v2 (F1 (v2 + (2 : Int32))))), .val (.int v6), .val (.int (F1 v6)), .val (.int (F1 (v6 + (1 : Int32)))), .val (.int (F1 (v6 + (10 : Int32)))), .val (.long v11), .second, .val (.long v13), .second, .unset]) rfl ?_
    show Steps p.tables e below (T9.setTop (mkF m 83 #[.val (.int p1), .val (.int p2), .val (.int v2), .val (.int (F1 (v2 + (2 : Int32)))), .val (.int (F2 v2 (F1 (v2 + (2 : Int32))))), .val (.int v6), .val (.int (F1 v6)), .val (.int (F1 (v6 + (1 : Int32)))), .val (.int (F1 (v6 + (10 : Int32)))), .val (.long v11), .second, .val (.long v13), .second, .unset] [])) _
    refine XS.lload X9.here hx rfl (hb hby at_83) rfl ?_
    show Steps p.tables e below (T9.setTop (mkF m 85 #[.val (.int p1), .val (.int p2), .val (.int v2), .val (.int (F1 (v2 + (2 : Int32)))), .val (.int (F2 v2 (F1 (v2 + (2 : Int32))))), .val (.int v6), .val (.int (F1 v6)), .val (.int (F1 (v6 + (1 : Int32)))), .val (.int (F1 (v6 + (10 : Int32)))), .val (.long v11), .second, .val (.long v13), .second, .unset] [(.long v11)])) _
    refine XS.lconst X9.here hx rfl (hb hby at_85) ?_
    show Steps p.tables e below (T9.setTop (mkF m 86 #[.val (.int p1), .val (.int p2), .val (.int v2), .val (.int (F1 (v2 + (2 : Int32)))), .val (.int (F2 v2 (F1 (v2 + (2 : Int32))))), .val (.int v6), .val (.int (F1 v6)), .val (.int (F1 (v6 + (1 : Int32)))), .val (.int (F1 (v6 + (10 : Int32)))), .val (.long v11), .second, .val (.long v13), .second, .unset] [(.long (0 : Int64)), (.long v11)])) _
    refine XS.lcmp X9.here hx rfl (hb hby at_86) rfl ?_
    exact kt
  have J29 : ∃ (v27 : Int32), v27 = (if v11 < (0 : Int64) then (0 : Int32) else (if (1 : Int64) < v11 then (0 : Int32) else (if v13 < (3 : Int64) then (0 : Int32) else (if (4 : Int64) < v13 then (0 : Int32) else (1 : Int32))))) ∧ ∀ t, Steps p.tables e below (T9.setTop (mkF m 120 #[.val (.int p1), .val (.int p2), .val (.int v2), .val (.int (F1 (v2 + (2 : Int32)))), .val (.int (F2 v2 (F1 (v2 + (2 : Int32))))), .val (.int v6), .val (.int (F1 v6)), .val (.int (F1 (v6 + (1 : Int32)))), .val (.int (F1 (v6 + (10 : Int32)))), .val (.long v11), .second, .val (.long v13), .second, .unset] [(.int v27)])) t → Steps p.tables e below (s₁.setTop (entryFrame m #[(.int p1), (.int p2)] maxLocals)) t := by
    by_cases hc14 : v11 < (0 : Int64)
    · have R16 : ∀ t, Steps p.tables e below (T9.setTop (mkF m 120 #[.val (.int p1), .val (.int p2), .val (.int v2), .val (.int (F1 (v2 + (2 : Int32)))), .val (.int (F2 v2 (F1 (v2 + (2 : Int32))))), .val (.int v6), .val (.int (F1 v6)), .val (.int (F1 (v6 + (1 : Int32)))), .val (.int (F1 (v6 + (10 : Int32)))), .val (.long v11), .second, .val (.long v13), .second, .unset] [(.int (0 : Int32))])) t → Steps p.tables e below (s₁.setTop (entryFrame m #[(.int p1), (.int p2)] maxLocals)) t := by
        intro t kt
        refine R15 _ ?_
        show Steps p.tables e below (T9.setTop (mkF m 87 #[.val (.int p1), .val (.int p2), .val (.int v2), .val (.int (F1 (v2 + (2 : Int32)))), .val (.int (F2 v2 (F1 (v2 + (2 : Int32))))), .val (.int v6), .val (.int (F1 v6)), .val (.int (F1 (v6 + (1 : Int32)))), .val (.int (F1 (v6 + (10 : Int32)))), .val (.long v11), .second, .val (.long v13), .second, .unset] [(.int (lcmpW v11 (0 : Int64)))])) _
        refine XS.ifYes X9.here hx rfl (pc0 := 87) (pc' := 119) rfl (hb hby at_87) rfl ((if0 _ _).trans (tlt ((lw_lt _ _).mpr hc14)).1) (by decide) (by decide) ?_
        show Steps p.tables e below (T9.setTop (mkF m 119 #[.val (.int p1), .val (.int p2), .val (.int v2), .val (.int (F1 (v2 + (2 : Int32)))), .val (.int (F2 v2 (F1 (v2 + (2 : Int32))))), .val (.int v6), .val (.int (F1 v6)), .val (.int (F1 (v6 + (1 : Int32)))), .val (.int (F1 (v6 + (10 : Int32)))), .val (.long v11), .second, .val (.long v13), .second, .unset] [])) _
        refine XS.iconst X9.here hx rfl (hb hby at_119) ?_
        exact kt
      exact ⟨(0 : Int32), (by rw [if_pos hc14]), R16⟩
    · have R18 : ∀ t, Steps p.tables e below (T9.setTop (mkF m 94 #[.val (.int p1), .val (.int p2), .val (.int v2), .val (.int (F1 (v2 + (2 : Int32)))), .val (.int (F2 v2 (F1 (v2 + (2 : Int32))))), .val (.int v6), .val (.int (F1 v6)), .val (.int (F1 (v6 + (1 : Int32)))), .val (.int (F1 (v6 + (10 : Int32)))), .val (.long v11), .second, .val (.long v13), .second, .unset] [(.int (lcmpW v11 (1 : Int64)))])) t → Steps p.tables e below (s₁.setTop (entryFrame m #[(.int p1), (.int p2)] maxLocals)) t := by
        intro t kt
        refine R15 _ ?_
        show Steps p.tables e below (T9.setTop (mkF m 87 #[.val (.int p1), .val (.int p2), .val (.int v2), .val (.int (F1 (v2 + (2 : Int32)))), .val (.int (F2 v2 (F1 (v2 + (2 : Int32))))), .val (.int v6), .val (.int (F1 v6)), .val (.int (F1 (v6 + (1 : Int32)))), .val (.int (F1 (v6 + (10 : Int32)))), .val (.long v11), .second, .val (.long v13), .second, .unset] [(.int (lcmpW v11 (0 : Int64)))])) _
        refine XS.ifNo X9.here hx rfl (hb hby at_87) rfl ((if0 _ _).trans (flt (fun q => hc14 ((lw_lt _ _).mp q))).1) ?_
        show Steps p.tables e below (T9.setTop (mkF m 90 #[.val (.int p1), .val (.int p2), .val (.int v2), .val (.int (F1 (v2 + (2 : Int32)))), .val (.int (F2 v2 (F1 (v2 + (2 : Int32))))), .val (.int v6), .val (.int (F1 v6)), .val (.int (F1 (v6 + (1 : Int32)))), .val (.int (F1 (v6 + (10 : Int32)))), .val (.long v11), .second, .val (.long v13), .second, .unset] [])) _
        refine XS.lload X9.here hx rfl (hb hby at_90) rfl ?_
        show Steps p.tables e below (T9.setTop (mkF m 92 #[.val (.int p1), .val (.int p2), .val (.int v2), .val (.int (F1 (v2 + (2 : Int32)))), .val (.int (F2 v2 (F1 (v2 + (2 : Int32))))), .val (.int v6), .val (.int (F1 v6)), .val (.int (F1 (v6 + (1 : Int32)))), .val (.int (F1 (v6 + (10 : Int32)))), .val (.long v11), .second, .val (.long v13), .second, .unset] [(.long v11)])) _
        refine XS.lconst X9.here hx rfl (hb hby at_92) ?_
        show Steps p.tables e below (T9.setTop (mkF m 93 #[.val (.int p1), .val (.int p2), .val (.int v2), .val (.int (F1 (v2 + (2 : Int32)))), .val (.int (F2 v2 (F1 (v2 + (2 : Int32))))), .val (.int v6), .val (.int (F1 v6)), .val (.int (F1 (v6 + (1 : Int32)))), .val (.int (F1 (v6 + (10 : Int32)))), .val (.long v11), .second, .val (.long v13), .second, .unset] [(.long (1 : Int64)), (.long v11)])) _
        refine XS.lcmp X9.here hx rfl (hb hby at_93) rfl ?_
        exact kt
      by_cases hc17 : (1 : Int64) < v11
      · have R19 : ∀ t, Steps p.tables e below (T9.setTop (mkF m 120 #[.val (.int p1), .val (.int p2), .val (.int v2), .val (.int (F1 (v2 + (2 : Int32)))), .val (.int (F2 v2 (F1 (v2 + (2 : Int32))))), .val (.int v6), .val (.int (F1 v6)), .val (.int (F1 (v6 + (1 : Int32)))), .val (.int (F1 (v6 + (10 : Int32)))), .val (.long v11), .second, .val (.long v13), .second, .unset] [(.int (0 : Int32))])) t → Steps p.tables e below (s₁.setTop (entryFrame m #[(.int p1), (.int p2)] maxLocals)) t := by
          intro t kt
          refine R18 _ ?_
          show Steps p.tables e below (T9.setTop (mkF m 94 #[.val (.int p1), .val (.int p2), .val (.int v2), .val (.int (F1 (v2 + (2 : Int32)))), .val (.int (F2 v2 (F1 (v2 + (2 : Int32))))), .val (.int v6), .val (.int (F1 v6)), .val (.int (F1 (v6 + (1 : Int32)))), .val (.int (F1 (v6 + (10 : Int32)))), .val (.long v11), .second, .val (.long v13), .second, .unset] [(.int (lcmpW v11 (1 : Int64)))])) _
          refine XS.ifYes X9.here hx rfl (pc0 := 94) (pc' := 119) rfl (hb hby at_94) rfl ((if0 _ _).trans (tlt ((lw_gt _ _).mpr hc17)).2.2.1) (by decide) (by decide) ?_
          show Steps p.tables e below (T9.setTop (mkF m 119 #[.val (.int p1), .val (.int p2), .val (.int v2), .val (.int (F1 (v2 + (2 : Int32)))), .val (.int (F2 v2 (F1 (v2 + (2 : Int32))))), .val (.int v6), .val (.int (F1 v6)), .val (.int (F1 (v6 + (1 : Int32)))), .val (.int (F1 (v6 + (10 : Int32)))), .val (.long v11), .second, .val (.long v13), .second, .unset] [])) _
          refine XS.iconst X9.here hx rfl (hb hby at_119) ?_
          exact kt
        exact ⟨(0 : Int32), (by rw [if_neg hc14, if_pos hc17]), R19⟩
      · have R21 : ∀ t, Steps p.tables e below (T9.setTop (mkF m 103 #[.val (.int p1), .val (.int p2), .val (.int v2), .val (.int (F1 (v2 + (2 : Int32)))), .val (.int (F2 v2 (F1 (v2 + (2 : Int32))))), .val (.int v6), .val (.int (F1 v6)), .val (.int (F1 (v6 + (1 : Int32)))), .val (.int (F1 (v6 + (10 : Int32)))), .val (.long v11), .second, .val (.long v13), .second, .unset] [(.int (lcmpW v13 (3 : Int64)))])) t → Steps p.tables e below (s₁.setTop (entryFrame m #[(.int p1), (.int p2)] maxLocals)) t := by
          intro t kt
          refine R18 _ ?_
          show Steps p.tables e below (T9.setTop (mkF m 94 #[.val (.int p1), .val (.int p2), .val (.int v2), .val (.int (F1 (v2 + (2 : Int32)))), .val (.int (F2 v2 (F1 (v2 + (2 : Int32))))), .val (.int v6), .val (.int (F1 v6)), .val (.int (F1 (v6 + (1 : Int32)))), .val (.int (F1 (v6 + (10 : Int32)))), .val (.long v11), .second, .val (.long v13), .second, .unset] [(.int (lcmpW v11 (1 : Int64)))])) _
          refine XS.ifNo X9.here hx rfl (hb hby at_94) rfl ((if0 _ _).trans (flt (fun q => hc17 ((lw_gt _ _).mp q))).2.2.1) ?_
          show Steps p.tables e below (T9.setTop (mkF m 97 #[.val (.int p1), .val (.int p2), .val (.int v2), .val (.int (F1 (v2 + (2 : Int32)))), .val (.int (F2 v2 (F1 (v2 + (2 : Int32))))), .val (.int v6), .val (.int (F1 v6)), .val (.int (F1 (v6 + (1 : Int32)))), .val (.int (F1 (v6 + (10 : Int32)))), .val (.long v11), .second, .val (.long v13), .second, .unset] [])) _
          refine XS.lload X9.here hx rfl (hb hby at_97) rfl ?_
          show Steps p.tables e below (T9.setTop (mkF m 99 #[.val (.int p1), .val (.int p2), .val (.int v2), .val (.int (F1 (v2 + (2 : Int32)))), .val (.int (F2 v2 (F1 (v2 + (2 : Int32))))), .val (.int v6), .val (.int (F1 v6)), .val (.int (F1 (v6 + (1 : Int32)))), .val (.int (F1 (v6 + (10 : Int32)))), .val (.long v11), .second, .val (.long v13), .second, .unset] [(.long v13)])) _
          refine X9.ldc2Long hx hown (mvT hZ (hw _ (List.mem_of_getElem? (i := 11) rfl))) (g := (mkF m 99 #[.val (.int p1), .val (.int p2), .val (.int v2), .val (.int (F1 (v2 + (2 : Int32)))), .val (.int (F2 v2 (F1 (v2 + (2 : Int32))))), .val (.int v6), .val (.int (F1 v6)), .val (.int (F1 (v6 + (1 : Int32)))), .val (.int (F1 (v6 + (10 : Int32)))), .val (.long v11), .second, .val (.long v13), .second, .unset] [(.long v13)])) rfl (hb hby at_99) _ ?_
          show Steps p.tables e below (T9.setTop (mkF m 102 #[.val (.int p1), .val (.int p2), .val (.int v2), .val (.int (F1 (v2 + (2 : Int32)))), .val (.int (F2 v2 (F1 (v2 + (2 : Int32))))), .val (.int v6), .val (.int (F1 v6)), .val (.int (F1 (v6 + (1 : Int32)))), .val (.int (F1 (v6 + (10 : Int32)))), .val (.long v11), .second, .val (.long v13), .second, .unset] [(.long (3 : Int64)), (.long v13)])) _
          refine XS.lcmp X9.here hx rfl (hb hby at_102) rfl ?_
          exact kt
        by_cases hc20 : v13 < (3 : Int64)
        · have R22 : ∀ t, Steps p.tables e below (T9.setTop (mkF m 120 #[.val (.int p1), .val (.int p2), .val (.int v2), .val (.int (F1 (v2 + (2 : Int32)))), .val (.int (F2 v2 (F1 (v2 + (2 : Int32))))), .val (.int v6), .val (.int (F1 v6)), .val (.int (F1 (v6 + (1 : Int32)))), .val (.int (F1 (v6 + (10 : Int32)))), .val (.long v11), .second, .val (.long v13), .second, .unset] [(.int (0 : Int32))])) t → Steps p.tables e below (s₁.setTop (entryFrame m #[(.int p1), (.int p2)] maxLocals)) t := by
            intro t kt
            refine R21 _ ?_
            show Steps p.tables e below (T9.setTop (mkF m 103 #[.val (.int p1), .val (.int p2), .val (.int v2), .val (.int (F1 (v2 + (2 : Int32)))), .val (.int (F2 v2 (F1 (v2 + (2 : Int32))))), .val (.int v6), .val (.int (F1 v6)), .val (.int (F1 (v6 + (1 : Int32)))), .val (.int (F1 (v6 + (10 : Int32)))), .val (.long v11), .second, .val (.long v13), .second, .unset] [(.int (lcmpW v13 (3 : Int64)))])) _
            refine XS.ifYes X9.here hx rfl (pc0 := 103) (pc' := 119) rfl (hb hby at_103) rfl ((if0 _ _).trans (tlt ((lw_lt _ _).mpr hc20)).1) (by decide) (by decide) ?_
            show Steps p.tables e below (T9.setTop (mkF m 119 #[.val (.int p1), .val (.int p2), .val (.int v2), .val (.int (F1 (v2 + (2 : Int32)))), .val (.int (F2 v2 (F1 (v2 + (2 : Int32))))), .val (.int v6), .val (.int (F1 v6)), .val (.int (F1 (v6 + (1 : Int32)))), .val (.int (F1 (v6 + (10 : Int32)))), .val (.long v11), .second, .val (.long v13), .second, .unset] [])) _
            refine XS.iconst X9.here hx rfl (hb hby at_119) ?_
            exact kt
          exact ⟨(0 : Int32), (by rw [if_neg hc14, if_neg hc17, if_pos hc20]), R22⟩
        · have R24 : ∀ t, Steps p.tables e below (T9.setTop (mkF m 112 #[.val (.int p1), .val (.int p2), .val (.int v2), .val (.int (F1 (v2 + (2 : Int32)))), .val (.int (F2 v2 (F1 (v2 + (2 : Int32))))), .val (.int v6), .val (.int (F1 v6)), .val (.int (F1 (v6 + (1 : Int32)))), .val (.int (F1 (v6 + (10 : Int32)))), .val (.long v11), .second, .val (.long v13), .second, .unset] [(.int (lcmpW v13 (4 : Int64)))])) t → Steps p.tables e below (s₁.setTop (entryFrame m #[(.int p1), (.int p2)] maxLocals)) t := by
            intro t kt
            refine R21 _ ?_
            show Steps p.tables e below (T9.setTop (mkF m 103 #[.val (.int p1), .val (.int p2), .val (.int v2), .val (.int (F1 (v2 + (2 : Int32)))), .val (.int (F2 v2 (F1 (v2 + (2 : Int32))))), .val (.int v6), .val (.int (F1 v6)), .val (.int (F1 (v6 + (1 : Int32)))), .val (.int (F1 (v6 + (10 : Int32)))), .val (.long v11), .second, .val (.long v13), .second, .unset] [(.int (lcmpW v13 (3 : Int64)))])) _
            refine XS.ifNo X9.here hx rfl (hb hby at_103) rfl ((if0 _ _).trans (flt (fun q => hc20 ((lw_lt _ _).mp q))).1) ?_
            show Steps p.tables e below (T9.setTop (mkF m 106 #[.val (.int p1), .val (.int p2), .val (.int v2), .val (.int (F1 (v2 + (2 : Int32)))), .val (.int (F2 v2 (F1 (v2 + (2 : Int32))))), .val (.int v6), .val (.int (F1 v6)), .val (.int (F1 (v6 + (1 : Int32)))), .val (.int (F1 (v6 + (10 : Int32)))), .val (.long v11), .second, .val (.long v13), .second, .unset] [])) _
            refine XS.lload X9.here hx rfl (hb hby at_106) rfl ?_
            show Steps p.tables e below (T9.setTop (mkF m 108 #[.val (.int p1), .val (.int p2), .val (.int v2), .val (.int (F1 (v2 + (2 : Int32)))), .val (.int (F2 v2 (F1 (v2 + (2 : Int32))))), .val (.int v6), .val (.int (F1 v6)), .val (.int (F1 (v6 + (1 : Int32)))), .val (.int (F1 (v6 + (10 : Int32)))), .val (.long v11), .second, .val (.long v13), .second, .unset] [(.long v13)])) _
            refine X9.ldc2Long hx hown (mvT hZ (hw _ (List.mem_of_getElem? (i := 34) rfl))) (g := (mkF m 108 #[.val (.int p1), .val (.int p2), .val (.int v2), .val (.int (F1 (v2 + (2 : Int32)))), .val (.int (F2 v2 (F1 (v2 + (2 : Int32))))), .val (.int v6), .val (.int (F1 v6)), .val (.int (F1 (v6 + (1 : Int32)))), .val (.int (F1 (v6 + (10 : Int32)))), .val (.long v11), .second, .val (.long v13), .second, .unset] [(.long v13)])) rfl (hb hby at_108) _ ?_
            show Steps p.tables e below (T9.setTop (mkF m 111 #[.val (.int p1), .val (.int p2), .val (.int v2), .val (.int (F1 (v2 + (2 : Int32)))), .val (.int (F2 v2 (F1 (v2 + (2 : Int32))))), .val (.int v6), .val (.int (F1 v6)), .val (.int (F1 (v6 + (1 : Int32)))), .val (.int (F1 (v6 + (10 : Int32)))), .val (.long v11), .second, .val (.long v13), .second, .unset] [(.long (4 : Int64)), (.long v13)])) _
            refine XS.lcmp X9.here hx rfl (hb hby at_111) rfl ?_
            exact kt
          by_cases hc23 : (4 : Int64) < v13
          · have R25 : ∀ t, Steps p.tables e below (T9.setTop (mkF m 120 #[.val (.int p1), .val (.int p2), .val (.int v2), .val (.int (F1 (v2 + (2 : Int32)))), .val (.int (F2 v2 (F1 (v2 + (2 : Int32))))), .val (.int v6), .val (.int (F1 v6)), .val (.int (F1 (v6 + (1 : Int32)))), .val (.int (F1 (v6 + (10 : Int32)))), .val (.long v11), .second, .val (.long v13), .second, .unset] [(.int (0 : Int32))])) t → Steps p.tables e below (s₁.setTop (entryFrame m #[(.int p1), (.int p2)] maxLocals)) t := by
              intro t kt
              refine R24 _ ?_
              show Steps p.tables e below (T9.setTop (mkF m 112 #[.val (.int p1), .val (.int p2), .val (.int v2), .val (.int (F1 (v2 + (2 : Int32)))), .val (.int (F2 v2 (F1 (v2 + (2 : Int32))))), .val (.int v6), .val (.int (F1 v6)), .val (.int (F1 (v6 + (1 : Int32)))), .val (.int (F1 (v6 + (10 : Int32)))), .val (.long v11), .second, .val (.long v13), .second, .unset] [(.int (lcmpW v13 (4 : Int64)))])) _
              refine XS.ifYes X9.here hx rfl (pc0 := 112) (pc' := 119) rfl (hb hby at_112) rfl ((if0 _ _).trans (tlt ((lw_gt _ _).mpr hc23)).2.2.1) (by decide) (by decide) ?_
              show Steps p.tables e below (T9.setTop (mkF m 119 #[.val (.int p1), .val (.int p2), .val (.int v2), .val (.int (F1 (v2 + (2 : Int32)))), .val (.int (F2 v2 (F1 (v2 + (2 : Int32))))), .val (.int v6), .val (.int (F1 v6)), .val (.int (F1 (v6 + (1 : Int32)))), .val (.int (F1 (v6 + (10 : Int32)))), .val (.long v11), .second, .val (.long v13), .second, .unset] [])) _
              refine XS.iconst X9.here hx rfl (hb hby at_119) ?_
              exact kt
            exact ⟨(0 : Int32), (by rw [if_neg hc14, if_neg hc17, if_neg hc20, if_pos hc23]), R25⟩
          · have R26 : ∀ t, Steps p.tables e below (T9.setTop (mkF m 120 #[.val (.int p1), .val (.int p2), .val (.int v2), .val (.int (F1 (v2 + (2 : Int32)))), .val (.int (F2 v2 (F1 (v2 + (2 : Int32))))), .val (.int v6), .val (.int (F1 v6)), .val (.int (F1 (v6 + (1 : Int32)))), .val (.int (F1 (v6 + (10 : Int32)))), .val (.long v11), .second, .val (.long v13), .second, .unset] [(.int (1 : Int32))])) t → Steps p.tables e below (s₁.setTop (entryFrame m #[(.int p1), (.int p2)] maxLocals)) t := by
              intro t kt
              refine R24 _ ?_
              show Steps p.tables e below (T9.setTop (mkF m 112 #[.val (.int p1), .val (.int p2), .val (.int v2), .val (.int (F1 (v2 + (2 : Int32)))), .val (.int (F2 v2 (F1 (v2 + (2 : Int32))))), .val (.int v6), .val (.int (F1 v6)), .val (.int (F1 (v6 + (1 : Int32)))), .val (.int (F1 (v6 + (10 : Int32)))), .val (.long v11), .second, .val (.long v13), .second, .unset] [(.int (lcmpW v13 (4 : Int64)))])) _
              refine XS.ifNo X9.here hx rfl (hb hby at_112) rfl ((if0 _ _).trans (flt (fun q => hc23 ((lw_gt _ _).mp q))).2.2.1) ?_
              show Steps p.tables e below (T9.setTop (mkF m 115 #[.val (.int p1), .val (.int p2), .val (.int v2), .val (.int (F1 (v2 + (2 : Int32)))), .val (.int (F2 v2 (F1 (v2 + (2 : Int32))))), .val (.int v6), .val (.int (F1 v6)), .val (.int (F1 (v6 + (1 : Int32)))), .val (.int (F1 (v6 + (10 : Int32)))), .val (.long v11), .second, .val (.long v13), .second, .unset] [])) _
              refine XS.iconst X9.here hx rfl (hb hby at_115) ?_
              show Steps p.tables e below (T9.setTop (mkF m 116 #[.val (.int p1), .val (.int p2), .val (.int v2), .val (.int (F1 (v2 + (2 : Int32)))), .val (.int (F2 v2 (F1 (v2 + (2 : Int32))))), .val (.int v6), .val (.int (F1 v6)), .val (.int (F1 (v6 + (1 : Int32)))), .val (.int (F1 (v6 + (10 : Int32)))), .val (.long v11), .second, .val (.long v13), .second, .unset] [(.int (1 : Int32))])) _
              refine XS.goto X9.here hx rfl (pc0 := 116) (pc' := 120) rfl (hb hby at_116) (by decide) (by decide) ?_
              exact kt
            exact ⟨(1 : Int32), (by rw [if_neg hc14, if_neg hc17, if_neg hc20, if_neg hc23]), R26⟩
  obtain ⟨v27, hv27, R28⟩ := J29
  have R31 : ∀ t, Steps p.tables e below (T9.setTop (mkF m 124 #[.val (.int p1), .val (.int p2), .val (.int v2), .val (.int (F1 (v2 + (2 : Int32)))), .val (.int (F2 v2 (F1 (v2 + (2 : Int32))))), .val (.int v6), .val (.int (F1 v6)), .val (.int (F1 (v6 + (1 : Int32)))), .val (.int (F1 (v6 + (10 : Int32)))), .val (.long v11), .second, .val (.long v13), .second, .val (.int v27)] [(.int (F2 v2 (F1 (v2 + (2 : Int32)))))])) t → Steps p.tables e below (s₁.setTop (entryFrame m #[(.int p1), (.int p2)] maxLocals)) t := by
    intro t kt
    refine R28 _ ?_
    show Steps p.tables e below (T9.setTop (mkF m 120 #[.val (.int p1), .val (.int p2), .val (.int v2), .val (.int (F1 (v2 + (2 : Int32)))), .val (.int (F2 v2 (F1 (v2 + (2 : Int32))))), .val (.int v6), .val (.int (F1 v6)), .val (.int (F1 (v6 + (1 : Int32)))), .val (.int (F1 (v6 + (10 : Int32)))), .val (.long v11), .second, .val (.long v13), .second, .unset] [(.int v27)])) _
    refine XS.istore X9.here hx rfl (hb hby at_120) rfl (l' := #[.val (.int p1), .val (.int p2), .val (.int v2), .val (.int (F1 (v2 + (2 : Int32)))), .val (.int (F2 v2 (F1 (v2 + (2 : Int32))))), .val (.int v6), .val (.int (F1 v6)), .val (.int (F1 (v6 + (1 : Int32)))), .val (.int (F1 (v6 + (10 : Int32)))), .val (.long v11), .second, .val (.long v13), .second, .val (.int v27)]) rfl ?_
    show Steps p.tables e below (T9.setTop (mkF m 122 #[.val (.int p1), .val (.int p2), .val (.int v2), .val (.int (F1 (v2 + (2 : Int32)))), .val (.int (F2 v2 (F1 (v2 + (2 : Int32))))), .val (.int v6), .val (.int (F1 v6)), .val (.int (F1 (v6 + (1 : Int32)))), .val (.int (F1 (v6 + (10 : Int32)))), .val (.long v11), .second, .val (.long v13), .second, .val (.int v27)] [])) _
    refine XS.iload X9.here hx rfl (hb hby at_122) rfl ?_
    exact kt
  have J39 : ∃ (v37 : Int32), v37 = (if (F2 v2 (F1 (v2 + (2 : Int32)))) = (0 : Int32) then (0 : Int32) else (if v27 = (0 : Int32) then (0 : Int32) else (1 : Int32))) ∧ ∀ t, Steps p.tables e below (T9.setTop (mkF m 137 #[.val (.int p1), .val (.int p2), .val (.int v2), .val (.int (F1 (v2 + (2 : Int32)))), .val (.int (F2 v2 (F1 (v2 + (2 : Int32))))), .val (.int v6), .val (.int (F1 v6)), .val (.int (F1 (v6 + (1 : Int32)))), .val (.int (F1 (v6 + (10 : Int32)))), .val (.long v11), .second, .val (.long v13), .second, .val (.int v27)] [(.int v37)])) t → Steps p.tables e below (s₁.setTop (entryFrame m #[(.int p1), (.int p2)] maxLocals)) t := by
    by_cases hc30 : (F2 v2 (F1 (v2 + (2 : Int32)))) = (0 : Int32)
    · have R32 : ∀ t, Steps p.tables e below (T9.setTop (mkF m 137 #[.val (.int p1), .val (.int p2), .val (.int v2), .val (.int (F1 (v2 + (2 : Int32)))), .val (.int (F2 v2 (F1 (v2 + (2 : Int32))))), .val (.int v6), .val (.int (F1 v6)), .val (.int (F1 (v6 + (1 : Int32)))), .val (.int (F1 (v6 + (10 : Int32)))), .val (.long v11), .second, .val (.long v13), .second, .val (.int v27)] [(.int (0 : Int32))])) t → Steps p.tables e below (s₁.setTop (entryFrame m #[(.int p1), (.int p2)] maxLocals)) t := by
        intro t kt
        refine R31 _ ?_
        show Steps p.tables e below (T9.setTop (mkF m 124 #[.val (.int p1), .val (.int p2), .val (.int v2), .val (.int (F1 (v2 + (2 : Int32)))), .val (.int (F2 v2 (F1 (v2 + (2 : Int32))))), .val (.int v6), .val (.int (F1 v6)), .val (.int (F1 (v6 + (1 : Int32)))), .val (.int (F1 (v6 + (10 : Int32)))), .val (.long v11), .second, .val (.long v13), .second, .val (.int v27)] [(.int (F2 v2 (F1 (v2 + (2 : Int32)))))])) _
        refine XS.ifYes X9.here hx rfl (pc0 := 124) (pc' := 136) rfl (hb hby at_124) rfl ((if0 _ _).trans (teq hc30).1) (by decide) (by decide) ?_
        show Steps p.tables e below (T9.setTop (mkF m 136 #[.val (.int p1), .val (.int p2), .val (.int v2), .val (.int (F1 (v2 + (2 : Int32)))), .val (.int (F2 v2 (F1 (v2 + (2 : Int32))))), .val (.int v6), .val (.int (F1 v6)), .val (.int (F1 (v6 + (1 : Int32)))), .val (.int (F1 (v6 + (10 : Int32)))), .val (.long v11), .second, .val (.long v13), .second, .val (.int v27)] [])) _
        refine XS.iconst X9.here hx rfl (hb hby at_136) ?_
        exact kt
      exact ⟨(0 : Int32), (by rw [if_pos hc30]), R32⟩
    · have R34 : ∀ t, Steps p.tables e below (T9.setTop (mkF m 129 #[.val (.int p1), .val (.int p2), .val (.int v2), .val (.int (F1 (v2 + (2 : Int32)))), .val (.int (F2 v2 (F1 (v2 + (2 : Int32))))), .val (.int v6), .val (.int (F1 v6)), .val (.int (F1 (v6 + (1 : Int32)))), .val (.int (F1 (v6 + (10 : Int32)))), .val (.long v11), .second, .val (.long v13), .second, .val (.int v27)] [(.int v27)])) t → Steps p.tables e below (s₁.setTop (entryFrame m #[(.int p1), (.int p2)] maxLocals)) t := by
        intro t kt
        refine R31 _ ?_
        show Steps p.tables e below (T9.setTop (mkF m 124 #[.val (.int p1), .val (.int p2), .val (.int v2), .val (.int (F1 (v2 + (2 : Int32)))), .val (.int (F2 v2 (F1 (v2 + (2 : Int32))))), .val (.int v6), .val (.int (F1 v6)), .val (.int (F1 (v6 + (1 : Int32)))), .val (.int (F1 (v6 + (10 : Int32)))), .val (.long v11), .second, .val (.long v13), .second, .val (.int v27)] [(.int (F2 v2 (F1 (v2 + (2 : Int32)))))])) _
        refine XS.ifNo X9.here hx rfl (hb hby at_124) rfl ((if0 _ _).trans (feq hc30).1) ?_
        show Steps p.tables e below (T9.setTop (mkF m 127 #[.val (.int p1), .val (.int p2), .val (.int v2), .val (.int (F1 (v2 + (2 : Int32)))), .val (.int (F2 v2 (F1 (v2 + (2 : Int32))))), .val (.int v6), .val (.int (F1 v6)), .val (.int (F1 (v6 + (1 : Int32)))), .val (.int (F1 (v6 + (10 : Int32)))), .val (.long v11), .second, .val (.long v13), .second, .val (.int v27)] [])) _
        refine XS.iload X9.here hx rfl (hb hby at_127) rfl ?_
        exact kt
      by_cases hc33 : v27 = (0 : Int32)
      · have R35 : ∀ t, Steps p.tables e below (T9.setTop (mkF m 137 #[.val (.int p1), .val (.int p2), .val (.int v2), .val (.int (F1 (v2 + (2 : Int32)))), .val (.int (F2 v2 (F1 (v2 + (2 : Int32))))), .val (.int v6), .val (.int (F1 v6)), .val (.int (F1 (v6 + (1 : Int32)))), .val (.int (F1 (v6 + (10 : Int32)))), .val (.long v11), .second, .val (.long v13), .second, .val (.int v27)] [(.int (0 : Int32))])) t → Steps p.tables e below (s₁.setTop (entryFrame m #[(.int p1), (.int p2)] maxLocals)) t := by
          intro t kt
          refine R34 _ ?_
          show Steps p.tables e below (T9.setTop (mkF m 129 #[.val (.int p1), .val (.int p2), .val (.int v2), .val (.int (F1 (v2 + (2 : Int32)))), .val (.int (F2 v2 (F1 (v2 + (2 : Int32))))), .val (.int v6), .val (.int (F1 v6)), .val (.int (F1 (v6 + (1 : Int32)))), .val (.int (F1 (v6 + (10 : Int32)))), .val (.long v11), .second, .val (.long v13), .second, .val (.int v27)] [(.int v27)])) _
          refine XS.ifYes X9.here hx rfl (pc0 := 129) (pc' := 136) rfl (hb hby at_129) rfl ((if0 _ _).trans (teq hc33).1) (by decide) (by decide) ?_
          show Steps p.tables e below (T9.setTop (mkF m 136 #[.val (.int p1), .val (.int p2), .val (.int v2), .val (.int (F1 (v2 + (2 : Int32)))), .val (.int (F2 v2 (F1 (v2 + (2 : Int32))))), .val (.int v6), .val (.int (F1 v6)), .val (.int (F1 (v6 + (1 : Int32)))), .val (.int (F1 (v6 + (10 : Int32)))), .val (.long v11), .second, .val (.long v13), .second, .val (.int v27)] [])) _
          refine XS.iconst X9.here hx rfl (hb hby at_136) ?_
          exact kt
        exact ⟨(0 : Int32), (by rw [if_neg hc30, if_pos hc33]), R35⟩
      · have R36 : ∀ t, Steps p.tables e below (T9.setTop (mkF m 137 #[.val (.int p1), .val (.int p2), .val (.int v2), .val (.int (F1 (v2 + (2 : Int32)))), .val (.int (F2 v2 (F1 (v2 + (2 : Int32))))), .val (.int v6), .val (.int (F1 v6)), .val (.int (F1 (v6 + (1 : Int32)))), .val (.int (F1 (v6 + (10 : Int32)))), .val (.long v11), .second, .val (.long v13), .second, .val (.int v27)] [(.int (1 : Int32))])) t → Steps p.tables e below (s₁.setTop (entryFrame m #[(.int p1), (.int p2)] maxLocals)) t := by
          intro t kt
          refine R34 _ ?_
          show Steps p.tables e below (T9.setTop (mkF m 129 #[.val (.int p1), .val (.int p2), .val (.int v2), .val (.int (F1 (v2 + (2 : Int32)))), .val (.int (F2 v2 (F1 (v2 + (2 : Int32))))), .val (.int v6), .val (.int (F1 v6)), .val (.int (F1 (v6 + (1 : Int32)))), .val (.int (F1 (v6 + (10 : Int32)))), .val (.long v11), .second, .val (.long v13), .second, .val (.int v27)] [(.int v27)])) _
          refine XS.ifNo X9.here hx rfl (hb hby at_129) rfl ((if0 _ _).trans (feq hc33).1) ?_
          show Steps p.tables e below (T9.setTop (mkF m 132 #[.val (.int p1), .val (.int p2), .val (.int v2), .val (.int (F1 (v2 + (2 : Int32)))), .val (.int (F2 v2 (F1 (v2 + (2 : Int32))))), .val (.int v6), .val (.int (F1 v6)), .val (.int (F1 (v6 + (1 : Int32)))), .val (.int (F1 (v6 + (10 : Int32)))), .val (.long v11), .second, .val (.long v13), .second, .val (.int v27)] [])) _
          refine XS.iconst X9.here hx rfl (hb hby at_132) ?_
          show Steps p.tables e below (T9.setTop (mkF m 133 #[.val (.int p1), .val (.int p2), .val (.int v2), .val (.int (F1 (v2 + (2 : Int32)))), .val (.int (F2 v2 (F1 (v2 + (2 : Int32))))), .val (.int v6), .val (.int (F1 v6)), .val (.int (F1 (v6 + (1 : Int32)))), .val (.int (F1 (v6 + (10 : Int32)))), .val (.long v11), .second, .val (.long v13), .second, .val (.int v27)] [(.int (1 : Int32))])) _
          refine XS.goto X9.here hx rfl (pc0 := 133) (pc' := 137) rfl (hb hby at_133) (by decide) (by decide) ?_
          exact kt
        exact ⟨(1 : Int32), (by rw [if_neg hc30, if_neg hc33]), R36⟩
  obtain ⟨v37, hv37, R38⟩ := J39
  obtain ⟨fs, hr, hrun, hended, hW, hsame⟩ := X9.leave (v := some (.int (nar .boolean v37))) (fun h => by rw [Bd.returns] at h; cases h)
  refine ⟨_, _, R38 _ ?_, hrun, hended, _, _, rfl, ?_, ⟨_, rfl⟩, hW, hsame.mono (by decide) (by decide)⟩
  · show Steps p.tables e below (T9.setTop (mkF m 137 #[.val (.int p1), .val (.int p2), .val (.int v2), .val (.int (F1 (v2 + (2 : Int32)))), .val (.int (F2 v2 (F1 (v2 + (2 : Int32))))), .val (.int v6), .val (.int (F1 v6)), .val (.int (F1 (v6 + (1 : Int32)))), .val (.int (F1 (v6 + (10 : Int32)))), .val (.long v11), .second, .val (.long v13), .second, .val (.int v27)] [(.int v37)])) _
    exact retN X9 hx (t := .boolean) Bd.returns (by simp) (hb hby at_137) hr
  · show Q0 Z p1 p2 h0 n0 _ T9.heap _
    rw [e9]
    refine ⟨?_, N4⟩
    subst hv2 hv6 hv11 hv13 hv27 hv37; rfl
theorem own_enum (c : Int32) (lo : Int) (n : Nat) (h1 : lo ≤ c.toInt) (h2 : c.toInt < lo + n) : ∃ k : Fin n, c = Int32.ofInt (lo + k.val) :=
  ⟨⟨(c.toInt - lo).toNat, by omega⟩, by
    show c = Int32.ofInt (lo + ((c.toInt - lo).toNat : Int))
    rw [show lo + ((c.toInt - lo).toNat : Int) = c.toInt by omega, Int32.ofInt_toInt]⟩
def own_E (v : Int32) : Int32 := F2 v (F1 (v + (2 : Int32)))
theorem own_E1 : ∀ k : Fin 123, own_E (Int32.ofInt (-61 + k.val)) = 1 := by decide +kernel
theorem own_exact (v : Int32) (h1 : -61 ≤ v.toInt) (h2 : v.toInt ≤ 61) : F2 v (F1 (v + (2 : Int32))) = 1 := by
  obtain ⟨k, rfl⟩ := own_enum v (-61) 123 (by omega) (by omega)
  exact own_E1 k
theorem own_F1 (x : Int32) (h1 : -2000 ≤ x.toInt) (h2 : x.toInt ≤ 2000) : (F1 x).toInt = (x.toInt * 315653 - 131007) / 1048576 := by
  have a := c_lmul (x.toInt64) 315653
  have ra := rng64 ((x.toInt64) * (315653 : Int64))
  rw [c_i2l, show (315653 : Int64).toInt = 315653 from rfl] at a
  have ea : ((x.toInt64) * (315653 : Int64)).toInt = x.toInt * 315653 := by omega
  have b := c_lsub ((x.toInt64) * (315653 : Int64)) 131007
  have rb := rng64 (((x.toInt64) * (315653 : Int64)) - (131007 : Int64))
  rw [show (131007 : Int64).toInt = 131007 from rfl, ea] at b
  clear a ra
  have eb : (((x.toInt64) * (315653 : Int64)) - (131007 : Int64)).toInt = x.toInt * 315653 - 131007 := by omega
  clear b rb
  have c := c_lshr (((x.toInt64) * (315653 : Int64)) - (131007 : Int64)) 20 20 (by decide)
  rw [show ((2 ^ 20 : Nat) : Int) = 1048576 from rfl, eb] at c
  have d := c_l2i ((((x.toInt64) * (315653 : Int64)) - (131007 : Int64)) >>> ((20 : Int32) &&& 0x3f).toInt64)
  rw [c] at d
  have rd := rng32 (F1 x)
  unfold F1 at *
  clear c ea eb
  omega
theorem own_steps (r : Int32) (h1 : -1200 ≤ r.toInt) (h2 : r.toInt ≤ 1190) : (if (((F1 (r + (1 : Int32))).toInt64) - ((F1 r).toInt64)) < (0 : Int64) then (0 : Int32) else (if (1 : Int64) < (((F1 (r + (1 : Int32))).toInt64) - ((F1 r).toInt64)) then (0 : Int32) else (if (((F1 (r + (10 : Int32))).toInt64) - ((F1 r).toInt64)) < (3 : Int64) then (0 : Int32) else (if (4 : Int64) < (((F1 (r + (10 : Int32))).toInt64) - ((F1 r).toInt64)) then (0 : Int32) else (1 : Int32))))) = 1 := by
  have a1 := c_iadd r 1
  have q1 := rng32 (r + 1)
  rw [show (1 : Int32).toInt = 1 from rfl] at a1
  have b1 : (r + 1).toInt = r.toInt + 1 := by omega
  clear a1 q1
  have a2 := c_iadd r 10
  have q2 := rng32 (r + 10)
  rw [show (10 : Int32).toInt = 10 from rfl] at a2
  have b2 : (r + 10).toInt = r.toInt + 10 := by omega
  clear a2 q2
  have f0 := own_F1 r (by omega) (by omega)
  have f1 := own_F1 (r + 1) (by omega) (by omega)
  have f2 := own_F1 (r + 10) (by omega) (by omega)
  have d1 := c_lsub ((F1 (r + (1 : Int32))).toInt64) ((F1 r).toInt64)
  have d2 := c_lsub ((F1 (r + (10 : Int32))).toInt64) ((F1 r).toInt64)
  have r1 := rng64 (((F1 (r + (1 : Int32))).toInt64) - ((F1 r).toInt64))
  have r2 := rng64 (((F1 (r + (10 : Int32))).toInt64) - ((F1 r).toInt64))
  rw [c_i2l, c_i2l, f1, f0, b1] at d1
  rw [c_i2l, c_i2l, f2, f0, b2] at d2
  clear f0 f1 f2 b1 b2
  have g1 : (((F1 (r + (1 : Int32))).toInt64) - ((F1 r).toInt64)).toInt = ((r.toInt + 1) * 315653 - 131007) / 1048576 - (r.toInt * 315653 - 131007) / 1048576 := by omega
  have g2 : (((F1 (r + (10 : Int32))).toInt64) - ((F1 r).toInt64)).toInt = ((r.toInt + 10) * 315653 - 131007) / 1048576 - (r.toInt * 315653 - 131007) / 1048576 := by omega
  clear d1 d2 r1 r2
  simp only [Int64.lt_iff_toInt_lt, show (0 : Int64).toInt = 0 from rfl, show (1 : Int64).toInt = 1 from rfl, show (3 : Int64).toInt = 3 from rfl, show (4 : Int64).toInt = 4 from rfl, g1, g2]
  rw [if_neg (by omega), if_neg (by omega), if_neg (by omega), if_neg (by omega)]
theorem own_end (a b : Int32) (ha : a = 1) (hb : b = 1) : nar .boolean (if a = (0 : Int32) then (0 : Int32) else (if b = (0 : Int32) then (0 : Int32) else (1 : Int32))) = 1 := by subst ha hb; decide
theorem own_rem (x d : Int32) (D : Int) (s : Int32) (S : Int) (hd : d.toInt = D) (hs : s.toInt = S) (h0 : 0 < D) (h1 : 0 ≤ S) (h2 : S < 1000000) (h3 : D < 1000000) : -S ≤ (((x &&& (2147483647 : Int32)) % d) - s).toInt ∧ (((x &&& (2147483647 : Int32)) % d) - s).toInt < D - S := by
  have h := c_mask x 2147483647 31 (by decide) (by decide)
  have n : 0 ≤ (x &&& (2147483647 : Int32)).toInt := by rw [h]; exact Int.emod_nonneg _ (by decide)
  have r := (c_irem (x &&& (2147483647 : Int32)) d D hd).1 n
  have p1 := Int.emod_nonneg (x &&& (2147483647 : Int32)).toInt (show D ≠ 0 by omega)
  have p2 := Int.emod_lt_of_pos (x &&& (2147483647 : Int32)).toInt h0
  have a := c_isub ((x &&& (2147483647 : Int32)) % d) s
  have q := rng32 (((x &&& (2147483647 : Int32)) % d) - s)
  rw [hs] at a
  omega
theorem own_plain (p1 p2 : Int32) : F0 p1 p2 = 1 := by
  have a := own_rem p1 123 123 61 61 rfl rfl (by decide) (by decide) (by decide) (by decide)
  have b := own_rem p2 2391 2391 1200 1200 rfl rfl (by decide) (by decide) (by decide) (by decide)
  exact own_end _ _ (own_exact _ (by omega) (by omega)) (own_steps _ (by omega) (by omega))
theorem own_fin {Z : State} (p1 : Int32) (p2 : Int32) (h0 : Heap) (n0 : Nat) (h : Heap) (L : List Loc) {v : Option Value} (q : Q0 Z p1 p2 h0 n0 v h L) : v = some (.int (1 : Int32)) ∧ Fr n0 L := by
  obtain ⟨rfl, N⟩ := q
  exact ⟨by rw [own_plain], N⟩
set_option maxRecDepth 65536 in
set_option maxHeartbeats 40000000 in
theorem comes_1 {Post : Tables → Env → Array Value → State → Outcome → State → Prop} (hpost : ∀ tb e args s v u, (limb_1_1.after args s (.returned v) u = true ∧ limb_1_2.after args s (.returned v) u = true ∧ True) → FrameEnd s (.returned v) u (Jvm.fieldLocs frame_1_writes args s ++ Jvm.arrayLocs frame_1_arrays args s ++ Jvm.staticLocs frame_1_statics s) 16 192 → Post tb e args s (.returned v) u) :
    ArmFor flags0 classFile x code maxLocals ret World_1 tables_1 room_1 Calls_1 rest_1 Pre_1 Post := by
  intro l hfl _ _ p e ha hc hk s m args below hf hA hF happ hP
  obtain ⟨hcalls, hrest, hpre⟩ := hP
  obtain ⟨-, -, -, hnamed, -, -, -, hat⟩ := (Spec.applies_iff hf).mp happ
  obtain ⟨hg, hn⟩ := and_e (Cond.before_iff.mp (show (Jvm.Cond.and given_1 narrow_1).before args s = true from hpre))
  obtain ⟨ga0, gb0⟩ := and_e hg
  obtain ⟨ga1, gb1⟩ := and_e gb0
  obtain ⟨w0, w1, rfl⟩ : ∃ w0 w1 : Value, args = #[w0, w1] := by
    have hs : args.size = 2 := by simpa [Cond.value, given_1] using ga0
    obtain ⟨L⟩ := args
    match L, hs with
    | [w0, w1], _ => exact ⟨w0, w1, rfl⟩
  have hw := fun d (hd : d ∈ tables_1) => atoms_spec (ws := Jvm.Cond.code x code maxLocals ret :: tables_1) hat d (List.mem_cons_of_mem _ hd)
  have hfit : Fit s := fun {y c} hc i hi => by
    obtain ⟨ha, rfl⟩ := Array.getElem?_eq_some_iff.mp hc
    have q := List.all_eq_true.mp ((Array.all_eq_true_iff_forall_mem.mp hF) _ (Array.getElem_mem ha)) i (List.mem_range.mpr hi)
    simpa [Array.getElem?_eq_getElem hi] using q
  obtain ⟨i0, ei0⟩ := is_v ga1
  obtain rfl : w0 = (.int i0) := Option.some.inj ei0
  obtain ⟨i1, ei1⟩ := is_v gb1
  obtain rfl : w1 = (.int i1) := Option.some.inj ei1
  obtain ⟨n, o, h1, h2, h3, v, L, rfl, hQ, hq⟩ := rm0 l s _ hw tables_1 i0 i1 s.heap s.heap.size (Nat.le_refl _) p e ha hc hk s m _ below hf ((Spec.applies_iff_loose hf).mp happ).1 ⟨rfl, State.Warmed39.refl s, rfl⟩ trivial
  obtain ⟨rfl, N⟩ := own_fin i0 i1 _ _ _ _ hQ
  refine ⟨n, _, h1, h2, h3, hpost _ _ _ _ _ _ ⟨Cond.after_iff.mpr rfl, Cond.after_iff.mpr (eq_i res_at (Term.int_eval (1)) rfl), trivial⟩ ⟨hq.1, hq.2.1, (hq.2.2.sift fun y hy => Or.inr (N y hy)).mono (by decide) (by decide)⟩⟩
theorem main_1_1 : Claimed_1_1 := comes_1 fun _ _ _ _ _ _ h hF => ⟨h.1, hF⟩
theorem main_1_2 : Claimed_1_2 := comes_1 fun _ _ _ _ _ _ h hF => ⟨h.2.1, hF⟩
end Jvm.Pilot.@@N@@
namespace Jvm.Pilot.@@N@@
open Jvm Jvm.ClassFile Sem Op Lib Jvm.Free Jvm.Stand Jvm.Pilot.@@N@@.Jvm.D
/-! MADE BY PROGRAM (witnessworld.py) out of the Statement's table words and the real class files: 11 classes; the members and pool entries that the words name. The judged class is class 1, her method 1. -/
namespace start1
open Jvm.ClassFile
def u (s : String) : CpInfo := .utf8 (stringToUtf16 s)
/-- a pool by its gaps: so many unusable entries, then the entry; so many at the end -/
def gap : Nat → List CpInfo → List CpInfo
  | 0, r => r
  | n + 1, r => .unusable :: gap n r
def poolList (es : List (Nat × CpInfo)) (last : Nat) : List CpInfo := es.foldr (fun e r => gap e.1 (e.2 :: r)) (gap last [])
def pool (es : List (Nat × CpInfo)) (last : Nat) : Array CpInfo := ⟨poolList es last⟩
def fileOf (pool : Array CpInfo) (this : Nat) (attrs : Array Attribute := #[]) (ms : Array MethodInfo := #[]) (fl : Nat := 33) (sup : Nat := 0) (ifs : Array Nat := #[]) (fds : Array FieldInfo := #[]) : ClassFile where
  minorVersion := 0
  majorVersion := 65
  constantPool := pool
  accessFlags := fl
  thisClass := this
  superClass := sup
  interfaces := ifs
  fields := fds
  methods := ms
  attributes := attrs
def plain (name : String) (sup : Option ClassId) : Class where
  name := name
  kind := .ordinary
  loader := none
  accessFlags := 33
  super := sup
  interfaces := #[]
  cf := none
  fields := #[]
  methods := #[]
  instanceTypes := #[]
  staticTypes := #[]
  resolved := #[]
  callSites := []
  init := .initialized
  statics := none
  mirror := none

def pool0 : Array CpInfo := pool [(5, u "<init>"), (0, u "()V"), (1, .class_ 10), (1, u "java/lang/Object")] 113

def k0m0 : Method := { name := "<init>", desc := "()V", sig := { parameters := [], returnType := none }, accessFlags := 1, code := none }
/-- java/lang/Object -/
def k0 : Class := { plain "java/lang/Object" none with
  accessFlags := 33
  interfaces := #[]
  cf := some (fileOf pool0 8 #[] #[{ accessFlags := 1, nameIndex := 5, descriptorIndex := 6, attributes := #[] }] 33 0 #[] #[])
  fields := #[]
  methods := #[k0m0]
  instanceTypes := #[]
  staticTypes := #[]
  resolved := Array.replicate 124 none
  statics := none }

def pool1 : Array CpInfo := pool [(2, .class_ 4), (1, u "java/lang/Object"), (0, u "<init>"), (0, u "()V"), (0, .integer 2147483647), (0, .methodref 9 10), (0, .class_ 11), (0, .nameAndType 12 13), (0, u "com/example/cellstream/cellstream/io/BinaryToDecimal"), (0, u "floorLog10ThreeQuartersPow2"), (0, u "(I)I"), (0, .methodref 15 16), (0, .class_ 17), (0, .nameAndType 18 19), (0, u "com/example/cellstream/cellstream/io/BinaryToDecimalFloorLog10ThreeQuartersPow2PinLaw"), (0, u "exactFloor"), (0, u "(II)Z"), (0, .long 3), (1, .long 4), (1, .methodref 15 25), (0, .nameAndType 26 27), (0, u "pow10"), (0, u "(I)J"), (0, .long 10), (1, .long 100), (1, .long 1000), (1, .long 10000), (1, .long 100000), (1, .long 1000000), (1, .long 10000000), (1, .long 100000000), (1, .long 1000000000), (1, .long 10000000000), (1, .long 100000000000), (1, .long 1000000000000), (1, .long 10000000000000), (1, .long 100000000000000), (1, .long 1000000000000000), (1, .long 10000000000000000), (1, .long 100000000000000000), (1, .long 1000000000000000000), (3, u "law")] 3

def k1m0 : Method := { name := "<init>", desc := "()V", sig := { parameters := [], returnType := none }, accessFlags := 2, code := none }
def k1c1 : Code := { maxStack := 4, maxLocals := 14, code := code, exceptionTable := #[], attributes := #[] }
def k1m1 : Method := { name := "law", desc := "(II)Z", sig := { parameters := [.int, .int], returnType := some .boolean }, accessFlags := 9, code := some k1c1 }
def k1c2 : Code := { maxStack := 6, maxLocals := 7, code := method_3_code, exceptionTable := #[], attributes := #[] }
def k1m2 : Method := { name := "exactFloor", desc := "(II)Z", sig := { parameters := [.int, .int], returnType := some .boolean }, accessFlags := 10, code := some k1c2 }
def k1c3 : Code := { maxStack := 5, maxLocals := 2, code := method_4_code, exceptionTable := #[], attributes := #[] }
def k1m3 : Method := { name := "pow10", desc := "(I)J", sig := { parameters := [.int], returnType := some .long }, accessFlags := 10, code := some k1c3 }
/-- com/example/cellstream/cellstream/io/BinaryToDecimalFloorLog10ThreeQuartersPow2PinLaw -/
def k1 : Class := { plain "com/example/cellstream/cellstream/io/BinaryToDecimalFloorLog10ThreeQuartersPow2PinLaw" (some 0) with
  accessFlags := 49
  interfaces := #[]
  cf := some (fileOf pool1 15 #[] #[{ accessFlags := 2, nameIndex := 5, descriptorIndex := 6, attributes := #[] }, { accessFlags := 9, nameIndex := 66, descriptorIndex := 19, attributes := #[] }, { accessFlags := 10, nameIndex := 18, descriptorIndex := 19, attributes := #[] }, { accessFlags := 10, nameIndex := 26, descriptorIndex := 27, attributes := #[] }] 49 2 #[] #[])
  fields := #[]
  methods := #[k1m0, k1m1, k1m2, k1m3]
  instanceTypes := #[]
  staticTypes := #[]
  resolved := Array.replicate 70 none
  statics := none }

def pool2 : Array CpInfo := pool [(2, .class_ 4), (1, u "java/lang/Object"), (0, u "<init>"), (0, u "()V"), (4, .class_ 13), (1, u "com/example/cellstream/cellstream/io/BinaryToDecimal"), (51, u "floorLog10ThreeQuartersPow2"), (0, u "(I)I"), (37, .class_ 105), (0, u "com/example/cellstream/cellstream/io/BinaryToDecimal$Scale"), (36, .class_ 143), (0, u "com/example/cellstream/cellstream/io/BinaryToDecimal$Interval"), (73, .long 315653), (1, .long 131007), (1, u "UNDECIDED"), (0, u "J"), (1, u "LEAST_TWO_DIGITS"), (0, u "DOUBLE_FRACTION_BITS"), (0, u "I"), (1, u "DOUBLE_MIN_Q"), (1, u "FLOAT_FRACTION_BITS"), (1, u "FLOAT_MIN_Q"), (1, u "LOG10_2"), (0, u "LOG10_4_3")] 11

def k2m0 : Method := { name := "<init>", desc := "()V", sig := { parameters := [], returnType := none }, accessFlags := 2, code := none }
def k2c1 : Code := { maxStack := 4, maxLocals := 1, code := prog_5_method_11_code, exceptionTable := #[], attributes := #[] }
def k2m1 : Method := { name := "floorLog10ThreeQuartersPow2", desc := "(I)I", sig := { parameters := [.int], returnType := some .int }, accessFlags := 8, code := some k2c1 }
/-- com/example/cellstream/cellstream/io/BinaryToDecimal -/
def k2 : Class := { plain "com/example/cellstream/cellstream/io/BinaryToDecimal" (some 0) with
  accessFlags := 49
  interfaces := #[]
  cf := some (fileOf pool2 11 #[.nestMembers #[142, 104]] #[{ accessFlags := 2, nameIndex := 5, descriptorIndex := 6, attributes := #[] }, { accessFlags := 8, nameIndex := 65, descriptorIndex := 66, attributes := #[] }] 49 2 #[] #[{ accessFlags := 26, nameIndex := 221, descriptorIndex := 222, attributes := #[] }, { accessFlags := 26, nameIndex := 224, descriptorIndex := 222, attributes := #[] }, { accessFlags := 26, nameIndex := 225, descriptorIndex := 226, attributes := #[] }, { accessFlags := 26, nameIndex := 228, descriptorIndex := 226, attributes := #[] }, { accessFlags := 26, nameIndex := 230, descriptorIndex := 226, attributes := #[] }, { accessFlags := 26, nameIndex := 232, descriptorIndex := 226, attributes := #[] }, { accessFlags := 26, nameIndex := 234, descriptorIndex := 222, attributes := #[] }, { accessFlags := 26, nameIndex := 235, descriptorIndex := 222, attributes := #[] }])
  fields := #[{ name := "UNDECIDED", type := .long, accessFlags := 26, slot := 0, constantValue := 0 }, { name := "LEAST_TWO_DIGITS", type := .long, accessFlags := 26, slot := 1, constantValue := 0 }, { name := "DOUBLE_FRACTION_BITS", type := .int, accessFlags := 26, slot := 2, constantValue := 0 }, { name := "DOUBLE_MIN_Q", type := .int, accessFlags := 26, slot := 3, constantValue := 0 }, { name := "FLOAT_FRACTION_BITS", type := .int, accessFlags := 26, slot := 4, constantValue := 0 }, { name := "FLOAT_MIN_Q", type := .int, accessFlags := 26, slot := 5, constantValue := 0 }, { name := "LOG10_2", type := .long, accessFlags := 26, slot := 6, constantValue := 0 }, { name := "LOG10_4_3", type := .long, accessFlags := 26, slot := 7, constantValue := 0 }]
  methods := #[k2m0, k2m1]
  instanceTypes := #[]
  staticTypes := #[.long, .long, .int, .int, .int, .int, .long, .long]
  resolved := Array.replicate 247 none
  statics := none }

def pool3 : Array CpInfo := pool [(1, u "java/lang/Cloneable"), (0, .class_ 1), (0, u "java/lang/Object"), (0, .class_ 3)] 3

/-- java/lang/Cloneable -/
def k3 : Class := { plain "java/lang/Cloneable" (some 0) with
  accessFlags := 1537
  interfaces := #[]
  cf := some (fileOf pool3 2 #[] #[] 1537 4 #[] #[])
  fields := #[]
  methods := #[]
  instanceTypes := #[]
  staticTypes := #[]
  resolved := Array.replicate 8 none
  statics := none }

def pool4 : Array CpInfo := pool [(1, u "java/io/Serializable"), (0, .class_ 1), (0, u "java/lang/Object"), (0, .class_ 3)] 3

/-- java/io/Serializable -/
def k4 : Class := { plain "java/io/Serializable" (some 0) with
  accessFlags := 1537
  interfaces := #[]
  cf := some (fileOf pool4 2 #[] #[] 1537 4 #[] #[])
  fields := #[]
  methods := #[]
  instanceTypes := #[]
  staticTypes := #[]
  resolved := Array.replicate 8 none
  statics := none }

/-- the primitive byte -/
def k5 : Class := { plain "byte" none with kind := .primitive 'B', accessFlags := 0x411 }
/-- [B -/
def k6 : Class := { plain "[B" (some 0) with kind := .array 5 .byte, interfaces := #[3, 4], accessFlags := 1041 }

/-- the primitive int -/
def k7 : Class := { plain "int" none with kind := .primitive 'I', accessFlags := 0x411 }
/-- [I -/
def k8 : Class := { plain "[I" (some 0) with kind := .array 7 .int, interfaces := #[3, 4], accessFlags := 1041 }

/-- the primitive long -/
def k9 : Class := { plain "long" none with kind := .primitive 'J', accessFlags := 0x411 }
/-- [J -/
def k10 : Class := { plain "[J" (some 0) with kind := .array 9 .long, interfaces := #[3, 4], accessFlags := 1041 }

def heap : Heap := #[]
def classes : Array Class := #[k0, k1, k2, k3, k4, k5, k6, k7, k8, k9, k10]
def interned : List (Array UInt16 × Addr) := []
def slotsUsed : Nat := 0
def theMethod : MethodId := ⟨1, 1⟩
def args0 : Array Value := #[.int 25, .int 7]
def aboutOver (below : List Frame) : State where
  vm := { classes := classes, interned := interned.toArray }
  heap := heap
  slotsUsed := slotsUsed
  threads := #[{ frames := .invoking theMethod args0 :: below }]
def below0 : List Frame := [.native { method := ⟨0, 0⟩, args := #[] }]
def about1 : State := aboutOver below0
def p0 : Program := .bare "" "" ""
def e0 : Env := launch0.env 0 0 0
theorem w_frames : about1.frames = Frame.invoking theMethod args0 :: below0 := rfl
set_option maxRecDepth 65536 in
theorem w_args : argsFit about1.vm theMethod args0 = true := by decide +kernel
set_option maxRecDepth 65536 in
theorem w_heap : heapFits about1 = true := by decide +kernel
set_option maxRecDepth 65536 in
theorem w_runnable : about1.curStatus? = some .runnable := by decide +kernel
set_option maxRecDepth 65536 in
theorem w_alone : about1.alone = true := by decide +kernel
set_option maxRecDepth 65536 in
theorem w_named : about1.methodNamed? x = some theMethod := by decide +kernel
set_option maxRecDepth 65536 in
theorem w_hears : about1.hears theMethod below0 = true := by decide +kernel
set_option maxRecDepth 65536 in
theorem w_ripe : about1.ripe theMethod args0 below0 = true := by decide +kernel
theorem w_running : about1.status = .running := rfl
set_option maxRecDepth 65536 in
theorem w_room : about1.hasRoom e0.platform room_1 = true :=
  launch0.hasRoom_least _ room_1 (by decide +kernel) (by decide +kernel) (by decide +kernel) (by decide +kernel) (by decide +kernel) (by decide +kernel)
theorem allAtoms_all (ts : List Jvm.Cond) (a : Array Jvm.Value) (st : Jvm.State) : (allAtoms ts).before a st = ts.all (fun c => c.before a st) := by
  induction ts with
  | nil => rfl
  | cons c t ih =>
    show (Jvm.Cond.and c (allAtoms t)).before a st = _
    rw [Jvm.Cond.before_and, ih, List.all_cons]
def words1 : List Jvm.Cond := Jvm.Cond.code x code maxLocals ret :: tables_1
/-- a 'code' word, met by the world's own term for the bytes: nothing is compared byte by byte -/
theorem code_word {y : MethodName} {bytes : ByteArray} {mx : Nat} {rt : Option FieldType} {a : Array Value} {s : State} {m : MethodId} {meth : Method} {c : Code} (h1 : s.methodNamed? y = some m) (h2 : s.vm.method? m = some meth) (h3 : meth.code = some c) (h4 : c.code = bytes)
    (h5 : (c.maxLocals == mx && c.exceptionTable.isEmpty && decide (c.maxStack ≤ mostOperands) && decide (meth.sig.returnType = rt) && !meth.locks && decide (parseMethodDescriptor y.desc = some meth.sig)) = true) : (Jvm.Cond.code y bytes mx rt).before a s = true := by
  simp only [Bool.and_eq_true, beq_iff_eq, Bool.not_eq_true', decide_eq_true_eq] at h5
  obtain ⟨⟨⟨⟨⟨g1, g2⟩, g3⟩, g4⟩, g5⟩, g6⟩ := h5
  simp [Cond.before, Cond.holds, Cond.value, h1, h2, h3, h4, g1, g2, g3, g4, g5, g6]
def isCode : Jvm.Cond → Bool
  | .code _ _ _ _ => true
  | _ => false
theorem all_split {L : List Jvm.Cond} {P : Jvm.Cond → Bool} (h1 : L.all (fun c => isCode c || P c) = true) (h2 : ∀ c ∈ L.filter isCode, P c = true) : L.all P = true := by
  refine List.all_eq_true.mpr fun c hc => ?_
  have h := List.all_eq_true.mp h1 c hc
  rcases Bool.eq_false_or_eq_true (isCode c) with hi | hi
  · exact h2 c (List.mem_filter.mpr ⟨hc, hi⟩)
  · simpa [hi] using h
set_option maxRecDepth 65536 in
theorem w_c0 : (Jvm.Cond.code x code maxLocals ret).before args0 about1 = true := code_word (m := ⟨1, 1⟩) (meth := k1m1) (c := k1c1) (by decide +kernel) rfl rfl rfl (by decide +kernel)
set_option maxRecDepth 65536 in
theorem w_c1 : (Jvm.Cond.code ({ cls := "com/example/cellstream/cellstream/io/BinaryToDecimal", name := "floorLog10ThreeQuartersPow2", desc := "(I)I" } : Jvm.MethodName) prog_5_method_11_code (1 : Nat) (Option.some Jvm.ClassFile.FieldType.int)).before args0 about1 = true := code_word (m := ⟨2, 1⟩) (meth := k2m1) (c := k2c1) (by decide +kernel) rfl rfl rfl (by decide +kernel)
set_option maxRecDepth 65536 in
theorem w_c2 : (Jvm.Cond.code ({ cls := "com/example/cellstream/cellstream/io/BinaryToDecimalFloorLog10ThreeQuartersPow2PinLaw", name := "exactFloor", desc := "(II)Z" } : Jvm.MethodName) method_3_code (7 : Nat) (Option.some Jvm.ClassFile.FieldType.boolean)).before args0 about1 = true := code_word (m := ⟨1, 2⟩) (meth := k1m2) (c := k1c2) (by decide +kernel) rfl rfl rfl (by decide +kernel)
set_option maxRecDepth 65536 in
theorem w_c3 : (Jvm.Cond.code ({ cls := "com/example/cellstream/cellstream/io/BinaryToDecimalFloorLog10ThreeQuartersPow2PinLaw", name := "pow10", desc := "(I)J" } : Jvm.MethodName) method_4_code (2 : Nat) (Option.some Jvm.ClassFile.FieldType.long)).before args0 about1 = true := code_word (m := ⟨1, 3⟩) (meth := k1m3) (c := k1c3) (by decide +kernel) rfl rfl rfl (by decide +kernel)
def codes1 : List Jvm.Cond := [Jvm.Cond.code x code maxLocals ret, Jvm.Cond.code ({ cls := "com/example/cellstream/cellstream/io/BinaryToDecimal", name := "floorLog10ThreeQuartersPow2", desc := "(I)I" } : Jvm.MethodName) prog_5_method_11_code (1 : Nat) (Option.some Jvm.ClassFile.FieldType.int), Jvm.Cond.code ({ cls := "com/example/cellstream/cellstream/io/BinaryToDecimalFloorLog10ThreeQuartersPow2PinLaw", name := "exactFloor", desc := "(II)Z" } : Jvm.MethodName) method_3_code (7 : Nat) (Option.some Jvm.ClassFile.FieldType.boolean), Jvm.Cond.code ({ cls := "com/example/cellstream/cellstream/io/BinaryToDecimalFloorLog10ThreeQuartersPow2PinLaw", name := "pow10", desc := "(I)J" } : Jvm.MethodName) method_4_code (2 : Nat) (Option.some Jvm.ClassFile.FieldType.long)]
set_option maxRecDepth 65536 in
theorem codes_eq : words1.filter isCode = codes1 := rfl
theorem w_codes : ∀ c ∈ words1.filter isCode, c.before args0 about1 = true := by
  rw [codes_eq]
  intro c hc
  simp only [codes1, List.mem_cons, List.not_mem_nil, or_false] at hc
  rcases hc with rfl | rfl | rfl | rfl
  · exact w_c0
  · exact w_c1
  · exact w_c2
  · exact w_c3
set_option maxRecDepth 65536 in
theorem w_t1 : (words1.take 24).all (fun c => isCode c || c.before args0 about1) = true := by decide +kernel
set_option maxRecDepth 65536 in
theorem w_t2 : (words1.drop 24).all (fun c => isCode c || c.before args0 about1) = true := by decide +kernel
theorem w_tables : (allAtoms (Jvm.Cond.code x code maxLocals ret :: tables_1)).before args0 about1 = true := by
  rw [allAtoms_all]
  show words1.all (fun c => c.before args0 about1) = true
  refine all_split ?_ w_codes
  rw [← List.take_append_drop 24 words1, List.all_append, w_t1, w_t2]
  rfl
set_option maxRecDepth 65536 in
theorem w_case : (Jvm.Cond.and given_1 narrow_1).before args0 about1 = true := by decide +kernel
theorem w_applies : (headSpec (Jvm.Cond.code x code maxLocals ret :: tables_1) room_1).applies x e0.platform about1 = true :=
  (Spec.applies_iff w_frames).mpr ⟨w_running, w_runnable, w_alone, w_named, w_hears, w_ripe, w_room, w_tables⟩
theorem atStart : AtStart classFile x code maxLocals ret World_1 tables_1 room_1 Calls_1 rest_1 Pre_1 launch0 p0 e0 about1 theMethod args0 below0 :=
  ⟨lists_1, trivial, launch0.admits_env _ _ _, launch0.least_env, fairChoices_fair.cas, fairChoices_fair.clock, w_frames, w_args, w_heap, w_applies, trivial, trivial, w_case⟩
end start1
theorem witness_1 : WitnessClaimed_1 := ⟨start1.p0, start1.e0, start1.about1, start1.theMethod, start1.args0, start1.below0, start1.atStart⟩
end Jvm.Pilot.@@N@@
