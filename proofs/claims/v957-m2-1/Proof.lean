import JvmDerived
import JvmDerived.Pilot.@@N@@Statement
import JvmDerived.Pilot.@@N@@Code
set_option linter.unusedVariables false
set_option linter.unusedSimpArgs false
namespace Jvm.RoadKit
open Sem ClassFile Op Lib Jvm.Stand Jvm.Free Jvm.LawKit
section New
variable {p : Program} {l : Launch} {e : Env} {R : Room} {s : State} {m : MethodId} {args : Array Value} {below : List Frame} {meth : Method} {c : Code} {T : State} {locs : List Loc} {cells slots : Nat}
theorem retI (X : Stand p l e R s m args below meth c T locs cells slots) (hx : p.tables.exec = Jvm.exec) {pc : Nat} {Ls : Array Slot} {z : Int32} {rest : List Value} (hret : meth.sig.returnType = some .int) (hd : decode c.code pc = .ok (.ireturn, 1)) {fs : List Frame}
    (hl : ∀ (f : JFrame) (acts : List Action), f.method = m → f.locked = none → f.entered = [] → (doReturn e (T.setTop f) acts (some (.int z))).1 = T.setFrames fs) : Steps p.tables e below (T.setTop (mkF m pc Ls (.int z :: rest))) (T.setFrames fs) := by
  have hm' : T.vm.method? m = some meth := X.method'
  have hn : narrow .int (.int z) = .int z := rfl
  show Steps p.tables e below (T.setTop { method := m, pc := pc, locals := Ls, stack := _ :: rest, locked := none }) _
  jvm_step X.here [X.here.top, hx, hd, hm', hret, hn]
  first | (intro acts; rw [hl _ acts rfl rfl rfl]) | rw [hl _ _ rfl rfl rfl]
  exact Steps.refl _
end New
end Jvm.RoadKit
/- laws to paste: Road.backV (cut by pick.py; bodies as the Statement names them) -/
namespace Jvm.Pilot.@@N@@
namespace StrChars
open Jvm Sem ClassFile Op Lib Jvm.Stand Jvm.Free.XT Jvm.Free.ALB Jvm.Free.JM Jvm.Free
open Jvm.Lib.Cold (StaticIs)
/-- a char array whose places are chars -/
def Ch (a : Addr) (A : Cell) (U : State) : Prop := Arr .char a A U ∧ Typed .char A
theorem Ch.mv {a : Addr} {A : Cell} {U U' : State} (h : Ch a A U) (hal : U.vm.Alike U'.vm) (hh : U'.heap = U.heap) : Ch a A U' := ⟨h.1.mv hal hh, h.2⟩
theorem Ch.keep {a : Addr} {A : Cell} {U U' : State} (h : Ch a A U) (hal : U.vm.Alike U'.vm) (hk : U'.heap[a]? = some A) : Ch a A U' := ⟨h.1.keep hal hk, h.2⟩
/-- what place i of a char[]'s cell holds -/
def cv (A : Cell) (i : Nat) : Int32 := match A.slots[i]? with | some (.int x) => x | _ => 0
theorem Ch.get {a : Addr} {A : Cell} {U : State} (h : Ch a A U) {i : Nat} (hi : i < A.slots.size) : A.slots[i]? = some (.int (cv A i)) := by
  have e := Array.getElem?_eq_getElem hi
  have f := h.2 i _ e
  unfold cv; rw [e]
  generalize A.slots[i] = v at f
  cases v <;> simp [fits] at f ⊢
/-- the byte that i2b leaves of a char -/
def lo8 (x : Int32) : Int32 := x.toInt8.toInt32
theorem fits_lo8 (y : Int32) : fits .byte (.int (lo8 y)) = true := by
  have h1 := y.toInt8.le_toInt
  have h2 := y.toInt8.toInt_lt
  simp only [lo8, fits, Bool.and_eq_true, decide_eq_true_eq, Int32.le_iff_toInt_le, Int8.toInt_toInt32, show (-128 : Int32).toInt = -128 from by decide, show (127 : Int32).toInt = 127 from by decide]
  omega
/-- A' is A but that each place j of lo .. hi - 1 holds f j -/
def Laid (A A' : Cell) (lo hi : Nat) (f : Nat → Value) : Prop := A'.cls = A.cls ∧ A'.vm = A.vm ∧ A'.slots.size = A.slots.size ∧ ∀ i, A'.slots[i]? = if lo ≤ i ∧ i < hi then some (f i) else A.slots[i]?
theorem Laid.zero (A : Cell) (lo : Nat) (f : Nat → Value) : Laid A A lo (lo + 0) f := ⟨rfl, rfl, rfl, fun i => by rw [if_neg (by omega)]⟩
theorem Laid.step {A Ak : Cell} {lo k : Nat} {f : Nat → Value} {v : Value} (h : Laid A Ak lo k f) (hlo : lo ≤ k) (hk : k < Ak.slots.size) (hv : v = f k) : Laid A (Ak.setSlot k v) lo (k + 1) f := by
  refine ⟨h.1, h.2.1, by simpa [Cell.setSlot] using h.2.2.1, fun i => ?_⟩
  by_cases e : k = i
  · subst e; rw [Cell.slots_setSlot_self v hk, if_pos (by omega), hv]
  · rw [Cell.slots_setSlot_ne v e, h.2.2.2 i]
    by_cases q : lo ≤ i ∧ i < k
    · rw [if_pos q, if_pos (by omega)]
    · rw [if_neg q, if_neg (by omega)]
def U16 : String := "java/lang/StringUTF16"
namespace Cmp5
def yN : MethodName := ⟨"java/lang/StringUTF16", "compress", "([CI[BII)I"⟩
abbrev yB : ByteArray := jdk_52_method_21_code
theorem d0 : decode yB 0 = .ok (.iconst 0, 1) := by decide +kernel
theorem d1 : decode yB 1 = .ok (.istore 5, 2) := by decide +kernel
theorem d3 : decode yB 3 = .ok (.iload 5, 2) := by decide +kernel
theorem d5 : decode yB 5 = .ok (.iload 4, 2) := by decide +kernel
theorem d7 : decode yB 7 = .ok (.if_icmp (.ge) 37, 3) := by decide +kernel
theorem d10 : decode yB 10 = .ok (.aload_n 0, 1) := by decide +kernel
theorem d11 : decode yB 11 = .ok (.iload_n 1, 1) := by decide +kernel
theorem d12 : decode yB 12 = .ok (.caload, 1) := by decide +kernel
theorem d13 : decode yB 13 = .ok (.istore 6, 2) := by decide +kernel
theorem d15 : decode yB 15 = .ok (.iload 6, 2) := by decide +kernel
theorem d17 : decode yB 17 = .ok (.sipush 255, 3) := by decide +kernel
theorem d20 : decode yB 20 = .ok (.if_icmp (.le) 6, 3) := by decide +kernel
theorem d26 : decode yB 26 = .ok (.aload_n 2, 1) := by decide +kernel
theorem d27 : decode yB 27 = .ok (.iload_n 3, 1) := by decide +kernel
theorem d28 : decode yB 28 = .ok (.iload 6, 2) := by decide +kernel
theorem d30 : decode yB 30 = .ok (.i2b, 1) := by decide +kernel
theorem d31 : decode yB 31 = .ok (.bastore, 1) := by decide +kernel
theorem d32 : decode yB 32 = .ok (.iinc 1 1, 3) := by decide +kernel
theorem d35 : decode yB 35 = .ok (.iinc 3 1, 3) := by decide +kernel
theorem d38 : decode yB 38 = .ok (.iinc 5 1, 3) := by decide +kernel
theorem d41 : decode yB 41 = .ok (.goto (-38), 3) := by decide +kernel
theorem d44 : decode yB 44 = .ok (.iload 4, 2) := by decide +kernel
theorem d46 : decode yB 46 = .ok (.ireturn, 1) := by decide +kernel
def site : List Cond := []
def tab : Cond := tabOf yN yB 7 (some .int) site
def P (b : Addr) (A : Cell) (d : Addr) (B : Cell) (o q len : Nat) (args : Array Value) (s : State) : Prop := args = #[.ref b, .int (Int32.ofNat o), .ref d, .int (Int32.ofNat q), .int (Int32.ofNat len)] ∧ Ch b A s ∧ Arr .byte d B s ∧ b ≠ d ∧ o + len ≤ A.slots.size ∧ q + len ≤ B.slots.size ∧ ∀ i, i < len → ¬ 255 < cv A (o + i)
def E (b : Addr) (A : Cell) (d : Addr) (B : Cell) (o q len : Nat) (r : Option Value) (s u : State) : Prop := r = some (.int (Int32.ofNat len)) ∧ ∃ B', Put d B' s u ∧ Laid B B' q (q + len) (fun j => Value.int (lo8 (cv A (o + (j - q)))))
/-- no char of the range above 255: len; the places written hold each char's low byte -/
theorem law (l : Launch) (b : Addr) (A : Cell) (d : Addr) (B : Cell) (o q len : Nat) : Law l yN 5 5 0 0 yB 7 (some .int) site (P b A d B o q len) (E b A d B o q len) (copyLocs d q len) 0 0 := by
  refine Law.of_walk (plainFor_of_name (by decide +kernel)) (by decide +kernel) (by decide +kernel) (by decide) (fun _ _ h => by rw [h.1]; rfl) (fun _ U U' hal hh h => ⟨h.1, h.2.1.mv hal hh, h.2.2.1.mv hal hh, h.2.2.2⟩) (fun r U U' V V' h1 hal h2 h => ⟨h.1, h.2.elim fun B' q => ⟨B', q.1.mv h1 h2, q.2⟩⟩) ?_
  intro p e s m args below meth c s₁ X0 hexec hbytes hml hret hlk hnm hown hh0 W hP
  obtain ⟨rfl, hA, hB, hne, l1, l2, hp⟩ := hP
  have c1 : Steps p.tables e below (s₁.setTop (entryFrame m #[.ref b, .int (Int32.ofNat o), .ref d, .int (Int32.ofNat q), .int (Int32.ofNat len)] 7)) (s₁.setTop (mkF m 0 #[.val (.ref b), .val (.int (Int32.ofNat o)), .val (.ref d), .val (.int (Int32.ofNat q)), .val (.int (Int32.ofNat len)), .unset, .unset] [])) := entry rfl
  have hA0 := hA.1.mv X0.warmed.alike hh0
  have hB0 := hB.mv X0.warmed.alike hh0
  have a31 := hA.1.2.2.2
  have c2 : Steps p.tables e below (s₁.setTop (entryFrame m #[.ref b, .int (Int32.ofNat o), .ref d, .int (Int32.ofNat q), .int (Int32.ofNat len)] 7)) (s₁.setTop (mkF m 3 #[.val (.ref b), .val (.int (Int32.ofNat o)), .val (.ref d), .val (.int (Int32.ofNat q)), .val (.int (Int32.ofNat len)), .val (.int 0), .unset] [])) := c1.trans (by
    refine iconstV X0.here hexec rfl 0 (hb hbytes d0) (by decide) ?_
    refine XS.istore X0.here hexec rfl (hb hbytes d1) rfl rfl ?_
    exact Steps.refl _)
  have loop : ∀ (r i : Nat), i + r = len → ∀ (z : Slot), (z = .unset ∨ ∃ w, z = .val w ∧ w.category = 1) → ∀ (Tl : State) (Bk : Cell), Stand p l e { frames := 0, locals := 0, cells := 0, slots := 0 } s m #[.ref b, .int (Int32.ofNat o), .ref d, .int (Int32.ofNat q), .int (Int32.ofNat len)] below meth c Tl ([] ++ copyLocs d q i) 0 0 → Put d Bk s₁ Tl → Laid B Bk q (q + i) (fun j => Value.int (lo8 (cv A (o + (j - q))))) →
      Steps p.tables e below (s₁.setTop (entryFrame m #[.ref b, .int (Int32.ofNat o), .ref d, .int (Int32.ofNat q), .int (Int32.ofNat len)] 7)) (Tl.setTop (mkF m 3 #[.val (.ref b), .val (.int (Int32.ofNat (o + i))), .val (.ref d), .val (.int (Int32.ofNat (q + i))), .val (.int (Int32.ofNat len)), .val (.int (Int32.ofNat i)), z] [])) → ∃ (T' : State) (B' : Cell) (z' : Slot), Stand p l e { frames := 0, locals := 0, cells := 0, slots := 0 } s m #[.ref b, .int (Int32.ofNat o), .ref d, .int (Int32.ofNat q), .int (Int32.ofNat len)] below meth c T' ([] ++ copyLocs d q len) 0 0 ∧ Put d B' s₁ T' ∧ Laid B B' q (q + len) (fun j => Value.int (lo8 (cv A (o + (j - q))))) ∧
      Steps p.tables e below (s₁.setTop (entryFrame m #[.ref b, .int (Int32.ofNat o), .ref d, .int (Int32.ofNat q), .int (Int32.ofNat len)] 7)) (T'.setTop (mkF m 3 #[.val (.ref b), .val (.int (Int32.ofNat (o + len))), .val (.ref d), .val (.int (Int32.ofNat (q + len))), .val (.int (Int32.ofNat len)), .val (.int (Int32.ofNat len)), z'] [])) := by
    intro r
    induction r with
    | zero =>
      intro i hi z hz Tl Bk Xl pl fl cl
      have hil : i = len := by omega
      rw [hil] at Xl fl cl
      exact ⟨Tl, Bk, z, Xl, pl, fl, cl⟩
    | succ r ih =>
      intro i hi z hz Tl Bk Xl pl fl cl
      have all := X0.warmed.alike.symm.trans Xl.warmed.alike
      have hAl := hA0.keep all (pl.other hne hA0.1)
      have hBk := hB0.like all pl.1 fl.1 fl.2.1 fl.2.2.1
      have hlt : q + i < Bk.slots.size := by rw [fl.2.2.1]; omega
      have c3 : Steps p.tables e below (s₁.setTop (entryFrame m #[.ref b, .int (Int32.ofNat o), .ref d, .int (Int32.ofNat q), .int (Int32.ofNat len)] 7)) (Tl.setTop (mkF m 12 #[.val (.ref b), .val (.int (Int32.ofNat (o + i))), .val (.ref d), .val (.int (Int32.ofNat (q + i))), .val (.int (Int32.ofNat len)), .val (.int (Int32.ofNat i)), z] [.int (Int32.ofNat (o + i)), .ref b])) := cl.trans (by
        refine XS.iload Xl.here hexec rfl (hb hbytes d3) rfl ?_
        refine XS.iload Xl.here hexec rfl (hb hbytes d5) rfl ?_
        refine XS.icmpNo Xl.here hexec rfl (hb hbytes d7) rfl (ii_ge_f (lt32 (by omega) (by omega))) ?_
        refine XS.aloadN Xl.here hexec rfl (hb hbytes d10) rfl rfl ?_
        refine XS.iloadN Xl.here hexec rfl (hb hbytes d11) rfl ?_
        exact Steps.refl _)
      have c4 : Steps p.tables e below (s₁.setTop (entryFrame m #[.ref b, .int (Int32.ofNat o), .ref d, .int (Int32.ofNat q), .int (Int32.ofNat len)] 7)) (Tl.setTop (mkF m 13 #[.val (.ref b), .val (.int (Int32.ofNat (o + i))), .val (.ref d), .val (.int (Int32.ofNat (q + i))), .val (.int (Int32.ofNat len)), .val (.int (Int32.ofNat i)), z] [.int (cv A (o + i))])) := c3.trans (by
        refine Xl.aget hexec hAl rfl (hA.get (i := o + i) (by omega)) rfl rfl (hb hbytes d12) ?_
        exact Steps.refl _)
      have c5 : Steps p.tables e below (s₁.setTop (entryFrame m #[.ref b, .int (Int32.ofNat o), .ref d, .int (Int32.ofNat q), .int (Int32.ofNat len)] 7)) (Tl.setTop (mkF m 15 #[.val (.ref b), .val (.int (Int32.ofNat (o + i))), .val (.ref d), .val (.int (Int32.ofNat (q + i))), .val (.int (Int32.ofNat len)), .val (.int (Int32.ofNat i)), .val (.int (cv A (o + i)))] [])) := c4.trans (by
        refine XS.istoreS Xl.here hexec rfl (hb hbytes d13) rfl rfl hz ?_
        exact Steps.refl _)
      have c6 : Steps p.tables e below (s₁.setTop (entryFrame m #[.ref b, .int (Int32.ofNat o), .ref d, .int (Int32.ofNat q), .int (Int32.ofNat len)] 7)) (Tl.setTop (mkF m 31 #[.val (.ref b), .val (.int (Int32.ofNat (o + i))), .val (.ref d), .val (.int (Int32.ofNat (q + i))), .val (.int (Int32.ofNat len)), .val (.int (Int32.ofNat i)), .val (.int (cv A (o + i)))] [.int (lo8 (cv A (o + i))), .int (Int32.ofNat (q + i)), .ref d])) := c5.trans (by
        refine XS.iload Xl.here hexec rfl (hb hbytes d15) rfl ?_
        refine sipushV Xl.here hexec rfl 255 (hb hbytes d17) (by decide) ?_
        refine XS.icmpYes Xl.here hexec rfl (pc0 := 20) rfl (hb hbytes d20) rfl (ii_le_t (hp i (by omega))) (by decide) rfl ?_
        refine XS.aloadN Xl.here hexec rfl (hb hbytes d26) rfl rfl ?_
        refine XS.iloadN Xl.here hexec rfl (hb hbytes d27) rfl ?_
        refine XS.iload Xl.here hexec rfl (hb hbytes d28) rfl ?_
        refine i2b Xl.here hexec rfl (hb hbytes d30) rfl ?_
        exact Steps.refl _)
      obtain ⟨T7, X7, p7, st7⟩ := Xl.aput hexec hBk rfl hlt rfl (fits_lo8 (cv A (o + i))) (g := (mkF m 31 #[.val (.ref b), .val (.int (Int32.ofNat (o + i))), .val (.ref d), .val (.int (Int32.ofNat (q + i))), .val (.int (Int32.ofNat len)), .val (.int (Int32.ofNat i)), .val (.int (cv A (o + i)))] [.int (lo8 (cv A (o + i))), .int (Int32.ofNat (q + i)), .ref d])) rfl (rest := []) rfl (hb hbytes d31)
      have c8 : Steps p.tables e below (s₁.setTop (entryFrame m #[.ref b, .int (Int32.ofNat o), .ref d, .int (Int32.ofNat q), .int (Int32.ofNat len)] 7)) (T7.setTop (mkF m 32 #[.val (.ref b), .val (.int (Int32.ofNat (o + i))), .val (.ref d), .val (.int (Int32.ofNat (q + i))), .val (.int (Int32.ofNat len)), .val (.int (Int32.ofNat i)), .val (.int (cv A (o + i)))] [])) := c6.trans (st7 _ (Steps.refl _))
      have c9 : Steps p.tables e below (s₁.setTop (entryFrame m #[.ref b, .int (Int32.ofNat o), .ref d, .int (Int32.ofNat q), .int (Int32.ofNat len)] 7)) (T7.setTop (mkF m 3 #[.val (.ref b), .val (.int (Int32.ofNat (o + i) + 1)), .val (.ref d), .val (.int (Int32.ofNat (q + i) + 1)), .val (.int (Int32.ofNat len)), .val (.int (Int32.ofNat i + 1)), .val (.int (cv A (o + i)))] [])) := c8.trans (by
        refine iincV X7.here hexec rfl 1 (hb hbytes d32) (by decide) rfl rfl ?_
        refine iincV X7.here hexec rfl 1 (hb hbytes d35) (by decide) rfl rfl ?_
        refine iincV X7.here hexec rfl 1 (hb hbytes d38) (by decide) rfl rfl ?_
        refine XS.goto X7.here hexec rfl (pc0 := 41) rfl (hb hbytes d41) (by decide) rfl ?_
        exact Steps.refl _)
      have c10 : Steps p.tables e below (s₁.setTop (entryFrame m #[.ref b, .int (Int32.ofNat o), .ref d, .int (Int32.ofNat q), .int (Int32.ofNat len)] 7)) (T7.setTop (mkF m 3 #[.val (.ref b), .val (.int (Int32.ofNat (o + (i + 1)))), .val (.ref d), .val (.int (Int32.ofNat (q + (i + 1)))), .val (.int (Int32.ofNat len)), .val (.int (Int32.ofNat (i + 1))), .val (.int (cv A (o + i)))] [])) := by
        have := c9
        rw [succ32, succ32, succ32] at this
        exact this
      exact ih (i + 1) (by omega) _ (Or.inr ⟨_, rfl, rfl⟩) T7 _ (by rw [copyLocs_step, ← List.append_assoc]; exact X7) (pl.trans p7) (fl.step (by omega) hlt (by simp)) c10
  obtain ⟨T9, B9, z9, X9, p9, f9, g9⟩ := loop len 0 (by omega) .unset (Or.inl rfl) s₁ B (by simpa [copyLocs] using X0) ⟨hB0.1, fun _ _ => rfl, rfl⟩ (Laid.zero _ _ _) c2
  have c11 : Steps p.tables e below (s₁.setTop (entryFrame m #[.ref b, .int (Int32.ofNat o), .ref d, .int (Int32.ofNat q), .int (Int32.ofNat len)] 7)) (T9.setTop (mkF m 46 #[.val (.ref b), .val (.int (Int32.ofNat (o + len))), .val (.ref d), .val (.int (Int32.ofNat (q + len))), .val (.int (Int32.ofNat len)), .val (.int (Int32.ofNat len)), z9] [.int (Int32.ofNat len)])) := g9.trans (by
    refine XS.iload X9.here hexec rfl (hb hbytes d3) rfl ?_
    refine XS.iload X9.here hexec rfl (hb hbytes d5) rfl ?_
    refine XS.icmpYes X9.here hexec rfl (pc0 := 7) rfl (hb hbytes d7) rfl (ii_ge_t (nlt32 (by omega) (Nat.le_refl _))) (by decide) rfl ?_
    refine XS.iload X9.here hexec rfl (hb hbytes d44) rfl ?_
    exact Steps.refl _)
  exact ⟨T9, some (.int (Int32.ofNat len)), _, _, _, X9, by simp, rfl, rfl, (fun h => by cases h), ⟨rfl, B9, p9.from hh0, f9⟩, fun fs hl => c11.trans (X9.ireturnOut hexec hret rfl (Or.inl rfl) (hb hbytes d46) hl)⟩
end Cmp5
namespace Cmp3
def yN : MethodName := ⟨"java/lang/StringUTF16", "compress", "([CII)[B"⟩
abbrev yB : ByteArray := jdk_52_method_16_code
theorem d0 : decode yB 0 = .ok (.iload_n 2, 1) := by decide +kernel
theorem d1 : decode yB 1 = .ok (.newarray .byte, 2) := by decide +kernel
theorem d3 : decode yB 3 = .ok (.astore_n 3, 1) := by decide +kernel
theorem d4 : decode yB 4 = .ok (.aload_n 0, 1) := by decide +kernel
theorem d5 : decode yB 5 = .ok (.iload_n 1, 1) := by decide +kernel
theorem d6 : decode yB 6 = .ok (.aload_n 3, 1) := by decide +kernel
theorem d7 : decode yB 7 = .ok (.iconst 0, 1) := by decide +kernel
theorem d8 : decode yB 8 = .ok (.iload_n 2, 1) := by decide +kernel
theorem d9 : decode yB 9 = .ok (.invokestatic 115, 3) := by decide +kernel
theorem d12 : decode yB 12 = .ok (.istore 4, 2) := by decide +kernel
theorem d14 : decode yB 14 = .ok (.iload 4, 2) := by decide +kernel
theorem d16 : decode yB 16 = .ok (.iload_n 2, 1) := by decide +kernel
theorem d17 : decode yB 17 = .ok (.if_icmp (.eq) 40, 3) := by decide +kernel
theorem d57 : decode yB 57 = .ok (.aload_n 3, 1) := by decide +kernel
theorem d58 : decode yB 58 = .ok (.areturn, 1) := by decide +kernel
def site : List Cond := [.arrayClass .byte, Cmp5.tab] ++ staticW U16 115 Cmp5.yN
def tab : Cond := tabOf yN yB 6 (some (.array .byte)) site
def P (b : Addr) (A : Cell) (o len : Nat) (args : Array Value) (s : State) : Prop := args = #[.ref b, .int (Int32.ofNat o), .int (Int32.ofNat len)] ∧ Ch b A s ∧ o + len ≤ A.slots.size ∧ len ≤ 536870912 ∧ ∀ i, i < len → ¬ 255 < cv A (o + i)
def E (b : Addr) (A : Cell) (o len : Nat) (r : Option Value) (s u : State) : Prop := NewArr .byte "[B" len (fun j => .int (lo8 (cv A (o + j)))) r s u ∧ u.heap.size = s.heap.size + 1
/-- no char of the range above 255: a new byte[] of their low bytes -/
theorem law (l : Launch) (b : Addr) (A : Cell) (o len : Nat) : Law l yN 3 3 1 18 yB 6 (some (.array .byte)) site (P b A o len) (E b A o len) [] 1 len := by
  refine Law.of_walk (plainFor_of_name (by decide +kernel)) (by decide +kernel) (by decide +kernel) (by decide) (fun _ _ h => by rw [h.1]; rfl) (fun _ U U' hal hh h => ⟨h.1, h.2.1.mv hal hh, h.2.2⟩) (fun r U U' V V' h1 hal h2 h => ⟨NewArr.mv r U U' V V' h1 hal h2 h.1, by rw [h1, h2]; exact h.2⟩) ?_
  intro p e s m args below meth c s₁ X0 hexec hbytes hml hret hlk hnm hown hh0 W hP
  obtain ⟨rfl, hA, l1, l2, hp⟩ := hP
  have a31 := hA.1.2.2.2
  have c1 : Steps p.tables e below (s₁.setTop (entryFrame m #[.ref b, .int (Int32.ofNat o), .int (Int32.ofNat len)] 6)) (s₁.setTop (mkF m 0 #[.val (.ref b), .val (.int (Int32.ofNat o)), .val (.int (Int32.ofNat len)), .unset, .unset, .unset] [])) := entry rfl
  have c2 : Steps p.tables e below (s₁.setTop (entryFrame m #[.ref b, .int (Int32.ofNat o), .int (Int32.ofNat len)] 6)) (s₁.setTop (mkF m 1 #[.val (.ref b), .val (.int (Int32.ofNat o)), .val (.int (Int32.ofNat len)), .unset, .unset, .unset] [.int (Int32.ofNat len)])) := c1.trans (by
    refine XS.iloadN X0.here hexec rfl (hb hbytes d0) rfl ?_
    exact Steps.refl _)
  obtain ⟨T3, B3, X3, ba3, bs3, bv3, bh3, bf3, st3⟩ := X0.anew hexec (atype := .byte) (wk W (.arrayClass .byte)) rfl (by show len * 1 ≤ _; omega) (by omega) (g := (mkF m 1 #[.val (.ref b), .val (.int (Int32.ofNat o)), .val (.int (Int32.ofNat len)), .unset, .unset, .unset] [.int (Int32.ofNat len)])) rfl (hb hbytes d1) (rest := []) rfl (Nat.le_refl _) (by show 0 + len ≤ len; omega)
  rw [hh0] at ba3 st3
  have kp3 : XT.Kept s T3 := (XT.Kept.of_eq hh0).push bh3
  have hA3 := hA.keep X3.warmed.alike (kp3 _ _ hA.1.1)
  have hne : b ≠ s.heap.size := hA.1.ne
  have c4 : Steps p.tables e below (s₁.setTop (entryFrame m #[.ref b, .int (Int32.ofNat o), .int (Int32.ofNat len)] 6)) (T3.setTop (mkF m 3 #[.val (.ref b), .val (.int (Int32.ofNat o)), .val (.int (Int32.ofNat len)), .unset, .unset, .unset] [.ref s.heap.size])) := c2.trans (st3 _ (Steps.refl _))
  have c5 : Steps p.tables e below (s₁.setTop (entryFrame m #[.ref b, .int (Int32.ofNat o), .int (Int32.ofNat len)] 6)) (T3.setTop (mkF m 9 #[.val (.ref b), .val (.int (Int32.ofNat o)), .val (.int (Int32.ofNat len)), .val (.ref s.heap.size), .unset, .unset] [.int (Int32.ofNat len), .int 0, .ref s.heap.size, .int (Int32.ofNat o), .ref b])) := c4.trans (by
    refine XS.astoreN X3.here hexec rfl (hb hbytes d3) rfl rfl rfl ?_
    refine XS.aloadN X3.here hexec rfl (hb hbytes d4) rfl rfl ?_
    refine XS.iloadN X3.here hexec rfl (hb hbytes d5) rfl ?_
    refine XS.aloadN X3.here hexec rfl (hb hbytes d6) rfl rfl ?_
    refine iconstV X3.here hexec rfl 0 (hb hbytes d7) (by decide) ?_
    refine XS.iloadN X3.here hexec rfl (hb hbytes d8) rfl ?_
    exact Steps.refl _)
  obtain ⟨v6, T6, X6, E6, g6⟩ := X3.callS hexec (Cmp5.law l b A s.heap.size B3 o 0 len) hown (wks W (staticW U16 115 Cmp5.yN)) (wk W Cmp5.tab) (W := 0) (Nat.le_of_ble_eq_true rfl) (Nat.le_of_ble_eq_true rfl) (Nat.le_refl _) (by show 0 + len + 0 ≤ len; omega) (g := (mkF m 9 #[.val (.ref b), .val (.int (Int32.ofNat o)), .val (.int (Int32.ofNat len)), .val (.ref s.heap.size), .unset, .unset] [.int (Int32.ofNat len), .int (Int32.ofNat 0), .ref s.heap.size, .int (Int32.ofNat o), .ref b])) rfl (by rw [hml]; rfl) c5 (argsL := [.ref b, .int (Int32.ofNat o), .ref s.heap.size, .int (Int32.ofNat 0), .int (Int32.ofNat len)]) (rest := []) rfl rfl (by show 2 * 0 + 0 ≤ _; decide) (hb hbytes d9) (⟨rfl, hA3, ba3, hne, l1, by rw [bs3]; simp, hp⟩)
  obtain ⟨rfl, B6, p6, f6⟩ := E6
  have c7 : Steps p.tables e below (s₁.setTop (entryFrame m #[.ref b, .int (Int32.ofNat o), .int (Int32.ofNat len)] 6)) (T6.setTop (mkF m 12 #[.val (.ref b), .val (.int (Int32.ofNat o)), .val (.int (Int32.ofNat len)), .val (.ref s.heap.size), .unset, .unset] [.int (Int32.ofNat len)])) := g6
  have c8 : Steps p.tables e below (s₁.setTop (entryFrame m #[.ref b, .int (Int32.ofNat o), .int (Int32.ofNat len)] 6)) (T6.setTop (mkF m 58 #[.val (.ref b), .val (.int (Int32.ofNat o)), .val (.int (Int32.ofNat len)), .val (.ref s.heap.size), .val (.int (Int32.ofNat len)), .unset] [.ref s.heap.size])) := c7.trans (by
    refine XS.istore X6.here hexec rfl (hb hbytes d12) rfl rfl ?_
    refine XS.iload X6.here hexec rfl (hb hbytes d14) rfl ?_
    refine XS.iloadN X6.here hexec rfl (hb hbytes d16) rfl ?_
    refine XS.icmpYes X6.here hexec rfl (pc0 := 17) rfl (hb hbytes d17) rfl (ii_eq_t rfl) (by decide) rfl ?_
    refine XS.aloadN X6.here hexec rfl (hb hbytes d57) rfl rfl ?_
    exact Steps.refl _)
  have X8 := X6.wide (L' := []) (cells' := 1) (slots' := len) (fun x hx hlt => by
    simp only [List.nil_append, copyLocs, List.mem_map, List.mem_range] at hx
    obtain ⟨i, -, rfl⟩ := hx
    exact absurd hlt (Nat.lt_irrefl _)) (Nat.le_refl _) (by omega)
  exact ⟨T6, some (.ref s.heap.size), _, _, _, X8, rfl, rfl, rfl, (fun h => by cases h), ⟨⟨rfl, B6, ba3.like (X3.warmed.alike.symm.trans X6.warmed.alike) p6.1 f6.1 f6.2.1 f6.2.2.1, f6.2.1.trans bv3, by rw [X6.warmed.alike.findClass, f6.1]; exact bf3, by rw [f6.2.2.1, bs3]; simp, fun j hj => by rw [f6.2.2.2 j, if_pos (by omega)]; rfl, kp3.put p6 (Nat.le_refl _)⟩, by rw [p6.2.2, bh3, hh0]; simp⟩, fun fs hl => c8.trans (X8.areturnOut hexec rfl hret rfl (hb hbytes d58) hl)⟩
end Cmp3
namespace CodL
def yN : MethodName := ⟨"java/lang/StringUTF16", "coderFromArrayLen", "([BI)B"⟩
abbrev yB : ByteArray := jdk_52_method_15_code
theorem d0 : decode yB 0 = .ok (.iload_n 1, 1) := by decide +kernel
theorem d1 : decode yB 1 = .ok (.aload_n 0, 1) := by decide +kernel
theorem d2 : decode yB 2 = .ok (.arraylength, 1) := by decide +kernel
theorem d3 : decode yB 3 = .ok (.isub, 1) := by decide +kernel
theorem d4 : decode yB 4 = .ok (.bipush 31, 2) := by decide +kernel
theorem d6 : decode yB 6 = .ok (.iushr, 1) := by decide +kernel
theorem d7 : decode yB 7 = .ok (.i2b, 1) := by decide +kernel
theorem d8 : decode yB 8 = .ok (.ireturn, 1) := by decide +kernel
def site : List Cond := []
def tab : Cond := tabOf yN yB 2 (some .byte) site
def P (d : Addr) (B : Cell) (args : Array Value) (s : State) : Prop := args = #[.ref d, .int (Int32.ofNat B.slots.size)] ∧ Arr .byte d B s
def E (r : Option Value) (s u : State) : Prop := XT.PureE (some (.int 0)) r s u
/-- an array as long as the number of chars: LATIN1 -/
theorem law (l : Launch) (d : Addr) (B : Cell) : Law l yN 2 2 0 0 yB 2 (some .byte) site (P d B) E [] 0 0 := by
  refine Law.of_walk (plainFor_of_name (by decide +kernel)) (by decide +kernel) (by decide +kernel) (by decide) (fun _ _ h => by rw [h.1]; rfl) (fun _ U U' hal hh h => ⟨h.1, h.2.mv hal hh⟩) (fun r U U' V V' h1 hal h2 h => XT.PureE.mv r U U' V V' h1 hal h2 h) ?_
  intro p e s m args below meth c s₁ X0 hexec hbytes hml hret hlk hnm hown hh0 W hP
  obtain ⟨rfl, hB⟩ := hP
  have hB0 := hB.mv X0.warmed.alike hh0
  have c1 : Steps p.tables e below (s₁.setTop (entryFrame m #[.ref d, .int (Int32.ofNat B.slots.size)] 2)) (s₁.setTop (mkF m 0 #[.val (.ref d), .val (.int (Int32.ofNat B.slots.size))] [])) := entry rfl
  have c2 : Steps p.tables e below (s₁.setTop (entryFrame m #[.ref d, .int (Int32.ofNat B.slots.size)] 2)) (s₁.setTop (mkF m 2 #[.val (.ref d), .val (.int (Int32.ofNat B.slots.size))] [.ref d, .int (Int32.ofNat B.slots.size)])) := c1.trans (by
    refine XS.iloadN X0.here hexec rfl (hb hbytes d0) rfl ?_
    refine XS.aloadN X0.here hexec rfl (hb hbytes d1) rfl rfl ?_
    exact Steps.refl _)
  have c3 : Steps p.tables e below (s₁.setTop (entryFrame m #[.ref d, .int (Int32.ofNat B.slots.size)] 2)) (s₁.setTop (mkF m 8 #[.val (.ref d), .val (.int (Int32.ofNat B.slots.size))] [.int (lo8 (ushr (Int32.ofNat B.slots.size - Int32.ofNat B.slots.size) 31))])) := c2.trans (by
    refine X0.alen hexec hB0 rfl rfl (hb hbytes d2) ?_
    refine XS.isub X0.here hexec rfl (hb hbytes d3) rfl ?_
    refine bipushV X0.here hexec rfl 31 (hb hbytes d4) (by decide) ?_
    refine iushr X0.here hexec rfl (hb hbytes d6) rfl ?_
    refine i2b X0.here hexec rfl (hb hbytes d7) rfl ?_
    exact Steps.refl _)
  have e0 : lo8 (ushr (Int32.ofNat B.slots.size - Int32.ofNat B.slots.size) 31) = 0 := by rw [Int32.sub_self]; decide
  rw [e0] at c3
  exact ⟨s₁, some (.int 0), _, _, _, X0, rfl, rfl, rfl, (fun h => by cases h), ⟨rfl, hh0⟩, fun fs hl => c3.trans (X0.ireturnOut hexec hret rfl (Or.inr (Or.inr (Or.inl rfl))) (hb hbytes d8) hl)⟩
end CodL
/-- the String at a is Latin-1 over a new byte[] (the heap's one new cell): the low bytes of the len chars of A from o on; every cell but a is kept -/
def Got (a : Addr) (D : Cell) (fV fC : Field) (A : Cell) (o len : Nat) (r : Option Value) (s u : State) : Prop := r = none ∧ ∃ D' V : Cell, Blank "java/lang/String" a D' u ∧ Same D D' [fV.slot, fC.slot] ∧ D'.slots[fV.slot]? = some (.ref s.heap.size) ∧ D'.slots[fC.slot]? = some (.int 0) ∧ Arr .byte s.heap.size V u ∧ V.vm = .none ∧ u.vm.findClass "[B" = some V.cls ∧ V.slots.size = len ∧ (∀ j, j < len → V.slots[j]? = some (.int (lo8 (cv A (o + j))))) ∧ (∀ (y : Addr) (c : Cell), y ≠ a → s.heap[y]? = some c → u.heap[y]? = some c) ∧ u.heap.size = s.heap.size + 1
theorem Got.mv {a : Addr} {D A : Cell} {fV fC : Field} {o len : Nat} : ∀ r (U U' V V' : State), U'.heap = U.heap → V.vm.Alike V'.vm → V'.heap = V.heap → Got a D fV fC A o len r U V → Got a D fV fC A o len r U' V' :=
  fun r U U' V V' h1 hal h2 ⟨e0, D', X, a1, a2, a3, a4, a5, a6, a7, a8, a9, a10, a11⟩ => ⟨e0, D', X, a1.mv hal h2, a2, by rw [h1]; exact a3, a4, by rw [h1]; exact a5.mv hal h2, a6, by rw [hal.findClass]; exact a7, a8, a9, by rw [h1, h2]; exact a10, by rw [h1, h2]; exact a11⟩
namespace New4
def yN : MethodName := ⟨"java/lang/String", "<init>", "([CIILjava/lang/Void;)V"⟩
abbrev yB : ByteArray := jdk_42_method_149_code
theorem d0 : decode yB 0 = .ok (.aload_n 0, 1) := by decide +kernel
theorem d1 : decode yB 1 = .ok (.invokespecial 1, 3) := by decide +kernel
theorem d4 : decode yB 4 = .ok (.iload_n 3, 1) := by decide +kernel
theorem d5 : decode yB 5 = .ok (.ifCond (.ne) 22, 3) := by decide +kernel
theorem d27 : decode yB 27 = .ok (.getstatic 38, 3) := by decide +kernel
theorem d30 : decode yB 30 = .ok (.ifCond (.eq) 28, 3) := by decide +kernel
theorem d33 : decode yB 33 = .ok (.aload_n 1, 1) := by decide +kernel
theorem d34 : decode yB 34 = .ok (.iload_n 2, 1) := by decide +kernel
theorem d35 : decode yB 35 = .ok (.iload_n 3, 1) := by decide +kernel
theorem d36 : decode yB 36 = .ok (.invokestatic 177, 3) := by decide +kernel
theorem d39 : decode yB 39 = .ok (.astore 5, 2) := by decide +kernel
theorem d41 : decode yB 41 = .ok (.aload_n 0, 1) := by decide +kernel
theorem d42 : decode yB 42 = .ok (.aload 5, 2) := by decide +kernel
theorem d44 : decode yB 44 = .ok (.iload_n 3, 1) := by decide +kernel
theorem d45 : decode yB 45 = .ok (.invokestatic 47, 3) := by decide +kernel
theorem d48 : decode yB 48 = .ok (.putfield 15, 3) := by decide +kernel
theorem d51 : decode yB 51 = .ok (.aload_n 0, 1) := by decide +kernel
theorem d52 : decode yB 52 = .ok (.aload 5, 2) := by decide +kernel
theorem d54 : decode yB 54 = .ok (.putfield 9, 3) := by decide +kernel
theorem d57 : decode yB 57 = .ok (.return_, 1) := by decide +kernel
def site : List Cond := [.fieldLink "java/lang/String" 38 "java/lang/String" "COMPACT_STRINGS" "Z", Cmp3.tab, CodL.tab, .laysFinal "java/lang/String" "java/lang/String" "value" "[B", .fieldLink "java/lang/String" 9 "java/lang/String" "value" "[B", .laysFinal "java/lang/String" "java/lang/String" "coder" "B", .fieldLink "java/lang/String" 15 "java/lang/String" "coder" "B"] ++ objW "java/lang/String" 1 ++ staticW "java/lang/String" 177 Cmp3.yN ++ staticW "java/lang/String" 47 CodL.yN
def tab : Cond := tabOf yN yB 6 none site
def P (a : Addr) (D : Cell) (fV fC : Field) (b : Addr) (A : Cell) (z : Int32) (o len : Nat) (args : Array Value) (s : State) : Prop := args = #[.ref a, .ref b, .int (Int32.ofNat o), .int (Int32.ofNat len), .null] ∧ Blank "java/lang/String" a D s ∧ Found "java/lang/String" "value" "[B" fV s ∧ Found "java/lang/String" "coder" "B" fC s ∧ Ch b A s ∧ StaticIs s "java/lang/String" "COMPACT_STRINGS" "Z" (.int z) ∧ ¬ z = 0 ∧ 0 < len ∧ o + len ≤ A.slots.size ∧ len ≤ 536870912 ∧ ∀ i, i < len → ¬ 255 < cv A (o + i)
def E (a : Addr) (D : Cell) (fV fC : Field) (A : Cell) (o len : Nat) (r : Option Value) (s u : State) : Prop := Got a D fV fC A o len r s u
/-- len > 0, no char of the range above 255: a Latin-1 String of their low bytes -/
theorem law (l : Launch) (a : Addr) (D : Cell) (fV fC : Field) (b : Addr) (A : Cell) (z : Int32) (o len : Nat) : Law l yN 5 4 2 35 yB 6 none site (P a D fV fC b A z o len) (E a D fV fC A o len) [⟨a, fC.slot⟩, ⟨a, fV.slot⟩] 1 len := by
  refine Law.of_walk (plainFor_of_name (by decide +kernel)) (by decide +kernel) (by decide +kernel) (by decide) (fun _ _ h => by rw [h.1]; rfl) (fun _ U U' hal hh h => ⟨h.1, h.2.1.mv hal hh, h.2.2.1.al hal, h.2.2.2.1.al hal, h.2.2.2.2.1.mv hal hh, h.2.2.2.2.2.1.there hal hh, h.2.2.2.2.2.2⟩) (fun r U U' V V' h1 hal h2 h => Got.mv r U U' V V' h1 hal h2 h) ?_
  intro p e s m args below meth c s₁ X0 hexec hbytes hml hret hlk hnm hown hh0 W hP
  obtain ⟨rfl, hB, f1, f2, hA, s1, hz, l0, l1, l2, hp⟩ := hP
  have a31 := hA.1.2.2.2
  have c1 : Steps p.tables e below (s₁.setTop (entryFrame m #[.ref a, .ref b, .int (Int32.ofNat o), .int (Int32.ofNat len), .null] 6)) (s₁.setTop (mkF m 0 #[.val (.ref a), .val (.ref b), .val (.int (Int32.ofNat o)), .val (.int (Int32.ofNat len)), .val .null, .unset] [])) := entry rfl
  have c2 : Steps p.tables e below (s₁.setTop (entryFrame m #[.ref a, .ref b, .int (Int32.ofNat o), .int (Int32.ofNat len), .null] 6)) (s₁.setTop (mkF m 1 #[.val (.ref a), .val (.ref b), .val (.int (Int32.ofNat o)), .val (.int (Int32.ofNat len)), .val .null, .unset] [.ref a])) := c1.trans (by
    refine XS.aloadN X0.here hexec rfl (hb hbytes d0) rfl rfl ?_
    exact Steps.refl _)
  obtain ⟨T3, X3, q3, st3⟩ := X0.oinit hexec hown (wks W (objW "java/lang/String" 1)) (g := (mkF m 1 #[.val (.ref a), .val (.ref b), .val (.int (Int32.ofNat o)), .val (.int (Int32.ofNat len)), .val .null, .unset] [.ref a])) rfl (by rw [hml]; rfl) (rest := []) rfl (hb hbytes d1) (W := 0) (by show 2 * 0 + 0 ≤ _; decide) (Nat.le_of_ble_eq_true rfl) (Nat.le_of_ble_eq_true rfl)
  have hh3 := q3.trans hh0
  have c4 : Steps p.tables e below (s₁.setTop (entryFrame m #[.ref a, .ref b, .int (Int32.ofNat o), .int (Int32.ofNat len), .null] 6)) (T3.setTop (mkF m 27 #[.val (.ref a), .val (.ref b), .val (.int (Int32.ofNat o)), .val (.int (Int32.ofNat len)), .val .null, .unset] [])) := (c2.trans (st3 _ (Steps.refl _))).trans (by
    refine XS.iloadN X3.here hexec rfl (hb hbytes d4) rfl ?_
    refine XS.ifYes X3.here hexec rfl (pc0 := 5) rfl (hb hbytes d5) rfl (i0_ne_t (nz32 (by omega) l0)) (by decide) rfl ?_
    exact Steps.refl _)
  obtain ⟨T5, X5, q5, st5⟩ := X3.sget hexec hown (wk W (.fieldLink "java/lang/String" 38 "java/lang/String" "COMPACT_STRINGS" "Z")) s1 (fun _ _ h => by rw [hh3]; exact h) (g := (mkF m 27 #[.val (.ref a), .val (.ref b), .val (.int (Int32.ofNat o)), .val (.int (Int32.ofNat len)), .val .null, .unset] [])) rfl (hb hbytes d27)
  have hh5 := q5.trans hh3
  have c6 : Steps p.tables e below (s₁.setTop (entryFrame m #[.ref a, .ref b, .int (Int32.ofNat o), .int (Int32.ofNat len), .null] 6)) (T5.setTop (mkF m 30 #[.val (.ref a), .val (.ref b), .val (.int (Int32.ofNat o)), .val (.int (Int32.ofNat len)), .val .null, .unset] [.int z])) := c4.trans (st5 _ (Steps.refl _))
  have c7 : Steps p.tables e below (s₁.setTop (entryFrame m #[.ref a, .ref b, .int (Int32.ofNat o), .int (Int32.ofNat len), .null] 6)) (T5.setTop (mkF m 36 #[.val (.ref a), .val (.ref b), .val (.int (Int32.ofNat o)), .val (.int (Int32.ofNat len)), .val .null, .unset] [.int (Int32.ofNat len), .int (Int32.ofNat o), .ref b])) := c6.trans (by
    refine XS.ifNo X5.here hexec rfl (hb hbytes d30) rfl (i0_eq_f hz) ?_
    refine XS.aloadN X5.here hexec rfl (hb hbytes d33) rfl rfl ?_
    refine XS.iloadN X5.here hexec rfl (hb hbytes d34) rfl ?_
    refine XS.iloadN X5.here hexec rfl (hb hbytes d35) rfl ?_
    exact Steps.refl _)
  obtain ⟨v8, T8, X8, E8, g8⟩ := X5.callS hexec (Cmp3.law l b A o len) hown (wks W (staticW "java/lang/String" 177 Cmp3.yN)) (wk W Cmp3.tab) (W := 0) (Nat.le_of_ble_eq_true rfl) (Nat.le_of_ble_eq_true rfl) (Nat.le_refl _) (by show 0 + len ≤ len; omega) (g := (mkF m 36 #[.val (.ref a), .val (.ref b), .val (.int (Int32.ofNat o)), .val (.int (Int32.ofNat len)), .val .null, .unset] [.int (Int32.ofNat len), .int (Int32.ofNat o), .ref b])) rfl (by rw [hml]; rfl) c7 (argsL := [.ref b, .int (Int32.ofNat o), .int (Int32.ofNat len)]) (rest := []) rfl rfl (by show 2 * 0 + 0 ≤ _; decide) (hb hbytes d36) (⟨rfl, hA.mv X5.warmed.alike hh5, l1, l2, hp⟩)
  obtain ⟨e8, z8⟩ := E8
  obtain ⟨rfl, N, n1, n2, n3, n4, n5, n6⟩ := NewArr.mv _ T5 s _ _ hh5.symm (Vm.Alike.refl _) rfl e8
  rw [hh5] at z8
  have hB1 := hB.keep X8.warmed.alike (n6 _ _ hB.1)
  have hne : s.heap.size ≠ a := (Nat.ne_of_lt (Array.getElem?_eq_some_iff.mp hB.1).1).symm
  have c9 : Steps p.tables e below (s₁.setTop (entryFrame m #[.ref a, .ref b, .int (Int32.ofNat o), .int (Int32.ofNat len), .null] 6)) (T8.setTop (mkF m 39 #[.val (.ref a), .val (.ref b), .val (.int (Int32.ofNat o)), .val (.int (Int32.ofNat len)), .val .null, .unset] [.ref s.heap.size])) := g8
  have c10 : Steps p.tables e below (s₁.setTop (entryFrame m #[.ref a, .ref b, .int (Int32.ofNat o), .int (Int32.ofNat len), .null] 6)) (T8.setTop (mkF m 45 #[.val (.ref a), .val (.ref b), .val (.int (Int32.ofNat o)), .val (.int (Int32.ofNat len)), .val .null, .val (.ref s.heap.size)] [.int (Int32.ofNat N.slots.size), .ref s.heap.size, .ref a])) := by
    have hc : Steps p.tables e below (s₁.setTop (entryFrame m #[.ref a, .ref b, .int (Int32.ofNat o), .int (Int32.ofNat len), .null] 6)) (T8.setTop (mkF m 45 #[.val (.ref a), .val (.ref b), .val (.int (Int32.ofNat o)), .val (.int (Int32.ofNat len)), .val .null, .val (.ref s.heap.size)] [.int (Int32.ofNat len), .ref s.heap.size, .ref a])) := c9.trans (by
      refine XS.astore X8.here hexec rfl (hb hbytes d39) rfl rfl rfl ?_
      refine XS.aloadN X8.here hexec rfl (hb hbytes d41) rfl rfl ?_
      refine XS.aload X8.here hexec rfl (hb hbytes d42) rfl rfl ?_
      refine XS.iloadN X8.here hexec rfl (hb hbytes d44) rfl ?_
      exact Steps.refl _)
    rw [n4]; exact hc
  obtain ⟨v11, T11, X11, E11, g11⟩ := X8.callS hexec (CodL.law l s.heap.size N) hown (wks W (staticW "java/lang/String" 47 CodL.yN)) (wk W CodL.tab) (W := 1) (Nat.le_of_ble_eq_true rfl) (Nat.le_of_ble_eq_true rfl) (Nat.le_refl _) (by show 0 + len + 0 ≤ len; omega) (g := (mkF m 45 #[.val (.ref a), .val (.ref b), .val (.int (Int32.ofNat o)), .val (.int (Int32.ofNat len)), .val .null, .val (.ref s.heap.size)] [.int (Int32.ofNat N.slots.size), .ref s.heap.size, .ref a])) rfl (by rw [hml]; rfl) c10 (argsL := [.ref s.heap.size, .int (Int32.ofNat N.slots.size)]) (rest := [.ref a]) rfl rfl (by show 2 * 0 + (1 + 0) ≤ _; decide) (hb hbytes d45) (⟨rfl, n1⟩)
  obtain ⟨rfl, q11⟩ := E11
  have hB11 := hB1.mv (X8.warmed.alike.symm.trans X11.warmed.alike) q11
  have c12 : Steps p.tables e below (s₁.setTop (entryFrame m #[.ref a, .ref b, .int (Int32.ofNat o), .int (Int32.ofNat len), .null] 6)) (T11.setTop (mkF m 48 #[.val (.ref a), .val (.ref b), .val (.int (Int32.ofNat o)), .val (.int (Int32.ofNat len)), .val .null, .val (.ref s.heap.size)] [.int 0, .ref a])) := g11
  obtain ⟨T13, X13, p13, bl13, sl13, st13⟩ := X11.finit hexec hown (wk W (.fieldLink "java/lang/String" 15 "java/lang/String" "coder" "B")) (Or.inr ⟨_, (wk W (.laysFinal "java/lang/String" "java/lang/String" "coder" "B"))⟩) (Or.inl ⟨rfl, hnm⟩) f2 (Or.inl rfl) hB11 (t := .byte) (by decide +kernel) rfl (g := (mkF m 48 #[.val (.ref a), .val (.ref b), .val (.int (Int32.ofNat o)), .val (.int (Int32.ofNat len)), .val .null, .val (.ref s.heap.size)] [.int 0, .ref a])) rfl (rest := []) rfl (hb hbytes d48)
  have c14 : Steps p.tables e below (s₁.setTop (entryFrame m #[.ref a, .ref b, .int (Int32.ofNat o), .int (Int32.ofNat len), .null] 6)) (T13.setTop (mkF m 54 #[.val (.ref a), .val (.ref b), .val (.int (Int32.ofNat o)), .val (.int (Int32.ofNat len)), .val .null, .val (.ref s.heap.size)] [.ref s.heap.size, .ref a])) := (c12.trans (st13 _ (Steps.refl _))).trans (by
    refine XS.aloadN X13.here hexec rfl (hb hbytes d51) rfl rfl ?_
    refine XS.aload X13.here hexec rfl (hb hbytes d52) rfl rfl ?_
    exact Steps.refl _)
  obtain ⟨T15, X15, p15, bl15, sl15, st15⟩ := X13.finit hexec hown (wk W (.fieldLink "java/lang/String" 9 "java/lang/String" "value" "[B")) (Or.inr ⟨_, (wk W (.laysFinal "java/lang/String" "java/lang/String" "value" "[B"))⟩) (Or.inl ⟨rfl, hnm⟩) f1 (Or.inl rfl) bl13 (t := (.array .byte)) (by decide +kernel) rfl (g := (mkF m 54 #[.val (.ref a), .val (.ref b), .val (.int (Int32.ofNat o)), .val (.int (Int32.ofNat len)), .val .null, .val (.ref s.heap.size)] [.ref s.heap.size, .ref a])) rfl (rest := []) rfl (hb hbytes d54)
  have c16 : Steps p.tables e below (s₁.setTop (entryFrame m #[.ref a, .ref b, .int (Int32.ofNat o), .int (Int32.ofNat len), .null] 6)) (T15.setTop (mkF m 57 #[.val (.ref a), .val (.ref b), .val (.int (Int32.ofNat o)), .val (.int (Int32.ofNat len)), .val .null, .val (.ref s.heap.size)] [])) := c14.trans (st15 _ (Steps.refl _))
  have ap := apart (Or.inr ⟨_, (wk W (.laysFinal "java/lang/String" "java/lang/String" "value" "[B"))⟩) (Or.inr ⟨_, (wk W (.laysFinal "java/lang/String" "java/lang/String" "coder" "B"))⟩) f1 f2 (t₁ := .array .byte) (t₂ := .byte) (by decide +kernel) (by decide +kernel) (by decide)
  have al := X8.warmed.alike.symm.trans X15.warmed.alike
  have n7 : T11.heap[s.heap.size]? = some N := by rw [q11]; exact n1.1
  exact ⟨T15, none, _, _, _, X15, by simp, rfl, by omega, (fun _ => rfl), ⟨rfl, _, N, bl15, ((Same.refl D _).set _ (by simp)).set _ (by simp), sl15, (Cell.slots_setSlot_ne _ ap).trans sl13, n1.keep al (p15.other hne (p13.other hne n7)), n2, by rw [al.findClass]; exact n3, n4, n5, fun y c h1 h2 => p15.other h1 (p13.other h1 (by rw [q11]; exact n6 y c h2)), by rw [p15.2.2, p13.2.2, q11]; exact z8⟩, fun fs hl => c16.trans (X15.returnOut hexec hret (hb hbytes d57) hl)⟩
end New4
namespace New1
def yN : MethodName := ⟨"java/lang/String", "<init>", "([C)V"⟩
abbrev yB : ByteArray := jdk_42_method_3_code
theorem d0 : decode yB 0 = .ok (.aload_n 0, 1) := by decide +kernel
theorem d1 : decode yB 1 = .ok (.aload_n 1, 1) := by decide +kernel
theorem d2 : decode yB 2 = .ok (.iconst 0, 1) := by decide +kernel
theorem d3 : decode yB 3 = .ok (.aload_n 1, 1) := by decide +kernel
theorem d4 : decode yB 4 = .ok (.arraylength, 1) := by decide +kernel
theorem d5 : decode yB 5 = .ok (.aconst_null, 1) := by decide +kernel
theorem d6 : decode yB 6 = .ok (.invokespecial 27, 3) := by decide +kernel
theorem d9 : decode yB 9 = .ok (.return_, 1) := by decide +kernel
def site : List Cond := [New4.tab] ++ initW "java/lang/String" 27 New4.yN
def tab : Cond := tabOf yN yB 2 none site
def P (a : Addr) (D : Cell) (fV fC : Field) (b : Addr) (A : Cell) (z : Int32) (args : Array Value) (s : State) : Prop := args = #[.ref a, .ref b] ∧ Blank "java/lang/String" a D s ∧ Found "java/lang/String" "value" "[B" fV s ∧ Found "java/lang/String" "coder" "B" fC s ∧ Ch b A s ∧ StaticIs s "java/lang/String" "COMPACT_STRINGS" "Z" (.int z) ∧ ¬ z = 0 ∧ 0 < A.slots.size ∧ A.slots.size ≤ 536870912 ∧ ∀ i, i < A.slots.size → ¬ 255 < cv A i
def E (a : Addr) (D : Cell) (fV fC : Field) (A : Cell) (r : Option Value) (s u : State) : Prop := Got a D fV fC A 0 A.slots.size r s u
/-- new String(chars), not empty, no char above 255: a Latin-1 String of their low bytes -/
theorem law (l : Launch) (a : Addr) (D : Cell) (fV fC : Field) (b : Addr) (A : Cell) (z : Int32) : Law l yN 2 1 3 52 yB 2 none site (P a D fV fC b A z) (E a D fV fC A) [⟨a, fC.slot⟩, ⟨a, fV.slot⟩] 1 A.slots.size := by
  refine Law.of_walk (plainFor_of_name (by decide +kernel)) (by decide +kernel) (by decide +kernel) (by decide) (fun _ _ h => by rw [h.1]; rfl) (fun _ U U' hal hh h => ⟨h.1, h.2.1.mv hal hh, h.2.2.1.al hal, h.2.2.2.1.al hal, h.2.2.2.2.1.mv hal hh, h.2.2.2.2.2.1.there hal hh, h.2.2.2.2.2.2⟩) (fun r U U' V V' h1 hal h2 h => Got.mv r U U' V V' h1 hal h2 h) ?_
  intro p e s m args below meth c s₁ X0 hexec hbytes hml hret hlk hnm hown hh0 W hP
  obtain ⟨rfl, hB, f1, f2, hA, s1, hz, l0, l2, hp⟩ := hP
  have c1 : Steps p.tables e below (s₁.setTop (entryFrame m #[.ref a, .ref b] 2)) (s₁.setTop (mkF m 0 #[.val (.ref a), .val (.ref b)] [])) := entry rfl
  have c2 : Steps p.tables e below (s₁.setTop (entryFrame m #[.ref a, .ref b] 2)) (s₁.setTop (mkF m 6 #[.val (.ref a), .val (.ref b)] [.null, .int (Int32.ofNat A.slots.size), .int 0, .ref b, .ref a])) := c1.trans (by
    refine XS.aloadN X0.here hexec rfl (hb hbytes d0) rfl rfl ?_
    refine XS.aloadN X0.here hexec rfl (hb hbytes d1) rfl rfl ?_
    refine iconstV X0.here hexec rfl 0 (hb hbytes d2) (by decide) ?_
    refine XS.aloadN X0.here hexec rfl (hb hbytes d3) rfl rfl ?_
    refine X0.alen hexec (hA.1.mv X0.warmed.alike hh0) rfl rfl (hb hbytes d4) ?_
    refine XS.aconstNull X0.here hexec rfl (hb hbytes d5) ?_
    exact Steps.refl _)
  obtain ⟨v3, T3, X3, E3, g3⟩ := X0.callN hexec (New4.law l a D fV fC b A z 0 A.slots.size) rfl hown (wks W (initW "java/lang/String" 27 New4.yN)) (W New4.tab (by simp only [site, List.mem_cons, List.mem_append, true_or, or_true])) (W := 0) (Nat.le_of_ble_eq_true rfl) (Nat.le_of_ble_eq_true rfl) (Nat.le_refl _) (by show 0 + A.slots.size ≤ A.slots.size; omega) (g := (mkF m 6 #[.val (.ref a), .val (.ref b)] [.null, .int (Int32.ofNat A.slots.size), .int (Int32.ofNat 0), .ref b, .ref a])) rfl (by rw [hml]; rfl) c2 (argsL := [.ref b, .int (Int32.ofNat 0), .int (Int32.ofNat A.slots.size), .null]) (rest := []) rfl rfl (by show 2 * 0 + 0 ≤ _; decide) (hb hbytes d6) (⟨rfl, hB.mv X0.warmed.alike hh0, f1.al X0.warmed.alike, f2.al X0.warmed.alike, hA.mv X0.warmed.alike hh0, s1.there X0.warmed.alike hh0, hz, l0, by omega, l2, fun i hi => by rw [Nat.zero_add]; exact hp i hi⟩)
  have e0 := Got.mv _ s₁ s _ _ hh0.symm (Vm.Alike.refl _) rfl E3
  obtain rfl := e0.1
  have c4 : Steps p.tables e below (s₁.setTop (entryFrame m #[.ref a, .ref b] 2)) (T3.setTop (mkF m 9 #[.val (.ref a), .val (.ref b)] [])) := g3
  exact ⟨T3, none, _, _, _, X3, by simp, rfl, by omega, (fun _ => rfl), e0, fun fs hl => c4.trans (X3.returnOut hexec hret (hb hbytes d9) hl)⟩
theorem pays {l : Launch} {R : Room} {p : Program} {e : Env} {below : List Frame} {s : State} {sargs : Array Value} {len W : Nat} (a : Addr) (D : Cell) (fV fC : Field) (b : Addr) (A : Cell) (z : Int32) (htab : tab.before sargs s = true) (hfr : 4 ≤ R.frames) (hlo : W + 65 ≤ R.locals) :
    Back l R p e below s sargs yN len W (fun A₁ a₁ => A₁.cells + 1 ≤ R.cells ∧ A₁.slots + A.slots.size ≤ R.slots ∧ P a D fV fC b A z a₁ A₁.U) (fun A₁ _ v₁ B₁ => E a D fV fC A v₁ A₁.U B₁.U ∧ B₁.locs = A₁.locs ++ [⟨a, fC.slot⟩, ⟨a, fV.slot⟩] ∧ B₁.cells = A₁.cells + 1 ∧ B₁.slots = A₁.slots + A.slots.size) :=
  (law l a D fV fC b A z).pays htab hfr (by omega)
end New1
end StrChars
namespace StrChars.Road
open Jvm Sem ClassFile Op Lib Jvm.Stand Jvm.Free Jvm.Free.XT
open Jvm.Lib.Cold (StaticIs)
abbrev ST : String := "java/lang/String"
/-- every table word that New1's law asks, flat -/
abbrev words : List Jvm.Cond := [.code New1.yN New1.yB 2 none, .initialized ST, .methodLink ST 27 New4.yN, .instanceMethod New4.yN,
  .code New4.yN New4.yB 6 none, .fieldLink ST 38 ST "COMPACT_STRINGS" "Z", .laysFinal ST ST "value" "[B", .fieldLink ST 9 ST "value" "[B", .laysFinal ST ST "coder" "B", .fieldLink ST 15 ST "coder" "B",
  .methodLink ST 1 Lib.objectInit, .instanceMethod Lib.objectInit, .code Lib.objectInit ⟨#[0xb1]⟩ 1 none, .methodLink ST 177 Cmp3.yN, .static Cmp3.yN, .methodLink ST 47 CodL.yN, .static CodL.yN,
  .code Cmp3.yN Cmp3.yB 6 (some (.array .byte)), .initialized U16, .arrayClass .byte, .methodLink U16 115 Cmp5.yN, .static Cmp5.yN, .code Cmp5.yN Cmp5.yB 7 (some .int), .code CodL.yN CodL.yB 2 (some .byte)]
theorem tab_of {a : Array Value} {s : State} (h : ∀ w ∈ words, w.before a s = true) : New1.tab.before a s = true := by
  have h5 : Cmp5.tab.before a s = true := unparts (wk h (.code Cmp5.yN Cmp5.yB 7 (some .int))) (wks h (.initialized Cmp5.yN.cls :: Cmp5.site))
  have hc : CodL.tab.before a s = true := unparts (wk h (.code CodL.yN CodL.yB 2 (some .byte))) (wks h (.initialized CodL.yN.cls :: CodL.site))
  have q5 : ∀ w ∈ Cmp5.tab :: words, w.before a s = true := fun w hw => (List.mem_cons.mp hw).elim (fun e => e ▸ h5) (h w)
  have h3 : Cmp3.tab.before a s = true := unparts (wk q5 (.code Cmp3.yN Cmp3.yB 6 (some (.array .byte)))) (wks q5 (.initialized Cmp3.yN.cls :: Cmp3.site))
  have q3 : ∀ w ∈ Cmp3.tab :: CodL.tab :: words, w.before a s = true := fun w hw => (List.mem_cons.mp hw).elim (fun e => e ▸ h3) fun hw => (List.mem_cons.mp hw).elim (fun e => e ▸ hc) (h w)
  have h4 : New4.tab.before a s = true := unparts (wk q3 (.code New4.yN New4.yB 6 none)) (wks q3 (.initialized New4.yN.cls :: New4.site))
  have q4 : ∀ w ∈ New4.tab :: words, w.before a s = true := fun w hw => (List.mem_cons.mp hw).elim (fun e => e ▸ h4) (h w)
  exact unparts (wk q4 (.code New1.yN New1.yB 2 none)) (wks q4 (.initialized New1.yN.cls :: New1.site))
/-- the words ride from the start Z to the walk's own state -/
theorem moved {Z s : State} {a0 args : Array Value} (hZ : Z.Warmed39 s.vm) (hw : ∀ d ∈ words, d.before a0 Z = true) : ∀ d ∈ words, d.before args s = true := fun d hd => by
  have q := hw d hd
  have t : ∀ d ∈ words, d = .arrayClass .byte ∨ (d.onTables && d.keepsFace) = true := by decide +kernel
  rcases t d hd with rfl | t
  · exact RoadKit.mvA hZ q
  · exact RoadKit.mv hZ q t
/-- WHAT COMES BACK, over the tables of the start Z: h the heap at the call, h' behind it -/
def Q (Z : State) (x : Addr) (A : Cell) (h : Heap) (v : Option Value) (h' : Heap) (L : List Loc) : Prop := v = none ∧ (∀ y ∈ L, y.base = x) ∧ RoadKit.Keep h h' [x] ∧ h'.size = h.size + 1 ∧ RoadKit.Exa Z h' x ST ∧ RoadKit.Fld Z h' x ST "value" "[B" (.ref h.size) ∧ RoadKit.Fld Z h' x ST "coder" "B" (.int 0) ∧
  (∃ V : Cell, RoadKit.Arr Z h' h.size V .byte ∧ V.vm = .none ∧ Z.vm.findClass "[B" = some V.cls ∧ V.slots.size = A.slots.size ∧ ∀ j, j < A.slots.size → V.slots[j]? = some (.int (lo8 (cv A j)))) ∧
  ∀ (O n d : String) (w : Value), RoadKit.Fld Z h x O n d w → RoadKit.slotOf Z O n d ≠ RoadKit.slotOf Z ST "value" "[B" → RoadKit.slotOf Z O n d ≠ RoadKit.slotOf Z ST "coder" "B" → RoadKit.Fld Z h' x O n d w
/-- **new String(chars) AT A CALL, IN THE ROAD'S FORM**: for specialBack behind newO: x the fresh String, b the char[] with the cell A -/
theorem back {p : Program} {l : Launch} {e : Env} {R : Room} {s : State} {args : Array Value} {below : List Frame} {len W : Nat} {Z : State} {a0 : Array Value} {h : Heap} (hZ : Z.Warmed39 s.vm) (hw : ∀ d ∈ words, d.before a0 Z = true) {kI : Nat} (wi : (Jvm.Cond.instantiable ST kI).before a0 Z = true)
    {x b : Addr} {A : Cell} {z : Int32} {v0 c0 : Value} (E : RoadKit.Exa Z h x ST) (V : RoadKit.Fld Z h x ST "value" "[B" v0) (C : RoadKit.Fld Z h x ST "coder" "B" c0) (K : RoadKit.Arr Z h b A .char) (hty : Typed .char A) (S : RoadKit.Sta Z h ST "COMPACT_STRINGS" "Z" (.int z)) (hz : ¬ z = 0)
    (l0 : 0 < A.slots.size) (l2 : A.slots.size ≤ 536870912) (hp : ∀ i, i < A.slots.size → ¬ 255 < cv A i) (hfr : 4 ≤ R.frames) (hlo : W + 65 ≤ R.locals) :
    Back l R p e below s args New1.yN len W (fun P a => a = #[.ref x, .ref b] ∧ P.U.heap = h ∧ P.cells + 1 ≤ R.cells ∧ P.slots + A.slots.size ≤ R.slots)
      (fun P _ v B => ∃ L, Q Z x A h v B.U.heap L ∧ B.locs = P.locs ++ L ∧ B.cells = P.cells + 1 ∧ B.slots = P.slots + A.slots.size) := by
  intro m meth c P g ig mk a X hg hsize hdg hW hn hp'
  obtain ⟨rfl, rfl, r1, r2⟩ := hp'
  have al : Z.vm.Alike P.U.vm := hZ.alike.trans X.warmed.alike
  obtain ⟨D, cfV, kV, iV, fV, hD, gV, stV, knV, obV, asV, slV⟩ := id V
  obtain ⟨D', cfC, kC, iC, fC, hD', gC, stC, -, -, asC, slC⟩ := id C
  cases hD.symm.trans hD'
  obtain ⟨D2, kD, e1, e2, e3, e4, e5⟩ := id E
  cases hD.symm.trans e1
  obtain ⟨c2, k2, i1, i2, i3, -⟩ := Cond.instantiable_spec wi
  cases e2.symm.trans i1
  cases e3.symm.trans i2
  obtain ⟨kU, u1, u2⟩ := al.2.2 _ _ e3
  have hB : Blank ST x D P.U := ⟨hD, ⟨knV, fun q hq => by rw [hq] at obV; cases obV⟩, by rw [al.findClass]; exact e2, kU, u1, by rw [u2]; exact i3, by rw [u2]; exact e5 i3⟩
  have F1 : Found ST "value" "[B" fV P.U := ⟨SBG.found_only al ⟨cfV, kV, iV, gV⟩, stV⟩
  have F2 : Found ST "coder" "B" fC P.U := ⟨SBG.found_only al ⟨cfC, kC, iC, gC⟩, stC⟩
  have hA : Ch b A P.U := ⟨⟨K.1, State.isArrayOf_alike al K.2.1, K.2.2, by omega⟩, hty⟩
  have hS : StaticIs P.U ST "COMPACT_STRINGS" "Z" (.int z) := by
    obtain ⟨cfS, iS, kS, fS, st, cS, t1, t2, t3, t4, t5, t6, t7⟩ := S
    exact StaticIs.there (s := { Z with heap := P.U.heap }) ⟨cfS, iS, kS, fS, st, cS, t1, t2, t3, t4, t5, (fun q => by rw [q] at t6; cases t6), t7⟩ al rfl
  obtain ⟨v, B, X', ⟨⟨hv, E', V', q1, q2, q3, q4, q5, q6, q7, q8, q9, q10, q11⟩, hl, hc, hs⟩, st⟩ := New1.pays x D fV fC b A z (tab_of (moved hZ hw)) hfr hlo m meth c P g ig mk _ X hg hsize hdg hW hn ⟨r1, r2, rfl, hB, F1, F2, hA, hS, hz, l0, l2, hp⟩
  have al' : Z.vm.Alike B.U.vm := hZ.alike.trans X'.warmed.alike
  have hsz : E'.slots.size = D.slots.size := by
    obtain ⟨-, -, -, kB, w1, w2, w3⟩ := q1
    obtain ⟨kB', y1, y2⟩ := al'.2.2 _ _ e3
    rw [q2.2.1] at w1
    cases w1.symm.trans y1
    rw [w3, e5 i3, y2]
  refine ⟨v, B, X', ⟨_, ⟨hv, ?_, ⟨by omega, fun y cy hy hn' => q10 y cy (by simpa using hn') hy, fun y cy hy => ?_⟩, q11, ⟨E', _, q1.1, by rw [q2.2.1]; exact e2, by rw [q2.2.1]; exact e3, by rw [q2.1]; exact obV, fun _ => by rw [hsz]; exact e5 i3⟩,
    ⟨E', cfV, kV, iV, fV, q1.1, gV, stV, by rw [q2.1]; exact knV, by rw [q2.1]; exact obV, by rw [q2.2.1]; exact asV, q3⟩, ⟨E', cfC, kC, iC, fC, q1.1, gC, stC, by rw [q2.1]; exact knV, by rw [q2.1]; exact obV, by rw [q2.2.1]; exact asC, q4⟩,
    ⟨V', ⟨q5.1, State.isArrayOf_alike al'.symm q5.2.1, q5.2.2.1⟩, q6, by rw [← al'.findClass]; exact q7, q8, fun j hj => by have := q9 j hj; rwa [Nat.zero_add] at this⟩, fun O n d w F n1 n2 => ?_⟩, hl, hc, hs⟩, st⟩
  · intro y hy
    simp only [List.mem_cons, List.not_mem_nil, or_false] at hy
    rcases hy with rfl | rfl <;> rfl
  · by_cases q : y = x
    · subst q
      cases hD.symm.trans hy
      exact ⟨E', q1.1, q2.2.1, q2.1, hsz⟩
    · exact ⟨cy, q10 y cy q hy, rfl, rfl, rfl⟩
  · obtain ⟨D3, cf, k, i, f, g1, g2, g3, g4, g5, g6, g7⟩ := F
    cases hD.symm.trans g1
    simp only [RoadKit.slotOf, g2, gV, gC, Option.map_some, Option.getD_some] at n1 n2
    exact ⟨E', cf, k, i, f, q1.1, g2, g3, by rw [q2.1]; exact g4, by rw [q2.1]; exact g5, by rw [q2.2.1]; exact g6, by rw [q2.2.2 f.slot (by simp [n1, n2])]; exact g7⟩
end StrChars.Road
namespace StrChars.Road
open Jvm Sem ClassFile Op Lib Jvm.Stand Jvm.Free Jvm.Free.XT
/-- WHAT COMES BACK, the byte[] as a list of values -/
def QA (Z : State) (x : Addr) (zn : Int32) (cs : List Int32) (h : Heap) (v : Option Value) (h' : Heap) (L : List Loc) : Prop := v = none ∧ (∀ y ∈ L, y.base = x) ∧ RoadKit.Keep h h' [x] ∧ h'.size = h.size + 1 ∧ RoadKit.Exa Z h' x ST ∧ RoadKit.Fld Z h' x ST "value" "[B" (.ref h.size) ∧ RoadKit.Fld Z h' x ST "coder" "B" (.int 0) ∧
  (∃ kb, Z.vm.findClass "[B" = some kb ∧ RoadKit.Arv Z h' h.size kb .byte zn (cs.map fun c => .int (lo8 c)) (.int 0)) ∧
  ∀ (O n d : String) (w : Value), RoadKit.Fld Z h x O n d w → RoadKit.slotOf Z O n d ≠ RoadKit.slotOf Z ST "value" "[B" → RoadKit.slotOf Z O n d ≠ RoadKit.slotOf Z ST "coder" "B" → RoadKit.Fld Z h' x O n d w
/-- **new String(chars) AT A CALL, THE ARRAYS AS LISTS**: the char[] at b holds cs, not empty, no char above 255 -/
theorem backArv {p : Program} {l : Launch} {e : Env} {R : Room} {s : State} {args : Array Value} {below : List Frame} {len W : Nat} {Z : State} {a0 : Array Value} {h : Heap} (hZ : Z.Warmed39 s.vm) (hw : ∀ d ∈ words, d.before a0 Z = true) {kI : Nat} (wi : (Jvm.Cond.instantiable ST kI).before a0 Z = true)
    {x b : Addr} {k : ClassId} {zn z : Int32} {cs : List Int32} {dv v0 c0 : Value} (E : RoadKit.Exa Z h x ST) (V : RoadKit.Fld Z h x ST "value" "[B" v0) (C : RoadKit.Fld Z h x ST "coder" "B" c0) (K : RoadKit.Arv Z h b k .char zn (cs.map Value.int) dv) (S : RoadKit.Sta Z h ST "COMPACT_STRINGS" "Z" (.int z)) (hz : ¬ z = 0)
    (hlen : zn.toNatClampNeg = cs.length) (h0 : 0 < cs.length) (hbig : cs.length ≤ 536870912) (hall : ∀ c ∈ cs, ¬ 255 < c) (hfr : 4 ≤ R.frames) (hlo : W + 65 ≤ R.locals) :
    Back l R p e below s args New1.yN len W (fun P a => a = #[.ref x, .ref b] ∧ P.U.heap = h ∧ P.cells + 1 ≤ R.cells ∧ P.slots + cs.length ≤ R.slots)
      (fun P _ v B => ∃ L, QA Z x zn cs h v B.U.heap L ∧ B.locs = P.locs ++ L ∧ B.cells = P.cells + 1 ∧ B.slots = P.slots + cs.length) := by
  obtain ⟨A, K1, K2, K3, K4, K5, K6⟩ := K
  have e : A.slots.size = cs.length := K3.trans hlen
  have hat : ∀ (i : Nat) (hi : i < cs.length), A.slots[i]? = some (.int cs[i]) := fun i hi => by rw [K5 i (by omega)]; simp [List.getD_eq_getElem?_getD, hi]
  have hcv : ∀ (i : Nat) (hi : i < cs.length), cv A i = cs[i] := fun i hi => by unfold cv; rw [hat i hi]
  have hty : Typed .char A := fun i v hv => by
    have hi : i < A.slots.size := (Array.getElem?_eq_some_iff.mp hv).1
    have q := K5 i hi
    rw [hv] at q
    rw [Option.some.inj q]
    exact K6 i hi
  refine Back.mono (back hZ hw wi E V C K1 hty S hz (by omega) (by omega) (fun i hi => by rw [hcv i (by omega)]; exact hall _ (List.getElem_mem _)) hfr hlo) (fun P a hp => ⟨hp.1, hp.2.1, hp.2.2.1, by rw [e]; exact hp.2.2.2⟩) (fun P a v B hp hq => ?_)
  obtain ⟨L, ⟨q1, q2, q3, q4, q5, q6, q7, ⟨V', v1, v2, v3, v4, v5⟩, q9⟩, hl, hc, hs⟩ := hq
  refine ⟨L, ⟨q1, q2, q3, q4, q5, q6, q7, ⟨V'.cls, v3, V', v1, rfl, by rw [v4, e, hlen], K4, fun i hi => ?_, fun i hi => ?_⟩, q9⟩, hl, hc, by rw [hs, e]⟩
  · have hi' : i < cs.length := by omega
    rw [v5 i (by omega), hcv i hi']; simp [List.getD_eq_getElem?_getD, hi']
  · have hi' : i < cs.length := by omega
    simp only [List.getD_eq_getElem?_getD, List.getElem?_map, List.getElem?_eq_getElem hi', Option.map_some, Option.getD_some]
    exact fits_lo8 _
end StrChars.Road
namespace StrChars.Road
open Jvm Sem ClassFile Op Lib Jvm.Stand Jvm.Free Jvm.Free.XT
/-- WHAT COMES BACK, in the writer's own shape -/
def QV (Z : State) (x : Addr) (N : Int32) (bs : List Int32) (h : Heap) (n0 : Nat) (v : Option Value) (h' : Heap) (L : List Loc) : Prop := v = none ∧ RoadKit.Fr n0 L ∧ RoadKit.Keep h h' [x] ∧ RoadKit.Exa Z h' x ST ∧ RoadKit.Fld Z h' x ST "coder" "B" (.int 0) ∧
  ∃ (t : Addr) (kb : ClassId), n0 ≤ t ∧ h.size ≤ t ∧ ¬ t = x ∧ RoadKit.Fld Z h' x ST "value" "[B" (.ref t) ∧ RoadKit.Arv Z h' t kb .byte N (bs.map Value.int) (.int 0)
/-- **new String(chars) AT A CALL, FOR THE WRITER**: a char[] of n known ints, each 0 to 255 -/
theorem backV {p : Program} {l : Launch} {e : Env} {R : Room} {s : State} {args : Array Value} {below : List Frame} {len W : Nat} {Z : State} {a0 : Array Value} {h : Heap} (hZ : Z.Warmed39 s.vm) (hw : ∀ d ∈ words, d.before a0 Z = true) {kI : Nat} (wi : (Jvm.Cond.instantiable ST kI).before a0 Z = true)
    {x b : Addr} {kC : ClassId} {cs bs : List Int32} {d v0 c0 : Value} {z N : Int32} {n n0 : Nat} (hx0 : n0 ≤ x) (hh0 : n0 ≤ h.size) (E : RoadKit.Exa Z h x ST) (V : RoadKit.Fld Z h x ST "value" "[B" v0) (C : RoadKit.Fld Z h x ST "coder" "B" c0) (K : RoadKit.Arv Z h b kC .char N (cs.map Value.int) d) (S : RoadKit.Sta Z h ST "COMPACT_STRINGS" "Z" (.int z)) (hz : ¬ z = 0)
    (hn : cs.length = n) (hN : N = Int32.ofNat n) (l0 : 0 < n) (l2 : n ≤ 4000) (hp : ∀ c ∈ cs, ¬ c < 0 ∧ ¬ (255 : Int32) < c) (hb : bs = cs.map (fun c => c.toInt8.toInt32)) (hfr : 4 ≤ R.frames) (hlo : W + 65 ≤ R.locals) :
    Back l R p e below s args (⟨"java/lang/String", "<init>", "([C)V"⟩ : MethodName) len W (fun P a => a = #[.ref x, .ref b] ∧ P.U.heap = h ∧ P.cells + 1 ≤ R.cells ∧ P.slots + n ≤ R.slots)
      (fun P _ v B => ∃ L, QV Z x N bs h n0 v B.U.heap L ∧ B.locs = P.locs ++ L ∧ B.cells = P.cells + 1 ∧ B.slots = P.slots + n) := by
  subst hn hN hb
  refine Back.mono (backArv hZ hw wi E V C K S hz (n32 (by omega)) l0 (by omega) (fun c hc => (hp c hc).2) hfr hlo) (fun P a hp => hp) (fun P a v B hp hq => ?_)
  obtain ⟨L, ⟨q1, q2, q3, q4, q5, q6, q7, ⟨kb, v1, v2⟩, q9⟩, hl, hc, hs⟩ := hq
  exact ⟨L, ⟨q1, fun y hy => by rw [q2 y hy]; exact hx0, q3, q5, q7, h.size, kb, hh0, Nat.le_refl _, Nat.ne_of_gt E.lt, q6, by rw [List.map_map]; exact v2⟩, hl, hc, hs⟩
end StrChars.Road
end Jvm.Pilot.@@N@@
namespace Jvm.Pilot.@@N@@
open Jvm Jvm.ClassFile Sem Op Lib Jvm.Free Jvm.Stand Jvm.LawKit Jvm.RoadKit Bundle Jvm.Pilot.@@N@@.Jvm.D
section OwnArrays
variable {Z : State} {h h' : Heap} {a b : Addr} {ty : FieldType} {n sl : Nat} {f : Nat → Value} {v : Value} {ws : List Addr}
/-- an array of n places, by what each holds -/
def AF (Z : State) (h : Heap) (a : Addr) (ty : FieldType) (n : Nat) (f : Nat → Value) : Prop := ∃ c : Cell, Arr Z h a c ty ∧ c.slots.size = n ∧ ∀ j, j < n → c.slots[j]? = some (f j)
theorem AF.new {k : ClassId} {z : Int32} (A : Arr Z h a (newA k ty z) ty) (q : ¬ z < 0) : AF Z h a ty z.toNatClampNeg (fun _ => defaultValue ty) := by
  obtain ⟨c, A', -, S, -, H, -⟩ := Arv.new A q
  exact ⟨c, A', S, fun j hj => H j (by rw [S]; exact hj)⟩
theorem AF.of_arv {k : ClassId} {z : Int32} {vs : List Value} {d : Value} (V : Arv Z h a k ty z vs d) : AF Z h a ty z.toNatClampNeg (fun j => vs.getD j d) := by
  obtain ⟨c, A, -, S, -, H, -⟩ := V
  exact ⟨c, A, S, fun j hj => H j (by rw [S]; exact hj)⟩
theorem AF.lt (F : AF Z h a ty n f) : a < h.size := by obtain ⟨c, A, -⟩ := F; exact A.lt
theorem AF.ext (F : AF Z h a ty n f) (E : Ext h h') : AF Z h' a ty n f := by obtain ⟨c, A, r⟩ := F; exact ⟨c, A.ext E, r⟩
theorem AF.other (F : AF Z h b ty n f) (W : Wr h h' a sl v) (q : b ≠ a) : AF Z h' b ty n f := by obtain ⟨c, A, r⟩ := F; exact ⟨c, A.other W q, r⟩
theorem AF.keep (F : AF Z h a ty n f) (K : Keep h h' ws) (q : a ∉ ws) : AF Z h' a ty n f := by obtain ⟨c, A, r⟩ := F; exact ⟨c, ⟨K.2.1 a c A.1 q, A.2⟩, r⟩
theorem AF.congr {g : Nat → Value} (F : AF Z h a ty n f) (q : ∀ j, j < n → f j = g j) : AF Z h a ty n g := by
  obtain ⟨c, A, S, H⟩ := F
  exact ⟨c, A, S, fun j hj => by rw [← q j hj]; exact H j hj⟩
theorem AF.same {c : Cell} (A : Arr Z h a c ty) (S : c.slots.size = n) (H : ∀ j, j < n → c.slots[j]? = some (f j)) (W : Wr h h' a sl v) : AF Z h' a ty n (fun i => if i = sl then v else f i) := by
  refine ⟨_, A.same W, by rw [sz_set]; exact S, fun j hj => ?_⟩
  by_cases q : j = sl
  · subst q
    simp only [if_true]
    simp [Cell.setSlot, S, hj]
  · simp only [q, if_false]
    simp only [Cell.setSlot]
    rw [Array.getElem?_setIfInBounds_ne (fun z => q z.symm)]; exact H j hj
theorem AF_in {c : Cell} {j : Int32} (S : c.slots.size = n) (h1 : 0 ≤ j.toInt) (h2 : j.toInt < n) : ¬ (j < 0 ∨ c.slots.size ≤ j.toNatClampNeg) := by
  rw [S, Int32.lt_iff_toInt_lt, show (0 : Int32).toInt = 0 from rfl]
  simp only [Int32.toNatClampNeg]; omega
theorem AF_at {c : Cell} {j : Int32} {w : Value} (H : ∀ j, j < n → c.slots[j]? = some (f j)) (h1 : 0 ≤ j.toInt) (h2 : j.toInt < n) (e : f j.toNatClampNeg = w) : c.slots[j.toNatClampNeg]? = some w := by
  rw [← e]; exact H _ (by simp only [Int32.toNatClampNeg]; omega)
end OwnArrays
section OwnStrings
variable {Z : State} {h h' : Heap} {a b : Addr} {ty : FieldType} {n : Nat} {f : Nat → Value}
theorem own_ext (K : Keep h h' []) : Ext h h' := ⟨K.1, fun x c q => K.2.1 x c q nin0⟩
theorem AF.arv {N : Int32} {vs : List Value} {d : Value} (V : AF Z h a ty n f) (hN : N.toNatClampNeg = n) (hn : ¬ N < 0) (hv : ∀ j, j < n → f j = vs.getD j d) (hf : ∀ j, j < n → fits ty (f j) = true) : ∃ k, Arv Z h a k ty N vs d := by
  obtain ⟨c, A, S, H⟩ := V
  exact ⟨c.cls, c, A, rfl, S.trans hN.symm, hn, fun j hj => by rw [← hv j (S ▸ hj)]; exact H j (S ▸ hj), fun j hj => by rw [← hv j (S ▸ hj)]; exact hf j (S ▸ hj)⟩
end OwnStrings
section OwnJ
variable {p : Program} {l : Launch} {e : Env} {R : Room} {s : State} {m : MethodId} {args : Array Value} {below : List Frame} {meth : Method} {c : Code} {T : State} {locs : List Loc} {cells slots : Nat} {Z : State} {a0 : Array Value} {h h' : Heap} {vm vm0 : Vm} {x w : Addr}
/-- the constant of java/lang/String's entry 7: not loaded since the case's start, or booked, to a String whose two fields stand -/
def own_J (Z : State) (vm : Vm) (h : Heap) : Prop := IB Z vm [] ∨ ∃ (a b : Addr), Lit (Z.setVm vm) "java/lang/String" 7 a ∧ Exa Z h a "java/lang/String" ∧ Fld Z h a "java/lang/String" "coder" "B" (.int (0 : Int32)) ∧ Fld Z h a "java/lang/String" "value" "[B" (.ref b)
theorem own_J_warm {s : State} {vm' : Vm} (J : own_J Z s.vm h) (hW : s.WarmedH vm') : own_J Z vm' h := by
  rcases J with ⟨more, q1, q2⟩ | ⟨a, b, L, r⟩
  · exact Or.inl ⟨more, hW.interned_eq.trans q1, q2⟩
  · exact Or.inr ⟨a, b, State.resolvedAt?_warmed39 (s := s) hW.wide L, r⟩
theorem own_J_ext (J : own_J Z vm h) (E : Ext h h') : own_J Z vm h' := by
  rcases J with I | ⟨a, b, L, r1, r2, r3⟩
  · exact Or.inl I
  · exact Or.inr ⟨a, b, L, r1.ext E, r2.ext E, r3.ext E⟩
theorem own_J_keep (J : own_J Z vm h) (K : Keep h h' []) : own_J Z vm h' := own_J_ext J ⟨K.1, fun y c q => K.2.1 y c q nin0⟩
theorem own_J_C {C : String} (J : own_J Z vm h) (K : Keep h h' [w]) (E : Exa Z h w C) (hne : C ≠ "java/lang/String") : own_J Z vm h' := by
  rcases J with I | ⟨a, b, L, r1, r2, r3⟩
  · exact Or.inl I
  · have q : a ∉ [w] := ninS (fun z => (Exa.ne E r1 hne) z.symm) nin0
    exact Or.inr ⟨a, b, L, r1.keep K, r2.keep K q, r3.keep K q⟩
/-- a callee that may load that constant -/
theorem own_backJ {y : MethodName} {bytes : ByteArray} {maxL : Nat} {ret : Option FieldType} {rm : Room} {len W : Nat} {as' : Array Value} {Q : Option Value → Heap → List Loc → Prop}
    (hM : MetFree l y (head1 [Cond.code y bytes maxL ret] rm) (fun a U => a = as' ∧ Z.Warmed39 U.vm ∧ U.heap = h ∧ own_J Z U.vm h) (fun _ _ _ _ _ => True) (fun _ U o U' => ∃ v L, o = .returned v ∧ (Q v U'.heap L ∧ own_J Z U'.vm U'.heap) ∧ ReturnedEndW U o U' L rm.cells rm.slots))
    (hZ : Z.Warmed39 s.vm) (wc : (Cond.code y bytes maxL ret).before a0 Z = true) (wz : (Cond.initialized y.cls).before a0 Z = true) (hf : rm.frames + 1 ≤ R.frames) (hl : W + (maxL + 11) + rm.locals ≤ R.locals) :
    BackS l R p e below s args y len W (fun A a => a = as' ∧ A.U.heap = h ∧ own_J Z A.U.vm h ∧ A.cells + rm.cells ≤ R.cells ∧ A.slots + rm.slots ≤ R.slots)
      (fun A _ v B => ∃ L, (Q v B.U.heap L ∧ own_J Z B.U.vm B.U.heap) ∧ B.locs = A.locs ++ L ∧ B.cells = A.cells + rm.cells ∧ B.slots = A.slots + rm.slots) :=
  BackS.of_freeW (bytes := bytes) (maxL := maxL) (ret := ret) (E := fun _ _ o t L k n => k = rm.cells ∧ n = rm.slots ∧ ∃ v, o = .returned v ∧ Q v t.heap L ∧ own_J Z t.vm t.heap) hM hf hl
    (fun m meth c A a Y hp => have hU : Z.Warmed39 A.U.vm := wtrans hZ Y.warmed
      ⟨by show (Cond.and _ .tt).before a A.U = true; rw [Cond.before_and, mv hU wc]; rfl, mv hU wc, mv hU wz, hp.2.2.2.1, hp.2.2.2.2⟩)
    (fun m meth c A a g mk Y hp => ⟨hp.1, wtrans hZ Y.warmed, hp.2.1, hp.2.2.1⟩) (fun _ _ _ _ _ _ _ _ _ => trivial)
    (fun _ _ _ _ ⟨v, L, h1, h2, h3⟩ => ⟨L, _, _, h3, rfl, rfl, v, h1, h2.1, h2.2⟩)
    (fun m meth c A a g mk v t L k n Y hp _ _ ⟨e1, e2, v', e3, e4, e5⟩ => by cases e3; subst e1 e2; exact ⟨L, ⟨e4, e5⟩, rfl, rfl, rfl⟩)
/-- the load itself -/
theorem own_ldc (X : Stand p l e R (s.setVm vm0) m args below meth c T locs cells slots) (hx : p.tables.exec = Jvm.exec) (hZ : Z.Warmed39 vm0) (hown : vm0.findClass "java/lang/String" = some m.cls) (w7 : (Cond.stringLink "java/lang/String" 7 "").before a0 Z = true) (wS : ∀ a ∈ Bundle.stringAtoms, a.before a0 Z = true)
    (eT : T.heap = h) {k0 : Nat} (hS : s.Since vm0 k0) (hk : k0 ≤ h.size) (N : Fr s.heap.size locs) (hkeep : ∀ (b : Addr) (cl : Cell), Z.heap[b]? = some cl → s.heap[b]? = some cl) (J : own_J Z vm0 h) (hh : Jvm.Lit.constHeld Z "java/lang/String" 7) (hcw : Jvm.Lit.compactW.before a0 Z = true)
    {g : JFrame} (hg : g.method = m) (hd : decode c.code g.pc = .ok (.ldc 7, 2)) (hc : cells + 2 ≤ R.cells) (hl' : slots + 4 ≤ R.slots) :
    ∃ (a b : Addr) (T' : State) (h' : Heap) (k1 : Nat), Stand p l e R (s.setVm T'.vm) m args below meth c T' locs (cells + 2) (slots + 4) ∧ T'.heap = h' ∧ Ext h h' ∧ s.Since T'.vm k1 ∧ k1 ≤ h'.size ∧ Z.Warmed39 (s.setVm T'.vm).vm ∧ (s.setVm T'.vm).vm.findClass "java/lang/String" = some m.cls ∧
      Exa Z h' a "java/lang/String" ∧ Fld Z h' a "java/lang/String" "coder" "B" (.int (0 : Int32)) ∧ Fld Z h' a "java/lang/String" "value" "[B" (.ref b) ∧ Lit (s.setVm T'.vm) "java/lang/String" 7 a ∧
      ∀ target, Steps p.tables e below (T'.setTop { g with pc := g.pc + 2, stack := .ref a :: g.stack }) target → Steps p.tables e below (T.setTop g) target := by
  rcases J with I | ⟨a, b, L, r1, r2, r3⟩
  · obtain ⟨a, T', h', k1, b, k, q1, q2, q3, q4, q5, q6, q7, q8, q9, q10, -, -, -, -, q11, q12⟩ := ldcSVL X hx hZ hown w7 wS eT hS hk N hkeep I (List.not_mem_nil) hh hcw (vs := []) (z := 0) ⟨by decide, rfl⟩ (by decide) (by decide) hg hd (n := 0) (by decide) (by decide) hc hl'
    exact ⟨a, b, T', h', k1, q1, q2, q3, q4, q5, q6, q7, q8, q9, q10, q11, q12⟩
  · have hW : (s.setVm vm0).WarmedH T.vm := X.warmed
    have L' : Lit (s.setVm vm0) "java/lang/String" 7 a := L
    have st := ldcAgain X hx hZ hown w7 L' (g := g) hg hd
    refine ⟨a, b, T, h, k0, (X.mono (by omega) (by omega)).retabled hW.wide, eT, ⟨Nat.le_refl _, fun _ _ q => q⟩, ?_, hk, State.Warmed39.trans (t := s.setVm vm0) hZ hW.wide, (hW.wide.alike.findClass _ _).trans hown, r1, r2, r3, L'.stays hW.wide, st⟩
    exact hS.trans (hW.since k0) (Nat.le_refl _)
end OwnJ

theorem own_hp0 (x : Int32) : ¬ nar .char ((x &&& (255 : Int32)).toUInt32.toUInt16.toUInt32.toInt32) < 0 ∧ ¬ (255 : Int32) < nar .char ((x &&& (255 : Int32)).toUInt32.toUInt16.toUInt32.toInt32) := by
  have m := c_mask x 255 8 (by decide) (by decide)
  have a := c_i2c (x &&& (255 : Int32))
  have b := c_i2c ((x &&& (255 : Int32)).toUInt32.toUInt16.toUInt32.toInt32)
  simp only [Int32.lt_iff_toInt_lt, nar, show (0 : Int32).toInt = 0 from rfl, show (255 : Int32).toInt = 255 from rfl]
  rw [show ((2 ^ 8 : Nat) : Int) = 256 from rfl] at m
  omega
theorem own_hp1 (x : Int32) : ∀ c ∈ ([nar .char ((x &&& (255 : Int32)).toUInt32.toUInt16.toUInt32.toInt32)] : List Int32), ¬ c < 0 ∧ ¬ (255 : Int32) < c := by
  intro c hc
  simp only [List.mem_cons, List.not_mem_nil, or_false] at hc
  subst hc
  exact own_hp0 x
theorem own_hp2 (x y : Int32) : ∀ c ∈ ([nar .char ((x &&& (255 : Int32)).toUInt32.toUInt16.toUInt32.toInt32), nar .char ((y &&& (255 : Int32)).toUInt32.toUInt16.toUInt32.toInt32)] : List Int32), ¬ c < 0 ∧ ¬ (255 : Int32) < c := by
  intro c hc
  simp only [List.mem_cons, List.not_mem_nil, or_false] at hc
  rcases hc with rfl | rfl
  · exact own_hp0 x
  · exact own_hp0 y
theorem own_chars1 {Z : State} {h : Heap} {a : Addr} {x : Int32} (V : AF Z h a .char 1 (fun i => if i = (0 : Int32).toNatClampNeg then .int (nar .char x) else .int (0 : Int32))) :
    ∃ k, Arv Z h a k .char (1 : Int32) (([nar .char x] : List Int32).map Value.int) (.int (0 : Int32)) := by
  refine V.arv rfl (by decide) (fun j hj => ?_) (fun j hj => ?_)
  · match j, hj with
    | 0, _ => rfl
  · match j, hj with
    | 0, _ => exact fits_nar_char x
theorem own_chars2 {Z : State} {h : Heap} {a : Addr} {x y : Int32} (V : AF Z h a .char 2 (fun i => if i = (1 : Int32).toNatClampNeg then .int (nar .char y) else if i = (0 : Int32).toNatClampNeg then .int (nar .char x) else .int (0 : Int32))) :
    ∃ k, Arv Z h a k .char (2 : Int32) (([nar .char x, nar .char y] : List Int32).map Value.int) (.int (0 : Int32)) := by
  refine V.arv rfl (by decide) (fun j hj => ?_) (fun j hj => ?_)
  · match j, hj with
    | 0, _ => rfl
    | 1, _ => rfl
  · match j, hj with
    | 0, _ => exact fits_nar_char x
    | 1, _ => exact fits_nar_char y
theorem own_narrow {n : String} {v : Value} (h : v.isRef = true) : narrow (.object n) v = v := by cases v <;> first | rfl | (simp [Value.isRef] at h)
theorem own_fits {n : String} {v : Value} (h : v.isRef = true) : fits (.object n) v = true := by cases v <;> first | rfl | (simp [Value.isRef] at h)
theorem own_one {v : Int32} {P : Prop} [Decidable P] (h : v = if P then (0 : Int32) else (1 : Int32)) (n : ¬ v = (0 : Int32)) : (1 : Int32) = v := by
  split at h
  · exact absurd h n
  · exact h.symm
theorem d3_0 : decode jdk_42_method_149_code 0 = .ok (.aload_n 0, 1) := by decide +kernel
theorem d3_1 : decode jdk_42_method_149_code 1 = .ok (.invokespecial 1, 3) := by decide +kernel
theorem d3_4 : decode jdk_42_method_149_code 4 = .ok (.iload_n 3, 1) := by decide +kernel
theorem d3_5 : decode jdk_42_method_149_code 5 = .ok (.ifCond .ne 22, 3) := by decide +kernel
theorem d3_8 : decode jdk_42_method_149_code 8 = .ok (.aload_n 0, 1) := by decide +kernel
theorem d3_9 : decode jdk_42_method_149_code 9 = .ok (.ldc 7, 2) := by decide +kernel
theorem d3_11 : decode jdk_42_method_149_code 11 = .ok (.getfield 9, 3) := by decide +kernel
theorem d3_14 : decode jdk_42_method_149_code 14 = .ok (.putfield 9, 3) := by decide +kernel
theorem d3_17 : decode jdk_42_method_149_code 17 = .ok (.aload_n 0, 1) := by decide +kernel
theorem d3_18 : decode jdk_42_method_149_code 18 = .ok (.ldc 7, 2) := by decide +kernel
theorem d3_20 : decode jdk_42_method_149_code 20 = .ok (.getfield 15, 3) := by decide +kernel
theorem d3_23 : decode jdk_42_method_149_code 23 = .ok (.putfield 15, 3) := by decide +kernel
theorem d3_26 : decode jdk_42_method_149_code 26 = .ok (.return_, 1) := by decide +kernel
theorem pn_3 : plainName "java/lang/String" = true := by first | (simp [plainName, overriddenIn]; done) | decide +kernel
theorem ef_3 (m : MethodId) (x0 : Addr) (x1 : Addr) (x2 : Int32) (x3 : Int32) (x4 : Value) (hv4 : x4.isRef = true) : entryFrame m #[(.ref x0), (.ref x1), (.int x2), (.int x3), x4] 6 = mkF m 0 #[.val (.ref x0), .val (.ref x1), .val (.int x2), .val (.int x3), .val x4, .unset] [] := by
  cases x4 <;> first | (simp [Value.isRef] at hv4; done) | rfl
def Q3 (Z : State) (a1 : Addr) (a2 : Addr) (p3 : Int32) (p4 : Int32) (w5 : Value) (h0 : Heap) (n0 : Nat) (v : Option Value) (h : Heap) (L : List Loc) : Prop := v = none ∧ Fr n0 L ∧ Keep h0 h [a1]
set_option maxRecDepth 65536 in
set_option maxHeartbeats 40000000 in
theorem rm3 (l : Launch) (Z : State) (a0 : Array Value) (hw : ∀ d ∈ tables_1, d.before a0 Z = true) (ws : List Jvm.Cond) (a1 : Addr) (a2 : Addr) (p3 : Int32) (p4 : Int32) (w5 : Value) (h0 : Heap) (n0 : Nat) (Z0 : n0 ≤ h0.size) (hz : p4 = (0 : Int32)) (hv5 : w5.isRef = true) (hold : ∀ (b : Addr) (cl : Cell), Z.heap[b]? = some cl → h0[b]? = some cl) (hheld : Jvm.Lit.constHeld Z "java/lang/String" 7) (hcw : Jvm.Lit.compactW.before a0 Z = true) (g_a1 : n0 ≤ a1) (Ex0 : Exa Z h0 a1 "java/lang/String") (Fv0 : Fld Z h0 a1 "java/lang/String" "value" "[B" .null) (Fc0 : Fld Z h0 a1 "java/lang/String" "coder" "B" (.int (0 : Int32))) :
    MetFree l (⟨"java/lang/String", "<init>", "([CIILjava/lang/Void;)V"⟩ : MethodName) (head1 (Jvm.Cond.code (⟨"java/lang/String", "<init>", "([CIILjava/lang/Void;)V"⟩ : MethodName) jdk_42_method_149_code 6 none :: ws) ({ frames := 1, cells := 2, slots := 4, locals := 12 } : Room)) (fun a U => a = #[(.ref a1), (.ref a2), (.int p3), (.int p4), w5] ∧ Z.Warmed39 U.vm ∧ U.heap = h0 ∧ own_J Z U.vm h0) (fun _ _ _ _ _ => True) (fun _ U o U' => ∃ v L, o = .returned v ∧ (Q3 Z a1 a2 p3 p4 w5 h0 n0 v U'.heap L ∧ own_J Z U'.vm U'.heap) ∧ ReturnedEndW U o U' L ({ frames := 1, cells := 2, slots := 4, locals := 12 } : Room).cells ({ frames := 1, cells := 2, slots := 4, locals := 12 } : Room).slots) := by
  refine MetFree.of_bodySF (plainFor_of_name pn_3) hisR ?_
  intro p e s m args below meth c s₁ Bd hml0 hP hK
  obtain ⟨rfl, hZ, hh, hJ⟩ := hP
  have hx := Bd.exec
  have hby := Bd.bytes
  have hml : c.maxLocals = 6 := hml0
  have hown : s.vm.findClass "java/lang/String" = some m.cls := findClass_of_methodNamed Bd.named
  have hnm := (name_of_methodNamed Bd.named Bd.method).1
  have X0 : Stand p l e ({ frames := 1, cells := 2, slots := 4, locals := 12 } : Room) (s.setVm s.vm) m #[(.ref a1), (.ref a2), (.int p3), (.int p4), w5] below meth c s₁ [] 0 0 := Stand.of_body Bd
  have e0 : s₁.heap = h0 := by rw [← hh, Bd.state]; rfl
  have N0 := Fr.nil n0
  have wS : ∀ d ∈ Bundle.stringAtoms, d.before a0 Z = true := fun d hd => hw d ((by decide +kernel : ∀ d ∈ Bundle.stringAtoms, d ∈ tables_1) d hd)
  have pre0 : ∀ t, Steps p.tables e below (s₁.setTop (mkF m 0 #[.val (.ref a1), .val (.ref a2), .val (.int p3), .val (.int p4), .val w5, .unset] [])) t → Steps p.tables e below (s₁.setTop (entryFrame m #[(.ref a1), (.ref a2), (.int p3), (.int p4), w5] 6)) t := fun t k => castTop (ef_3 m a1 a2 p3 p4 w5 hv5) k
  obtain ⟨T1, X1, e1, st1⟩ := initO X0 hx hZ hown (hw _ (List.mem_of_getElem? (i := 15) rfl)) (hw _ (List.mem_of_getElem? (i := 16) rfl)) (hw _ (List.mem_of_getElem? (i := 17) rfl)) e0 (g := (mkF m 1 #[.val (.ref a1), .val (.ref a2), .val (.int p3), .val (.int p4), .val w5, .unset] [(.ref a1)])) rfl (by rw [hml]; rfl) rfl (hb hby d3_1) (by decide) (W := 0) (by show 2 * 0 + _ ≤ _; exact Nat.le_of_eq rfl) (by decide)
  have R2 : ∀ t, Steps p.tables e below (T1.setTop (mkF m 9 #[.val (.ref a1), .val (.ref a2), .val (.int p3), .val (.int p4), .val w5, .unset] [(.ref a1)])) t → Steps p.tables e below (s₁.setTop (entryFrame m #[(.ref a1), (.ref a2), (.int p3), (.int p4), w5] 6)) t := by
    intro t kt
    refine pre0 _ ?_
    show Steps p.tables e below (s₁.setTop (mkF m 0 #[.val (.ref a1), .val (.ref a2), .val (.int p3), .val (.int p4), .val w5, .unset] [])) _
    refine XS.aloadN X0.here hx rfl (hb hby d3_0) rfl rfl ?_
    show Steps p.tables e below (s₁.setTop (mkF m 1 #[.val (.ref a1), .val (.ref a2), .val (.int p3), .val (.int p4), .val w5, .unset] [(.ref a1)])) _
    refine st1 _ ?_
    show Steps p.tables e below (T1.setTop (mkF m 4 #[.val (.ref a1), .val (.ref a2), .val (.int p3), .val (.int p4), .val w5, .unset] [])) _
    refine XS.iloadN X1.here hx rfl (hb hby d3_4) rfl ?_
    show Steps p.tables e below (T1.setTop (mkF m 5 #[.val (.ref a1), .val (.ref a2), .val (.int p3), .val (.int p4), .val w5, .unset] [(.int p4)])) _
    refine XS.ifNo X1.here hx rfl (hb hby d3_5) rfl ((if0 _ _).trans (teq hz).2) ?_
    show Steps p.tables e below (T1.setTop (mkF m 8 #[.val (.ref a1), .val (.ref a2), .val (.int p3), .val (.int p4), .val w5, .unset] [])) _
    refine XS.aloadN X1.here hx rfl (hb hby d3_8) rfl rfl ?_
    exact kt
  obtain ⟨aL, bL, T3, h3, k3, X3, e3, E3, hS3, hk3, hZ, hown, ExL, FcL, FvL, LL, st3⟩ := own_ldc X1 hx hZ hown (hw _ (List.mem_of_getElem? (i := 18) rfl)) wS e1 ((State.WarmedH.refl s).since 0) (Nat.zero_le _) (Fr.nil _) (fun b cl q => by rw [hh]; exact hold b cl q) hJ hheld hcw (g := (mkF m 9 #[.val (.ref a1), .val (.ref a2), .val (.int p3), .val (.int p4), .val w5, .unset] [(.ref a1)])) rfl (hb hby d3_9) (by decide) (by decide)
  replace X3 : Stand p l e ({ frames := 1, cells := 2, slots := 4, locals := 12 } : Room) (s.setVm T3.vm) m #[(.ref a1), (.ref a2), (.int p3), (.int p4), w5] below meth c T3 [] 2 4 := X3
  have F0 := Fv0.ext E3
  have C0 := Fc0.ext E3
  have Ex1 := Ex0.ext E3
  have neL : aL ≠ a1 := Fld.ne FvL F0 (by intro q; cases q)
  have KK3 : Keep h0 h3 [a1] := (Keep.refl h0 [a1]).ext E3
  obtain ⟨T4, X4, e4, st4⟩ := getF X3 hx hZ hown (host := "") (Or.inl (hw _ (List.mem_of_getElem? (i := 24) rfl))) Via.refl e3 FvL (g := (mkF m 11 #[.val (.ref a1), .val (.ref a2), .val (.int p3), .val (.int p4), .val w5, .unset] [(.ref aL), (.ref a1)])) rfl rfl (hb hby d3_11)
  obtain ⟨T5, h5, X5, e5, W5, st5⟩ := putF X4 hx hZ hown (host := "") (Or.inl (hw _ (List.mem_of_getElem? (i := 24) rfl))) Via.refl e4 F0 Ex1 (Or.inr ⟨(hw _ (List.mem_of_getElem? (i := 20) rfl)), rfl, hnm⟩) (hw _ (List.mem_of_getElem? (i := 5) rfl)) (ty := (.array .byte)) (by decide) rfl rfl (g := (mkF m 14 #[.val (.ref a1), .val (.ref a2), .val (.int p3), .val (.int p4), .val w5, .unset] [(.ref bL), (.ref a1)])) rfl rfl (hb hby d3_14)
  have N5 := Fr.snoc X5 (Fr.nil n0) g_a1
  have KK5 : Keep h0 h5 [a1] := KK3.wr W5 (Or.inl (List.mem_of_getElem? (i := 0) rfl))
  obtain ⟨L5, l5⟩ : ∃ z, z = [] ++ [(⟨a1, Jvm.RoadKit.slotOf Z "java/lang/String" "value" "[B"⟩ : Loc)] := ⟨_, rfl⟩
  rw [← l5] at X5 N5
  have FcL := FcL.other W5 (Or.inl neL)
  have FvL := FvL.other W5 (Or.inl neL)
  have ExL := ExL.wr W5
  have Ex2 := Ex1.wr W5
  have C1 := C0.other W5 (Or.inr (slot_ne (Or.inr (hw _ (List.mem_of_getElem? (i := 21) rfl))) (Or.inr (hw _ (List.mem_of_getElem? (i := 20) rfl))) (by decide) (t := .byte) (t' := (.array .byte)) (by decide) (by decide)))
  have R6 : ∀ t, Steps p.tables e below (T5.setTop (mkF m 18 #[.val (.ref a1), .val (.ref a2), .val (.int p3), .val (.int p4), .val w5, .unset] [(.ref a1)])) t → Steps p.tables e below (s₁.setTop (entryFrame m #[(.ref a1), (.ref a2), (.int p3), (.int p4), w5] 6)) t := by
    intro t kt
    refine R2 _ ?_
    show Steps p.tables e below (T1.setTop (mkF m 9 #[.val (.ref a1), .val (.ref a2), .val (.int p3), .val (.int p4), .val w5, .unset] [(.ref a1)])) _
    refine st3 _ ?_
    show Steps p.tables e below (T3.setTop (mkF m 11 #[.val (.ref a1), .val (.ref a2), .val (.int p3), .val (.int p4), .val w5, .unset] [(.ref aL), (.ref a1)])) _
    refine st4 _ ?_
    show Steps p.tables e below (T4.setTop (mkF m 14 #[.val (.ref a1), .val (.ref a2), .val (.int p3), .val (.int p4), .val w5, .unset] [(.ref bL), (.ref a1)])) _
    refine st5 _ ?_
    show Steps p.tables e below (T5.setTop (mkF m 17 #[.val (.ref a1), .val (.ref a2), .val (.int p3), .val (.int p4), .val w5, .unset] [])) _
    refine XS.aloadN X5.here hx rfl (hb hby d3_17) rfl rfl ?_
    exact kt
  have st7 := ldcAgain X5 hx hZ hown (hw _ (List.mem_of_getElem? (i := 18) rfl)) LL (g := (mkF m 18 #[.val (.ref a1), .val (.ref a2), .val (.int p3), .val (.int p4), .val w5, .unset] [(.ref a1)])) rfl (hb hby d3_18)
  obtain ⟨T8, X8, e8, st8⟩ := getF X5 hx hZ hown (host := "") (Or.inl (hw _ (List.mem_of_getElem? (i := 25) rfl))) Via.refl e5 FcL (g := (mkF m 20 #[.val (.ref a1), .val (.ref a2), .val (.int p3), .val (.int p4), .val w5, .unset] [(.ref aL), (.ref a1)])) rfl rfl (hb hby d3_20)
  obtain ⟨T9, h9, X9, e9, W9, st9⟩ := putF X8 hx hZ hown (host := "") (Or.inl (hw _ (List.mem_of_getElem? (i := 25) rfl))) Via.refl e8 C1 Ex2 (Or.inr ⟨(hw _ (List.mem_of_getElem? (i := 21) rfl)), rfl, hnm⟩) (hw _ (List.mem_of_getElem? (i := 5) rfl)) (ty := .byte) (by decide) rfl rfl (g := (mkF m 23 #[.val (.ref a1), .val (.ref a2), .val (.int p3), .val (.int p4), .val w5, .unset] [(.int (0 : Int32)), (.ref a1)])) rfl rfl (hb hby d3_23)
  have N9 := Fr.snoc X9 N5 g_a1
  have KK9 : Keep h0 h9 [a1] := KK5.wr W9 (Or.inl (List.mem_of_getElem? (i := 0) rfl))
  obtain ⟨L9, l9⟩ : ∃ z, z = L5 ++ [(⟨a1, Jvm.RoadKit.slotOf Z "java/lang/String" "coder" "B"⟩ : Loc)] := ⟨_, rfl⟩
  rw [← l9] at X9 N9
  have FcL := FcL.other W9 (Or.inl neL)
  have FvL := FvL.other W9 (Or.inl neL)
  have ExL := ExL.wr W9
  have JL : own_J Z (s.setVm T3.vm).vm h9 := Or.inr ⟨aL, bL, LL, ExL, FcL, FvL⟩
  have R10 : ∀ t, Steps p.tables e below (T9.setTop (mkF m 26 #[.val (.ref a1), .val (.ref a2), .val (.int p3), .val (.int p4), .val w5, .unset] [])) t → Steps p.tables e below (s₁.setTop (entryFrame m #[(.ref a1), (.ref a2), (.int p3), (.int p4), w5] 6)) t := by
    intro t kt
    refine R6 _ ?_
    show Steps p.tables e below (T5.setTop (mkF m 18 #[.val (.ref a1), .val (.ref a2), .val (.int p3), .val (.int p4), .val w5, .unset] [(.ref a1)])) _
    refine st7 _ ?_
    show Steps p.tables e below (T5.setTop (mkF m 20 #[.val (.ref a1), .val (.ref a2), .val (.int p3), .val (.int p4), .val w5, .unset] [(.ref aL), (.ref a1)])) _
    refine st8 _ ?_
    show Steps p.tables e below (T8.setTop (mkF m 23 #[.val (.ref a1), .val (.ref a2), .val (.int p3), .val (.int p4), .val w5, .unset] [(.int (0 : Int32)), (.ref a1)])) _
    refine st9 _ ?_
    exact kt
  obtain ⟨fs, hr, hrun, hended, w1, w2, w3, w4⟩ := Stand.leaveW (s := s) X9 hS3 (by first | exact (Nat.le_trans (Nat.le_trans hk3 (Keep.of_wr W5).1) (Keep.of_wr W9).1) | (rw [e9]; exact (Nat.le_trans (Nat.le_trans hk3 (Keep.of_wr W5).1) (Keep.of_wr W9).1))) (v := none) (fun _ => rfl)
  refine ⟨_, _, R10 _ ?_, hrun, hended, _, _, rfl, ⟨?_, (by have q := own_J_warm (s := (s.setVm T3.vm)) JL X9.warmed; rw [← e9] at q; exact q)⟩, w1, w2, w3, w4.mono (by decide) (by decide)⟩
  · show Steps p.tables e below (T9.setTop (mkF m 26 #[.val (.ref a1), .val (.ref a2), .val (.int p3), .val (.int p4), .val w5, .unset] [])) _
    exact X9.returnOut hx Bd.returns (hb hby d3_26) hr
  · show Q3 Z a1 a2 p3 p4 w5 h0 n0 _ T9.heap _
    rw [e9]
    exact ⟨rfl, N9, KK9⟩
theorem d2_0 : decode jdk_42_method_3_code 0 = .ok (.aload_n 0, 1) := by decide +kernel
theorem d2_1 : decode jdk_42_method_3_code 1 = .ok (.aload_n 1, 1) := by decide +kernel
theorem d2_2 : decode jdk_42_method_3_code 2 = .ok (.iconst 0, 1) := by decide +kernel
theorem d2_3 : decode jdk_42_method_3_code 3 = .ok (.aload_n 1, 1) := by decide +kernel
theorem d2_4 : decode jdk_42_method_3_code 4 = .ok (.arraylength, 1) := by decide +kernel
theorem d2_5 : decode jdk_42_method_3_code 5 = .ok (.aconst_null, 1) := by decide +kernel
theorem d2_6 : decode jdk_42_method_3_code 6 = .ok (.invokespecial 27, 3) := by decide +kernel
theorem d2_9 : decode jdk_42_method_3_code 9 = .ok (.return_, 1) := by decide +kernel
theorem pn_2 : plainName "java/lang/String" = true := by first | (simp [plainName, overriddenIn]; done) | decide +kernel
theorem pd_2_3 : parseMethodDescriptor "([CIILjava/lang/Void;)V" = some ⟨[(.array .char), .int, .int, (.object "java/lang/Void")], none⟩ := by decide +kernel
theorem ef_2 (m : MethodId) (x0 : Addr) (x1 : Addr) : entryFrame m #[(.ref x0), (.ref x1)] 2 = mkF m 0 #[.val (.ref x0), .val (.ref x1)] [] := by first | (simp [entryFrame, mkF, argsToLocals, Value.category]; done) | rfl
def Q2 (Z : State) (a1 : Addr) (a2 : Addr) (f : Nat → Value) (h0 : Heap) (n0 : Nat) (v : Option Value) (h : Heap) (L : List Loc) : Prop := v = none ∧ Fr n0 L ∧ Keep h0 h [a1]
set_option maxRecDepth 65536 in
set_option maxHeartbeats 40000000 in
theorem rm2 (l : Launch) (Z : State) (a0 : Array Value) (hw : ∀ d ∈ tables_1, d.before a0 Z = true) (ws : List Jvm.Cond) (a1 : Addr) (a2 : Addr) (f : Nat → Value) (h0 : Heap) (n0 : Nat) (Z0 : n0 ≤ h0.size) (V : AF Z h0 a2 .char (0 : Int32).toNatClampNeg f) (hold : ∀ (b : Addr) (cl : Cell), Z.heap[b]? = some cl → h0[b]? = some cl) (hheld : Jvm.Lit.constHeld Z "java/lang/String" 7) (hcw : Jvm.Lit.compactW.before a0 Z = true) (g_a1 : n0 ≤ a1) (Ex0 : Exa Z h0 a1 "java/lang/String") (Fv0 : Fld Z h0 a1 "java/lang/String" "value" "[B" .null) (Fc0 : Fld Z h0 a1 "java/lang/String" "coder" "B" (.int (0 : Int32))) :
    MetFree l (⟨"java/lang/String", "<init>", "([C)V"⟩ : MethodName) (head1 (Jvm.Cond.code (⟨"java/lang/String", "<init>", "([C)V"⟩ : MethodName) jdk_42_method_3_code 2 none :: ws) ({ frames := 2, cells := 2, slots := 4, locals := 29 } : Room)) (fun a U => a = #[(.ref a1), (.ref a2)] ∧ Z.Warmed39 U.vm ∧ U.heap = h0 ∧ own_J Z U.vm h0) (fun _ _ _ _ _ => True) (fun _ U o U' => ∃ v L, o = .returned v ∧ (Q2 Z a1 a2 f h0 n0 v U'.heap L ∧ own_J Z U'.vm U'.heap) ∧ ReturnedEndW U o U' L ({ frames := 2, cells := 2, slots := 4, locals := 29 } : Room).cells ({ frames := 2, cells := 2, slots := 4, locals := 29 } : Room).slots) := by
  refine MetFree.of_bodySF (plainFor_of_name pn_2) hisR ?_
  intro p e s m args below meth c s₁ Bd hml0 hP hK
  obtain ⟨rfl, hZ, hh, hJ⟩ := hP
  have hx := Bd.exec
  have hby := Bd.bytes
  have hml : c.maxLocals = 2 := hml0
  have hown : s.vm.findClass "java/lang/String" = some m.cls := findClass_of_methodNamed Bd.named
  have hnm := (name_of_methodNamed Bd.named Bd.method).1
  have X0 : Stand p l e ({ frames := 2, cells := 2, slots := 4, locals := 29 } : Room) (s.setVm s.vm) m #[(.ref a1), (.ref a2)] below meth c s₁ [] 0 0 := Stand.of_body Bd
  have e0 : s₁.heap = h0 := by rw [← hh, Bd.state]; rfl
  have N0 := Fr.nil n0
  have pre0 : ∀ t, Steps p.tables e below (s₁.setTop (mkF m 0 #[.val (.ref a1), .val (.ref a2)] [])) t → Steps p.tables e below (s₁.setTop (entryFrame m #[(.ref a1), (.ref a2)] 2)) t := fun t k => castTop (ef_2 m a1 a2) k
  obtain ⟨cl1, Ar1, S1, H1⟩ := id V
  have R2 : ∀ t, Steps p.tables e below (s₁.setTop (mkF m 6 #[.val (.ref a1), .val (.ref a2)] [.null, (.int (0 : Int32)), (.int (0 : Int32)), (.ref a2), (.ref a1)])) t → Steps p.tables e below (s₁.setTop (entryFrame m #[(.ref a1), (.ref a2)] 2)) t := by
    intro t kt
    refine pre0 _ ?_
    show Steps p.tables e below (s₁.setTop (mkF m 0 #[.val (.ref a1), .val (.ref a2)] [])) _
    refine XS.aloadN X0.here hx rfl (hb hby d2_0) rfl rfl ?_
    show Steps p.tables e below (s₁.setTop (mkF m 1 #[.val (.ref a1), .val (.ref a2)] [(.ref a1)])) _
    refine XS.aloadN X0.here hx rfl (hb hby d2_1) rfl rfl ?_
    show Steps p.tables e below (s₁.setTop (mkF m 2 #[.val (.ref a1), .val (.ref a2)] [(.ref a2), (.ref a1)])) _
    refine XS.iconst X0.here hx rfl (hb hby d2_2) ?_
    show Steps p.tables e below (s₁.setTop (mkF m 3 #[.val (.ref a1), .val (.ref a2)] [(.int (0 : Int32)), (.ref a2), (.ref a1)])) _
    refine XS.aloadN X0.here hx rfl (hb hby d2_3) rfl rfl ?_
    show Steps p.tables e below (s₁.setTop (mkF m 4 #[.val (.ref a1), .val (.ref a2)] [(.ref a2), (.int (0 : Int32)), (.ref a2), (.ref a1)])) _
    refine X0.arraylength hx (by rw [e0]; exact Ar1.1) (State.isArrayOf_alike hZ.alike Ar1.2.1) (g := (mkF m 4 #[.val (.ref a1), .val (.ref a2)] [(.ref a2), (.int (0 : Int32)), (.ref a2), (.ref a1)])) rfl rfl (hb hby d2_4) _ ?_
    rw [len_of S1 (by decide)]
    show Steps p.tables e below (s₁.setTop (mkF m 5 #[.val (.ref a1), .val (.ref a2)] [(.int (0 : Int32)), (.int (0 : Int32)), (.ref a2), (.ref a1)])) _
    refine XS.aconstNull X0.here hx rfl (hb hby d2_5) ?_
    exact kt
  obtain ⟨_, _, ⟨T3, L3, k3, n3⟩, -, X3, hS03, hg3, ⟨Lc3, ⟨hQ3, J3⟩, l3, y3, z3⟩, st3⟩ := X0.specialBackS hx (y := (⟨"java/lang/String", "<init>", "([CIILjava/lang/Void;)V"⟩ : MethodName)) rfl hown (mvT hZ (hw _ (List.mem_of_getElem? (i := 11) rfl))) (mvT hZ (hw _ (List.mem_of_getElem? (i := 12) rfl))) (mvT hZ (hw _ (List.mem_of_getElem? (i := 14) rfl))) (by decide) (own_backJ (W := 0) (rm3 l Z a0 hw [] a1 a2 (0 : Int32) (0 : Int32) .null h0 n0 Z0 rfl rfl hold hheld hcw g_a1 Ex0 Fv0 Fc0) hZ (hw _ (List.mem_of_getElem? (i := 14) rfl)) (hw _ (List.mem_of_getElem? (i := 6) rfl)) (by decide) (by decide)) (g := (mkF m 6 #[.val (.ref a1), .val (.ref a2)] [.null, (.int (0 : Int32)), (.int (0 : Int32)), (.ref a2), (.ref a1)])) rfl (by rw [hml]; rfl) (Steps.refl _) (a := a1) (argsL := [(.ref a2), (.int (0 : Int32)), (.int (0 : Int32)), .null]) (rest := []) (lenOf pd_2_3 rfl) rfl (by show 2 * 0 + _ ≤ _; exact Nat.le_of_eq rfl) (hb hby d2_6) (fun _ hW₁ => ⟨rfl, e0, own_J_warm (s := (s.setVm s.vm)) hJ hW₁, (by decide : 0 + 2 ≤ _), (by decide : 0 + 4 ≤ _)⟩)
  dsimp only [Pt.U, Pt.locs, Pt.cells, Pt.slots] at X3 hS03 hg3 J3 l3 y3 z3 st3 hQ3
  subst l3 y3 z3
  obtain ⟨rfl, N3q, K3⟩ := hQ3
  obtain ⟨X3, hS3, hZ, hown⟩ := rebS ((State.WarmedH.refl s).since 0) (by first | exact (Nat.zero_le _) | (rw [e0]; exact (Nat.zero_le _))) X3 hS03 hg3 hZ hown
  have N3 := Fr.app (Fr.nil n0) N3q
  have KK3 : Keep h0 T3.heap [a1] := (Keep.refl h0 [a1]).trans K3 (fun _ q => Or.inl q)
  have Z3 : n0 ≤ T3.heap.size := Nat.le_trans Z0 K3.1
  replace X3 : Stand p l e ({ frames := 2, cells := 2, slots := 4, locals := 29 } : Room) (s.setVm T3.vm) m #[(.ref a1), (.ref a2)] below meth c T3 L3 2 4 := X3
  have R4 : ∀ t, Steps p.tables e below (T3.setTop (mkF m 9 #[.val (.ref a1), .val (.ref a2)] [])) t → Steps p.tables e below (s₁.setTop (entryFrame m #[(.ref a1), (.ref a2)] 2)) t := by
    intro t kt
    refine R2 _ ?_
    show Steps p.tables e below (s₁.setTop (mkF m 6 #[.val (.ref a1), .val (.ref a2)] [.null, (.int (0 : Int32)), (.int (0 : Int32)), (.ref a2), (.ref a1)])) _
    refine st3.trans ?_
    exact kt
  obtain ⟨fs, hr, hrun, hended, w1, w2, w3, w4⟩ := Stand.leaveW (s := s) X3 hS3 (by first | exact (Nat.le_refl T3.heap.size) | (rw [rfl]; exact (Nat.le_refl T3.heap.size))) (v := none) (fun _ => rfl)
  refine ⟨_, _, R4 _ ?_, hrun, hended, _, _, rfl, ⟨?_, (by have q := own_J_warm (s := (s.setVm T3.vm)) J3 X3.warmed; exact q)⟩, w1, w2, w3, w4.mono (by decide) (by decide)⟩
  · show Steps p.tables e below (T3.setTop (mkF m 9 #[.val (.ref a1), .val (.ref a2)] [])) _
    exact X3.returnOut hx Bd.returns (hb hby d2_9) hr
  · show Q2 Z a1 a2 f h0 n0 _ T3.heap _
    exact ⟨rfl, N3, KK3⟩
theorem d1_0 : decode method_2_code 0 = .ok (.iload_n 0, 1) := by decide +kernel
theorem d1_1 : decode method_2_code 1 = .ok (.ifCond .ne 14, 3) := by decide +kernel
theorem d1_4 : decode method_2_code 4 = .ok (.new 7, 3) := by decide +kernel
theorem d1_7 : decode method_2_code 7 = .ok (.dup, 1) := by decide +kernel
theorem d1_8 : decode method_2_code 8 = .ok (.iconst 0, 1) := by decide +kernel
theorem d1_9 : decode method_2_code 9 = .ok (.newarray .char, 2) := by decide +kernel
theorem d1_11 : decode method_2_code 11 = .ok (.invokespecial 9, 3) := by decide +kernel
theorem d1_14 : decode method_2_code 14 = .ok (.areturn, 1) := by decide +kernel
theorem d1_15 : decode method_2_code 15 = .ok (.iload_n 0, 1) := by decide +kernel
theorem d1_16 : decode method_2_code 16 = .ok (.iconst 1, 1) := by decide +kernel
theorem d1_17 : decode method_2_code 17 = .ok (.if_icmp .ne 23, 3) := by decide +kernel
theorem d1_20 : decode method_2_code 20 = .ok (.new 7, 3) := by decide +kernel
theorem d1_23 : decode method_2_code 23 = .ok (.dup, 1) := by decide +kernel
theorem d1_24 : decode method_2_code 24 = .ok (.iconst 1, 1) := by decide +kernel
theorem d1_25 : decode method_2_code 25 = .ok (.newarray .char, 2) := by decide +kernel
theorem d1_27 : decode method_2_code 27 = .ok (.dup, 1) := by decide +kernel
theorem d1_28 : decode method_2_code 28 = .ok (.iconst 0, 1) := by decide +kernel
theorem d1_29 : decode method_2_code 29 = .ok (.iload_n 1, 1) := by decide +kernel
theorem d1_30 : decode method_2_code 30 = .ok (.sipush 255, 3) := by decide +kernel
theorem d1_33 : decode method_2_code 33 = .ok (.iand, 1) := by decide +kernel
theorem d1_34 : decode method_2_code 34 = .ok (.i2c, 1) := by decide +kernel
theorem d1_35 : decode method_2_code 35 = .ok (.castore, 1) := by decide +kernel
theorem d1_36 : decode method_2_code 36 = .ok (.invokespecial 9, 3) := by decide +kernel
theorem d1_39 : decode method_2_code 39 = .ok (.areturn, 1) := by decide +kernel
theorem d1_40 : decode method_2_code 40 = .ok (.new 7, 3) := by decide +kernel
theorem d1_43 : decode method_2_code 43 = .ok (.dup, 1) := by decide +kernel
theorem d1_44 : decode method_2_code 44 = .ok (.iconst 2, 1) := by decide +kernel
theorem d1_45 : decode method_2_code 45 = .ok (.newarray .char, 2) := by decide +kernel
theorem d1_47 : decode method_2_code 47 = .ok (.dup, 1) := by decide +kernel
theorem d1_48 : decode method_2_code 48 = .ok (.iconst 0, 1) := by decide +kernel
theorem d1_49 : decode method_2_code 49 = .ok (.iload_n 1, 1) := by decide +kernel
theorem d1_50 : decode method_2_code 50 = .ok (.sipush 255, 3) := by decide +kernel
theorem d1_53 : decode method_2_code 53 = .ok (.iand, 1) := by decide +kernel
theorem d1_54 : decode method_2_code 54 = .ok (.i2c, 1) := by decide +kernel
theorem d1_55 : decode method_2_code 55 = .ok (.castore, 1) := by decide +kernel
theorem d1_56 : decode method_2_code 56 = .ok (.dup, 1) := by decide +kernel
theorem d1_57 : decode method_2_code 57 = .ok (.iconst 1, 1) := by decide +kernel
theorem d1_58 : decode method_2_code 58 = .ok (.iload_n 2, 1) := by decide +kernel
theorem d1_59 : decode method_2_code 59 = .ok (.sipush 255, 3) := by decide +kernel
theorem d1_62 : decode method_2_code 62 = .ok (.iand, 1) := by decide +kernel
theorem d1_63 : decode method_2_code 63 = .ok (.i2c, 1) := by decide +kernel
theorem d1_64 : decode method_2_code 64 = .ok (.castore, 1) := by decide +kernel
theorem d1_65 : decode method_2_code 65 = .ok (.invokespecial 9, 3) := by decide +kernel
theorem d1_68 : decode method_2_code 68 = .ok (.areturn, 1) := by decide +kernel
theorem pn_1 : plainName "com/example/tardy_snapshot/tardysnapshot/WriteIsDeletePinLaw" = true := by first | (simp [plainName, overriddenIn]; done) | decide +kernel
theorem pd_1_2 : parseMethodDescriptor "([C)V" = some ⟨[(.array .char)], none⟩ := by decide +kernel
theorem pd_1_str : parseMethodDescriptor "([C)V" = some ⟨[(.array .char)], none⟩ := by decide +kernel
theorem ef_1 (m : MethodId) (x0 : Int32) (x1 : Int32) (x2 : Int32) : entryFrame m #[(.int x0), (.int x1), (.int x2)] 3 = mkF m 0 #[.val (.int x0), .val (.int x1), .val (.int x2)] [] := by first | (simp [entryFrame, mkF, argsToLocals, Value.category]; done) | rfl
def Q1 (Z : State) (p1 : Int32) (p2 : Int32) (p3 : Int32) (G1 : Int32) (h0 : Heap) (n0 : Nat) (v : Option Value) (h : Heap) (L : List Loc) : Prop := (∃ b : Addr, v = some (.ref b)) ∧ Fr n0 L ∧ Keep h0 h []
set_option maxRecDepth 65536 in
set_option maxHeartbeats 40000000 in
theorem rm1 (l : Launch) (Z : State) (a0 : Array Value) (hw : ∀ d ∈ tables_1, d.before a0 Z = true) (ws : List Jvm.Cond) (p1 : Int32) (p2 : Int32) (p3 : Int32) (G1 : Int32) (h0 : Heap) (n0 : Nat) (Z0 : n0 ≤ h0.size) (O2 : Sta Z h0 "java/lang/String" "COMPACT_STRINGS" "Z" (.int G1)) (P5 : ¬ (G1 = (0 : Int32))) (hold : ∀ (b : Addr) (cl : Cell), Z.heap[b]? = some cl → h0[b]? = some cl) (hheld : Jvm.Lit.constHeld Z "java/lang/String" 7) (hcw : Jvm.Lit.compactW.before a0 Z = true) :
    MetFree l (⟨"com/example/tardy_snapshot/tardysnapshot/WriteIsDeletePinLaw", "draw", "(III)Ljava/lang/String;"⟩ : MethodName) (head1 (Jvm.Cond.code (⟨"com/example/tardy_snapshot/tardysnapshot/WriteIsDeletePinLaw", "draw", "(III)Ljava/lang/String;"⟩ : MethodName) method_2_code 3 (some (.object "java/lang/String")) :: ws) ({ frames := 4, cells := 4, slots := 8, locals := 66 } : Room)) (fun a U => a = #[(.int p1), (.int p2), (.int p3)] ∧ Z.Warmed39 U.vm ∧ U.heap = h0 ∧ own_J Z U.vm h0) (fun _ _ _ _ _ => True) (fun _ U o U' => ∃ v L, o = .returned v ∧ (Q1 Z p1 p2 p3 G1 h0 n0 v U'.heap L ∧ own_J Z U'.vm U'.heap) ∧ ReturnedEndW U o U' L ({ frames := 4, cells := 4, slots := 8, locals := 66 } : Room).cells ({ frames := 4, cells := 4, slots := 8, locals := 66 } : Room).slots) := by
  refine MetFree.of_bodySF (plainFor_of_name pn_1) hisR ?_
  intro p e s m args below meth c s₁ Bd hml0 hP hK
  obtain ⟨rfl, hZ, hh, hJ⟩ := hP
  have hx := Bd.exec
  have hby := Bd.bytes
  have hml : c.maxLocals = 3 := hml0
  have hown : s.vm.findClass "com/example/tardy_snapshot/tardysnapshot/WriteIsDeletePinLaw" = some m.cls := findClass_of_methodNamed Bd.named
  have hnm := (name_of_methodNamed Bd.named Bd.method).1
  have X0 : Stand p l e ({ frames := 4, cells := 4, slots := 8, locals := 66 } : Room) (s.setVm s.vm) m #[(.int p1), (.int p2), (.int p3)] below meth c s₁ [] 0 0 := Stand.of_body Bd
  have e0 : s₁.heap = h0 := by rw [← hh, Bd.state]; rfl
  have N0 := Fr.nil n0
  have hws : ∀ d ∈ StrChars.Road.words, d.before a0 Z = true := fun d hd => hw d ((by decide +kernel : ∀ d ∈ StrChars.Road.words, d ∈ tables_1) d hd)
  have pre0 : ∀ t, Steps p.tables e below (s₁.setTop (mkF m 0 #[.val (.int p1), .val (.int p2), .val (.int p3)] [])) t → Steps p.tables e below (s₁.setTop (entryFrame m #[(.int p1), (.int p2), (.int p3)] 3)) t := fun t k => castTop (ef_1 m p1 p2 p3) k
  have R2 : ∀ t, Steps p.tables e below (s₁.setTop (mkF m 1 #[.val (.int p1), .val (.int p2), .val (.int p3)] [(.int p1)])) t → Steps p.tables e below (s₁.setTop (entryFrame m #[(.int p1), (.int p2), (.int p3)] 3)) t := by
    intro t kt
    refine pre0 _ ?_
    show Steps p.tables e below (s₁.setTop (mkF m 0 #[.val (.int p1), .val (.int p2), .val (.int p3)] [])) _
    refine XS.iloadN X0.here hx rfl (hb hby d1_0) rfl ?_
    exact kt
  by_cases hc1 : p1 = (0 : Int32)
  · obtain ⟨T3, h3, X3, e3, E3, A3, D3, -, st3⟩ := newO X0 hx hZ hown (hw _ (List.mem_of_getElem? (i := 4) rfl)) (hw _ (List.mem_of_getElem? (i := 5) rfl)) (hw _ (List.mem_of_getElem? (i := 6) rfl)) e0 (g := (mkF m 4 #[.val (.int p1), .val (.int p2), .val (.int p3)] [])) rfl (hb hby d1_4) (by decide) (by decide)
    obtain ⟨b3, g3⟩ : ∃ z, z = h0.size := ⟨_, rfl⟩
    rw [← g3] at A3 D3 st3
    have Z3 : n0 ≤ h3.size := Nat.le_trans Z0 E3.1
    have gb3 : n0 ≤ b3 := Nat.le_trans Z0 (Nat.le_of_eq g3.symm)
    have F_value_b3 : Fld Z h3 b3 "java/lang/String" "value" "[B" .null := D3 (Or.inr (hw _ (List.mem_of_getElem? (i := 20) rfl))) (ty := (.array .byte)) (by decide)
    have F_coder_b3 : Fld Z h3 b3 "java/lang/String" "coder" "B" (.int (0 : Int32)) := D3 (Or.inr (hw _ (List.mem_of_getElem? (i := 21) rfl))) (ty := .byte) (by decide)
    have sz3 : h0.size ≤ b3 := Nat.le_trans (Keep.refl h0 []).1 (Nat.le_of_eq g3.symm)
    have KK3 : Keep h0 h3 [] := (Keep.refl h0 []).ext E3
    replace X3 : Stand p l e ({ frames := 4, cells := 4, slots := 8, locals := 66 } : Room) (s.setVm s.vm) m #[(.int p1), (.int p2), (.int p3)] below meth c T3 [] 1 4 := X3
    obtain ⟨T4, h4, k4, X4, e4, E4, A4, st4⟩ := newP X3 hx hZ (hw _ (List.mem_of_getElem? (i := 7) rfl)) e3 (g := (mkF m 9 #[.val (.int p1), .val (.int p2), .val (.int p3)] [(.int (0 : Int32)), (.ref b3), (.ref b3)])) rfl (hb hby d1_9) rfl (by decide) (cap := 0) (by decide) (by decide) (by decide) (by decide)
    obtain ⟨b4, g4⟩ : ∃ z, z = h3.size := ⟨_, rfl⟩
    rw [← g4] at A4 st4
    have V4 := AF.new A4 (by decide)
    have Z4 : n0 ≤ h4.size := Nat.le_trans Z3 E4.1
    have gb4 : n0 ≤ b4 := Nat.le_trans Z3 (Nat.le_of_eq g4.symm)
    have sz4 : h0.size ≤ b4 := Nat.le_trans KK3.1 (Nat.le_of_eq g4.symm)
    have KK4 : Keep h0 h4 [] := KK3.ext E4
    replace X4 : Stand p l e ({ frames := 4, cells := 4, slots := 8, locals := 66 } : Room) (s.setVm s.vm) m #[(.int p1), (.int p2), (.int p3)] below meth c T4 [] 2 4 := X4
    have ne_b3_b4 : b3 ≠ b4 := Nat.ne_of_lt (Nat.lt_of_lt_of_le A3.lt (Nat.le_of_eq g4.symm))
    have A3 := A3.ext E4
    have F_value_b3 := F_value_b3.ext E4
    have F_coder_b3 := F_coder_b3.ext E4
    have JB := own_J_keep hJ KK4
    have R5 : ∀ t, Steps p.tables e below (T4.setTop (mkF m 11 #[.val (.int p1), .val (.int p2), .val (.int p3)] [(.ref b4), (.ref b3), (.ref b3)])) t → Steps p.tables e below (s₁.setTop (entryFrame m #[(.int p1), (.int p2), (.int p3)] 3)) t := by
      intro t kt
      refine R2 _ ?_
      show Steps p.tables e below (s₁.setTop (mkF m 1 #[.val (.int p1), .val (.int p2), .val (.int p3)] [(.int p1)])) _
      refine XS.ifNo X0.here hx rfl (hb hby d1_1) rfl ((if0 _ _).trans (teq hc1).2) ?_
      show Steps p.tables e below (s₁.setTop (mkF m 4 #[.val (.int p1), .val (.int p2), .val (.int p3)] [])) _
      refine st3 _ ?_
      show Steps p.tables e below (T3.setTop (mkF m 7 #[.val (.int p1), .val (.int p2), .val (.int p3)] [(.ref b3)])) _
      refine XS.dup X3.here hx rfl (hb hby d1_7) rfl rfl ?_
      show Steps p.tables e below (T3.setTop (mkF m 8 #[.val (.int p1), .val (.int p2), .val (.int p3)] [(.ref b3), (.ref b3)])) _
      refine XS.iconst X3.here hx rfl (hb hby d1_8) ?_
      show Steps p.tables e below (T3.setTop (mkF m 9 #[.val (.int p1), .val (.int p2), .val (.int p3)] [(.int (0 : Int32)), (.ref b3), (.ref b3)])) _
      refine st4 _ ?_
      exact kt
    obtain ⟨_, _, ⟨T6, L6, k6, n6⟩, -, X6, hS06, hg6, ⟨Lc6, ⟨hQ6, J6⟩, l6, y6, z6⟩, st6⟩ := X4.specialBackS hx (y := (⟨"java/lang/String", "<init>", "([C)V"⟩ : MethodName)) rfl hown (mvT hZ (hw _ (List.mem_of_getElem? (i := 8) rfl))) (mvT hZ (hw _ (List.mem_of_getElem? (i := 9) rfl))) (mvT hZ (hw _ (List.mem_of_getElem? (i := 10) rfl))) (by decide) (own_backJ (W := 1) (rm2 l Z a0 hw [] b3 b4 _ h4 n0 Z4 V4 (fun b cl q => KK4.2.1 b cl (hold b cl q) nin0) hheld hcw gb3 A3 F_value_b3 F_coder_b3) hZ (hw _ (List.mem_of_getElem? (i := 10) rfl)) (hw _ (List.mem_of_getElem? (i := 6) rfl)) (by decide) (by decide)) (g := (mkF m 11 #[.val (.int p1), .val (.int p2), .val (.int p3)] [(.ref b4), (.ref b3), (.ref b3)])) rfl (by rw [hml]; rfl) (Steps.refl _) (a := b3) (argsL := [(.ref b4)]) (rest := [(.ref b3)]) (lenOf pd_1_2 rfl) rfl (by show 2 * 0 + _ ≤ _; exact Nat.le_of_eq rfl) (hb hby d1_11) (fun _ hW₁ => ⟨rfl, e4, own_J_warm (s := (s.setVm s.vm)) JB hW₁, (by decide : 2 + 2 ≤ _), (by decide : 4 + 4 ≤ _)⟩)
    dsimp only [Pt.U, Pt.locs, Pt.cells, Pt.slots] at X6 hS06 hg6 J6 l6 y6 z6 st6 hQ6
    subst l6 y6 z6
    obtain ⟨rfl, N6q, K6⟩ := hQ6
    obtain ⟨X6, hS6, hZ, hown⟩ := rebS ((State.WarmedH.refl s).since 0) (by first | exact (Nat.zero_le _) | (rw [e4]; exact (Nat.zero_le _))) X6 hS06 hg6 hZ hown
    have N6 := Fr.app (Fr.nil n0) N6q
    have KK6 : Keep h0 T6.heap [] := KK4.trans K6 (fun x hx => by cases List.mem_singleton.mp hx; exact Or.inr sz3)
    have Z6 : n0 ≤ T6.heap.size := Nat.le_trans Z4 K6.1
    replace X6 : Stand p l e ({ frames := 4, cells := 4, slots := 8, locals := 66 } : Room) (s.setVm T6.vm) m #[(.int p1), (.int p2), (.int p3)] below meth c T6 L6 4 8 := X6
    have R7 : ∀ t, Steps p.tables e below (T6.setTop (mkF m 14 #[.val (.int p1), .val (.int p2), .val (.int p3)] [(.ref b3)])) t → Steps p.tables e below (s₁.setTop (entryFrame m #[(.int p1), (.int p2), (.int p3)] 3)) t := by
      intro t kt
      refine R5 _ ?_
      show Steps p.tables e below (T4.setTop (mkF m 11 #[.val (.int p1), .val (.int p2), .val (.int p3)] [(.ref b4), (.ref b3), (.ref b3)])) _
      refine st6.trans ?_
      exact kt
    obtain ⟨fs, hr, hrun, hended, w1, w2, w3, w4⟩ := Stand.leaveW (s := s) X6 hS6 (by first | exact (Nat.le_refl T6.heap.size) | (rw [rfl]; exact (Nat.le_refl T6.heap.size))) (v := some (.ref b3)) (fun h => by rw [Bd.returns] at h; cases h)
    refine ⟨_, _, R7 _ ?_, hrun, hended, _, _, rfl, ⟨?_, (by have q := own_J_warm (s := (s.setVm T6.vm)) J6 X6.warmed; exact q)⟩, w1, w2, w3, w4.mono (by decide) (by decide)⟩
    · show Steps p.tables e below (T6.setTop (mkF m 14 #[.val (.int p1), .val (.int p2), .val (.int p3)] [(.ref b3)])) _
      jvm_step X6.here [X6.here.top, hx, (hb hby d1_14), X6.method', Bd.returns, Value.isRef, FieldType.isReference]
      first | (intro acts; rw [hr _ acts rfl rfl rfl]) | rw [hr _ _ rfl rfl rfl]
      exact Steps.refl _
    · show Q1 Z p1 p2 p3 G1 h0 n0 _ T6.heap _
      exact ⟨⟨_, rfl⟩, N6, KK6⟩
  · have R9 : ∀ t, Steps p.tables e below (s₁.setTop (mkF m 17 #[.val (.int p1), .val (.int p2), .val (.int p3)] [(.int (1 : Int32)), (.int p1)])) t → Steps p.tables e below (s₁.setTop (entryFrame m #[(.int p1), (.int p2), (.int p3)] 3)) t := by
      intro t kt
      refine R2 _ ?_
      show Steps p.tables e below (s₁.setTop (mkF m 1 #[.val (.int p1), .val (.int p2), .val (.int p3)] [(.int p1)])) _
      refine XS.ifYes X0.here hx rfl (pc0 := 1) (pc' := 15) rfl (hb hby d1_1) rfl ((if0 _ _).trans (feq hc1).2) (by decide) (by decide) ?_
      show Steps p.tables e below (s₁.setTop (mkF m 15 #[.val (.int p1), .val (.int p2), .val (.int p3)] [])) _
      refine XS.iloadN X0.here hx rfl (hb hby d1_15) rfl ?_
      show Steps p.tables e below (s₁.setTop (mkF m 16 #[.val (.int p1), .val (.int p2), .val (.int p3)] [(.int p1)])) _
      refine XS.iconst X0.here hx rfl (hb hby d1_16) ?_
      exact kt
    by_cases hc8 : p1 = (1 : Int32)
    · obtain ⟨T10, h10, X10, e10, E10, A10, D10, -, st10⟩ := newO X0 hx hZ hown (hw _ (List.mem_of_getElem? (i := 4) rfl)) (hw _ (List.mem_of_getElem? (i := 5) rfl)) (hw _ (List.mem_of_getElem? (i := 6) rfl)) e0 (g := (mkF m 20 #[.val (.int p1), .val (.int p2), .val (.int p3)] [])) rfl (hb hby d1_20) (by decide) (by decide)
      obtain ⟨b10, g10⟩ : ∃ z, z = h0.size := ⟨_, rfl⟩
      rw [← g10] at A10 D10 st10
      have Z10 : n0 ≤ h10.size := Nat.le_trans Z0 E10.1
      have gb10 : n0 ≤ b10 := Nat.le_trans Z0 (Nat.le_of_eq g10.symm)
      have F_value_b10 : Fld Z h10 b10 "java/lang/String" "value" "[B" .null := D10 (Or.inr (hw _ (List.mem_of_getElem? (i := 20) rfl))) (ty := (.array .byte)) (by decide)
      have F_coder_b10 : Fld Z h10 b10 "java/lang/String" "coder" "B" (.int (0 : Int32)) := D10 (Or.inr (hw _ (List.mem_of_getElem? (i := 21) rfl))) (ty := .byte) (by decide)
      have sz10 : h0.size ≤ b10 := Nat.le_trans (Keep.refl h0 []).1 (Nat.le_of_eq g10.symm)
      have KK10 : Keep h0 h10 [] := (Keep.refl h0 []).ext E10
      replace X10 : Stand p l e ({ frames := 4, cells := 4, slots := 8, locals := 66 } : Room) (s.setVm s.vm) m #[(.int p1), (.int p2), (.int p3)] below meth c T10 [] 1 4 := X10
      obtain ⟨T11, h11, k11, X11, e11, E11, A11, st11⟩ := newP X10 hx hZ (hw _ (List.mem_of_getElem? (i := 7) rfl)) e10 (g := (mkF m 25 #[.val (.int p1), .val (.int p2), .val (.int p3)] [(.int (1 : Int32)), (.ref b10), (.ref b10)])) rfl (hb hby d1_25) rfl (by decide) (cap := 1) (by decide) (by decide) (by decide) (by decide)
      obtain ⟨b11, g11⟩ : ∃ z, z = h10.size := ⟨_, rfl⟩
      rw [← g11] at A11 st11
      have V11 := AF.new A11 (by decide)
      have Z11 : n0 ≤ h11.size := Nat.le_trans Z10 E11.1
      have gb11 : n0 ≤ b11 := Nat.le_trans Z10 (Nat.le_of_eq g11.symm)
      have sz11 : h0.size ≤ b11 := Nat.le_trans KK10.1 (Nat.le_of_eq g11.symm)
      have KK11 : Keep h0 h11 [] := KK10.ext E11
      replace X11 : Stand p l e ({ frames := 4, cells := 4, slots := 8, locals := 66 } : Room) (s.setVm s.vm) m #[(.int p1), (.int p2), (.int p3)] below meth c T11 [] 2 5 := X11
      have ne_b10_b11 : b10 ≠ b11 := Nat.ne_of_lt (Nat.lt_of_lt_of_le A10.lt (Nat.le_of_eq g11.symm))
      have A10 := A10.ext E11
      have F_value_b10 := F_value_b10.ext E11
      have F_coder_b10 := F_coder_b10.ext E11
      obtain ⟨cl12, Ar12, S12, H12⟩ := V11
      have hin12 := AF_in (j := (0 : Int32)) S12 (by decide) (by decide)
      obtain ⟨T12, h12, X12, e12, W12, st12⟩ := stC X11 hx hZ e11 Ar12 (j := (0 : Int32)) hin12 (g := (mkF m 35 #[.val (.int p1), .val (.int p2), .val (.int p3)] [(.int ((p2 &&& (255 : Int32)).toUInt32.toUInt16.toUInt32.toInt32)), (.int (0 : Int32)), (.ref b11), (.ref b11), (.ref b10), (.ref b10)])) rfl rfl (hb hby d1_35)
      have V12 := AF.same Ar12 S12 H12 W12
      have N12 := Fr.snoc X12 (Fr.nil n0) gb11
      have KK12 : Keep h0 h12 [] := KK11.wr W12 (Or.inr sz11)
      obtain ⟨L12, l12⟩ : ∃ z, z = [] ++ [(⟨b11, ((0 : Int32) : Int32).toNatClampNeg⟩ : Loc)] := ⟨_, rfl⟩
      rw [← l12] at X12 N12
      have A10 := A10.wr W12
      have F_value_b10 := F_value_b10.other W12 (Or.inl ne_b10_b11)
      have F_coder_b10 := F_coder_b10.other W12 (Or.inl ne_b10_b11)
      obtain ⟨kc13, AV13⟩ := own_chars1 V12
      obtain ⟨_, _, ⟨T14, L14, k14, n14⟩, -, X14, ⟨Lc14, hQ14, l14, y14, z14⟩, st14⟩ := X12.specialBack hx (y := (⟨"java/lang/String", "<init>", "([C)V"⟩ : MethodName)) rfl hown (mvT hZ (hw _ (List.mem_of_getElem? (i := 8) rfl))) (mvT hZ (hw _ (List.mem_of_getElem? (i := 9) rfl))) (mvT hZ (hw _ (List.mem_of_getElem? (i := 10) rfl))) (by decide) (StrChars.Road.backV (W := 1) hZ hws (kI := 4) (hw _ (List.mem_of_getElem? (i := 5) rfl)) (cs := ([(nar .char ((p2 &&& (255 : Int32)).toUInt32.toUInt16.toUInt32.toInt32))] : List Int32)) (bs := (([(nar .char ((p2 &&& (255 : Int32)).toUInt32.toUInt16.toUInt32.toInt32))] : List Int32)).map (fun c => c.toInt8.toInt32)) (n := 1) gb10 (Nat.le_trans Z0 KK12.1) A10 F_value_b10 F_coder_b10 AV13 (O2.ext (own_ext KK12)) P5 rfl rfl (by decide) (by decide) (own_hp1 p2) rfl (by decide) (by decide)) (g := (mkF m 36 #[.val (.int p1), .val (.int p2), .val (.int p3)] [(.ref b11), (.ref b10), (.ref b10)])) rfl (by rw [hml]; rfl) (Steps.refl _) (a := b10) (argsL := [(.ref b11)]) (rest := [(.ref b10)]) (lenOf pd_1_str rfl) rfl (by show 2 * 0 + _ ≤ _; exact Nat.le_of_eq rfl) (hb hby d1_36) (fun _ _ => ⟨rfl, e12, (by decide : 2 + 1 ≤ _), (by decide : 5 + 1 ≤ _)⟩)
      dsimp only [Pt.U, Pt.locs, Pt.cells, Pt.slots] at X14 l14 y14 z14 st14 hQ14
      subst l14 y14 z14
      obtain ⟨rfl, N14q, K14, Ex14, Fc14, t14, kb14, u14, v14, w14, Fv14, Av14⟩ := hQ14
      have N14 := Fr.app N12 N14q
      have KK14 : Keep h0 T14.heap [] := KK12.trans K14 (fun x hx => by cases List.mem_singleton.mp hx; exact Or.inr sz10)
      have Z14 : n0 ≤ T14.heap.size := Nat.le_trans (Nat.le_trans Z0 KK12.1) K14.1
      replace X14 : Stand p l e ({ frames := 4, cells := 4, slots := 8, locals := 66 } : Room) (s.setVm s.vm) m #[(.int p1), (.int p2), (.int p3)] below meth c T14 (L12 ++ Lc14) 3 6 := X14
      have VK14_b11 := V12.keep K14 (ninS ne_b10_b11.symm nin0)
      have JE13 := own_J_keep hJ KK14
      have R15 : ∀ t, Steps p.tables e below (T14.setTop (mkF m 39 #[.val (.int p1), .val (.int p2), .val (.int p3)] [(.ref b10)])) t → Steps p.tables e below (s₁.setTop (entryFrame m #[(.int p1), (.int p2), (.int p3)] 3)) t := by
        intro t kt
        refine R9 _ ?_
        show Steps p.tables e below (s₁.setTop (mkF m 17 #[.val (.int p1), .val (.int p2), .val (.int p3)] [(.int (1 : Int32)), (.int p1)])) _
        refine XS.icmpNo X0.here hx rfl (hb hby d1_17) rfl (teq hc8).2 ?_
        show Steps p.tables e below (s₁.setTop (mkF m 20 #[.val (.int p1), .val (.int p2), .val (.int p3)] [])) _
        refine st10 _ ?_
        show Steps p.tables e below (T10.setTop (mkF m 23 #[.val (.int p1), .val (.int p2), .val (.int p3)] [(.ref b10)])) _
        refine XS.dup X10.here hx rfl (hb hby d1_23) rfl rfl ?_
        show Steps p.tables e below (T10.setTop (mkF m 24 #[.val (.int p1), .val (.int p2), .val (.int p3)] [(.ref b10), (.ref b10)])) _
        refine XS.iconst X10.here hx rfl (hb hby d1_24) ?_
        show Steps p.tables e below (T10.setTop (mkF m 25 #[.val (.int p1), .val (.int p2), .val (.int p3)] [(.int (1 : Int32)), (.ref b10), (.ref b10)])) _
        refine st11 _ ?_
        show Steps p.tables e below (T11.setTop (mkF m 27 #[.val (.int p1), .val (.int p2), .val (.int p3)] [(.ref b11), (.ref b10), (.ref b10)])) _
        refine XS.dup X11.here hx rfl (hb hby d1_27) rfl rfl ?_
        show Steps p.tables e below (T11.setTop (mkF m 28 #[.val (.int p1), .val (.int p2), .val (.int p3)] [(.ref b11), (.ref b11), (.ref b10), (.ref b10)])) _
        refine XS.iconst X11.here hx rfl (hb hby d1_28) ?_
        show Steps p.tables e below (T11.setTop (mkF m 29 #[.val (.int p1), .val (.int p2), .val (.int p3)] [(.int (0 : Int32)), (.ref b11), (.ref b11), (.ref b10), (.ref b10)])) _
        refine XS.iloadN X11.here hx rfl (hb hby d1_29) rfl ?_
        show Steps p.tables e below (T11.setTop (mkF m 30 #[.val (.int p1), .val (.int p2), .val (.int p3)] [(.int p2), (.int (0 : Int32)), (.ref b11), (.ref b11), (.ref b10), (.ref b10)])) _
        refine XS.sipush X11.here hx rfl (hb hby d1_30) ?_
        show Steps p.tables e below (T11.setTop (mkF m 33 #[.val (.int p1), .val (.int p2), .val (.int p3)] [(.int (255 : Int32)), (.int p2), (.int (0 : Int32)), (.ref b11), (.ref b11), (.ref b10), (.ref b10)])) _
        refine XS.iand X11.here hx rfl (hb hby d1_33) rfl ?_
        show Steps p.tables e below (T11.setTop (mkF m 34 #[.val (.int p1), .val (.int p2), .val (.int p3)] [(.int (p2 &&& (255 : Int32))), (.int (0 : Int32)), (.ref b11), (.ref b11), (.ref b10), (.ref b10)])) _
        refine XS.i2c X11.here hx rfl (hb hby d1_34) rfl ?_
        show Steps p.tables e below (T11.setTop (mkF m 35 #[.val (.int p1), .val (.int p2), .val (.int p3)] [(.int ((p2 &&& (255 : Int32)).toUInt32.toUInt16.toUInt32.toInt32)), (.int (0 : Int32)), (.ref b11), (.ref b11), (.ref b10), (.ref b10)])) _
        refine st12 _ ?_
        show Steps p.tables e below (T12.setTop (mkF m 36 #[.val (.int p1), .val (.int p2), .val (.int p3)] [(.ref b11), (.ref b10), (.ref b10)])) _
        refine st14.trans ?_
        exact kt
      obtain ⟨fs, hr, hrun, hended, w1, w2, w3, w4⟩ := Stand.leaveW (s := s) X14 ((State.WarmedH.refl s).since 0) (by first | exact (Nat.zero_le _) | (rw [rfl]; exact (Nat.zero_le _))) (v := some (.ref b10)) (fun h => by rw [Bd.returns] at h; cases h)
      refine ⟨_, _, R15 _ ?_, hrun, hended, _, _, rfl, ⟨?_, (by have q := own_J_warm (s := (s.setVm s.vm)) JE13 X14.warmed; exact q)⟩, w1, w2, w3, w4.mono (by decide) (by decide)⟩
      · show Steps p.tables e below (T14.setTop (mkF m 39 #[.val (.int p1), .val (.int p2), .val (.int p3)] [(.ref b10)])) _
        jvm_step X14.here [X14.here.top, hx, (hb hby d1_39), X14.method', Bd.returns, Value.isRef, FieldType.isReference]
        first | (intro acts; rw [hr _ acts rfl rfl rfl]) | rw [hr _ _ rfl rfl rfl]
        exact Steps.refl _
      · show Q1 Z p1 p2 p3 G1 h0 n0 _ T14.heap _
        exact ⟨⟨_, rfl⟩, N14, KK14⟩
    · obtain ⟨T16, h16, X16, e16, E16, A16, D16, -, st16⟩ := newO X0 hx hZ hown (hw _ (List.mem_of_getElem? (i := 4) rfl)) (hw _ (List.mem_of_getElem? (i := 5) rfl)) (hw _ (List.mem_of_getElem? (i := 6) rfl)) e0 (g := (mkF m 40 #[.val (.int p1), .val (.int p2), .val (.int p3)] [])) rfl (hb hby d1_40) (by decide) (by decide)
      obtain ⟨b16, g16⟩ : ∃ z, z = h0.size := ⟨_, rfl⟩
      rw [← g16] at A16 D16 st16
      have Z16 : n0 ≤ h16.size := Nat.le_trans Z0 E16.1
      have gb16 : n0 ≤ b16 := Nat.le_trans Z0 (Nat.le_of_eq g16.symm)
      have F_value_b16 : Fld Z h16 b16 "java/lang/String" "value" "[B" .null := D16 (Or.inr (hw _ (List.mem_of_getElem? (i := 20) rfl))) (ty := (.array .byte)) (by decide)
      have F_coder_b16 : Fld Z h16 b16 "java/lang/String" "coder" "B" (.int (0 : Int32)) := D16 (Or.inr (hw _ (List.mem_of_getElem? (i := 21) rfl))) (ty := .byte) (by decide)
      have sz16 : h0.size ≤ b16 := Nat.le_trans (Keep.refl h0 []).1 (Nat.le_of_eq g16.symm)
      have KK16 : Keep h0 h16 [] := (Keep.refl h0 []).ext E16
      replace X16 : Stand p l e ({ frames := 4, cells := 4, slots := 8, locals := 66 } : Room) (s.setVm s.vm) m #[(.int p1), (.int p2), (.int p3)] below meth c T16 [] 1 4 := X16
      obtain ⟨T17, h17, k17, X17, e17, E17, A17, st17⟩ := newP X16 hx hZ (hw _ (List.mem_of_getElem? (i := 7) rfl)) e16 (g := (mkF m 45 #[.val (.int p1), .val (.int p2), .val (.int p3)] [(.int (2 : Int32)), (.ref b16), (.ref b16)])) rfl (hb hby d1_45) rfl (by decide) (cap := 2) (by decide) (by decide) (by decide) (by decide)
      obtain ⟨b17, g17⟩ : ∃ z, z = h16.size := ⟨_, rfl⟩
      rw [← g17] at A17 st17
      have V17 := AF.new A17 (by decide)
      have Z17 : n0 ≤ h17.size := Nat.le_trans Z16 E17.1
      have gb17 : n0 ≤ b17 := Nat.le_trans Z16 (Nat.le_of_eq g17.symm)
      have sz17 : h0.size ≤ b17 := Nat.le_trans KK16.1 (Nat.le_of_eq g17.symm)
      have KK17 : Keep h0 h17 [] := KK16.ext E17
      replace X17 : Stand p l e ({ frames := 4, cells := 4, slots := 8, locals := 66 } : Room) (s.setVm s.vm) m #[(.int p1), (.int p2), (.int p3)] below meth c T17 [] 2 6 := X17
      have ne_b16_b17 : b16 ≠ b17 := Nat.ne_of_lt (Nat.lt_of_lt_of_le A16.lt (Nat.le_of_eq g17.symm))
      have A16 := A16.ext E17
      have F_value_b16 := F_value_b16.ext E17
      have F_coder_b16 := F_coder_b16.ext E17
      obtain ⟨cl18, Ar18, S18, H18⟩ := V17
      have hin18 := AF_in (j := (0 : Int32)) S18 (by decide) (by decide)
      obtain ⟨T18, h18, X18, e18, W18, st18⟩ := stC X17 hx hZ e17 Ar18 (j := (0 : Int32)) hin18 (g := (mkF m 55 #[.val (.int p1), .val (.int p2), .val (.int p3)] [(.int ((p2 &&& (255 : Int32)).toUInt32.toUInt16.toUInt32.toInt32)), (.int (0 : Int32)), (.ref b17), (.ref b17), (.ref b16), (.ref b16)])) rfl rfl (hb hby d1_55)
      have V18 := AF.same Ar18 S18 H18 W18
      have N18 := Fr.snoc X18 (Fr.nil n0) gb17
      have KK18 : Keep h0 h18 [] := KK17.wr W18 (Or.inr sz17)
      obtain ⟨L18, l18⟩ : ∃ z, z = [] ++ [(⟨b17, ((0 : Int32) : Int32).toNatClampNeg⟩ : Loc)] := ⟨_, rfl⟩
      rw [← l18] at X18 N18
      have A16 := A16.wr W18
      have F_value_b16 := F_value_b16.other W18 (Or.inl ne_b16_b17)
      have F_coder_b16 := F_coder_b16.other W18 (Or.inl ne_b16_b17)
      obtain ⟨cl19, Ar19, S19, H19⟩ := V18
      have hin19 := AF_in (j := (1 : Int32)) S19 (by decide) (by decide)
      obtain ⟨T19, h19, X19, e19, W19, st19⟩ := stC X18 hx hZ e18 Ar19 (j := (1 : Int32)) hin19 (g := (mkF m 64 #[.val (.int p1), .val (.int p2), .val (.int p3)] [(.int ((p3 &&& (255 : Int32)).toUInt32.toUInt16.toUInt32.toInt32)), (.int (1 : Int32)), (.ref b17), (.ref b17), (.ref b16), (.ref b16)])) rfl rfl (hb hby d1_64)
      have V19 := AF.same Ar19 S19 H19 W19
      have N19 := Fr.snoc X19 N18 gb17
      have KK19 : Keep h0 h19 [] := KK18.wr W19 (Or.inr sz17)
      obtain ⟨L19, l19⟩ : ∃ z, z = L18 ++ [(⟨b17, ((1 : Int32) : Int32).toNatClampNeg⟩ : Loc)] := ⟨_, rfl⟩
      rw [← l19] at X19 N19
      have A16 := A16.wr W19
      have F_value_b16 := F_value_b16.other W19 (Or.inl ne_b16_b17)
      have F_coder_b16 := F_coder_b16.other W19 (Or.inl ne_b16_b17)
      obtain ⟨kc20, AV20⟩ := own_chars2 V19
      obtain ⟨_, _, ⟨T21, L21, k21, n21⟩, -, X21, ⟨Lc21, hQ21, l21, y21, z21⟩, st21⟩ := X19.specialBack hx (y := (⟨"java/lang/String", "<init>", "([C)V"⟩ : MethodName)) rfl hown (mvT hZ (hw _ (List.mem_of_getElem? (i := 8) rfl))) (mvT hZ (hw _ (List.mem_of_getElem? (i := 9) rfl))) (mvT hZ (hw _ (List.mem_of_getElem? (i := 10) rfl))) (by decide) (StrChars.Road.backV (W := 1) hZ hws (kI := 4) (hw _ (List.mem_of_getElem? (i := 5) rfl)) (cs := ([(nar .char ((p2 &&& (255 : Int32)).toUInt32.toUInt16.toUInt32.toInt32)), (nar .char ((p3 &&& (255 : Int32)).toUInt32.toUInt16.toUInt32.toInt32))] : List Int32)) (bs := (([(nar .char ((p2 &&& (255 : Int32)).toUInt32.toUInt16.toUInt32.toInt32)), (nar .char ((p3 &&& (255 : Int32)).toUInt32.toUInt16.toUInt32.toInt32))] : List Int32)).map (fun c => c.toInt8.toInt32)) (n := 2) gb16 (Nat.le_trans Z0 KK19.1) A16 F_value_b16 F_coder_b16 AV20 (O2.ext (own_ext KK19)) P5 rfl rfl (by decide) (by decide) (own_hp2 p2 p3) rfl (by decide) (by decide)) (g := (mkF m 65 #[.val (.int p1), .val (.int p2), .val (.int p3)] [(.ref b17), (.ref b16), (.ref b16)])) rfl (by rw [hml]; rfl) (Steps.refl _) (a := b16) (argsL := [(.ref b17)]) (rest := [(.ref b16)]) (lenOf pd_1_str rfl) rfl (by show 2 * 0 + _ ≤ _; exact Nat.le_of_eq rfl) (hb hby d1_65) (fun _ _ => ⟨rfl, e19, (by decide : 2 + 1 ≤ _), (by decide : 6 + 2 ≤ _)⟩)
      dsimp only [Pt.U, Pt.locs, Pt.cells, Pt.slots] at X21 l21 y21 z21 st21 hQ21
      subst l21 y21 z21
      obtain ⟨rfl, N21q, K21, Ex21, Fc21, t21, kb21, u21, v21, w21, Fv21, Av21⟩ := hQ21
      have N21 := Fr.app N19 N21q
      have KK21 : Keep h0 T21.heap [] := KK19.trans K21 (fun x hx => by cases List.mem_singleton.mp hx; exact Or.inr sz16)
      have Z21 : n0 ≤ T21.heap.size := Nat.le_trans (Nat.le_trans Z0 KK19.1) K21.1
      replace X21 : Stand p l e ({ frames := 4, cells := 4, slots := 8, locals := 66 } : Room) (s.setVm s.vm) m #[(.int p1), (.int p2), (.int p3)] below meth c T21 (L19 ++ Lc21) 3 8 := X21
      have VK21_b17 := V19.keep K21 (ninS ne_b16_b17.symm nin0)
      have JE20 := own_J_keep hJ KK21
      have R22 : ∀ t, Steps p.tables e below (T21.setTop (mkF m 68 #[.val (.int p1), .val (.int p2), .val (.int p3)] [(.ref b16)])) t → Steps p.tables e below (s₁.setTop (entryFrame m #[(.int p1), (.int p2), (.int p3)] 3)) t := by
        intro t kt
        refine R9 _ ?_
        show Steps p.tables e below (s₁.setTop (mkF m 17 #[.val (.int p1), .val (.int p2), .val (.int p3)] [(.int (1 : Int32)), (.int p1)])) _
        refine XS.icmpYes X0.here hx rfl (pc0 := 17) (pc' := 40) rfl (hb hby d1_17) rfl (feq hc8).2 (by decide) (by decide) ?_
        show Steps p.tables e below (s₁.setTop (mkF m 40 #[.val (.int p1), .val (.int p2), .val (.int p3)] [])) _
        refine st16 _ ?_
        show Steps p.tables e below (T16.setTop (mkF m 43 #[.val (.int p1), .val (.int p2), .val (.int p3)] [(.ref b16)])) _
        refine XS.dup X16.here hx rfl (hb hby d1_43) rfl rfl ?_
        show Steps p.tables e below (T16.setTop (mkF m 44 #[.val (.int p1), .val (.int p2), .val (.int p3)] [(.ref b16), (.ref b16)])) _
        refine XS.iconst X16.here hx rfl (hb hby d1_44) ?_
        show Steps p.tables e below (T16.setTop (mkF m 45 #[.val (.int p1), .val (.int p2), .val (.int p3)] [(.int (2 : Int32)), (.ref b16), (.ref b16)])) _
        refine st17 _ ?_
        show Steps p.tables e below (T17.setTop (mkF m 47 #[.val (.int p1), .val (.int p2), .val (.int p3)] [(.ref b17), (.ref b16), (.ref b16)])) _
        refine XS.dup X17.here hx rfl (hb hby d1_47) rfl rfl ?_
        show Steps p.tables e below (T17.setTop (mkF m 48 #[.val (.int p1), .val (.int p2), .val (.int p3)] [(.ref b17), (.ref b17), (.ref b16), (.ref b16)])) _
        refine XS.iconst X17.here hx rfl (hb hby d1_48) ?_
        show Steps p.tables e below (T17.setTop (mkF m 49 #[.val (.int p1), .val (.int p2), .val (.int p3)] [(.int (0 : Int32)), (.ref b17), (.ref b17), (.ref b16), (.ref b16)])) _
        refine XS.iloadN X17.here hx rfl (hb hby d1_49) rfl ?_
        show Steps p.tables e below (T17.setTop (mkF m 50 #[.val (.int p1), .val (.int p2), .val (.int p3)] [(.int p2), (.int (0 : Int32)), (.ref b17), (.ref b17), (.ref b16), (.ref b16)])) _
        refine XS.sipush X17.here hx rfl (hb hby d1_50) ?_
        show Steps p.tables e below (T17.setTop (mkF m 53 #[.val (.int p1), .val (.int p2), .val (.int p3)] [(.int (255 : Int32)), (.int p2), (.int (0 : Int32)), (.ref b17), (.ref b17), (.ref b16), (.ref b16)])) _
        refine XS.iand X17.here hx rfl (hb hby d1_53) rfl ?_
        show Steps p.tables e below (T17.setTop (mkF m 54 #[.val (.int p1), .val (.int p2), .val (.int p3)] [(.int (p2 &&& (255 : Int32))), (.int (0 : Int32)), (.ref b17), (.ref b17), (.ref b16), (.ref b16)])) _
        refine XS.i2c X17.here hx rfl (hb hby d1_54) rfl ?_
        show Steps p.tables e below (T17.setTop (mkF m 55 #[.val (.int p1), .val (.int p2), .val (.int p3)] [(.int ((p2 &&& (255 : Int32)).toUInt32.toUInt16.toUInt32.toInt32)), (.int (0 : Int32)), (.ref b17), (.ref b17), (.ref b16), (.ref b16)])) _
        refine st18 _ ?_
        show Steps p.tables e below (T18.setTop (mkF m 56 #[.val (.int p1), .val (.int p2), .val (.int p3)] [(.ref b17), (.ref b16), (.ref b16)])) _
        refine XS.dup X18.here hx rfl (hb hby d1_56) rfl rfl ?_
        show Steps p.tables e below (T18.setTop (mkF m 57 #[.val (.int p1), .val (.int p2), .val (.int p3)] [(.ref b17), (.ref b17), (.ref b16), (.ref b16)])) _
        refine XS.iconst X18.here hx rfl (hb hby d1_57) ?_
        show Steps p.tables e below (T18.setTop (mkF m 58 #[.val (.int p1), .val (.int p2), .val (.int p3)] [(.int (1 : Int32)), (.ref b17), (.ref b17), (.ref b16), (.ref b16)])) _
        refine XS.iloadN X18.here hx rfl (hb hby d1_58) rfl ?_
        show Steps p.tables e below (T18.setTop (mkF m 59 #[.val (.int p1), .val (.int p2), .val (.int p3)] [(.int p3), (.int (1 : Int32)), (.ref b17), (.ref b17), (.ref b16), (.ref b16)])) _
        refine XS.sipush X18.here hx rfl (hb hby d1_59) ?_
        show Steps p.tables e below (T18.setTop (mkF m 62 #[.val (.int p1), .val (.int p2), .val (.int p3)] [(.int (255 : Int32)), (.int p3), (.int (1 : Int32)), (.ref b17), (.ref b17), (.ref b16), (.ref b16)])) _
        refine XS.iand X18.here hx rfl (hb hby d1_62) rfl ?_
        show Steps p.tables e below (T18.setTop (mkF m 63 #[.val (.int p1), .val (.int p2), .val (.int p3)] [(.int (p3 &&& (255 : Int32))), (.int (1 : Int32)), (.ref b17), (.ref b17), (.ref b16), (.ref b16)])) _
        refine XS.i2c X18.here hx rfl (hb hby d1_63) rfl ?_
        show Steps p.tables e below (T18.setTop (mkF m 64 #[.val (.int p1), .val (.int p2), .val (.int p3)] [(.int ((p3 &&& (255 : Int32)).toUInt32.toUInt16.toUInt32.toInt32)), (.int (1 : Int32)), (.ref b17), (.ref b17), (.ref b16), (.ref b16)])) _
        refine st19 _ ?_
        show Steps p.tables e below (T19.setTop (mkF m 65 #[.val (.int p1), .val (.int p2), .val (.int p3)] [(.ref b17), (.ref b16), (.ref b16)])) _
        refine st21.trans ?_
        exact kt
      obtain ⟨fs, hr, hrun, hended, w1, w2, w3, w4⟩ := Stand.leaveW (s := s) X21 ((State.WarmedH.refl s).since 0) (by first | exact (Nat.zero_le _) | (rw [rfl]; exact (Nat.zero_le _))) (v := some (.ref b16)) (fun h => by rw [Bd.returns] at h; cases h)
      refine ⟨_, _, R22 _ ?_, hrun, hended, _, _, rfl, ⟨?_, (by have q := own_J_warm (s := (s.setVm s.vm)) JE20 X21.warmed; exact q)⟩, w1, w2, w3, w4.mono (by decide) (by decide)⟩
      · show Steps p.tables e below (T21.setTop (mkF m 68 #[.val (.int p1), .val (.int p2), .val (.int p3)] [(.ref b16)])) _
        jvm_step X21.here [X21.here.top, hx, (hb hby d1_68), X21.method', Bd.returns, Value.isRef, FieldType.isReference]
        first | (intro acts; rw [hr _ acts rfl rfl rfl]) | rw [hr _ _ rfl rfl rfl]
        exact Steps.refl _
      · show Q1 Z p1 p2 p3 G1 h0 n0 _ T21.heap _
        exact ⟨⟨_, rfl⟩, N21, KK21⟩
theorem d6_0 : decode jdk_30_method_1_code 0 = .ok (.aload_n 0, 1) := by decide +kernel
theorem d6_1 : decode jdk_30_method_1_code 1 = .ok (.invokespecial 1, 3) := by decide +kernel
theorem d6_4 : decode jdk_30_method_1_code 4 = .ok (.return_, 1) := by decide +kernel
theorem pn_6 : plainName "java/lang/Record" = true := by first | (simp [plainName, overriddenIn]; done) | decide +kernel
theorem ef_6 (m : MethodId) (x0 : Addr) : entryFrame m #[(.ref x0)] 1 = mkF m 0 #[.val (.ref x0)] [] := by first | (simp [entryFrame, mkF, argsToLocals, Value.category]; done) | rfl
def Q6 (Z : State) (a1 : Addr) (h0 : Heap) (n0 : Nat) (v : Option Value) (h : Heap) (L : List Loc) : Prop := v = none ∧ Fr n0 L ∧ h = h0
set_option maxRecDepth 65536 in
set_option maxHeartbeats 40000000 in
theorem rm6 (l : Launch) (Z : State) (a0 : Array Value) (hw : ∀ d ∈ tables_1, d.before a0 Z = true) (ws : List Jvm.Cond) (a1 : Addr) (h0 : Heap) (n0 : Nat) (Z0 : n0 ≤ h0.size) :
    MetFree l (⟨"java/lang/Record", "<init>", "()V"⟩ : MethodName) (head1 (Jvm.Cond.code (⟨"java/lang/Record", "<init>", "()V"⟩ : MethodName) jdk_30_method_1_code 1 none :: ws) ({ frames := 1, cells := 0, slots := 0, locals := 12 } : Room)) (fun a U => a = #[(.ref a1)] ∧ Z.Warmed39 U.vm ∧ U.heap = h0) (fun _ _ _ _ _ => True) (fun _ U o U' => ∃ v L, o = .returned v ∧ Q6 Z a1 h0 n0 v U'.heap L ∧ FrameEnd U o U' L ({ frames := 1, cells := 0, slots := 0, locals := 12 } : Room).cells ({ frames := 1, cells := 0, slots := 0, locals := 12 } : Room).slots) := by
  refine MetFree.of_bodySF (plainFor_of_name pn_6) hisR ?_
  intro p e s m args below meth c s₁ Bd hml0 hP hK
  obtain ⟨rfl, hZ, hh⟩ := hP
  have hx := Bd.exec
  have hby := Bd.bytes
  have hml : c.maxLocals = 1 := hml0
  have hown : s.vm.findClass "java/lang/Record" = some m.cls := findClass_of_methodNamed Bd.named
  have hnm := (name_of_methodNamed Bd.named Bd.method).1
  have X0 : Stand p l e ({ frames := 1, cells := 0, slots := 0, locals := 12 } : Room) s m #[(.ref a1)] below meth c s₁ [] 0 0 := Stand.of_body Bd
  have e0 : s₁.heap = h0 := by rw [← hh, Bd.state]; rfl
  have N0 := Fr.nil n0
  have pre0 : ∀ t, Steps p.tables e below (s₁.setTop (mkF m 0 #[.val (.ref a1)] [])) t → Steps p.tables e below (s₁.setTop (entryFrame m #[(.ref a1)] 1)) t := fun t k => castTop (ef_6 m a1) k
  obtain ⟨T2, X2, e2, st2⟩ := initO X0 hx hZ hown (hw _ (List.mem_of_getElem? (i := 37) rfl)) (hw _ (List.mem_of_getElem? (i := 16) rfl)) (hw _ (List.mem_of_getElem? (i := 17) rfl)) e0 (g := (mkF m 1 #[.val (.ref a1)] [(.ref a1)])) rfl (by rw [hml]; rfl) rfl (hb hby d6_1) (by decide) (W := 0) (by show 2 * 0 + _ ≤ _; exact Nat.le_of_eq rfl) (by decide)
  obtain ⟨fs, hr, hrun, hended, hW, hsame⟩ := X2.leave (v := none) (fun _ => rfl)
  refine ⟨_, _, pre0 _ ?_, hrun, hended, _, _, rfl, ?_, ⟨_, rfl⟩, hW, hsame.mono (by decide) (by decide)⟩
  · show Steps p.tables e below (s₁.setTop (mkF m 0 #[.val (.ref a1)] [])) _
    refine XS.aloadN X0.here hx rfl (hb hby d6_0) rfl rfl ?_
    show Steps p.tables e below (s₁.setTop (mkF m 1 #[.val (.ref a1)] [(.ref a1)])) _
    refine st2 _ ?_
    show Steps p.tables e below (T2.setTop (mkF m 4 #[.val (.ref a1)] [])) _
    exact X2.returnOut hx Bd.returns (hb hby d6_4) hr
  · show Q6 Z a1 h0 n0 _ T2.heap _
    rw [e2]
    exact ⟨rfl, N0, rfl⟩

theorem d5_0 : decode prog_99_method_1_code 0 = .ok (.aload_n 0, 1) := by decide +kernel
theorem d5_1 : decode prog_99_method_1_code 1 = .ok (.invokespecial 1, 3) := by decide +kernel
theorem d5_4 : decode prog_99_method_1_code 4 = .ok (.aload_n 0, 1) := by decide +kernel
theorem d5_5 : decode prog_99_method_1_code 5 = .ok (.aload_n 1, 1) := by decide +kernel
theorem d5_6 : decode prog_99_method_1_code 6 = .ok (.putfield 7, 3) := by decide +kernel
theorem d5_9 : decode prog_99_method_1_code 9 = .ok (.aload_n 0, 1) := by decide +kernel
theorem d5_10 : decode prog_99_method_1_code 10 = .ok (.aload_n 2, 1) := by decide +kernel
theorem d5_11 : decode prog_99_method_1_code 11 = .ok (.putfield 13, 3) := by decide +kernel
theorem d5_14 : decode prog_99_method_1_code 14 = .ok (.return_, 1) := by decide +kernel
theorem pn_5 : plainName "com/example/tardy_snapshot/tardysnapshot/Write" = true := by first | (simp [plainName, overriddenIn]; done) | decide +kernel
theorem pd_5_3 : parseMethodDescriptor "()V" = some ⟨[], none⟩ := by decide +kernel
theorem ef_5 (m : MethodId) (x0 : Addr) (x1 : Value) (x2 : Value) (h1 : x1.isRef = true) (h2 : x2.isRef = true) : entryFrame m #[(.ref x0), x1, x2] 3 = mkF m 0 #[.val (.ref x0), .val x1, .val x2] [] := by
  cases x1 <;> cases x2 <;> first | (simp [Value.isRef] at h1; done) | (simp [Value.isRef] at h2; done) | rfl
def Q5 (Z : State) (a1 : Addr) (w2 : Value) (w3 : Value) (u_key_a1 : Value) (u_value_a1 : Value) (h0 : Heap) (n0 : Nat) (v : Option Value) (h : Heap) (L : List Loc) : Prop := v = none ∧ Fr n0 L ∧ Keep h0 h [a1] ∧ Exa Z h a1 "com/example/tardy_snapshot/tardysnapshot/Write" ∧ Fld Z h a1 "com/example/tardy_snapshot/tardysnapshot/Write" "value" "Ljava/lang/String;" w3
set_option maxRecDepth 65536 in
set_option maxHeartbeats 40000000 in
theorem rm5 (l : Launch) (Z : State) (a0 : Array Value) (hw : ∀ d ∈ tables_1, d.before a0 Z = true) (ws : List Jvm.Cond) (a1 : Addr) (w2 : Value) (w3 : Value) (u_key_a1 : Value) (u_value_a1 : Value) (h0 : Heap) (n0 : Nat) (Z0 : n0 ≤ h0.size) (E_a1 : Exa Z h0 a1 "com/example/tardy_snapshot/tardysnapshot/Write") (F_key_a1 : Fld Z h0 a1 "com/example/tardy_snapshot/tardysnapshot/Write" "key" "Ljava/lang/String;" u_key_a1) (g_a1 : n0 ≤ a1) (F_value_a1 : Fld Z h0 a1 "com/example/tardy_snapshot/tardysnapshot/Write" "value" "Ljava/lang/String;" u_value_a1) (hv2 : w2.isRef = true) (hv3 : w3.isRef = true) :
    MetFree l (⟨"com/example/tardy_snapshot/tardysnapshot/Write", "<init>", "(Ljava/lang/String;Ljava/lang/String;)V"⟩ : MethodName) (head1 (Jvm.Cond.code (⟨"com/example/tardy_snapshot/tardysnapshot/Write", "<init>", "(Ljava/lang/String;Ljava/lang/String;)V"⟩ : MethodName) prog_99_method_1_code 3 none :: ws) ({ frames := 2, cells := 0, slots := 0, locals := 24 } : Room)) (fun a U => a = #[(.ref a1), w2, w3] ∧ Z.Warmed39 U.vm ∧ U.heap = h0) (fun _ _ _ _ _ => True) (fun _ U o U' => ∃ v L, o = .returned v ∧ Q5 Z a1 w2 w3 u_key_a1 u_value_a1 h0 n0 v U'.heap L ∧ FrameEnd U o U' L ({ frames := 2, cells := 0, slots := 0, locals := 24 } : Room).cells ({ frames := 2, cells := 0, slots := 0, locals := 24 } : Room).slots) := by
  refine MetFree.of_bodySF (plainFor_of_name pn_5) hisR ?_
  intro p e s m args below meth c s₁ Bd hml0 hP hK
  obtain ⟨rfl, hZ, hh⟩ := hP
  have hx := Bd.exec
  have hby := Bd.bytes
  have hml : c.maxLocals = 3 := hml0
  have hown : s.vm.findClass "com/example/tardy_snapshot/tardysnapshot/Write" = some m.cls := findClass_of_methodNamed Bd.named
  have hnm := (name_of_methodNamed Bd.named Bd.method).1
  have X0 : Stand p l e ({ frames := 2, cells := 0, slots := 0, locals := 24 } : Room) s m #[(.ref a1), w2, w3] below meth c s₁ [] 0 0 := Stand.of_body Bd
  have e0 : s₁.heap = h0 := by rw [← hh, Bd.state]; rfl
  have N0 := Fr.nil n0
  have pre0 : ∀ t, Steps p.tables e below (s₁.setTop (mkF m 0 #[.val (.ref a1), .val w2, .val w3] [])) t → Steps p.tables e below (s₁.setTop (entryFrame m #[(.ref a1), w2, w3] 3)) t := fun t k => castTop (ef_5 m a1 w2 w3 hv2 hv3) k
  obtain ⟨_, _, ⟨T4, L4, k4, n4⟩, -, X4, ⟨Lc4, hQ4, l4, y4, z4⟩, st4⟩ := X0.specialBack hx (y := (⟨"java/lang/Record", "<init>", "()V"⟩ : MethodName)) rfl hown (mvT hZ (hw _ (List.mem_of_getElem? (i := 32) rfl))) (mvT hZ (hw _ (List.mem_of_getElem? (i := 33) rfl))) (mvT hZ (hw _ (List.mem_of_getElem? (i := 36) rfl))) (by decide) (backOf (W := 0) (rm6 l Z a0 hw [] a1 h0 n0 Z0) hZ (hw _ (List.mem_of_getElem? (i := 36) rfl)) (hw _ (List.mem_of_getElem? (i := 35) rfl)) (by decide) (by decide)) (g := (mkF m 1 #[.val (.ref a1), .val w2, .val w3] [(.ref a1)])) rfl (by rw [hml]; rfl) (Steps.refl _) (a := a1) (argsL := []) (rest := []) (lenOf pd_5_3 rfl) rfl (by show 2 * 0 + _ ≤ _; exact Nat.le_of_eq rfl) (hb hby d5_1) (fun _ _ => ⟨rfl, e0, (by decide : 0 + 0 ≤ _), (by decide : 0 + 0 ≤ _)⟩)
  dsimp only [Pt.U, Pt.locs, Pt.cells, Pt.slots] at X4 l4 y4 z4 st4 hQ4
  subst l4 y4 z4
  obtain ⟨rfl, N4q, e4⟩ := hQ4
  have N4 := Fr.app N0 N4q
  obtain ⟨T5, h5, X5, e5, W5, st5⟩ := putF X4 hx hZ hown (host := "") (Or.inl (hw _ (List.mem_of_getElem? (i := 38) rfl))) Via.refl e4 F_key_a1 E_a1 (Or.inr ⟨(hw _ (List.mem_of_getElem? (i := 39) rfl)), rfl, hnm⟩) (hw _ (List.mem_of_getElem? (i := 27) rfl)) (ty := (.object "java/lang/String")) (by decide) (own_narrow hv2) (own_fits hv2) (g := (mkF m 6 #[.val (.ref a1), .val w2, .val w3] [w2, (.ref a1)])) rfl rfl (hb hby d5_6)
  have Fw5 := F_key_a1.same W5
  have K5 : Keep h0 h5 [a1] := (Keep.refl h0 [a1]).wr W5 (Or.inl (List.mem_of_getElem? (i := 0) rfl))
  have N5 := Fr.snoc X5 N4 g_a1
  obtain ⟨T6, h6, X6, e6, W6, st6⟩ := putF X5 hx hZ hown (host := "") (Or.inl (hw _ (List.mem_of_getElem? (i := 40) rfl))) Via.refl e5 (F_value_a1.other W5 (Or.inr (slot_ne (Or.inr (hw _ (List.mem_of_getElem? (i := 41) rfl))) (Or.inr (hw _ (List.mem_of_getElem? (i := 39) rfl))) (by decide) (t := (.object "java/lang/String")) (t' := (.object "java/lang/String")) (by decide) (by decide)))) (E_a1.wr W5) (Or.inr ⟨(hw _ (List.mem_of_getElem? (i := 41) rfl)), rfl, hnm⟩) (hw _ (List.mem_of_getElem? (i := 27) rfl)) (ty := (.object "java/lang/String")) (by decide) (own_narrow hv3) (own_fits hv3) (g := (mkF m 11 #[.val (.ref a1), .val w2, .val w3] [w3, (.ref a1)])) rfl rfl (hb hby d5_11)
  have Fw6 := (F_value_a1.other W5 (Or.inr (slot_ne (Or.inr (hw _ (List.mem_of_getElem? (i := 41) rfl))) (Or.inr (hw _ (List.mem_of_getElem? (i := 39) rfl))) (by decide) (t := (.object "java/lang/String")) (t' := (.object "java/lang/String")) (by decide) (by decide)))).same W6
  have K6 : Keep h0 h6 [a1] := K5.wr W6 (Or.inl (List.mem_of_getElem? (i := 0) rfl))
  have N6 := Fr.snoc X6 N5 g_a1
  obtain ⟨fs, hr, hrun, hended, hW, hsame⟩ := X6.leave (v := none) (fun _ => rfl)
  refine ⟨_, _, pre0 _ ?_, hrun, hended, _, _, rfl, ?_, ⟨_, rfl⟩, hW, hsame.mono (by decide) (by decide)⟩
  · show Steps p.tables e below (s₁.setTop (mkF m 0 #[.val (.ref a1), .val w2, .val w3] [])) _
    refine XS.aloadN X0.here hx rfl (hb hby d5_0) rfl rfl ?_
    show Steps p.tables e below (s₁.setTop (mkF m 1 #[.val (.ref a1), .val w2, .val w3] [(.ref a1)])) _
    refine st4.trans ?_
    show Steps p.tables e below (T4.setTop (mkF m 4 #[.val (.ref a1), .val w2, .val w3] [])) _
    refine XS.aloadN X4.here hx rfl (hb hby d5_4) rfl rfl ?_
    show Steps p.tables e below (T4.setTop (mkF m 5 #[.val (.ref a1), .val w2, .val w3] [(.ref a1)])) _
    refine XS.aloadN X4.here hx rfl (hb hby d5_5) rfl hv2 ?_
    show Steps p.tables e below (T4.setTop (mkF m 6 #[.val (.ref a1), .val w2, .val w3] [w2, (.ref a1)])) _
    refine st5 _ ?_
    show Steps p.tables e below (T5.setTop (mkF m 9 #[.val (.ref a1), .val w2, .val w3] [])) _
    refine XS.aloadN X5.here hx rfl (hb hby d5_9) rfl rfl ?_
    show Steps p.tables e below (T5.setTop (mkF m 10 #[.val (.ref a1), .val w2, .val w3] [(.ref a1)])) _
    refine XS.aloadN X5.here hx rfl (hb hby d5_10) rfl hv3 ?_
    show Steps p.tables e below (T5.setTop (mkF m 11 #[.val (.ref a1), .val w2, .val w3] [w3, (.ref a1)])) _
    refine st6 _ ?_
    show Steps p.tables e below (T6.setTop (mkF m 14 #[.val (.ref a1), .val w2, .val w3] [])) _
    exact X6.returnOut hx Bd.returns (hb hby d5_14) hr
  · show Q5 Z a1 w2 w3 u_key_a1 u_value_a1 h0 n0 _ T6.heap _
    rw [e6]
    exact ⟨rfl, N6, K6, (E_a1.wr W5).wr W6, Fw6⟩

theorem d7_0 : decode prog_99_method_4_code 0 = .ok (.aload_n 0, 1) := by decide +kernel
theorem d7_1 : decode prog_99_method_4_code 1 = .ok (.getfield 13, 3) := by decide +kernel
theorem d7_4 : decode prog_99_method_4_code 4 = .ok (.ifnonnull 7, 3) := by decide +kernel
theorem d7_11 : decode prog_99_method_4_code 11 = .ok (.iconst 0, 1) := by decide +kernel
theorem d7_12 : decode prog_99_method_4_code 12 = .ok (.ireturn, 1) := by decide +kernel
theorem pn_7 : plainName "com/example/tardy_snapshot/tardysnapshot/Write" = true := by first | (simp [plainName, overriddenIn]; done) | decide +kernel
theorem ef_7 (m : MethodId) (x0 : Addr) : entryFrame m #[(.ref x0)] 1 = mkF m 0 #[.val (.ref x0)] [] := by first | (simp [entryFrame, mkF, argsToLocals, Value.category]; done) | rfl
def F7  : Int32 :=
  (0 : Int32)
def Q7 (Z : State) (a1 : Addr) (b : Addr) (h0 : Heap) (n0 : Nat) (v : Option Value) (h : Heap) (L : List Loc) : Prop := v = some (.int (F7 )) ∧ L = [] ∧ h = h0
set_option maxRecDepth 65536 in
set_option maxHeartbeats 40000000 in
theorem rm7 (l : Launch) (Z : State) (a0 : Array Value) (hw : ∀ d ∈ tables_1, d.before a0 Z = true) (ws : List Jvm.Cond) (a1 : Addr) (b : Addr) (h0 : Heap) (n0 : Nat) (Z0 : n0 ≤ h0.size) (G1 : Fld Z h0 a1 "com/example/tardy_snapshot/tardysnapshot/Write" "value" "Ljava/lang/String;" (.ref b)) :
    MetFree l (⟨"com/example/tardy_snapshot/tardysnapshot/Write", "isDelete", "()Z"⟩ : MethodName) (head1 (Jvm.Cond.code (⟨"com/example/tardy_snapshot/tardysnapshot/Write", "isDelete", "()Z"⟩ : MethodName) prog_99_method_4_code 1 (some .boolean) :: ws) ({ frames := 0, cells := 0, slots := 0, locals := 0 } : Room)) (fun a U => a = #[(.ref a1)] ∧ Z.Warmed39 U.vm ∧ U.heap = h0) (fun _ _ _ _ _ => True) (fun _ U o U' => ∃ v L, o = .returned v ∧ Q7 Z a1 b h0 n0 v U'.heap L ∧ FrameEnd U o U' L ({ frames := 0, cells := 0, slots := 0, locals := 0 } : Room).cells ({ frames := 0, cells := 0, slots := 0, locals := 0 } : Room).slots) := by
  refine MetFree.of_bodySF (plainFor_of_name pn_7) hisR ?_
  intro p e s m args below meth c s₁ Bd hml0 hP hK
  obtain ⟨rfl, hZ, hh⟩ := hP
  have hx := Bd.exec
  have hby := Bd.bytes
  have hml : c.maxLocals = 1 := hml0
  have hown : s.vm.findClass "com/example/tardy_snapshot/tardysnapshot/Write" = some m.cls := findClass_of_methodNamed Bd.named
  have hnm := (name_of_methodNamed Bd.named Bd.method).1
  have X0 : Stand p l e ({ frames := 0, cells := 0, slots := 0, locals := 0 } : Room) s m #[(.ref a1)] below meth c s₁ [] 0 0 := Stand.of_body Bd
  have e0 : s₁.heap = h0 := by rw [← hh, Bd.state]; rfl
  have N0 := Fr.nil n0
  have pre0 : ∀ t, Steps p.tables e below (s₁.setTop (mkF m 0 #[.val (.ref a1)] [])) t → Steps p.tables e below (s₁.setTop (entryFrame m #[(.ref a1)] 1)) t := fun t k => castTop (ef_7 m a1) k
  obtain ⟨T1, X1, e1, st1⟩ := getF X0 hx hZ hown (host := "") (Or.inl (hw _ (List.mem_of_getElem? (i := 40) rfl))) Via.refl e0 G1 (g := (mkF m 1 #[.val (.ref a1)] [(.ref a1)])) rfl rfl (hb hby d7_1)
  have R2 : ∀ t, Steps p.tables e below (T1.setTop (mkF m 12 #[.val (.ref a1)] [(.int (0 : Int32))])) t → Steps p.tables e below (s₁.setTop (entryFrame m #[(.ref a1)] 1)) t := by
    intro t kt
    refine pre0 _ ?_
    show Steps p.tables e below (s₁.setTop (mkF m 0 #[.val (.ref a1)] [])) _
    refine XS.aloadN X0.here hx rfl (hb hby d7_0) rfl rfl ?_
    show Steps p.tables e below (s₁.setTop (mkF m 1 #[.val (.ref a1)] [(.ref a1)])) _
    refine st1 _ ?_
    show Steps p.tables e below (T1.setTop (mkF m 4 #[.val (.ref a1)] [(.ref b)])) _
    refine XS.ifnonnullYes X1.here hx rfl (pc0 := 4) (pc' := 11) rfl (hb hby d7_4) rfl (by decide) (by decide) ?_
    show Steps p.tables e below (T1.setTop (mkF m 11 #[.val (.ref a1)] [])) _
    refine XS.iconst X1.here hx rfl (hb hby d7_11) ?_
    exact kt
  obtain ⟨fs, hr, hrun, hended, hW, hsame⟩ := X1.leave (v := some (.int (0 : Int32))) (fun h => by rw [Bd.returns] at h; cases h)
  refine ⟨_, _, R2 _ ?_, hrun, hended, _, _, rfl, ?_, ⟨_, rfl⟩, hW, hsame.mono (by decide) (by decide)⟩
  · show Steps p.tables e below (T1.setTop (mkF m 12 #[.val (.ref a1)] [(.int (0 : Int32))])) _
    exact retN X1 hx (t := .boolean) Bd.returns (by simp) (hb hby d7_12) hr
  · show Q7 Z a1 b h0 n0 _ T1.heap _
    rw [e1]
    refine ⟨?_, rfl, rfl⟩
    rfl
theorem d7_7 : decode prog_99_method_4_code 7 = .ok (.iconst 1, 1) := by decide +kernel
theorem d7_8 : decode prog_99_method_4_code 8 = .ok (.goto 4, 3) := by decide +kernel
def F7N  : Int32 :=
  (1 : Int32)
def Q7N (Z : State) (a1 : Addr) (h0 : Heap) (n0 : Nat) (v : Option Value) (h : Heap) (L : List Loc) : Prop := v = some (.int (F7N )) ∧ L = [] ∧ h = h0
set_option maxRecDepth 65536 in
set_option maxHeartbeats 40000000 in
theorem rm7N (l : Launch) (Z : State) (a0 : Array Value) (hw : ∀ d ∈ tables_1, d.before a0 Z = true) (ws : List Jvm.Cond) (a1 : Addr) (h0 : Heap) (n0 : Nat) (Z0 : n0 ≤ h0.size) (G1 : Fld Z h0 a1 "com/example/tardy_snapshot/tardysnapshot/Write" "value" "Ljava/lang/String;" .null) :
    MetFree l (⟨"com/example/tardy_snapshot/tardysnapshot/Write", "isDelete", "()Z"⟩ : MethodName) (head1 (Jvm.Cond.code (⟨"com/example/tardy_snapshot/tardysnapshot/Write", "isDelete", "()Z"⟩ : MethodName) prog_99_method_4_code 1 (some .boolean) :: ws) ({ frames := 0, cells := 0, slots := 0, locals := 0 } : Room)) (fun a U => a = #[(.ref a1)] ∧ Z.Warmed39 U.vm ∧ U.heap = h0) (fun _ _ _ _ _ => True) (fun _ U o U' => ∃ v L, o = .returned v ∧ Q7N Z a1 h0 n0 v U'.heap L ∧ FrameEnd U o U' L ({ frames := 0, cells := 0, slots := 0, locals := 0 } : Room).cells ({ frames := 0, cells := 0, slots := 0, locals := 0 } : Room).slots) := by
  refine MetFree.of_bodySF (plainFor_of_name pn_7) hisR ?_
  intro p e s m args below meth c s₁ Bd hml0 hP hK
  obtain ⟨rfl, hZ, hh⟩ := hP
  have hx := Bd.exec
  have hby := Bd.bytes
  have hml : c.maxLocals = 1 := hml0
  have hown : s.vm.findClass "com/example/tardy_snapshot/tardysnapshot/Write" = some m.cls := findClass_of_methodNamed Bd.named
  have hnm := (name_of_methodNamed Bd.named Bd.method).1
  have X0 : Stand p l e ({ frames := 0, cells := 0, slots := 0, locals := 0 } : Room) s m #[(.ref a1)] below meth c s₁ [] 0 0 := Stand.of_body Bd
  have e0 : s₁.heap = h0 := by rw [← hh, Bd.state]; rfl
  have N0 := Fr.nil n0
  have pre0 : ∀ t, Steps p.tables e below (s₁.setTop (mkF m 0 #[.val (.ref a1)] [])) t → Steps p.tables e below (s₁.setTop (entryFrame m #[(.ref a1)] 1)) t := fun t k => castTop (ef_7 m a1) k
  obtain ⟨T1, X1, e1, st1⟩ := getF X0 hx hZ hown (host := "") (Or.inl (hw _ (List.mem_of_getElem? (i := 40) rfl))) Via.refl e0 G1 (g := (mkF m 1 #[.val (.ref a1)] [(.ref a1)])) rfl rfl (hb hby d7_1)
  have R2 : ∀ t, Steps p.tables e below (T1.setTop (mkF m 12 #[.val (.ref a1)] [(.int (1 : Int32))])) t → Steps p.tables e below (s₁.setTop (entryFrame m #[(.ref a1)] 1)) t := by
    intro t kt
    refine pre0 _ ?_
    show Steps p.tables e below (s₁.setTop (mkF m 0 #[.val (.ref a1)] [])) _
    refine XS.aloadN X0.here hx rfl (hb hby d7_0) rfl rfl ?_
    show Steps p.tables e below (s₁.setTop (mkF m 1 #[.val (.ref a1)] [(.ref a1)])) _
    refine st1 _ ?_
    show Steps p.tables e below (T1.setTop (mkF m 4 #[.val (.ref a1)] [.null])) _
    refine XS.ifnonnullNo X1.here hx rfl (hb hby d7_4) rfl ?_
    show Steps p.tables e below (T1.setTop (mkF m 7 #[.val (.ref a1)] [])) _
    refine XS.iconst X1.here hx rfl (hb hby d7_7) ?_
    show Steps p.tables e below (T1.setTop (mkF m 8 #[.val (.ref a1)] [(.int (1 : Int32))])) _
    refine XS.goto X1.here hx rfl (pc0 := 8) (pc' := 12) rfl (hb hby d7_8) (by decide) (by decide) ?_
    exact kt
  obtain ⟨fs, hr, hrun, hended, hW, hsame⟩ := X1.leave (v := some (.int (1 : Int32))) (fun h => by rw [Bd.returns] at h; cases h)
  refine ⟨_, _, R2 _ ?_, hrun, hended, _, _, rfl, ?_, ⟨_, rfl⟩, hW, hsame.mono (by decide) (by decide)⟩
  · show Steps p.tables e below (T1.setTop (mkF m 12 #[.val (.ref a1)] [(.int (1 : Int32))])) _
    exact retN X1 hx (t := .boolean) Bd.returns (by simp) (hb hby d7_12) hr
  · show Q7N Z a1 h0 n0 _ T1.heap _
    rw [e1]
    refine ⟨?_, rfl, rfl⟩
    rfl
theorem d8_0 : decode prog_99_method_3_code 0 = .ok (.new 8, 3) := by decide +kernel
theorem d8_3 : decode prog_99_method_3_code 3 = .ok (.dup, 1) := by decide +kernel
theorem d8_4 : decode prog_99_method_3_code 4 = .ok (.aload_n 0, 1) := by decide +kernel
theorem d8_5 : decode prog_99_method_3_code 5 = .ok (.aconst_null, 1) := by decide +kernel
theorem d8_6 : decode prog_99_method_3_code 6 = .ok (.invokespecial 16, 3) := by decide +kernel
theorem d8_9 : decode prog_99_method_3_code 9 = .ok (.areturn, 1) := by decide +kernel
theorem pn_8 : plainName "com/example/tardy_snapshot/tardysnapshot/Write" = true := by first | (simp [plainName, overriddenIn]; done) | decide +kernel
theorem pd_8_5 : parseMethodDescriptor "(Ljava/lang/String;Ljava/lang/String;)V" = some ⟨[(.object "java/lang/String"), (.object "java/lang/String")], none⟩ := by decide +kernel
theorem ef_8 (m : MethodId) (x0 : Value) (hv0 : x0.isRef = true) : entryFrame m #[x0] 1 = mkF m 0 #[.val x0] [] := by
  cases x0 <;> first | (simp [Value.isRef] at hv0; done) | rfl
def Q8 (Z : State) (w1 : Value) (h0 : Heap) (n0 : Nat) (v : Option Value) (h : Heap) (L : List Loc) : Prop := ∃ b : Addr, v = some (.ref b) ∧ Fr n0 L ∧ Keep h0 h [] ∧ Exa Z h b "com/example/tardy_snapshot/tardysnapshot/Write" ∧ Fld Z h b "com/example/tardy_snapshot/tardysnapshot/Write" "value" "Ljava/lang/String;" .null
set_option maxRecDepth 65536 in
set_option maxHeartbeats 40000000 in
theorem rm8 (l : Launch) (Z : State) (a0 : Array Value) (hw : ∀ d ∈ tables_1, d.before a0 Z = true) (ws : List Jvm.Cond) (w1 : Value) (h0 : Heap) (n0 : Nat) (Z0 : n0 ≤ h0.size) (hv1 : w1.isRef = true) :
    MetFree l (⟨"com/example/tardy_snapshot/tardysnapshot/Write", "delete", "(Ljava/lang/String;)Lcom/example/tardy_snapshot/tardysnapshot/Write;"⟩ : MethodName) (head1 (Jvm.Cond.code (⟨"com/example/tardy_snapshot/tardysnapshot/Write", "delete", "(Ljava/lang/String;)Lcom/example/tardy_snapshot/tardysnapshot/Write;"⟩ : MethodName) prog_99_method_3_code 1 (some (.object "com/example/tardy_snapshot/tardysnapshot/Write")) :: ws) ({ frames := 3, cells := 1, slots := 2, locals := 39 } : Room)) (fun a U => a = #[w1] ∧ Z.Warmed39 U.vm ∧ U.heap = h0) (fun _ _ _ _ _ => True) (fun _ U o U' => ∃ v L, o = .returned v ∧ Q8 Z w1 h0 n0 v U'.heap L ∧ FrameEnd U o U' L ({ frames := 3, cells := 1, slots := 2, locals := 39 } : Room).cells ({ frames := 3, cells := 1, slots := 2, locals := 39 } : Room).slots) := by
  refine MetFree.of_bodySF (plainFor_of_name pn_8) hisR ?_
  intro p e s m args below meth c s₁ Bd hml0 hP hK
  obtain ⟨rfl, hZ, hh⟩ := hP
  have hx := Bd.exec
  have hby := Bd.bytes
  have hml : c.maxLocals = 1 := hml0
  have hown : s.vm.findClass "com/example/tardy_snapshot/tardysnapshot/Write" = some m.cls := findClass_of_methodNamed Bd.named
  have hnm := (name_of_methodNamed Bd.named Bd.method).1
  have X0 : Stand p l e ({ frames := 3, cells := 1, slots := 2, locals := 39 } : Room) s m #[w1] below meth c s₁ [] 0 0 := Stand.of_body Bd
  have e0 : s₁.heap = h0 := by rw [← hh, Bd.state]; rfl
  have N0 := Fr.nil n0
  have pre0 : ∀ t, Steps p.tables e below (s₁.setTop (mkF m 0 #[.val w1] [])) t → Steps p.tables e below (s₁.setTop (entryFrame m #[w1] 1)) t := fun t k => castTop (ef_8 m w1 hv1) k
  obtain ⟨T1, h1, X1, e1, E1, A1, D1, -, st1⟩ := newO X0 hx hZ hown (hw _ (List.mem_of_getElem? (i := 50) rfl)) (hw _ (List.mem_of_getElem? (i := 27) rfl)) (hw _ (List.mem_of_getElem? (i := 28) rfl)) e0 (g := (mkF m 0 #[.val w1] [])) rfl (hb hby d8_0) (by decide) (by decide)
  obtain ⟨b1, g1⟩ : ∃ z, z = h0.size := ⟨_, rfl⟩
  rw [← g1] at A1 D1 st1
  have Z1 : n0 ≤ h1.size := Nat.le_trans Z0 E1.1
  have gb1 : n0 ≤ b1 := Nat.le_trans Z0 (Nat.le_of_eq g1.symm)
  have F_key_b1 : Fld Z h1 b1 "com/example/tardy_snapshot/tardysnapshot/Write" "key" "Ljava/lang/String;" .null := D1 (Or.inr (hw _ (List.mem_of_getElem? (i := 39) rfl))) (ty := (.object "java/lang/String")) (by decide)
  have F_value_b1 : Fld Z h1 b1 "com/example/tardy_snapshot/tardysnapshot/Write" "value" "Ljava/lang/String;" .null := D1 (Or.inr (hw _ (List.mem_of_getElem? (i := 41) rfl))) (ty := (.object "java/lang/String")) (by decide)
  have sz1 : h0.size ≤ b1 := Nat.le_trans (Keep.refl h0 []).1 (Nat.le_of_eq g1.symm)
  have KK1 : Keep h0 h1 [] := (Keep.refl h0 []).ext E1
  replace X1 : Stand p l e ({ frames := 3, cells := 1, slots := 2, locals := 39 } : Room) s m #[w1] below meth c T1 [] 1 2 := X1
  obtain ⟨_, _, ⟨T2, L2, k2, n2⟩, -, X2, ⟨Lc2, hQ2, l2, y2, z2⟩, st2⟩ := X1.specialBack hx (y := (⟨"com/example/tardy_snapshot/tardysnapshot/Write", "<init>", "(Ljava/lang/String;Ljava/lang/String;)V"⟩ : MethodName)) rfl hown (mvT hZ (hw _ (List.mem_of_getElem? (i := 51) rfl))) (mvT hZ (hw _ (List.mem_of_getElem? (i := 30) rfl))) (mvT hZ (hw _ (List.mem_of_getElem? (i := 31) rfl))) (by decide) (backOf (W := 1) (rm5 l Z a0 hw [] b1 w1 .null .null .null h1 n0 Z1 A1 F_key_b1 gb1 F_value_b1 hv1 rfl) hZ (hw _ (List.mem_of_getElem? (i := 31) rfl)) (hw _ (List.mem_of_getElem? (i := 28) rfl)) (by decide) (by decide)) (g := (mkF m 6 #[.val w1] [.null, w1, (.ref b1), (.ref b1)])) rfl (by rw [hml]; rfl) (Steps.refl _) (a := b1) (argsL := [w1, .null]) (rest := [(.ref b1)]) (lenOf pd_8_5 rfl) rfl (by show 2 * 0 + _ ≤ _; exact Nat.le_of_eq rfl) (hb hby d8_6) (fun _ _ => ⟨rfl, e1, (by decide : 1 + 0 ≤ _), (by decide : 2 + 0 ≤ _)⟩)
  dsimp only [Pt.U, Pt.locs, Pt.cells, Pt.slots] at X2 l2 y2 z2 st2 hQ2
  subst l2 y2 z2
  obtain ⟨rfl, N2q, K2, Ex2, Fv2⟩ := hQ2
  have N2 := Fr.app (Fr.nil n0) N2q
  have KK2 : Keep h0 T2.heap [] := KK1.trans K2 (fun x hx => by cases List.mem_singleton.mp hx; exact Or.inr sz1)
  have Z2 : n0 ≤ T2.heap.size := Nat.le_trans Z1 K2.1
  replace X2 : Stand p l e ({ frames := 3, cells := 1, slots := 2, locals := 39 } : Room) s m #[w1] below meth c T2 L2 1 2 := X2
  have R3 : ∀ t, Steps p.tables e below (T2.setTop (mkF m 9 #[.val w1] [(.ref b1)])) t → Steps p.tables e below (s₁.setTop (entryFrame m #[w1] 1)) t := by
    intro t kt
    refine pre0 _ ?_
    show Steps p.tables e below (s₁.setTop (mkF m 0 #[.val w1] [])) _
    refine st1 _ ?_
    show Steps p.tables e below (T1.setTop (mkF m 3 #[.val w1] [(.ref b1)])) _
    refine XS.dup X1.here hx rfl (hb hby d8_3) rfl rfl ?_
    show Steps p.tables e below (T1.setTop (mkF m 4 #[.val w1] [(.ref b1), (.ref b1)])) _
    refine XS.aloadN X1.here hx rfl (hb hby d8_4) rfl hv1 ?_
    show Steps p.tables e below (T1.setTop (mkF m 5 #[.val w1] [w1, (.ref b1), (.ref b1)])) _
    refine XS.aconstNull X1.here hx rfl (hb hby d8_5) ?_
    show Steps p.tables e below (T1.setTop (mkF m 6 #[.val w1] [.null, w1, (.ref b1), (.ref b1)])) _
    refine st2.trans ?_
    exact kt
  obtain ⟨fs, hr, hrun, hended, hW, hsame⟩ := X2.leave (v := some (.ref b1)) (fun h => by rw [Bd.returns] at h; cases h)
  refine ⟨_, _, R3 _ ?_, hrun, hended, _, _, rfl, ?_, ⟨_, rfl⟩, hW, hsame.mono (by decide) (by decide)⟩
  · show Steps p.tables e below (T2.setTop (mkF m 9 #[.val w1] [(.ref b1)])) _
    jvm_step X2.here [X2.here.top, hx, (hb hby d8_9), X2.method', Bd.returns, Value.isRef, FieldType.isReference]
    first | (intro acts; rw [hr _ acts rfl rfl rfl]) | rw [hr _ _ rfl rfl rfl]
    exact Steps.refl _
  · show Q8 Z w1 h0 n0 _ T2.heap _
    exact ⟨_, rfl, N2, KK2, Ex2, Fv2⟩
theorem d9_0 : decode prog_99_method_2_code 0 = .ok (.new 8, 3) := by decide +kernel
theorem d9_3 : decode prog_99_method_2_code 3 = .ok (.dup, 1) := by decide +kernel
theorem d9_4 : decode prog_99_method_2_code 4 = .ok (.aload_n 0, 1) := by decide +kernel
theorem d9_5 : decode prog_99_method_2_code 5 = .ok (.aload_n 1, 1) := by decide +kernel
theorem d9_6 : decode prog_99_method_2_code 6 = .ok (.invokespecial 16, 3) := by decide +kernel
theorem d9_9 : decode prog_99_method_2_code 9 = .ok (.areturn, 1) := by decide +kernel
theorem pn_9 : plainName "com/example/tardy_snapshot/tardysnapshot/Write" = true := by first | (simp [plainName, overriddenIn]; done) | decide +kernel
theorem pd_9_5 : parseMethodDescriptor "(Ljava/lang/String;Ljava/lang/String;)V" = some ⟨[(.object "java/lang/String"), (.object "java/lang/String")], none⟩ := by decide +kernel
theorem ef_9 (m : MethodId) (x0 : Value) (x1 : Addr) (hv0 : x0.isRef = true) : entryFrame m #[x0, (.ref x1)] 2 = mkF m 0 #[.val x0, .val (.ref x1)] [] := by
  cases x0 <;> first | (simp [Value.isRef] at hv0; done) | rfl
def Q9 (Z : State) (w1 : Value) (a2 : Addr) (h0 : Heap) (n0 : Nat) (v : Option Value) (h : Heap) (L : List Loc) : Prop := ∃ b : Addr, v = some (.ref b) ∧ Fr n0 L ∧ Keep h0 h [] ∧ Exa Z h b "com/example/tardy_snapshot/tardysnapshot/Write" ∧ Fld Z h b "com/example/tardy_snapshot/tardysnapshot/Write" "value" "Ljava/lang/String;" (.ref a2)
set_option maxRecDepth 65536 in
set_option maxHeartbeats 40000000 in
theorem rm9 (l : Launch) (Z : State) (a0 : Array Value) (hw : ∀ d ∈ tables_1, d.before a0 Z = true) (ws : List Jvm.Cond) (w1 : Value) (a2 : Addr) (h0 : Heap) (n0 : Nat) (Z0 : n0 ≤ h0.size) (hv1 : w1.isRef = true) :
    MetFree l (⟨"com/example/tardy_snapshot/tardysnapshot/Write", "put", "(Ljava/lang/String;Ljava/lang/String;)Lcom/example/tardy_snapshot/tardysnapshot/Write;"⟩ : MethodName) (head1 (Jvm.Cond.code (⟨"com/example/tardy_snapshot/tardysnapshot/Write", "put", "(Ljava/lang/String;Ljava/lang/String;)Lcom/example/tardy_snapshot/tardysnapshot/Write;"⟩ : MethodName) prog_99_method_2_code 2 (some (.object "com/example/tardy_snapshot/tardysnapshot/Write")) :: ws) ({ frames := 3, cells := 1, slots := 2, locals := 39 } : Room)) (fun a U => a = #[w1, (.ref a2)] ∧ Z.Warmed39 U.vm ∧ U.heap = h0) (fun _ _ _ _ _ => True) (fun _ U o U' => ∃ v L, o = .returned v ∧ Q9 Z w1 a2 h0 n0 v U'.heap L ∧ FrameEnd U o U' L ({ frames := 3, cells := 1, slots := 2, locals := 39 } : Room).cells ({ frames := 3, cells := 1, slots := 2, locals := 39 } : Room).slots) := by
  refine MetFree.of_bodySF (plainFor_of_name pn_9) hisR ?_
  intro p e s m args below meth c s₁ Bd hml0 hP hK
  obtain ⟨rfl, hZ, hh⟩ := hP
  have hx := Bd.exec
  have hby := Bd.bytes
  have hml : c.maxLocals = 2 := hml0
  have hown : s.vm.findClass "com/example/tardy_snapshot/tardysnapshot/Write" = some m.cls := findClass_of_methodNamed Bd.named
  have hnm := (name_of_methodNamed Bd.named Bd.method).1
  have X0 : Stand p l e ({ frames := 3, cells := 1, slots := 2, locals := 39 } : Room) s m #[w1, (.ref a2)] below meth c s₁ [] 0 0 := Stand.of_body Bd
  have e0 : s₁.heap = h0 := by rw [← hh, Bd.state]; rfl
  have N0 := Fr.nil n0
  have pre0 : ∀ t, Steps p.tables e below (s₁.setTop (mkF m 0 #[.val w1, .val (.ref a2)] [])) t → Steps p.tables e below (s₁.setTop (entryFrame m #[w1, (.ref a2)] 2)) t := fun t k => castTop (ef_9 m w1 a2 hv1) k
  obtain ⟨T1, h1, X1, e1, E1, A1, D1, -, st1⟩ := newO X0 hx hZ hown (hw _ (List.mem_of_getElem? (i := 50) rfl)) (hw _ (List.mem_of_getElem? (i := 27) rfl)) (hw _ (List.mem_of_getElem? (i := 28) rfl)) e0 (g := (mkF m 0 #[.val w1, .val (.ref a2)] [])) rfl (hb hby d9_0) (by decide) (by decide)
  obtain ⟨b1, g1⟩ : ∃ z, z = h0.size := ⟨_, rfl⟩
  rw [← g1] at A1 D1 st1
  have Z1 : n0 ≤ h1.size := Nat.le_trans Z0 E1.1
  have gb1 : n0 ≤ b1 := Nat.le_trans Z0 (Nat.le_of_eq g1.symm)
  have F_key_b1 : Fld Z h1 b1 "com/example/tardy_snapshot/tardysnapshot/Write" "key" "Ljava/lang/String;" .null := D1 (Or.inr (hw _ (List.mem_of_getElem? (i := 39) rfl))) (ty := (.object "java/lang/String")) (by decide)
  have F_value_b1 : Fld Z h1 b1 "com/example/tardy_snapshot/tardysnapshot/Write" "value" "Ljava/lang/String;" .null := D1 (Or.inr (hw _ (List.mem_of_getElem? (i := 41) rfl))) (ty := (.object "java/lang/String")) (by decide)
  have sz1 : h0.size ≤ b1 := Nat.le_trans (Keep.refl h0 []).1 (Nat.le_of_eq g1.symm)
  have KK1 : Keep h0 h1 [] := (Keep.refl h0 []).ext E1
  replace X1 : Stand p l e ({ frames := 3, cells := 1, slots := 2, locals := 39 } : Room) s m #[w1, (.ref a2)] below meth c T1 [] 1 2 := X1
  obtain ⟨_, _, ⟨T2, L2, k2, n2⟩, -, X2, ⟨Lc2, hQ2, l2, y2, z2⟩, st2⟩ := X1.specialBack hx (y := (⟨"com/example/tardy_snapshot/tardysnapshot/Write", "<init>", "(Ljava/lang/String;Ljava/lang/String;)V"⟩ : MethodName)) rfl hown (mvT hZ (hw _ (List.mem_of_getElem? (i := 51) rfl))) (mvT hZ (hw _ (List.mem_of_getElem? (i := 30) rfl))) (mvT hZ (hw _ (List.mem_of_getElem? (i := 31) rfl))) (by decide) (backOf (W := 1) (rm5 l Z a0 hw [] b1 w1 (.ref a2) .null .null h1 n0 Z1 A1 F_key_b1 gb1 F_value_b1 hv1 rfl) hZ (hw _ (List.mem_of_getElem? (i := 31) rfl)) (hw _ (List.mem_of_getElem? (i := 28) rfl)) (by decide) (by decide)) (g := (mkF m 6 #[.val w1, .val (.ref a2)] [(.ref a2), w1, (.ref b1), (.ref b1)])) rfl (by rw [hml]; rfl) (Steps.refl _) (a := b1) (argsL := [w1, (.ref a2)]) (rest := [(.ref b1)]) (lenOf pd_9_5 rfl) rfl (by show 2 * 0 + _ ≤ _; exact Nat.le_of_eq rfl) (hb hby d9_6) (fun _ _ => ⟨rfl, e1, (by decide : 1 + 0 ≤ _), (by decide : 2 + 0 ≤ _)⟩)
  dsimp only [Pt.U, Pt.locs, Pt.cells, Pt.slots] at X2 l2 y2 z2 st2 hQ2
  subst l2 y2 z2
  obtain ⟨rfl, N2q, K2, Ex2, Fv2⟩ := hQ2
  have N2 := Fr.app (Fr.nil n0) N2q
  have KK2 : Keep h0 T2.heap [] := KK1.trans K2 (fun x hx => by cases List.mem_singleton.mp hx; exact Or.inr sz1)
  have Z2 : n0 ≤ T2.heap.size := Nat.le_trans Z1 K2.1
  replace X2 : Stand p l e ({ frames := 3, cells := 1, slots := 2, locals := 39 } : Room) s m #[w1, (.ref a2)] below meth c T2 L2 1 2 := X2
  have R3 : ∀ t, Steps p.tables e below (T2.setTop (mkF m 9 #[.val w1, .val (.ref a2)] [(.ref b1)])) t → Steps p.tables e below (s₁.setTop (entryFrame m #[w1, (.ref a2)] 2)) t := by
    intro t kt
    refine pre0 _ ?_
    show Steps p.tables e below (s₁.setTop (mkF m 0 #[.val w1, .val (.ref a2)] [])) _
    refine st1 _ ?_
    show Steps p.tables e below (T1.setTop (mkF m 3 #[.val w1, .val (.ref a2)] [(.ref b1)])) _
    refine XS.dup X1.here hx rfl (hb hby d9_3) rfl rfl ?_
    show Steps p.tables e below (T1.setTop (mkF m 4 #[.val w1, .val (.ref a2)] [(.ref b1), (.ref b1)])) _
    refine XS.aloadN X1.here hx rfl (hb hby d9_4) rfl hv1 ?_
    show Steps p.tables e below (T1.setTop (mkF m 5 #[.val w1, .val (.ref a2)] [w1, (.ref b1), (.ref b1)])) _
    refine XS.aloadN X1.here hx rfl (hb hby d9_5) rfl rfl ?_
    show Steps p.tables e below (T1.setTop (mkF m 6 #[.val w1, .val (.ref a2)] [(.ref a2), w1, (.ref b1), (.ref b1)])) _
    refine st2.trans ?_
    exact kt
  obtain ⟨fs, hr, hrun, hended, hW, hsame⟩ := X2.leave (v := some (.ref b1)) (fun h => by rw [Bd.returns] at h; cases h)
  refine ⟨_, _, R3 _ ?_, hrun, hended, _, _, rfl, ?_, ⟨_, rfl⟩, hW, hsame.mono (by decide) (by decide)⟩
  · show Steps p.tables e below (T2.setTop (mkF m 9 #[.val w1, .val (.ref a2)] [(.ref b1)])) _
    jvm_step X2.here [X2.here.top, hx, (hb hby d9_9), X2.method', Bd.returns, Value.isRef, FieldType.isReference]
    first | (intro acts; rw [hr _ acts rfl rfl rfl]) | rw [hr _ _ rfl rfl rfl]
    exact Steps.refl _
  · show Q9 Z w1 a2 h0 n0 _ T2.heap _
    exact ⟨_, rfl, N2, KK2, Ex2, Fv2⟩
theorem pn_0 : plainName "com/example/tardy_snapshot/tardysnapshot/WriteIsDeletePinLaw" = true := by first | (simp [plainName, overriddenIn]; done) | decide +kernel
theorem pd_0_1 : parseMethodDescriptor "(III)Ljava/lang/String;" = some ⟨[.int, .int, .int], some (.object "java/lang/String")⟩ := by decide +kernel
theorem pd_0_5 : parseMethodDescriptor "(Ljava/lang/String;Ljava/lang/String;)V" = some ⟨[(.object "java/lang/String"), (.object "java/lang/String")], none⟩ := by decide +kernel
theorem pd_0_7 : parseMethodDescriptor "()Z" = some ⟨[], some .boolean⟩ := by decide +kernel
theorem pd_0_8 : parseMethodDescriptor "(Ljava/lang/String;)Lcom/example/tardy_snapshot/tardysnapshot/Write;" = some ⟨[(.object "java/lang/String")], some (.object "com/example/tardy_snapshot/tardysnapshot/Write")⟩ := by decide +kernel
theorem pd_0_9 : parseMethodDescriptor "(Ljava/lang/String;Ljava/lang/String;)Lcom/example/tardy_snapshot/tardysnapshot/Write;" = some ⟨[(.object "java/lang/String"), (.object "java/lang/String")], some (.object "com/example/tardy_snapshot/tardysnapshot/Write")⟩ := by decide +kernel
theorem ef_0 (m : MethodId) (x0 : Int32) (x1 : Int32) (x2 : Int32) (x3 : Int32) (x4 : Int32) : entryFrame m #[(.int x0), (.int x1), (.int x2), (.int x3), (.int x4)] maxLocals = mkF m 0 #[.val (.int x0), .val (.int x1), .val (.int x2), .val (.int x3), .val (.int x4), .unset, .unset, .unset, .unset, .unset, .unset, .unset, .unset] [] := by first | (simp [entryFrame, mkF, argsToLocals, Value.category, maxLocals]; done) | rfl
def Q0 (Z : State) (p1 : Int32) (p2 : Int32) (p3 : Int32) (p4 : Int32) (p5 : Int32) (G1 : Int32) (h0 : Heap) (n0 : Nat) (v : Option Value) (h : Heap) (L : List Loc) : Prop := v = some (.int (1 : Int32)) ∧ Fr n0 L
set_option maxRecDepth 65536 in
set_option maxHeartbeats 40000000 in
theorem rm0 (l : Launch) (Z : State) (a0 : Array Value) (hw : ∀ d ∈ tables_1, d.before a0 Z = true) (ws : List Jvm.Cond) (p1 : Int32) (p2 : Int32) (p3 : Int32) (p4 : Int32) (p5 : Int32) (G1 : Int32) (h0 : Heap) (n0 : Nat) (Z0 : n0 ≤ h0.size) (hZh : Z.heap = h0) (O2 : Sta Z h0 "java/lang/String" "COMPACT_STRINGS" "Z" (.int G1)) (P5 : ¬ (G1 = (0 : Int32))) (hheld : Jvm.Lit.constHeld Z "java/lang/String" 7) (hcw : Jvm.Lit.compactW.before a0 Z = true) :
    MetFree l x (head1 (Jvm.Cond.code x code maxLocals ret :: ws) room_1) (fun a U => a = #[(.int p1), (.int p2), (.int p3), (.int p4), (.int p5)] ∧ Z.Warmed39 U.vm ∧ U.heap = h0 ∧ own_J Z U.vm h0) (fun _ _ _ _ _ => True) (fun _ U o U' => ∃ v L, o = .returned v ∧ Q0 Z p1 p2 p3 p4 p5 G1 h0 n0 v U'.heap L ∧ ReturnedEndW U o U' L room_1.cells room_1.slots) := by
  refine MetFree.of_bodySF (plainFor_of_name pn_0) hisR ?_
  intro p e s m args below meth c s₁ Bd hml0 hP hK
  obtain ⟨rfl, hZ, hh, hJ⟩ := hP
  have hx := Bd.exec
  have hby := Bd.bytes
  have hml : c.maxLocals = 13 := hml0
  have hown : s.vm.findClass "com/example/tardy_snapshot/tardysnapshot/WriteIsDeletePinLaw" = some m.cls := findClass_of_methodNamed Bd.named
  have hnm := (name_of_methodNamed Bd.named Bd.method).1
  have X0 : Stand p l e room_1 (s.setVm s.vm) m #[(.int p1), (.int p2), (.int p3), (.int p4), (.int p5)] below meth c s₁ [] 0 0 := Stand.of_body Bd
  have e0 : s₁.heap = h0 := by rw [← hh, Bd.state]; rfl
  have N0 := Fr.nil n0
  have pre0 : ∀ t, Steps p.tables e below (s₁.setTop (mkF m 0 #[.val (.int p1), .val (.int p2), .val (.int p3), .val (.int p4), .val (.int p5), .unset, .unset, .unset, .unset, .unset, .unset, .unset, .unset] [])) t → Steps p.tables e below (s₁.setTop (entryFrame m #[(.int p1), (.int p2), (.int p3), (.int p4), (.int p5)] maxLocals)) t := fun t k => castTop (ef_0 m p1 p2 p3 p4 p5) k
  have R2 : ∀ t, Steps p.tables e below (s₁.setTop (mkF m 3 #[.val (.int p1), .val (.int p2), .val (.int p3), .val (.int p4), .val (.int p5), .unset, .unset, .unset, .unset, .unset, .unset, .unset, .unset] [(.int (p1 &&& (1 : Int32)))])) t → Steps p.tables e below (s₁.setTop (entryFrame m #[(.int p1), (.int p2), (.int p3), (.int p4), (.int p5)] maxLocals)) t := by
    intro t kt
    refine pre0 _ ?_
    show Steps p.tables e below (s₁.setTop (mkF m 0 #[.val (.int p1), .val (.int p2), .val (.int p3), .val (.int p4), .val (.int p5), .unset, .unset, .unset, .unset, .unset, .unset, .unset, .unset] [])) _
    refine XS.iloadN X0.here hx rfl (hb hby at_0) rfl ?_
    show Steps p.tables e below (s₁.setTop (mkF m 1 #[.val (.int p1), .val (.int p2), .val (.int p3), .val (.int p4), .val (.int p5), .unset, .unset, .unset, .unset, .unset, .unset, .unset, .unset] [(.int p1)])) _
    refine XS.iconst X0.here hx rfl (hb hby at_1) ?_
    show Steps p.tables e below (s₁.setTop (mkF m 2 #[.val (.int p1), .val (.int p2), .val (.int p3), .val (.int p4), .val (.int p5), .unset, .unset, .unset, .unset, .unset, .unset, .unset, .unset] [(.int (1 : Int32)), (.int p1)])) _
    refine XS.iand X0.here hx rfl (hb hby at_2) rfl ?_
    exact kt
  have J7 : ∃ (v5 : Int32), v5 = (if (p1 &&& (1 : Int32)) = (0 : Int32) then (0 : Int32) else (1 : Int32)) ∧ ∀ t, Steps p.tables e below (s₁.setTop (mkF m 11 #[.val (.int p1), .val (.int p2), .val (.int p3), .val (.int p4), .val (.int p5), .unset, .unset, .unset, .unset, .unset, .unset, .unset, .unset] [(.int v5)])) t → Steps p.tables e below (s₁.setTop (entryFrame m #[(.int p1), (.int p2), (.int p3), (.int p4), (.int p5)] maxLocals)) t := by
    by_cases hc1 : (p1 &&& (1 : Int32)) = (0 : Int32)
    · have R3 : ∀ t, Steps p.tables e below (s₁.setTop (mkF m 11 #[.val (.int p1), .val (.int p2), .val (.int p3), .val (.int p4), .val (.int p5), .unset, .unset, .unset, .unset, .unset, .unset, .unset, .unset] [(.int (0 : Int32))])) t → Steps p.tables e below (s₁.setTop (entryFrame m #[(.int p1), (.int p2), (.int p3), (.int p4), (.int p5)] maxLocals)) t := by
        intro t kt
        refine R2 _ ?_
        show Steps p.tables e below (s₁.setTop (mkF m 3 #[.val (.int p1), .val (.int p2), .val (.int p3), .val (.int p4), .val (.int p5), .unset, .unset, .unset, .unset, .unset, .unset, .unset, .unset] [(.int (p1 &&& (1 : Int32)))])) _
        refine XS.ifYes X0.here hx rfl (pc0 := 3) (pc' := 10) rfl (hb hby at_3) rfl ((if0 _ _).trans (teq hc1).1) (by decide) (by decide) ?_
        show Steps p.tables e below (s₁.setTop (mkF m 10 #[.val (.int p1), .val (.int p2), .val (.int p3), .val (.int p4), .val (.int p5), .unset, .unset, .unset, .unset, .unset, .unset, .unset, .unset] [])) _
        refine XS.iconst X0.here hx rfl (hb hby at_10) ?_
        exact kt
      exact ⟨(0 : Int32), (by rw [if_pos hc1]), R3⟩
    · have R4 : ∀ t, Steps p.tables e below (s₁.setTop (mkF m 11 #[.val (.int p1), .val (.int p2), .val (.int p3), .val (.int p4), .val (.int p5), .unset, .unset, .unset, .unset, .unset, .unset, .unset, .unset] [(.int (1 : Int32))])) t → Steps p.tables e below (s₁.setTop (entryFrame m #[(.int p1), (.int p2), (.int p3), (.int p4), (.int p5)] maxLocals)) t := by
        intro t kt
        refine R2 _ ?_
        show Steps p.tables e below (s₁.setTop (mkF m 3 #[.val (.int p1), .val (.int p2), .val (.int p3), .val (.int p4), .val (.int p5), .unset, .unset, .unset, .unset, .unset, .unset, .unset, .unset] [(.int (p1 &&& (1 : Int32)))])) _
        refine XS.ifNo X0.here hx rfl (hb hby at_3) rfl ((if0 _ _).trans (feq hc1).1) ?_
        show Steps p.tables e below (s₁.setTop (mkF m 6 #[.val (.int p1), .val (.int p2), .val (.int p3), .val (.int p4), .val (.int p5), .unset, .unset, .unset, .unset, .unset, .unset, .unset, .unset] [])) _
        refine XS.iconst X0.here hx rfl (hb hby at_6) ?_
        show Steps p.tables e below (s₁.setTop (mkF m 7 #[.val (.int p1), .val (.int p2), .val (.int p3), .val (.int p4), .val (.int p5), .unset, .unset, .unset, .unset, .unset, .unset, .unset, .unset] [(.int (1 : Int32))])) _
        refine XS.goto X0.here hx rfl (pc0 := 7) (pc' := 11) rfl (hb hby at_7) (by decide) (by decide) ?_
        exact kt
      exact ⟨(1 : Int32), (by rw [if_neg hc1]), R4⟩
  obtain ⟨v5, hv5, R6⟩ := J7
  have R9 : ∀ t, Steps p.tables e below (s₁.setTop (mkF m 16 #[.val (.int p1), .val (.int p2), .val (.int p3), .val (.int p4), .val (.int p5), .val (.int v5), .unset, .unset, .unset, .unset, .unset, .unset, .unset] [(.int (p1 &&& (2 : Int32)))])) t → Steps p.tables e below (s₁.setTop (entryFrame m #[(.int p1), (.int p2), (.int p3), (.int p4), (.int p5)] maxLocals)) t := by
    intro t kt
    refine R6 _ ?_
    show Steps p.tables e below (s₁.setTop (mkF m 11 #[.val (.int p1), .val (.int p2), .val (.int p3), .val (.int p4), .val (.int p5), .unset, .unset, .unset, .unset, .unset, .unset, .unset, .unset] [(.int v5)])) _
    refine XS.istore X0.here hx rfl (hb hby at_11) rfl (l' := #[.val (.int p1), .val (.int p2), .val (.int p3), .val (.int p4), .val (.int p5), .val (.int v5), .unset, .unset, .unset, .unset, .unset, .unset, .unset]) rfl ?_
    show Steps p.tables e below (s₁.setTop (mkF m 13 #[.val (.int p1), .val (.int p2), .val (.int p3), .val (.int p4), .val (.int p5), .val (.int v5), .unset, .unset, .unset, .unset, .unset, .unset, .unset] [])) _
    refine XS.iloadN X0.here hx rfl (hb hby at_13) rfl ?_
    show Steps p.tables e below (s₁.setTop (mkF m 14 #[.val (.int p1), .val (.int p2), .val (.int p3), .val (.int p4), .val (.int p5), .val (.int v5), .unset, .unset, .unset, .unset, .unset, .unset, .unset] [(.int p1)])) _
    refine XS.iconst X0.here hx rfl (hb hby at_14) ?_
    show Steps p.tables e below (s₁.setTop (mkF m 15 #[.val (.int p1), .val (.int p2), .val (.int p3), .val (.int p4), .val (.int p5), .val (.int v5), .unset, .unset, .unset, .unset, .unset, .unset, .unset] [(.int (2 : Int32)), (.int p1)])) _
    refine XS.iand X0.here hx rfl (hb hby at_15) rfl ?_
    exact kt
  have J14 : ∃ (v12 : Int32), v12 = (if (p1 &&& (2 : Int32)) = (0 : Int32) then (0 : Int32) else (1 : Int32)) ∧ ∀ t, Steps p.tables e below (s₁.setTop (mkF m 24 #[.val (.int p1), .val (.int p2), .val (.int p3), .val (.int p4), .val (.int p5), .val (.int v5), .unset, .unset, .unset, .unset, .unset, .unset, .unset] [(.int v12)])) t → Steps p.tables e below (s₁.setTop (entryFrame m #[(.int p1), (.int p2), (.int p3), (.int p4), (.int p5)] maxLocals)) t := by
    by_cases hc8 : (p1 &&& (2 : Int32)) = (0 : Int32)
    · have R10 : ∀ t, Steps p.tables e below (s₁.setTop (mkF m 24 #[.val (.int p1), .val (.int p2), .val (.int p3), .val (.int p4), .val (.int p5), .val (.int v5), .unset, .unset, .unset, .unset, .unset, .unset, .unset] [(.int (0 : Int32))])) t → Steps p.tables e below (s₁.setTop (entryFrame m #[(.int p1), (.int p2), (.int p3), (.int p4), (.int p5)] maxLocals)) t := by
        intro t kt
        refine R9 _ ?_
        show Steps p.tables e below (s₁.setTop (mkF m 16 #[.val (.int p1), .val (.int p2), .val (.int p3), .val (.int p4), .val (.int p5), .val (.int v5), .unset, .unset, .unset, .unset, .unset, .unset, .unset] [(.int (p1 &&& (2 : Int32)))])) _
        refine XS.ifYes X0.here hx rfl (pc0 := 16) (pc' := 23) rfl (hb hby at_16) rfl ((if0 _ _).trans (teq hc8).1) (by decide) (by decide) ?_
        show Steps p.tables e below (s₁.setTop (mkF m 23 #[.val (.int p1), .val (.int p2), .val (.int p3), .val (.int p4), .val (.int p5), .val (.int v5), .unset, .unset, .unset, .unset, .unset, .unset, .unset] [])) _
        refine XS.iconst X0.here hx rfl (hb hby at_23) ?_
        exact kt
      exact ⟨(0 : Int32), (by rw [if_pos hc8]), R10⟩
    · have R11 : ∀ t, Steps p.tables e below (s₁.setTop (mkF m 24 #[.val (.int p1), .val (.int p2), .val (.int p3), .val (.int p4), .val (.int p5), .val (.int v5), .unset, .unset, .unset, .unset, .unset, .unset, .unset] [(.int (1 : Int32))])) t → Steps p.tables e below (s₁.setTop (entryFrame m #[(.int p1), (.int p2), (.int p3), (.int p4), (.int p5)] maxLocals)) t := by
        intro t kt
        refine R9 _ ?_
        show Steps p.tables e below (s₁.setTop (mkF m 16 #[.val (.int p1), .val (.int p2), .val (.int p3), .val (.int p4), .val (.int p5), .val (.int v5), .unset, .unset, .unset, .unset, .unset, .unset, .unset] [(.int (p1 &&& (2 : Int32)))])) _
        refine XS.ifNo X0.here hx rfl (hb hby at_16) rfl ((if0 _ _).trans (feq hc8).1) ?_
        show Steps p.tables e below (s₁.setTop (mkF m 19 #[.val (.int p1), .val (.int p2), .val (.int p3), .val (.int p4), .val (.int p5), .val (.int v5), .unset, .unset, .unset, .unset, .unset, .unset, .unset] [])) _
        refine XS.iconst X0.here hx rfl (hb hby at_19) ?_
        show Steps p.tables e below (s₁.setTop (mkF m 20 #[.val (.int p1), .val (.int p2), .val (.int p3), .val (.int p4), .val (.int p5), .val (.int v5), .unset, .unset, .unset, .unset, .unset, .unset, .unset] [(.int (1 : Int32))])) _
        refine XS.goto X0.here hx rfl (pc0 := 20) (pc' := 24) rfl (hb hby at_20) (by decide) (by decide) ?_
        exact kt
      exact ⟨(1 : Int32), (by rw [if_neg hc8]), R11⟩
  obtain ⟨v12, hv12, R13⟩ := J14
  have R15 : ∀ t, Steps p.tables e below (s₁.setTop (mkF m 33 #[.val (.int p1), .val (.int p2), .val (.int p3), .val (.int p4), .val (.int p5), .val (.int v5), .val (.int v12), .unset, .unset, .unset, .unset, .unset, .unset] [(.int ((((p1.toUInt32 >>> ((2 : Int32) &&& 31).toUInt32).toInt32) &&& (3 : Int32)) % (3 : Int32)))])) t → Steps p.tables e below (s₁.setTop (entryFrame m #[(.int p1), (.int p2), (.int p3), (.int p4), (.int p5)] maxLocals)) t := by
    intro t kt
    refine R13 _ ?_
    show Steps p.tables e below (s₁.setTop (mkF m 24 #[.val (.int p1), .val (.int p2), .val (.int p3), .val (.int p4), .val (.int p5), .val (.int v5), .unset, .unset, .unset, .unset, .unset, .unset, .unset] [(.int v12)])) _
    refine XS.istore X0.here hx rfl (hb hby at_24) rfl (l' := #[.val (.int p1), .val (.int p2), .val (.int p3), .val (.int p4), .val (.int p5), .val (.int v5), .val (.int v12), .unset, .unset, .unset, .unset, .unset, .unset]) rfl ?_
    show Steps p.tables e below (s₁.setTop (mkF m 26 #[.val (.int p1), .val (.int p2), .val (.int p3), .val (.int p4), .val (.int p5), .val (.int v5), .val (.int v12), .unset, .unset, .unset, .unset, .unset, .unset] [])) _
    refine XS.iloadN X0.here hx rfl (hb hby at_26) rfl ?_
    show Steps p.tables e below (s₁.setTop (mkF m 27 #[.val (.int p1), .val (.int p2), .val (.int p3), .val (.int p4), .val (.int p5), .val (.int v5), .val (.int v12), .unset, .unset, .unset, .unset, .unset, .unset] [(.int p1)])) _
    refine XS.iconst X0.here hx rfl (hb hby at_27) ?_
    show Steps p.tables e below (s₁.setTop (mkF m 28 #[.val (.int p1), .val (.int p2), .val (.int p3), .val (.int p4), .val (.int p5), .val (.int v5), .val (.int v12), .unset, .unset, .unset, .unset, .unset, .unset] [(.int (2 : Int32)), (.int p1)])) _
    refine XS.iushr X0.here hx rfl (hb hby at_28) rfl ?_
    show Steps p.tables e below (s₁.setTop (mkF m 29 #[.val (.int p1), .val (.int p2), .val (.int p3), .val (.int p4), .val (.int p5), .val (.int v5), .val (.int v12), .unset, .unset, .unset, .unset, .unset, .unset] [(.int ((p1.toUInt32 >>> ((2 : Int32) &&& 31).toUInt32).toInt32))])) _
    refine XS.iconst X0.here hx rfl (hb hby at_29) ?_
    show Steps p.tables e below (s₁.setTop (mkF m 30 #[.val (.int p1), .val (.int p2), .val (.int p3), .val (.int p4), .val (.int p5), .val (.int v5), .val (.int v12), .unset, .unset, .unset, .unset, .unset, .unset] [(.int (3 : Int32)), (.int ((p1.toUInt32 >>> ((2 : Int32) &&& 31).toUInt32).toInt32))])) _
    refine XS.iand X0.here hx rfl (hb hby at_30) rfl ?_
    show Steps p.tables e below (s₁.setTop (mkF m 31 #[.val (.int p1), .val (.int p2), .val (.int p3), .val (.int p4), .val (.int p5), .val (.int v5), .val (.int v12), .unset, .unset, .unset, .unset, .unset, .unset] [(.int (((p1.toUInt32 >>> ((2 : Int32) &&& 31).toUInt32).toInt32) &&& (3 : Int32)))])) _
    refine XS.iconst X0.here hx rfl (hb hby at_31) ?_
    show Steps p.tables e below (s₁.setTop (mkF m 32 #[.val (.int p1), .val (.int p2), .val (.int p3), .val (.int p4), .val (.int p5), .val (.int v5), .val (.int v12), .unset, .unset, .unset, .unset, .unset, .unset] [(.int (3 : Int32)), (.int (((p1.toUInt32 >>> ((2 : Int32) &&& 31).toUInt32).toInt32) &&& (3 : Int32)))])) _
    refine iremM X0 hx rfl (hb hby at_32) rfl (by decide) ?_
    exact kt
  obtain ⟨v16, hv16⟩ : ∃ zz9 : Int32, zz9 = ((((p1.toUInt32 >>> ((2 : Int32) &&& 31).toUInt32).toInt32) &&& (3 : Int32)) % (3 : Int32)) := ⟨_, rfl⟩
  rw [← hv16] at R15
  have R17 : ∀ t, Steps p.tables e below (s₁.setTop (mkF m 40 #[.val (.int p1), .val (.int p2), .val (.int p3), .val (.int p4), .val (.int p5), .val (.int v5), .val (.int v12), .val (.int v16), .unset, .unset, .unset, .unset, .unset] [(.int (((p1.toUInt32 >>> ((4 : Int32) &&& 31).toUInt32).toInt32) % (3 : Int32)))])) t → Steps p.tables e below (s₁.setTop (entryFrame m #[(.int p1), (.int p2), (.int p3), (.int p4), (.int p5)] maxLocals)) t := by
    intro t kt
    refine R15 _ ?_
    show Steps p.tables e below (s₁.setTop (mkF m 33 #[.val (.int p1), .val (.int p2), .val (.int p3), .val (.int p4), .val (.int p5), .val (.int v5), .val (.int v12), .unset, .unset, .unset, .unset, .unset, .unset] [(.int v16)])) _
    refine XS.istore X0.here hx rfl (hb hby at_33) rfl (l' := #[.val (.int p1), .val (.int p2), .val (.int p3), .val (.int p4), .val (.int p5), .val (.int v5), .val (.int v12), .val (.int v16), .unset, .unset, .unset, .unset, .unset]) rfl ?_
    show Steps p.tables e below (s₁.setTop (mkF m 35 #[.val (.int p1), .val (.int p2), .val (.int p3), .val (.int p4), .val (.int p5), .val (.int v5), .val (.int v12), .val (.int v16), .unset, .unset, .unset, .unset, .unset] [])) _
    refine XS.iloadN X0.here hx rfl (hb hby at_35) rfl ?_
    show Steps p.tables e below (s₁.setTop (mkF m 36 #[.val (.int p1), .val (.int p2), .val (.int p3), .val (.int p4), .val (.int p5), .val (.int v5), .val (.int v12), .val (.int v16), .unset, .unset, .unset, .unset, .unset] [(.int p1)])) _
    refine XS.iconst X0.here hx rfl (hb hby at_36) ?_
    show Steps p.tables e below (s₁.setTop (mkF m 37 #[.val (.int p1), .val (.int p2), .val (.int p3), .val (.int p4), .val (.int p5), .val (.int v5), .val (.int v12), .val (.int v16), .unset, .unset, .unset, .unset, .unset] [(.int (4 : Int32)), (.int p1)])) _
    refine XS.iushr X0.here hx rfl (hb hby at_37) rfl ?_
    show Steps p.tables e below (s₁.setTop (mkF m 38 #[.val (.int p1), .val (.int p2), .val (.int p3), .val (.int p4), .val (.int p5), .val (.int v5), .val (.int v12), .val (.int v16), .unset, .unset, .unset, .unset, .unset] [(.int ((p1.toUInt32 >>> ((4 : Int32) &&& 31).toUInt32).toInt32))])) _
    refine XS.iconst X0.here hx rfl (hb hby at_38) ?_
    show Steps p.tables e below (s₁.setTop (mkF m 39 #[.val (.int p1), .val (.int p2), .val (.int p3), .val (.int p4), .val (.int p5), .val (.int v5), .val (.int v12), .val (.int v16), .unset, .unset, .unset, .unset, .unset] [(.int (3 : Int32)), (.int ((p1.toUInt32 >>> ((4 : Int32) &&& 31).toUInt32).toInt32))])) _
    refine iremM X0 hx rfl (hb hby at_39) rfl (by decide) ?_
    exact kt
  obtain ⟨v18, hv18⟩ : ∃ zz9 : Int32, zz9 = (((p1.toUInt32 >>> ((4 : Int32) &&& 31).toUInt32).toInt32) % (3 : Int32)) := ⟨_, rfl⟩
  rw [← hv18] at R17
  have R20 : ∀ t, Steps p.tables e below (s₁.setTop (mkF m 44 #[.val (.int p1), .val (.int p2), .val (.int p3), .val (.int p4), .val (.int p5), .val (.int v5), .val (.int v12), .val (.int v16), .val (.int v18), .unset, .unset, .unset, .unset] [(.int v12)])) t → Steps p.tables e below (s₁.setTop (entryFrame m #[(.int p1), (.int p2), (.int p3), (.int p4), (.int p5)] maxLocals)) t := by
    intro t kt
    refine R17 _ ?_
    show Steps p.tables e below (s₁.setTop (mkF m 40 #[.val (.int p1), .val (.int p2), .val (.int p3), .val (.int p4), .val (.int p5), .val (.int v5), .val (.int v12), .val (.int v16), .unset, .unset, .unset, .unset, .unset] [(.int v18)])) _
    refine XS.istore X0.here hx rfl (hb hby at_40) rfl (l' := #[.val (.int p1), .val (.int p2), .val (.int p3), .val (.int p4), .val (.int p5), .val (.int v5), .val (.int v12), .val (.int v16), .val (.int v18), .unset, .unset, .unset, .unset]) rfl ?_
    show Steps p.tables e below (s₁.setTop (mkF m 42 #[.val (.int p1), .val (.int p2), .val (.int p3), .val (.int p4), .val (.int p5), .val (.int v5), .val (.int v12), .val (.int v16), .val (.int v18), .unset, .unset, .unset, .unset] [])) _
    refine XS.iload X0.here hx rfl (hb hby at_42) rfl ?_
    exact kt
  by_cases hc19 : v12 = (0 : Int32)
  · have R21 : ∀ t, Steps p.tables e below (s₁.setTop (mkF m 55 #[.val (.int p1), .val (.int p2), .val (.int p3), .val (.int p4), .val (.int p5), .val (.int v5), .val (.int v12), .val (.int v16), .val (.int v18), .unset, .unset, .unset, .unset] [(.int p3), (.int p2), (.int v18)])) t → Steps p.tables e below (s₁.setTop (entryFrame m #[(.int p1), (.int p2), (.int p3), (.int p4), (.int p5)] maxLocals)) t := by
      intro t kt
      refine R20 _ ?_
      show Steps p.tables e below (s₁.setTop (mkF m 44 #[.val (.int p1), .val (.int p2), .val (.int p3), .val (.int p4), .val (.int p5), .val (.int v5), .val (.int v12), .val (.int v16), .val (.int v18), .unset, .unset, .unset, .unset] [(.int v12)])) _
      refine XS.ifYes X0.here hx rfl (pc0 := 44) (pc' := 51) rfl (hb hby at_44) rfl ((if0 _ _).trans (teq hc19).1) (by decide) (by decide) ?_
      show Steps p.tables e below (s₁.setTop (mkF m 51 #[.val (.int p1), .val (.int p2), .val (.int p3), .val (.int p4), .val (.int p5), .val (.int v5), .val (.int v12), .val (.int v16), .val (.int v18), .unset, .unset, .unset, .unset] [])) _
      refine XS.iload X0.here hx rfl (hb hby at_51) rfl ?_
      show Steps p.tables e below (s₁.setTop (mkF m 53 #[.val (.int p1), .val (.int p2), .val (.int p3), .val (.int p4), .val (.int p5), .val (.int v5), .val (.int v12), .val (.int v16), .val (.int v18), .unset, .unset, .unset, .unset] [(.int v18)])) _
      refine XS.iloadN X0.here hx rfl (hb hby at_53) rfl ?_
      show Steps p.tables e below (s₁.setTop (mkF m 54 #[.val (.int p1), .val (.int p2), .val (.int p3), .val (.int p4), .val (.int p5), .val (.int v5), .val (.int v12), .val (.int v16), .val (.int v18), .unset, .unset, .unset, .unset] [(.int p2), (.int v18)])) _
      refine XS.iloadN X0.here hx rfl (hb hby at_54) rfl ?_
      exact kt
    obtain ⟨_, _, ⟨T22, L22, k22, n22⟩, -, X22, hS022, hg22, ⟨Lc22, ⟨hQ22, J22⟩, l22, y22, z22⟩, st22⟩ := callSS X0 hx (y := (⟨"com/example/tardy_snapshot/tardysnapshot/WriteIsDeletePinLaw", "draw", "(III)Ljava/lang/String;"⟩ : MethodName)) hown (mvT hZ (hw _ (List.mem_of_getElem? (i := 0) rfl))) (mvT hZ (hw _ (List.mem_of_getElem? (i := 1) rfl))) (mvT hZ (hw _ (List.mem_of_getElem? (i := 2) rfl))) (mvT hZ (hw _ (List.mem_of_getElem? (i := 3) rfl))) (by decide) (own_backJ (W := 0) (rm1 l Z a0 hw [] v18 p2 p3 G1 h0 n0 Z0 (O2.ext (own_ext (Keep.refl h0 []))) P5 (fun b cl q => (Keep.refl h0 []).2.1 b cl (by rw [← hZh]; exact q) nin0) hheld hcw) hZ (hw _ (List.mem_of_getElem? (i := 3) rfl)) (hw _ (List.mem_of_getElem? (i := 2) rfl)) (by decide) (by decide)) (g := (mkF m 55 #[.val (.int p1), .val (.int p2), .val (.int p3), .val (.int p4), .val (.int p5), .val (.int v5), .val (.int v12), .val (.int v16), .val (.int v18), .unset, .unset, .unset, .unset] [(.int p3), (.int p2), (.int v18)])) rfl (by rw [hml]; rfl) (argsL := [(.int v18), (.int p2), (.int p3)]) (rest := []) (lenOf pd_0_1 rfl) rfl (by show 2 * 0 + _ ≤ _; exact Nat.le_of_eq rfl) (hb hby at_55) (fun _ hW₁ => ⟨rfl, e0, own_J_warm (s := (s.setVm s.vm)) hJ hW₁, (by decide : 0 + 4 ≤ _), (by decide : 0 + 8 ≤ _)⟩)
    dsimp only [Pt.U, Pt.locs, Pt.cells, Pt.slots] at X22 hS022 hg22 J22 l22 y22 z22 st22 hQ22
    subst l22 y22 z22
    obtain ⟨⟨bc22, rfl⟩, N22q, K22⟩ := hQ22
    obtain ⟨X22, hS22, hZ, hown⟩ := rebS ((State.WarmedH.refl s).since 0) (by first | exact (Nat.zero_le _) | (rw [e0]; exact (Nat.zero_le _))) X22 hS022 hg22 hZ hown
    have N22 := Fr.app (Fr.nil n0) N22q
    have KK22 : Keep h0 T22.heap [] := (Keep.refl h0 []).trans K22 (fun _ q => nomatch q)
    have Z22 : n0 ≤ T22.heap.size := Nat.le_trans Z0 K22.1
    replace X22 : Stand p l e room_1 (s.setVm T22.vm) m #[(.int p1), (.int p2), (.int p3), (.int p4), (.int p5)] below meth c T22 L22 4 8 := X22
    have R24 : ∀ t, Steps p.tables e below (T22.setTop (mkF m 62 #[.val (.int p1), .val (.int p2), .val (.int p3), .val (.int p4), .val (.int p5), .val (.int v5), .val (.int v12), .val (.int v16), .val (.int v18), .val (.ref bc22), .unset, .unset, .unset] [(.int v5)])) t → Steps p.tables e below (s₁.setTop (entryFrame m #[(.int p1), (.int p2), (.int p3), (.int p4), (.int p5)] maxLocals)) t := by
      intro t kt
      refine R21 _ ?_
      show Steps p.tables e below (s₁.setTop (mkF m 55 #[.val (.int p1), .val (.int p2), .val (.int p3), .val (.int p4), .val (.int p5), .val (.int v5), .val (.int v12), .val (.int v16), .val (.int v18), .unset, .unset, .unset, .unset] [(.int p3), (.int p2), (.int v18)])) _
      refine st22.trans ?_
      show Steps p.tables e below (T22.setTop (mkF m 58 #[.val (.int p1), .val (.int p2), .val (.int p3), .val (.int p4), .val (.int p5), .val (.int v5), .val (.int v12), .val (.int v16), .val (.int v18), .unset, .unset, .unset, .unset] [(.ref bc22)])) _
      refine XS.astore X22.here hx rfl (hb hby at_58) rfl rfl (l' := #[.val (.int p1), .val (.int p2), .val (.int p3), .val (.int p4), .val (.int p5), .val (.int v5), .val (.int v12), .val (.int v16), .val (.int v18), .val (.ref bc22), .unset, .unset, .unset]) rfl ?_
      show Steps p.tables e below (T22.setTop (mkF m 60 #[.val (.int p1), .val (.int p2), .val (.int p3), .val (.int p4), .val (.int p5), .val (.int v5), .val (.int v12), .val (.int v16), .val (.int v18), .val (.ref bc22), .unset, .unset, .unset] [])) _
      refine XS.iload X22.here hx rfl (hb hby at_60) rfl ?_
      exact kt
    by_cases hc23 : v5 = (0 : Int32)
    · have R25 : ∀ t, Steps p.tables e below (T22.setTop (mkF m 74 #[.val (.int p1), .val (.int p2), .val (.int p3), .val (.int p4), .val (.int p5), .val (.int v5), .val (.int v12), .val (.int v16), .val (.int v18), .val (.ref bc22), .unset, .unset, .unset] [(.int p5), (.int p4), (.int v16)])) t → Steps p.tables e below (s₁.setTop (entryFrame m #[(.int p1), (.int p2), (.int p3), (.int p4), (.int p5)] maxLocals)) t := by
        intro t kt
        refine R24 _ ?_
        show Steps p.tables e below (T22.setTop (mkF m 62 #[.val (.int p1), .val (.int p2), .val (.int p3), .val (.int p4), .val (.int p5), .val (.int v5), .val (.int v12), .val (.int v16), .val (.int v18), .val (.ref bc22), .unset, .unset, .unset] [(.int v5)])) _
        refine XS.ifYes X22.here hx rfl (pc0 := 62) (pc' := 69) rfl (hb hby at_62) rfl ((if0 _ _).trans (teq hc23).1) (by decide) (by decide) ?_
        show Steps p.tables e below (T22.setTop (mkF m 69 #[.val (.int p1), .val (.int p2), .val (.int p3), .val (.int p4), .val (.int p5), .val (.int v5), .val (.int v12), .val (.int v16), .val (.int v18), .val (.ref bc22), .unset, .unset, .unset] [])) _
        refine XS.iload X22.here hx rfl (hb hby at_69) rfl ?_
        show Steps p.tables e below (T22.setTop (mkF m 71 #[.val (.int p1), .val (.int p2), .val (.int p3), .val (.int p4), .val (.int p5), .val (.int v5), .val (.int v12), .val (.int v16), .val (.int v18), .val (.ref bc22), .unset, .unset, .unset] [(.int v16)])) _
        refine XS.iloadN X22.here hx rfl (hb hby at_71) rfl ?_
        show Steps p.tables e below (T22.setTop (mkF m 72 #[.val (.int p1), .val (.int p2), .val (.int p3), .val (.int p4), .val (.int p5), .val (.int v5), .val (.int v12), .val (.int v16), .val (.int v18), .val (.ref bc22), .unset, .unset, .unset] [(.int p4), (.int v16)])) _
        refine XS.iload X22.here hx rfl (hb hby at_72) rfl ?_
        exact kt
      obtain ⟨_, _, ⟨T26, L26, k26, n26⟩, -, X26, hS026, hg26, ⟨Lc26, ⟨hQ26, J26⟩, l26, y26, z26⟩, st26⟩ := callSS X22 hx (y := (⟨"com/example/tardy_snapshot/tardysnapshot/WriteIsDeletePinLaw", "draw", "(III)Ljava/lang/String;"⟩ : MethodName)) hown (mvT hZ (hw _ (List.mem_of_getElem? (i := 0) rfl))) (mvT hZ (hw _ (List.mem_of_getElem? (i := 1) rfl))) (mvT hZ (hw _ (List.mem_of_getElem? (i := 2) rfl))) (mvT hZ (hw _ (List.mem_of_getElem? (i := 3) rfl))) (by decide) (own_backJ (W := 0) (rm1 l Z a0 hw [] v16 p4 p5 G1 T22.heap n0 Z22 (O2.ext (own_ext KK22)) P5 (fun b cl q => KK22.2.1 b cl (by rw [← hZh]; exact q) nin0) hheld hcw) hZ (hw _ (List.mem_of_getElem? (i := 3) rfl)) (hw _ (List.mem_of_getElem? (i := 2) rfl)) (by decide) (by decide)) (g := (mkF m 74 #[.val (.int p1), .val (.int p2), .val (.int p3), .val (.int p4), .val (.int p5), .val (.int v5), .val (.int v12), .val (.int v16), .val (.int v18), .val (.ref bc22), .unset, .unset, .unset] [(.int p5), (.int p4), (.int v16)])) rfl (by rw [hml]; rfl) (argsL := [(.int v16), (.int p4), (.int p5)]) (rest := []) (lenOf pd_0_1 rfl) rfl (by show 2 * 0 + _ ≤ _; exact Nat.le_of_eq rfl) (hb hby at_74) (fun _ hW₁ => ⟨rfl, rfl, own_J_warm (s := (s.setVm T22.vm)) J22 hW₁, (by decide : 4 + 4 ≤ _), (by decide : 8 + 8 ≤ _)⟩)
      dsimp only [Pt.U, Pt.locs, Pt.cells, Pt.slots] at X26 hS026 hg26 J26 l26 y26 z26 st26 hQ26
      subst l26 y26 z26
      obtain ⟨⟨bc26, rfl⟩, N26q, K26⟩ := hQ26
      obtain ⟨X26, hS26, hZ, hown⟩ := rebS hS22 (by first | exact (Nat.le_refl T22.heap.size) | (rw [rfl]; exact (Nat.le_refl T22.heap.size))) X26 hS026 hg26 hZ hown
      have N26 := Fr.app N22 N26q
      have KK26 : Keep h0 T26.heap [] := KK22.trans K26 (fun _ q => nomatch q)
      have Z26 : n0 ≤ T26.heap.size := Nat.le_trans Z22 K26.1
      replace X26 : Stand p l e room_1 (s.setVm T26.vm) m #[(.int p1), (.int p2), (.int p3), (.int p4), (.int p5)] below meth c T26 (L22 ++ Lc26) 8 16 := X26
      obtain ⟨T27, h27, X27, e27, E27, A27, D27, -, st27⟩ := newO X26 hx hZ hown (hw _ (List.mem_of_getElem? (i := 26) rfl)) (hw _ (List.mem_of_getElem? (i := 27) rfl)) (hw _ (List.mem_of_getElem? (i := 28) rfl)) rfl (g := (mkF m 79 #[.val (.int p1), .val (.int p2), .val (.int p3), .val (.int p4), .val (.int p5), .val (.int v5), .val (.int v12), .val (.int v16), .val (.int v18), .val (.ref bc22), .val (.ref bc26), .unset, .unset] [])) rfl (hb hby at_79) (by decide) (by decide)
      obtain ⟨b27, g27⟩ : ∃ z, z = T26.heap.size := ⟨_, rfl⟩
      rw [← g27] at A27 D27 st27
      have Z27 : n0 ≤ h27.size := Nat.le_trans Z26 E27.1
      have gb27 : n0 ≤ b27 := Nat.le_trans Z26 (Nat.le_of_eq g27.symm)
      have F_key_b27 : Fld Z h27 b27 "com/example/tardy_snapshot/tardysnapshot/Write" "key" "Ljava/lang/String;" .null := D27 (Or.inr (hw _ (List.mem_of_getElem? (i := 39) rfl))) (ty := (.object "java/lang/String")) (by decide)
      have F_value_b27 : Fld Z h27 b27 "com/example/tardy_snapshot/tardysnapshot/Write" "value" "Ljava/lang/String;" .null := D27 (Or.inr (hw _ (List.mem_of_getElem? (i := 41) rfl))) (ty := (.object "java/lang/String")) (by decide)
      have sz27 : h0.size ≤ b27 := Nat.le_trans KK26.1 (Nat.le_of_eq g27.symm)
      have KK27 : Keep h0 h27 [] := KK26.ext E27
      replace X27 : Stand p l e room_1 (s.setVm T26.vm) m #[(.int p1), (.int p2), (.int p3), (.int p4), (.int p5)] below meth c T27 (L22 ++ Lc26) 9 18 := X27
      have JJh27 := own_J_ext J26 E27
      obtain ⟨_, _, ⟨T28, L28, k28, n28⟩, -, X28, ⟨Lc28, hQ28, l28, y28, z28⟩, st28⟩ := X27.specialBack hx (y := (⟨"com/example/tardy_snapshot/tardysnapshot/Write", "<init>", "(Ljava/lang/String;Ljava/lang/String;)V"⟩ : MethodName)) rfl hown (mvT hZ (hw _ (List.mem_of_getElem? (i := 29) rfl))) (mvT hZ (hw _ (List.mem_of_getElem? (i := 30) rfl))) (mvT hZ (hw _ (List.mem_of_getElem? (i := 31) rfl))) (by decide) (backOf (W := 1) (rm5 l Z a0 hw [] b27 (.ref bc22) (.ref bc26) .null .null h27 n0 Z27 A27 F_key_b27 gb27 F_value_b27 rfl rfl) hZ (hw _ (List.mem_of_getElem? (i := 31) rfl)) (hw _ (List.mem_of_getElem? (i := 28) rfl)) (by decide) (by decide)) (g := (mkF m 87 #[.val (.int p1), .val (.int p2), .val (.int p3), .val (.int p4), .val (.int p5), .val (.int v5), .val (.int v12), .val (.int v16), .val (.int v18), .val (.ref bc22), .val (.ref bc26), .unset, .unset] [(.ref bc26), (.ref bc22), (.ref b27), (.ref b27)])) rfl (by rw [hml]; rfl) (Steps.refl _) (a := b27) (argsL := [(.ref bc22), (.ref bc26)]) (rest := [(.ref b27)]) (lenOf pd_0_5 rfl) rfl (by show 2 * 0 + _ ≤ _; exact Nat.le_of_eq rfl) (hb hby at_87) (fun _ _ => ⟨rfl, e27, (by decide : 9 + 0 ≤ _), (by decide : 18 + 0 ≤ _)⟩)
      dsimp only [Pt.U, Pt.locs, Pt.cells, Pt.slots] at X28 l28 y28 z28 st28 hQ28
      subst l28 y28 z28
      obtain ⟨rfl, N28q, K28, Ex28, Fv28⟩ := hQ28
      have N28 := Fr.app N26 N28q
      have KK28 : Keep h0 T28.heap [] := KK27.trans K28 (fun x hx => by cases List.mem_singleton.mp hx; exact Or.inr sz27)
      have Z28 : n0 ≤ T28.heap.size := Nat.le_trans Z27 K28.1
      replace X28 : Stand p l e room_1 (s.setVm T26.vm) m #[(.int p1), (.int p2), (.int p3), (.int p4), (.int p5)] below meth c T28 ((L22 ++ Lc26) ++ Lc28) 9 18 := X28
      have JJh28 := own_J_C JJh27 K28 A27 (by decide)
      obtain ⟨cq29, kq29, q29a, q29b, q29c⟩ := isOf hZ rfl Ex28
      obtain ⟨_, _, ⟨T29, L29, k29, n29⟩, -, X29, ⟨Lc29, hQ29, l29, y29, z29⟩, st29⟩ := X28.virtualBack hx (y := (⟨"com/example/tardy_snapshot/tardysnapshot/Write", "isDelete", "()Z"⟩ : MethodName)) (z := (⟨"com/example/tardy_snapshot/tardysnapshot/Write", "isDelete", "()Z"⟩ : MethodName)) hown (mvT hZ (hw _ (List.mem_of_getElem? (i := 42) rfl))) (mvT hZ (hw _ (List.mem_of_getElem? (i := 43) rfl))) (notFace_of_selects (args := #[]) (mvT hZ (hw _ (List.mem_of_getElem? (i := 45) rfl)))) (mvT hZ (hw _ (List.mem_of_getElem? (i := 45) rfl))) (mvT hZ (hw _ (List.mem_of_getElem? (i := 44) rfl))) (by decide) (backOf (W := 0) (rm7 l Z a0 hw [] b27 bc26 T28.heap n0 Z28 Fv28) hZ (hw _ (List.mem_of_getElem? (i := 46) rfl)) (hw _ (List.mem_of_getElem? (i := 28) rfl)) (by decide) (by decide)) q29a q29c (g := (mkF m 94 #[.val (.int p1), .val (.int p2), .val (.int p3), .val (.int p4), .val (.int p5), .val (.int v5), .val (.int v12), .val (.int v16), .val (.int v18), .val (.ref bc22), .val (.ref bc26), .val (.ref b27), .unset] [(.ref b27)])) rfl (by rw [hml]; rfl) (Steps.refl _) (argsL := []) (rest := []) (lenOf pd_0_7 rfl) rfl (by show 2 * 0 + _ ≤ _; exact Nat.le_of_eq rfl) (hb hby at_94) (fun _ _ => ⟨rfl, rfl, (by decide : 9 + 0 ≤ _), (by decide : 18 + 0 ≤ _)⟩)
      dsimp only [Pt.U, Pt.locs, Pt.cells, Pt.slots] at X29 l29 y29 z29 st29 hQ29
      subst l29 y29 z29
      obtain ⟨rfl, rfl, e29⟩ := hQ29
      rw [List.append_nil] at X29
      replace X29 : Stand p l e room_1 (s.setVm T26.vm) m #[(.int p1), (.int p2), (.int p3), (.int p4), (.int p5)] below meth c T29 ((L22 ++ Lc26) ++ Lc28) 9 18 := X29
      obtain ⟨_, _, ⟨T30, L30, k30, n30⟩, -, X30, ⟨Lc30, hQ30, l30, y30, z30⟩, st30⟩ := Jvm.LawKit.callS X29 hx (y := (⟨"com/example/tardy_snapshot/tardysnapshot/Write", "delete", "(Ljava/lang/String;)Lcom/example/tardy_snapshot/tardysnapshot/Write;"⟩ : MethodName)) hown (mvT hZ (hw _ (List.mem_of_getElem? (i := 47) rfl))) (mvT hZ (hw _ (List.mem_of_getElem? (i := 48) rfl))) (mvT hZ (hw _ (List.mem_of_getElem? (i := 28) rfl))) (mvT hZ (hw _ (List.mem_of_getElem? (i := 49) rfl))) (by decide) (backOf (W := 0) (rm8 l Z a0 hw [] (.ref bc22) T28.heap n0 Z28 rfl) hZ (hw _ (List.mem_of_getElem? (i := 49) rfl)) (hw _ (List.mem_of_getElem? (i := 28) rfl)) (by decide) (by decide)) (g := (mkF m 116 #[.val (.int p1), .val (.int p2), .val (.int p3), .val (.int p4), .val (.int p5), .val (.int v5), .val (.int v12), .val (.int v16), .val (.int v18), .val (.ref bc22), .val (.ref bc26), .val (.ref b27), .val (.int (1 : Int32))] [(.ref bc22)])) rfl (by rw [hml]; rfl) (argsL := [(.ref bc22)]) (rest := []) (lenOf pd_0_8 rfl) rfl (by show 2 * 0 + _ ≤ _; exact Nat.le_of_eq rfl) (hb hby at_116) (fun _ _ => ⟨rfl, e29, (by decide : 9 + 1 ≤ _), (by decide : 18 + 2 ≤ _)⟩)
      dsimp only [Pt.U, Pt.locs, Pt.cells, Pt.slots] at X30 l30 y30 z30 st30 hQ30
      subst l30 y30 z30
      obtain ⟨bw30, rfl, N30q, K30, Ex30, Fv30⟩ := hQ30
      have N30 := Fr.app N28 N30q
      have KK30 : Keep h0 T30.heap [] := KK28.trans K30 (fun _ q => nomatch q)
      have Z30 : n0 ≤ T30.heap.size := Nat.le_trans Z28 K30.1
      replace X30 : Stand p l e room_1 (s.setVm T26.vm) m #[(.int p1), (.int p2), (.int p3), (.int p4), (.int p5)] below meth c T30 (((L22 ++ Lc26) ++ Lc28) ++ Lc30) 10 20 := X30
      have JJh30 := own_J_keep JJh28 K30
      obtain ⟨cq31, kq31, q31a, q31b, q31c⟩ := isOf hZ rfl Ex30
      obtain ⟨_, _, ⟨T31, L31, k31, n31⟩, -, X31, ⟨Lc31, hQ31, l31, y31, z31⟩, st31⟩ := X30.virtualBack hx (y := (⟨"com/example/tardy_snapshot/tardysnapshot/Write", "isDelete", "()Z"⟩ : MethodName)) (z := (⟨"com/example/tardy_snapshot/tardysnapshot/Write", "isDelete", "()Z"⟩ : MethodName)) hown (mvT hZ (hw _ (List.mem_of_getElem? (i := 42) rfl))) (mvT hZ (hw _ (List.mem_of_getElem? (i := 43) rfl))) (notFace_of_selects (args := #[]) (mvT hZ (hw _ (List.mem_of_getElem? (i := 45) rfl)))) (mvT hZ (hw _ (List.mem_of_getElem? (i := 45) rfl))) (mvT hZ (hw _ (List.mem_of_getElem? (i := 44) rfl))) (by decide) (backOf (W := 0) (rm7N l Z a0 hw [] bw30 T30.heap n0 Z30 Fv30) hZ (hw _ (List.mem_of_getElem? (i := 46) rfl)) (hw _ (List.mem_of_getElem? (i := 28) rfl)) (by decide) (by decide)) q31a q31c (g := (mkF m 119 #[.val (.int p1), .val (.int p2), .val (.int p3), .val (.int p4), .val (.int p5), .val (.int v5), .val (.int v12), .val (.int v16), .val (.int v18), .val (.ref bc22), .val (.ref bc26), .val (.ref b27), .val (.int (1 : Int32))] [(.ref bw30)])) rfl (by rw [hml]; rfl) (Steps.refl _) (argsL := []) (rest := []) (lenOf pd_0_7 rfl) rfl (by show 2 * 0 + _ ≤ _; exact Nat.le_of_eq rfl) (hb hby at_119) (fun _ _ => ⟨rfl, rfl, (by decide : 10 + 0 ≤ _), (by decide : 20 + 0 ≤ _)⟩)
      dsimp only [Pt.U, Pt.locs, Pt.cells, Pt.slots] at X31 l31 y31 z31 st31 hQ31
      subst l31 y31 z31
      obtain ⟨rfl, rfl, e31⟩ := hQ31
      rw [List.append_nil] at X31
      replace X31 : Stand p l e room_1 (s.setVm T26.vm) m #[(.int p1), (.int p2), (.int p3), (.int p4), (.int p5)] below meth c T31 (((L22 ++ Lc26) ++ Lc28) ++ Lc30) 10 20 := X31
      have R32 : ∀ t, Steps p.tables e below (T31.setTop (mkF m 144 #[.val (.int p1), .val (.int p2), .val (.int p3), .val (.int p4), .val (.int p5), .val (.int v5), .val (.int v12), .val (.int v16), .val (.int v18), .val (.ref bc22), .val (.ref bc26), .val (.ref b27), .val (.int (1 : Int32))] [(.int p5), (.int p4), (.int v16), (.ref bc22)])) t → Steps p.tables e below (s₁.setTop (entryFrame m #[(.int p1), (.int p2), (.int p3), (.int p4), (.int p5)] maxLocals)) t := by
        intro t kt
        refine R25 _ ?_
        show Steps p.tables e below (T22.setTop (mkF m 74 #[.val (.int p1), .val (.int p2), .val (.int p3), .val (.int p4), .val (.int p5), .val (.int v5), .val (.int v12), .val (.int v16), .val (.int v18), .val (.ref bc22), .unset, .unset, .unset] [(.int p5), (.int p4), (.int v16)])) _
        refine st26.trans ?_
        show Steps p.tables e below (T26.setTop (mkF m 77 #[.val (.int p1), .val (.int p2), .val (.int p3), .val (.int p4), .val (.int p5), .val (.int v5), .val (.int v12), .val (.int v16), .val (.int v18), .val (.ref bc22), .unset, .unset, .unset] [(.ref bc26)])) _
        refine XS.astore X26.here hx rfl (hb hby at_77) rfl rfl (l' := #[.val (.int p1), .val (.int p2), .val (.int p3), .val (.int p4), .val (.int p5), .val (.int v5), .val (.int v12), .val (.int v16), .val (.int v18), .val (.ref bc22), .val (.ref bc26), .unset, .unset]) rfl ?_
        show Steps p.tables e below (T26.setTop (mkF m 79 #[.val (.int p1), .val (.int p2), .val (.int p3), .val (.int p4), .val (.int p5), .val (.int v5), .val (.int v12), .val (.int v16), .val (.int v18), .val (.ref bc22), .val (.ref bc26), .unset, .unset] [])) _
        refine st27 _ ?_
        show Steps p.tables e below (T27.setTop (mkF m 82 #[.val (.int p1), .val (.int p2), .val (.int p3), .val (.int p4), .val (.int p5), .val (.int v5), .val (.int v12), .val (.int v16), .val (.int v18), .val (.ref bc22), .val (.ref bc26), .unset, .unset] [(.ref b27)])) _
        refine XS.dup X27.here hx rfl (hb hby at_82) rfl rfl ?_
        show Steps p.tables e below (T27.setTop (mkF m 83 #[.val (.int p1), .val (.int p2), .val (.int p3), .val (.int p4), .val (.int p5), .val (.int v5), .val (.int v12), .val (.int v16), .val (.int v18), .val (.ref bc22), .val (.ref bc26), .unset, .unset] [(.ref b27), (.ref b27)])) _
        refine XS.aload X27.here hx rfl (hb hby at_83) rfl rfl ?_
        show Steps p.tables e below (T27.setTop (mkF m 85 #[.val (.int p1), .val (.int p2), .val (.int p3), .val (.int p4), .val (.int p5), .val (.int v5), .val (.int v12), .val (.int v16), .val (.int v18), .val (.ref bc22), .val (.ref bc26), .unset, .unset] [(.ref bc22), (.ref b27), (.ref b27)])) _
        refine XS.aload X27.here hx rfl (hb hby at_85) rfl rfl ?_
        show Steps p.tables e below (T27.setTop (mkF m 87 #[.val (.int p1), .val (.int p2), .val (.int p3), .val (.int p4), .val (.int p5), .val (.int v5), .val (.int v12), .val (.int v16), .val (.int v18), .val (.ref bc22), .val (.ref bc26), .unset, .unset] [(.ref bc26), (.ref bc22), (.ref b27), (.ref b27)])) _
        refine st28.trans ?_
        show Steps p.tables e below (T28.setTop (mkF m 90 #[.val (.int p1), .val (.int p2), .val (.int p3), .val (.int p4), .val (.int p5), .val (.int v5), .val (.int v12), .val (.int v16), .val (.int v18), .val (.ref bc22), .val (.ref bc26), .unset, .unset] [(.ref b27)])) _
        refine XS.astore X28.here hx rfl (hb hby at_90) rfl rfl (l' := #[.val (.int p1), .val (.int p2), .val (.int p3), .val (.int p4), .val (.int p5), .val (.int v5), .val (.int v12), .val (.int v16), .val (.int v18), .val (.ref bc22), .val (.ref bc26), .val (.ref b27), .unset]) rfl ?_
        show Steps p.tables e below (T28.setTop (mkF m 92 #[.val (.int p1), .val (.int p2), .val (.int p3), .val (.int p4), .val (.int p5), .val (.int v5), .val (.int v12), .val (.int v16), .val (.int v18), .val (.ref bc22), .val (.ref bc26), .val (.ref b27), .unset] [])) _
        refine XS.aload X28.here hx rfl (hb hby at_92) rfl rfl ?_
        show Steps p.tables e below (T28.setTop (mkF m 94 #[.val (.int p1), .val (.int p2), .val (.int p3), .val (.int p4), .val (.int p5), .val (.int v5), .val (.int v12), .val (.int v16), .val (.int v18), .val (.ref bc22), .val (.ref bc26), .val (.ref b27), .unset] [(.ref b27)])) _
        refine st29.trans ?_
        show Steps p.tables e below (T29.setTop (mkF m 97 #[.val (.int p1), .val (.int p2), .val (.int p3), .val (.int p4), .val (.int p5), .val (.int v5), .val (.int v12), .val (.int v16), .val (.int v18), .val (.ref bc22), .val (.ref bc26), .val (.ref b27), .unset] [(.int (0 : Int32))])) _
        refine XS.iload X29.here hx rfl (hb hby at_97) rfl ?_
        show Steps p.tables e below (T29.setTop (mkF m 99 #[.val (.int p1), .val (.int p2), .val (.int p3), .val (.int p4), .val (.int p5), .val (.int v5), .val (.int v12), .val (.int v16), .val (.int v18), .val (.ref bc22), .val (.ref bc26), .val (.ref b27), .unset] [(.int v5), (.int (0 : Int32))])) _
        refine XS.icmpNo X29.here hx rfl (hb hby at_99) rfl (teq (Eq.symm hc23)).2 ?_
        show Steps p.tables e below (T29.setTop (mkF m 102 #[.val (.int p1), .val (.int p2), .val (.int p3), .val (.int p4), .val (.int p5), .val (.int v5), .val (.int v12), .val (.int v16), .val (.int v18), .val (.ref bc22), .val (.ref bc26), .val (.ref b27), .unset] [])) _
        refine XS.iconst X29.here hx rfl (hb hby at_102) ?_
        show Steps p.tables e below (T29.setTop (mkF m 103 #[.val (.int p1), .val (.int p2), .val (.int p3), .val (.int p4), .val (.int p5), .val (.int v5), .val (.int v12), .val (.int v16), .val (.int v18), .val (.ref bc22), .val (.ref bc26), .val (.ref b27), .unset] [(.int (1 : Int32))])) _
        refine XS.goto X29.here hx rfl (pc0 := 103) (pc' := 107) rfl (hb hby at_103) (by decide) (by decide) ?_
        show Steps p.tables e below (T29.setTop (mkF m 107 #[.val (.int p1), .val (.int p2), .val (.int p3), .val (.int p4), .val (.int p5), .val (.int v5), .val (.int v12), .val (.int v16), .val (.int v18), .val (.ref bc22), .val (.ref bc26), .val (.ref b27), .unset] [(.int (1 : Int32))])) _
        refine XS.istore X29.here hx rfl (hb hby at_107) rfl (l' := #[.val (.int p1), .val (.int p2), .val (.int p3), .val (.int p4), .val (.int p5), .val (.int v5), .val (.int v12), .val (.int v16), .val (.int v18), .val (.ref bc22), .val (.ref bc26), .val (.ref b27), .val (.int (1 : Int32))]) rfl ?_
        show Steps p.tables e below (T29.setTop (mkF m 109 #[.val (.int p1), .val (.int p2), .val (.int p3), .val (.int p4), .val (.int p5), .val (.int v5), .val (.int v12), .val (.int v16), .val (.int v18), .val (.ref bc22), .val (.ref bc26), .val (.ref b27), .val (.int (1 : Int32))] [])) _
        refine XS.iload X29.here hx rfl (hb hby at_109) rfl ?_
        show Steps p.tables e below (T29.setTop (mkF m 111 #[.val (.int p1), .val (.int p2), .val (.int p3), .val (.int p4), .val (.int p5), .val (.int v5), .val (.int v12), .val (.int v16), .val (.int v18), .val (.ref bc22), .val (.ref bc26), .val (.ref b27), .val (.int (1 : Int32))] [(.int (1 : Int32))])) _
        refine XS.ifNo X29.here hx rfl (hb hby at_111) rfl ((if0 _ _).trans (feq (by decide : ¬ ((1 : Int32) = (0 : Int32)))).1) ?_
        show Steps p.tables e below (T29.setTop (mkF m 114 #[.val (.int p1), .val (.int p2), .val (.int p3), .val (.int p4), .val (.int p5), .val (.int v5), .val (.int v12), .val (.int v16), .val (.int v18), .val (.ref bc22), .val (.ref bc26), .val (.ref b27), .val (.int (1 : Int32))] [])) _
        refine XS.aload X29.here hx rfl (hb hby at_114) rfl rfl ?_
        show Steps p.tables e below (T29.setTop (mkF m 116 #[.val (.int p1), .val (.int p2), .val (.int p3), .val (.int p4), .val (.int p5), .val (.int v5), .val (.int v12), .val (.int v16), .val (.int v18), .val (.ref bc22), .val (.ref bc26), .val (.ref b27), .val (.int (1 : Int32))] [(.ref bc22)])) _
        refine st30 _ ?_
        show Steps p.tables e below (T30.setTop (mkF m 119 #[.val (.int p1), .val (.int p2), .val (.int p3), .val (.int p4), .val (.int p5), .val (.int v5), .val (.int v12), .val (.int v16), .val (.int v18), .val (.ref bc22), .val (.ref bc26), .val (.ref b27), .val (.int (1 : Int32))] [(.ref bw30)])) _
        refine st31.trans ?_
        show Steps p.tables e below (T31.setTop (mkF m 122 #[.val (.int p1), .val (.int p2), .val (.int p3), .val (.int p4), .val (.int p5), .val (.int v5), .val (.int v12), .val (.int v16), .val (.int v18), .val (.ref bc22), .val (.ref bc26), .val (.ref b27), .val (.int (1 : Int32))] [(.int (1 : Int32))])) _
        refine XS.ifNo X31.here hx rfl (hb hby at_122) rfl ((if0 _ _).trans (feq (by decide : ¬ ((1 : Int32) = (0 : Int32)))).1) ?_
        show Steps p.tables e below (T31.setTop (mkF m 125 #[.val (.int p1), .val (.int p2), .val (.int p3), .val (.int p4), .val (.int p5), .val (.int v5), .val (.int v12), .val (.int v16), .val (.int v18), .val (.ref bc22), .val (.ref bc26), .val (.ref b27), .val (.int (1 : Int32))] [])) _
        refine XS.iconst X31.here hx rfl (hb hby at_125) ?_
        show Steps p.tables e below (T31.setTop (mkF m 126 #[.val (.int p1), .val (.int p2), .val (.int p3), .val (.int p4), .val (.int p5), .val (.int v5), .val (.int v12), .val (.int v16), .val (.int v18), .val (.ref bc22), .val (.ref bc26), .val (.ref b27), .val (.int (1 : Int32))] [(.int (1 : Int32))])) _
        refine XS.goto X31.here hx rfl (pc0 := 126) (pc' := 130) rfl (hb hby at_126) (by decide) (by decide) ?_
        show Steps p.tables e below (T31.setTop (mkF m 130 #[.val (.int p1), .val (.int p2), .val (.int p3), .val (.int p4), .val (.int p5), .val (.int v5), .val (.int v12), .val (.int v16), .val (.int v18), .val (.ref bc22), .val (.ref bc26), .val (.ref b27), .val (.int (1 : Int32))] [(.int (1 : Int32))])) _
        refine XS.istore X31.here hx rfl (hb hby at_130) rfl (l' := #[.val (.int p1), .val (.int p2), .val (.int p3), .val (.int p4), .val (.int p5), .val (.int v5), .val (.int v12), .val (.int v16), .val (.int v18), .val (.ref bc22), .val (.ref bc26), .val (.ref b27), .val (.int (1 : Int32))]) rfl ?_
        show Steps p.tables e below (T31.setTop (mkF m 132 #[.val (.int p1), .val (.int p2), .val (.int p3), .val (.int p4), .val (.int p5), .val (.int v5), .val (.int v12), .val (.int v16), .val (.int v18), .val (.ref bc22), .val (.ref bc26), .val (.ref b27), .val (.int (1 : Int32))] [])) _
        refine XS.iload X31.here hx rfl (hb hby at_132) rfl ?_
        show Steps p.tables e below (T31.setTop (mkF m 134 #[.val (.int p1), .val (.int p2), .val (.int p3), .val (.int p4), .val (.int p5), .val (.int v5), .val (.int v12), .val (.int v16), .val (.int v18), .val (.ref bc22), .val (.ref bc26), .val (.ref b27), .val (.int (1 : Int32))] [(.int (1 : Int32))])) _
        refine XS.ifNo X31.here hx rfl (hb hby at_134) rfl ((if0 _ _).trans (feq (by decide : ¬ ((1 : Int32) = (0 : Int32)))).1) ?_
        show Steps p.tables e below (T31.setTop (mkF m 137 #[.val (.int p1), .val (.int p2), .val (.int p3), .val (.int p4), .val (.int p5), .val (.int v5), .val (.int v12), .val (.int v16), .val (.int v18), .val (.ref bc22), .val (.ref bc26), .val (.ref b27), .val (.int (1 : Int32))] [])) _
        refine XS.aload X31.here hx rfl (hb hby at_137) rfl rfl ?_
        show Steps p.tables e below (T31.setTop (mkF m 139 #[.val (.int p1), .val (.int p2), .val (.int p3), .val (.int p4), .val (.int p5), .val (.int v5), .val (.int v12), .val (.int v16), .val (.int v18), .val (.ref bc22), .val (.ref bc26), .val (.ref b27), .val (.int (1 : Int32))] [(.ref bc22)])) _
        refine XS.iload X31.here hx rfl (hb hby at_139) rfl ?_
        show Steps p.tables e below (T31.setTop (mkF m 141 #[.val (.int p1), .val (.int p2), .val (.int p3), .val (.int p4), .val (.int p5), .val (.int v5), .val (.int v12), .val (.int v16), .val (.int v18), .val (.ref bc22), .val (.ref bc26), .val (.ref b27), .val (.int (1 : Int32))] [(.int v16), (.ref bc22)])) _
        refine XS.iloadN X31.here hx rfl (hb hby at_141) rfl ?_
        show Steps p.tables e below (T31.setTop (mkF m 142 #[.val (.int p1), .val (.int p2), .val (.int p3), .val (.int p4), .val (.int p5), .val (.int v5), .val (.int v12), .val (.int v16), .val (.int v18), .val (.ref bc22), .val (.ref bc26), .val (.ref b27), .val (.int (1 : Int32))] [(.int p4), (.int v16), (.ref bc22)])) _
        refine XS.iload X31.here hx rfl (hb hby at_142) rfl ?_
        exact kt
      obtain ⟨_, _, ⟨T33, L33, k33, n33⟩, -, X33, hS033, hg33, ⟨Lc33, ⟨hQ33, J33⟩, l33, y33, z33⟩, st33⟩ := callSS X31 hx (y := (⟨"com/example/tardy_snapshot/tardysnapshot/WriteIsDeletePinLaw", "draw", "(III)Ljava/lang/String;"⟩ : MethodName)) hown (mvT hZ (hw _ (List.mem_of_getElem? (i := 0) rfl))) (mvT hZ (hw _ (List.mem_of_getElem? (i := 1) rfl))) (mvT hZ (hw _ (List.mem_of_getElem? (i := 2) rfl))) (mvT hZ (hw _ (List.mem_of_getElem? (i := 3) rfl))) (by decide) (own_backJ (W := 1) (rm1 l Z a0 hw [] v16 p4 p5 G1 T30.heap n0 Z30 (O2.ext (own_ext KK30)) P5 (fun b cl q => KK30.2.1 b cl (by rw [← hZh]; exact q) nin0) hheld hcw) hZ (hw _ (List.mem_of_getElem? (i := 3) rfl)) (hw _ (List.mem_of_getElem? (i := 2) rfl)) (by decide) (by decide)) (g := (mkF m 144 #[.val (.int p1), .val (.int p2), .val (.int p3), .val (.int p4), .val (.int p5), .val (.int v5), .val (.int v12), .val (.int v16), .val (.int v18), .val (.ref bc22), .val (.ref bc26), .val (.ref b27), .val (.int (1 : Int32))] [(.int p5), (.int p4), (.int v16), (.ref bc22)])) rfl (by rw [hml]; rfl) (argsL := [(.int v16), (.int p4), (.int p5)]) (rest := [(.ref bc22)]) (lenOf pd_0_1 rfl) rfl (by show 2 * 0 + _ ≤ _; exact Nat.le_of_eq rfl) (hb hby at_144) (fun _ hW₁ => ⟨rfl, e31, own_J_warm (s := (s.setVm T26.vm)) JJh30 hW₁, (by decide : 10 + 4 ≤ _), (by decide : 20 + 8 ≤ _)⟩)
      dsimp only [Pt.U, Pt.locs, Pt.cells, Pt.slots] at X33 hS033 hg33 J33 l33 y33 z33 st33 hQ33
      subst l33 y33 z33
      obtain ⟨⟨bc33, rfl⟩, N33q, K33⟩ := hQ33
      obtain ⟨X33, hS33, hZ, hown⟩ := rebS hS26 (by first | exact (Nat.le_trans (Nat.le_trans (Nat.le_trans (Nat.le_refl T26.heap.size) E27.1) K28.1) K30.1) | (rw [e31]; exact (Nat.le_trans (Nat.le_trans (Nat.le_trans (Nat.le_refl T26.heap.size) E27.1) K28.1) K30.1))) X33 hS033 hg33 hZ hown
      have N33 := Fr.app N30 N33q
      have KK33 : Keep h0 T33.heap [] := KK30.trans K33 (fun _ q => nomatch q)
      have Z33 : n0 ≤ T33.heap.size := Nat.le_trans Z30 K33.1
      replace X33 : Stand p l e room_1 (s.setVm T33.vm) m #[(.int p1), (.int p2), (.int p3), (.int p4), (.int p5)] below meth c T33 ((((L22 ++ Lc26) ++ Lc28) ++ Lc30) ++ Lc33) 14 28 := X33
      obtain ⟨_, _, ⟨T34, L34, k34, n34⟩, -, X34, ⟨Lc34, hQ34, l34, y34, z34⟩, st34⟩ := Jvm.LawKit.callS X33 hx (y := (⟨"com/example/tardy_snapshot/tardysnapshot/Write", "put", "(Ljava/lang/String;Ljava/lang/String;)Lcom/example/tardy_snapshot/tardysnapshot/Write;"⟩ : MethodName)) hown (mvT hZ (hw _ (List.mem_of_getElem? (i := 52) rfl))) (mvT hZ (hw _ (List.mem_of_getElem? (i := 53) rfl))) (mvT hZ (hw _ (List.mem_of_getElem? (i := 28) rfl))) (mvT hZ (hw _ (List.mem_of_getElem? (i := 54) rfl))) (by decide) (backOf (W := 0) (rm9 l Z a0 hw [] (.ref bc22) bc33 T33.heap n0 Z33 rfl) hZ (hw _ (List.mem_of_getElem? (i := 54) rfl)) (hw _ (List.mem_of_getElem? (i := 28) rfl)) (by decide) (by decide)) (g := (mkF m 147 #[.val (.int p1), .val (.int p2), .val (.int p3), .val (.int p4), .val (.int p5), .val (.int v5), .val (.int v12), .val (.int v16), .val (.int v18), .val (.ref bc22), .val (.ref bc26), .val (.ref b27), .val (.int (1 : Int32))] [(.ref bc33), (.ref bc22)])) rfl (by rw [hml]; rfl) (argsL := [(.ref bc22), (.ref bc33)]) (rest := []) (lenOf pd_0_9 rfl) rfl (by show 2 * 0 + _ ≤ _; exact Nat.le_of_eq rfl) (hb hby at_147) (fun _ _ => ⟨rfl, rfl, (by decide : 14 + 1 ≤ _), (by decide : 28 + 2 ≤ _)⟩)
      dsimp only [Pt.U, Pt.locs, Pt.cells, Pt.slots] at X34 l34 y34 z34 st34 hQ34
      subst l34 y34 z34
      obtain ⟨bw34, rfl, N34q, K34, Ex34, Fv34⟩ := hQ34
      have N34 := Fr.app N33 N34q
      have KK34 : Keep h0 T34.heap [] := KK33.trans K34 (fun _ q => nomatch q)
      have Z34 : n0 ≤ T34.heap.size := Nat.le_trans Z33 K34.1
      replace X34 : Stand p l e room_1 (s.setVm T33.vm) m #[(.int p1), (.int p2), (.int p3), (.int p4), (.int p5)] below meth c T34 (((((L22 ++ Lc26) ++ Lc28) ++ Lc30) ++ Lc33) ++ Lc34) 15 30 := X34
      have JJh34 := own_J_keep J33 K34
      obtain ⟨cq35, kq35, q35a, q35b, q35c⟩ := isOf hZ rfl Ex34
      obtain ⟨_, _, ⟨T35, L35, k35, n35⟩, -, X35, ⟨Lc35, hQ35, l35, y35, z35⟩, st35⟩ := X34.virtualBack hx (y := (⟨"com/example/tardy_snapshot/tardysnapshot/Write", "isDelete", "()Z"⟩ : MethodName)) (z := (⟨"com/example/tardy_snapshot/tardysnapshot/Write", "isDelete", "()Z"⟩ : MethodName)) hown (mvT hZ (hw _ (List.mem_of_getElem? (i := 42) rfl))) (mvT hZ (hw _ (List.mem_of_getElem? (i := 43) rfl))) (notFace_of_selects (args := #[]) (mvT hZ (hw _ (List.mem_of_getElem? (i := 45) rfl)))) (mvT hZ (hw _ (List.mem_of_getElem? (i := 45) rfl))) (mvT hZ (hw _ (List.mem_of_getElem? (i := 44) rfl))) (by decide) (backOf (W := 0) (rm7 l Z a0 hw [] bw34 bc33 T34.heap n0 Z34 Fv34) hZ (hw _ (List.mem_of_getElem? (i := 46) rfl)) (hw _ (List.mem_of_getElem? (i := 28) rfl)) (by decide) (by decide)) q35a q35c (g := (mkF m 150 #[.val (.int p1), .val (.int p2), .val (.int p3), .val (.int p4), .val (.int p5), .val (.int v5), .val (.int v12), .val (.int v16), .val (.int v18), .val (.ref bc22), .val (.ref bc26), .val (.ref b27), .val (.int (1 : Int32))] [(.ref bw34)])) rfl (by rw [hml]; rfl) (Steps.refl _) (argsL := []) (rest := []) (lenOf pd_0_7 rfl) rfl (by show 2 * 0 + _ ≤ _; exact Nat.le_of_eq rfl) (hb hby at_150) (fun _ _ => ⟨rfl, rfl, (by decide : 15 + 0 ≤ _), (by decide : 30 + 0 ≤ _)⟩)
      dsimp only [Pt.U, Pt.locs, Pt.cells, Pt.slots] at X35 l35 y35 z35 st35 hQ35
      subst l35 y35 z35
      obtain ⟨rfl, rfl, e35⟩ := hQ35
      rw [List.append_nil] at X35
      replace X35 : Stand p l e room_1 (s.setVm T33.vm) m #[(.int p1), (.int p2), (.int p3), (.int p4), (.int p5)] below meth c T35 (((((L22 ++ Lc26) ++ Lc28) ++ Lc30) ++ Lc33) ++ Lc34) 15 30 := X35
      have R36 : ∀ t, Steps p.tables e below (T35.setTop (mkF m 165 #[.val (.int p1), .val (.int p2), .val (.int p3), .val (.int p4), .val (.int p5), .val (.int v5), .val (.int v12), .val (.int v16), .val (.int v18), .val (.ref bc22), .val (.ref bc26), .val (.ref b27), .val (.int (1 : Int32))] [(.int (1 : Int32))])) t → Steps p.tables e below (s₁.setTop (entryFrame m #[(.int p1), (.int p2), (.int p3), (.int p4), (.int p5)] maxLocals)) t := by
        intro t kt
        refine R32 _ ?_
        show Steps p.tables e below (T31.setTop (mkF m 144 #[.val (.int p1), .val (.int p2), .val (.int p3), .val (.int p4), .val (.int p5), .val (.int v5), .val (.int v12), .val (.int v16), .val (.int v18), .val (.ref bc22), .val (.ref bc26), .val (.ref b27), .val (.int (1 : Int32))] [(.int p5), (.int p4), (.int v16), (.ref bc22)])) _
        refine st33.trans ?_
        show Steps p.tables e below (T33.setTop (mkF m 147 #[.val (.int p1), .val (.int p2), .val (.int p3), .val (.int p4), .val (.int p5), .val (.int v5), .val (.int v12), .val (.int v16), .val (.int v18), .val (.ref bc22), .val (.ref bc26), .val (.ref b27), .val (.int (1 : Int32))] [(.ref bc33), (.ref bc22)])) _
        refine st34 _ ?_
        show Steps p.tables e below (T34.setTop (mkF m 150 #[.val (.int p1), .val (.int p2), .val (.int p3), .val (.int p4), .val (.int p5), .val (.int v5), .val (.int v12), .val (.int v16), .val (.int v18), .val (.ref bc22), .val (.ref bc26), .val (.ref b27), .val (.int (1 : Int32))] [(.ref bw34)])) _
        refine st35.trans ?_
        show Steps p.tables e below (T35.setTop (mkF m 153 #[.val (.int p1), .val (.int p2), .val (.int p3), .val (.int p4), .val (.int p5), .val (.int v5), .val (.int v12), .val (.int v16), .val (.int v18), .val (.ref bc22), .val (.ref bc26), .val (.ref b27), .val (.int (1 : Int32))] [(.int (0 : Int32))])) _
        refine XS.ifNo X35.here hx rfl (hb hby at_153) rfl ((if0 _ _).trans (teq (by decide : (0 : Int32) = (0 : Int32))).2) ?_
        show Steps p.tables e below (T35.setTop (mkF m 156 #[.val (.int p1), .val (.int p2), .val (.int p3), .val (.int p4), .val (.int p5), .val (.int v5), .val (.int v12), .val (.int v16), .val (.int v18), .val (.ref bc22), .val (.ref bc26), .val (.ref b27), .val (.int (1 : Int32))] [])) _
        refine XS.iconst X35.here hx rfl (hb hby at_156) ?_
        show Steps p.tables e below (T35.setTop (mkF m 157 #[.val (.int p1), .val (.int p2), .val (.int p3), .val (.int p4), .val (.int p5), .val (.int v5), .val (.int v12), .val (.int v16), .val (.int v18), .val (.ref bc22), .val (.ref bc26), .val (.ref b27), .val (.int (1 : Int32))] [(.int (1 : Int32))])) _
        refine XS.goto X35.here hx rfl (pc0 := 157) (pc' := 161) rfl (hb hby at_157) (by decide) (by decide) ?_
        show Steps p.tables e below (T35.setTop (mkF m 161 #[.val (.int p1), .val (.int p2), .val (.int p3), .val (.int p4), .val (.int p5), .val (.int v5), .val (.int v12), .val (.int v16), .val (.int v18), .val (.ref bc22), .val (.ref bc26), .val (.ref b27), .val (.int (1 : Int32))] [(.int (1 : Int32))])) _
        refine XS.istore X35.here hx rfl (hb hby at_161) rfl (l' := #[.val (.int p1), .val (.int p2), .val (.int p3), .val (.int p4), .val (.int p5), .val (.int v5), .val (.int v12), .val (.int v16), .val (.int v18), .val (.ref bc22), .val (.ref bc26), .val (.ref b27), .val (.int (1 : Int32))]) rfl ?_
        show Steps p.tables e below (T35.setTop (mkF m 163 #[.val (.int p1), .val (.int p2), .val (.int p3), .val (.int p4), .val (.int p5), .val (.int v5), .val (.int v12), .val (.int v16), .val (.int v18), .val (.ref bc22), .val (.ref bc26), .val (.ref b27), .val (.int (1 : Int32))] [])) _
        refine XS.iload X35.here hx rfl (hb hby at_163) rfl ?_
        exact kt
      obtain ⟨fs, hr, hrun, hended, w1, w2, w3, w4⟩ := Stand.leaveW (s := s) X35 hS33 (by first | exact (Nat.le_trans (Nat.le_refl T33.heap.size) K34.1) | (rw [e35]; exact (Nat.le_trans (Nat.le_refl T33.heap.size) K34.1))) (v := some (.int (1 : Int32))) (fun h => by rw [Bd.returns] at h; cases h)
      refine ⟨_, _, R36 _ ?_, hrun, hended, _, _, rfl, ?_, w1, w2, w3, w4.mono (by decide) (by decide)⟩
      · show Steps p.tables e below (T35.setTop (mkF m 165 #[.val (.int p1), .val (.int p2), .val (.int p3), .val (.int p4), .val (.int p5), .val (.int v5), .val (.int v12), .val (.int v16), .val (.int v18), .val (.ref bc22), .val (.ref bc26), .val (.ref b27), .val (.int (1 : Int32))] [(.int (1 : Int32))])) _
        exact retN X35 hx (t := .boolean) Bd.returns (by simp) (hb hby at_165) hr
      · show Q0 Z p1 p2 p3 p4 p5 G1 h0 n0 _ T35.heap _
        rw [e35]
        exact ⟨rfl, N34⟩
    · obtain ⟨T37, h37, X37, e37, E37, A37, D37, -, st37⟩ := newO X22 hx hZ hown (hw _ (List.mem_of_getElem? (i := 26) rfl)) (hw _ (List.mem_of_getElem? (i := 27) rfl)) (hw _ (List.mem_of_getElem? (i := 28) rfl)) rfl (g := (mkF m 79 #[.val (.int p1), .val (.int p2), .val (.int p3), .val (.int p4), .val (.int p5), .val (.int v5), .val (.int v12), .val (.int v16), .val (.int v18), .val (.ref bc22), .val .null, .unset, .unset] [])) rfl (hb hby at_79) (by decide) (by decide)
      obtain ⟨b37, g37⟩ : ∃ z, z = T22.heap.size := ⟨_, rfl⟩
      rw [← g37] at A37 D37 st37
      have Z37 : n0 ≤ h37.size := Nat.le_trans Z22 E37.1
      have gb37 : n0 ≤ b37 := Nat.le_trans Z22 (Nat.le_of_eq g37.symm)
      have F_key_b37 : Fld Z h37 b37 "com/example/tardy_snapshot/tardysnapshot/Write" "key" "Ljava/lang/String;" .null := D37 (Or.inr (hw _ (List.mem_of_getElem? (i := 39) rfl))) (ty := (.object "java/lang/String")) (by decide)
      have F_value_b37 : Fld Z h37 b37 "com/example/tardy_snapshot/tardysnapshot/Write" "value" "Ljava/lang/String;" .null := D37 (Or.inr (hw _ (List.mem_of_getElem? (i := 41) rfl))) (ty := (.object "java/lang/String")) (by decide)
      have sz37 : h0.size ≤ b37 := Nat.le_trans KK22.1 (Nat.le_of_eq g37.symm)
      have KK37 : Keep h0 h37 [] := KK22.ext E37
      replace X37 : Stand p l e room_1 (s.setVm T22.vm) m #[(.int p1), (.int p2), (.int p3), (.int p4), (.int p5)] below meth c T37 L22 5 10 := X37
      have JJh37 := own_J_ext J22 E37
      obtain ⟨_, _, ⟨T38, L38, k38, n38⟩, -, X38, ⟨Lc38, hQ38, l38, y38, z38⟩, st38⟩ := X37.specialBack hx (y := (⟨"com/example/tardy_snapshot/tardysnapshot/Write", "<init>", "(Ljava/lang/String;Ljava/lang/String;)V"⟩ : MethodName)) rfl hown (mvT hZ (hw _ (List.mem_of_getElem? (i := 29) rfl))) (mvT hZ (hw _ (List.mem_of_getElem? (i := 30) rfl))) (mvT hZ (hw _ (List.mem_of_getElem? (i := 31) rfl))) (by decide) (backOf (W := 1) (rm5 l Z a0 hw [] b37 (.ref bc22) .null .null .null h37 n0 Z37 A37 F_key_b37 gb37 F_value_b37 rfl rfl) hZ (hw _ (List.mem_of_getElem? (i := 31) rfl)) (hw _ (List.mem_of_getElem? (i := 28) rfl)) (by decide) (by decide)) (g := (mkF m 87 #[.val (.int p1), .val (.int p2), .val (.int p3), .val (.int p4), .val (.int p5), .val (.int v5), .val (.int v12), .val (.int v16), .val (.int v18), .val (.ref bc22), .val .null, .unset, .unset] [.null, (.ref bc22), (.ref b37), (.ref b37)])) rfl (by rw [hml]; rfl) (Steps.refl _) (a := b37) (argsL := [(.ref bc22), .null]) (rest := [(.ref b37)]) (lenOf pd_0_5 rfl) rfl (by show 2 * 0 + _ ≤ _; exact Nat.le_of_eq rfl) (hb hby at_87) (fun _ _ => ⟨rfl, e37, (by decide : 5 + 0 ≤ _), (by decide : 10 + 0 ≤ _)⟩)
      dsimp only [Pt.U, Pt.locs, Pt.cells, Pt.slots] at X38 l38 y38 z38 st38 hQ38
      subst l38 y38 z38
      obtain ⟨rfl, N38q, K38, Ex38, Fv38⟩ := hQ38
      have N38 := Fr.app N22 N38q
      have KK38 : Keep h0 T38.heap [] := KK37.trans K38 (fun x hx => by cases List.mem_singleton.mp hx; exact Or.inr sz37)
      have Z38 : n0 ≤ T38.heap.size := Nat.le_trans Z37 K38.1
      replace X38 : Stand p l e room_1 (s.setVm T22.vm) m #[(.int p1), (.int p2), (.int p3), (.int p4), (.int p5)] below meth c T38 (L22 ++ Lc38) 5 10 := X38
      have JJh38 := own_J_C JJh37 K38 A37 (by decide)
      obtain ⟨cq39, kq39, q39a, q39b, q39c⟩ := isOf hZ rfl Ex38
      obtain ⟨_, _, ⟨T39, L39, k39, n39⟩, -, X39, ⟨Lc39, hQ39, l39, y39, z39⟩, st39⟩ := X38.virtualBack hx (y := (⟨"com/example/tardy_snapshot/tardysnapshot/Write", "isDelete", "()Z"⟩ : MethodName)) (z := (⟨"com/example/tardy_snapshot/tardysnapshot/Write", "isDelete", "()Z"⟩ : MethodName)) hown (mvT hZ (hw _ (List.mem_of_getElem? (i := 42) rfl))) (mvT hZ (hw _ (List.mem_of_getElem? (i := 43) rfl))) (notFace_of_selects (args := #[]) (mvT hZ (hw _ (List.mem_of_getElem? (i := 45) rfl)))) (mvT hZ (hw _ (List.mem_of_getElem? (i := 45) rfl))) (mvT hZ (hw _ (List.mem_of_getElem? (i := 44) rfl))) (by decide) (backOf (W := 0) (rm7N l Z a0 hw [] b37 T38.heap n0 Z38 Fv38) hZ (hw _ (List.mem_of_getElem? (i := 46) rfl)) (hw _ (List.mem_of_getElem? (i := 28) rfl)) (by decide) (by decide)) q39a q39c (g := (mkF m 94 #[.val (.int p1), .val (.int p2), .val (.int p3), .val (.int p4), .val (.int p5), .val (.int v5), .val (.int v12), .val (.int v16), .val (.int v18), .val (.ref bc22), .val .null, .val (.ref b37), .unset] [(.ref b37)])) rfl (by rw [hml]; rfl) (Steps.refl _) (argsL := []) (rest := []) (lenOf pd_0_7 rfl) rfl (by show 2 * 0 + _ ≤ _; exact Nat.le_of_eq rfl) (hb hby at_94) (fun _ _ => ⟨rfl, rfl, (by decide : 5 + 0 ≤ _), (by decide : 10 + 0 ≤ _)⟩)
      dsimp only [Pt.U, Pt.locs, Pt.cells, Pt.slots] at X39 l39 y39 z39 st39 hQ39
      subst l39 y39 z39
      obtain ⟨rfl, rfl, e39⟩ := hQ39
      rw [List.append_nil] at X39
      replace X39 : Stand p l e room_1 (s.setVm T22.vm) m #[(.int p1), (.int p2), (.int p3), (.int p4), (.int p5)] below meth c T39 (L22 ++ Lc38) 5 10 := X39
      obtain ⟨_, _, ⟨T40, L40, k40, n40⟩, -, X40, ⟨Lc40, hQ40, l40, y40, z40⟩, st40⟩ := Jvm.LawKit.callS X39 hx (y := (⟨"com/example/tardy_snapshot/tardysnapshot/Write", "delete", "(Ljava/lang/String;)Lcom/example/tardy_snapshot/tardysnapshot/Write;"⟩ : MethodName)) hown (mvT hZ (hw _ (List.mem_of_getElem? (i := 47) rfl))) (mvT hZ (hw _ (List.mem_of_getElem? (i := 48) rfl))) (mvT hZ (hw _ (List.mem_of_getElem? (i := 28) rfl))) (mvT hZ (hw _ (List.mem_of_getElem? (i := 49) rfl))) (by decide) (backOf (W := 0) (rm8 l Z a0 hw [] (.ref bc22) T38.heap n0 Z38 rfl) hZ (hw _ (List.mem_of_getElem? (i := 49) rfl)) (hw _ (List.mem_of_getElem? (i := 28) rfl)) (by decide) (by decide)) (g := (mkF m 116 #[.val (.int p1), .val (.int p2), .val (.int p3), .val (.int p4), .val (.int p5), .val (.int v5), .val (.int v12), .val (.int v16), .val (.int v18), .val (.ref bc22), .val .null, .val (.ref b37), .val (.int (1 : Int32))] [(.ref bc22)])) rfl (by rw [hml]; rfl) (argsL := [(.ref bc22)]) (rest := []) (lenOf pd_0_8 rfl) rfl (by show 2 * 0 + _ ≤ _; exact Nat.le_of_eq rfl) (hb hby at_116) (fun _ _ => ⟨rfl, e39, (by decide : 5 + 1 ≤ _), (by decide : 10 + 2 ≤ _)⟩)
      dsimp only [Pt.U, Pt.locs, Pt.cells, Pt.slots] at X40 l40 y40 z40 st40 hQ40
      subst l40 y40 z40
      obtain ⟨bw40, rfl, N40q, K40, Ex40, Fv40⟩ := hQ40
      have N40 := Fr.app N38 N40q
      have KK40 : Keep h0 T40.heap [] := KK38.trans K40 (fun _ q => nomatch q)
      have Z40 : n0 ≤ T40.heap.size := Nat.le_trans Z38 K40.1
      replace X40 : Stand p l e room_1 (s.setVm T22.vm) m #[(.int p1), (.int p2), (.int p3), (.int p4), (.int p5)] below meth c T40 ((L22 ++ Lc38) ++ Lc40) 6 12 := X40
      have JJh40 := own_J_keep JJh38 K40
      obtain ⟨cq41, kq41, q41a, q41b, q41c⟩ := isOf hZ rfl Ex40
      obtain ⟨_, _, ⟨T41, L41, k41, n41⟩, -, X41, ⟨Lc41, hQ41, l41, y41, z41⟩, st41⟩ := X40.virtualBack hx (y := (⟨"com/example/tardy_snapshot/tardysnapshot/Write", "isDelete", "()Z"⟩ : MethodName)) (z := (⟨"com/example/tardy_snapshot/tardysnapshot/Write", "isDelete", "()Z"⟩ : MethodName)) hown (mvT hZ (hw _ (List.mem_of_getElem? (i := 42) rfl))) (mvT hZ (hw _ (List.mem_of_getElem? (i := 43) rfl))) (notFace_of_selects (args := #[]) (mvT hZ (hw _ (List.mem_of_getElem? (i := 45) rfl)))) (mvT hZ (hw _ (List.mem_of_getElem? (i := 45) rfl))) (mvT hZ (hw _ (List.mem_of_getElem? (i := 44) rfl))) (by decide) (backOf (W := 0) (rm7N l Z a0 hw [] bw40 T40.heap n0 Z40 Fv40) hZ (hw _ (List.mem_of_getElem? (i := 46) rfl)) (hw _ (List.mem_of_getElem? (i := 28) rfl)) (by decide) (by decide)) q41a q41c (g := (mkF m 119 #[.val (.int p1), .val (.int p2), .val (.int p3), .val (.int p4), .val (.int p5), .val (.int v5), .val (.int v12), .val (.int v16), .val (.int v18), .val (.ref bc22), .val .null, .val (.ref b37), .val (.int (1 : Int32))] [(.ref bw40)])) rfl (by rw [hml]; rfl) (Steps.refl _) (argsL := []) (rest := []) (lenOf pd_0_7 rfl) rfl (by show 2 * 0 + _ ≤ _; exact Nat.le_of_eq rfl) (hb hby at_119) (fun _ _ => ⟨rfl, rfl, (by decide : 6 + 0 ≤ _), (by decide : 12 + 0 ≤ _)⟩)
      dsimp only [Pt.U, Pt.locs, Pt.cells, Pt.slots] at X41 l41 y41 z41 st41 hQ41
      subst l41 y41 z41
      obtain ⟨rfl, rfl, e41⟩ := hQ41
      rw [List.append_nil] at X41
      replace X41 : Stand p l e room_1 (s.setVm T22.vm) m #[(.int p1), (.int p2), (.int p3), (.int p4), (.int p5)] below meth c T41 ((L22 ++ Lc38) ++ Lc40) 6 12 := X41
      have R42 : ∀ t, Steps p.tables e below (T41.setTop (mkF m 144 #[.val (.int p1), .val (.int p2), .val (.int p3), .val (.int p4), .val (.int p5), .val (.int v5), .val (.int v12), .val (.int v16), .val (.int v18), .val (.ref bc22), .val .null, .val (.ref b37), .val (.int (1 : Int32))] [(.int p5), (.int p4), (.int v16), (.ref bc22)])) t → Steps p.tables e below (s₁.setTop (entryFrame m #[(.int p1), (.int p2), (.int p3), (.int p4), (.int p5)] maxLocals)) t := by
        intro t kt
        refine R24 _ ?_
        show Steps p.tables e below (T22.setTop (mkF m 62 #[.val (.int p1), .val (.int p2), .val (.int p3), .val (.int p4), .val (.int p5), .val (.int v5), .val (.int v12), .val (.int v16), .val (.int v18), .val (.ref bc22), .unset, .unset, .unset] [(.int v5)])) _
        refine XS.ifNo X22.here hx rfl (hb hby at_62) rfl ((if0 _ _).trans (feq hc23).1) ?_
        show Steps p.tables e below (T22.setTop (mkF m 65 #[.val (.int p1), .val (.int p2), .val (.int p3), .val (.int p4), .val (.int p5), .val (.int v5), .val (.int v12), .val (.int v16), .val (.int v18), .val (.ref bc22), .unset, .unset, .unset] [])) _
        refine XS.aconstNull X22.here hx rfl (hb hby at_65) ?_
        show Steps p.tables e below (T22.setTop (mkF m 66 #[.val (.int p1), .val (.int p2), .val (.int p3), .val (.int p4), .val (.int p5), .val (.int v5), .val (.int v12), .val (.int v16), .val (.int v18), .val (.ref bc22), .unset, .unset, .unset] [.null])) _
        refine XS.goto X22.here hx rfl (pc0 := 66) (pc' := 77) rfl (hb hby at_66) (by decide) (by decide) ?_
        show Steps p.tables e below (T22.setTop (mkF m 77 #[.val (.int p1), .val (.int p2), .val (.int p3), .val (.int p4), .val (.int p5), .val (.int v5), .val (.int v12), .val (.int v16), .val (.int v18), .val (.ref bc22), .unset, .unset, .unset] [.null])) _
        refine XS.astore X22.here hx rfl (hb hby at_77) rfl rfl (l' := #[.val (.int p1), .val (.int p2), .val (.int p3), .val (.int p4), .val (.int p5), .val (.int v5), .val (.int v12), .val (.int v16), .val (.int v18), .val (.ref bc22), .val .null, .unset, .unset]) rfl ?_
        show Steps p.tables e below (T22.setTop (mkF m 79 #[.val (.int p1), .val (.int p2), .val (.int p3), .val (.int p4), .val (.int p5), .val (.int v5), .val (.int v12), .val (.int v16), .val (.int v18), .val (.ref bc22), .val .null, .unset, .unset] [])) _
        refine st37 _ ?_
        show Steps p.tables e below (T37.setTop (mkF m 82 #[.val (.int p1), .val (.int p2), .val (.int p3), .val (.int p4), .val (.int p5), .val (.int v5), .val (.int v12), .val (.int v16), .val (.int v18), .val (.ref bc22), .val .null, .unset, .unset] [(.ref b37)])) _
        refine XS.dup X37.here hx rfl (hb hby at_82) rfl rfl ?_
        show Steps p.tables e below (T37.setTop (mkF m 83 #[.val (.int p1), .val (.int p2), .val (.int p3), .val (.int p4), .val (.int p5), .val (.int v5), .val (.int v12), .val (.int v16), .val (.int v18), .val (.ref bc22), .val .null, .unset, .unset] [(.ref b37), (.ref b37)])) _
        refine XS.aload X37.here hx rfl (hb hby at_83) rfl rfl ?_
        show Steps p.tables e below (T37.setTop (mkF m 85 #[.val (.int p1), .val (.int p2), .val (.int p3), .val (.int p4), .val (.int p5), .val (.int v5), .val (.int v12), .val (.int v16), .val (.int v18), .val (.ref bc22), .val .null, .unset, .unset] [(.ref bc22), (.ref b37), (.ref b37)])) _
        refine XS.aload X37.here hx rfl (hb hby at_85) rfl rfl ?_
        show Steps p.tables e below (T37.setTop (mkF m 87 #[.val (.int p1), .val (.int p2), .val (.int p3), .val (.int p4), .val (.int p5), .val (.int v5), .val (.int v12), .val (.int v16), .val (.int v18), .val (.ref bc22), .val .null, .unset, .unset] [.null, (.ref bc22), (.ref b37), (.ref b37)])) _
        refine st38.trans ?_
        show Steps p.tables e below (T38.setTop (mkF m 90 #[.val (.int p1), .val (.int p2), .val (.int p3), .val (.int p4), .val (.int p5), .val (.int v5), .val (.int v12), .val (.int v16), .val (.int v18), .val (.ref bc22), .val .null, .unset, .unset] [(.ref b37)])) _
        refine XS.astore X38.here hx rfl (hb hby at_90) rfl rfl (l' := #[.val (.int p1), .val (.int p2), .val (.int p3), .val (.int p4), .val (.int p5), .val (.int v5), .val (.int v12), .val (.int v16), .val (.int v18), .val (.ref bc22), .val .null, .val (.ref b37), .unset]) rfl ?_
        show Steps p.tables e below (T38.setTop (mkF m 92 #[.val (.int p1), .val (.int p2), .val (.int p3), .val (.int p4), .val (.int p5), .val (.int v5), .val (.int v12), .val (.int v16), .val (.int v18), .val (.ref bc22), .val .null, .val (.ref b37), .unset] [])) _
        refine XS.aload X38.here hx rfl (hb hby at_92) rfl rfl ?_
        show Steps p.tables e below (T38.setTop (mkF m 94 #[.val (.int p1), .val (.int p2), .val (.int p3), .val (.int p4), .val (.int p5), .val (.int v5), .val (.int v12), .val (.int v16), .val (.int v18), .val (.ref bc22), .val .null, .val (.ref b37), .unset] [(.ref b37)])) _
        refine st39.trans ?_
        show Steps p.tables e below (T39.setTop (mkF m 97 #[.val (.int p1), .val (.int p2), .val (.int p3), .val (.int p4), .val (.int p5), .val (.int v5), .val (.int v12), .val (.int v16), .val (.int v18), .val (.ref bc22), .val .null, .val (.ref b37), .unset] [(.int (1 : Int32))])) _
        refine XS.iload X39.here hx rfl (hb hby at_97) rfl ?_
        show Steps p.tables e below (T39.setTop (mkF m 99 #[.val (.int p1), .val (.int p2), .val (.int p3), .val (.int p4), .val (.int p5), .val (.int v5), .val (.int v12), .val (.int v16), .val (.int v18), .val (.ref bc22), .val .null, .val (.ref b37), .unset] [(.int v5), (.int (1 : Int32))])) _
        refine XS.icmpNo X39.here hx rfl (hb hby at_99) rfl (teq (own_one hv5 hc23)).2 ?_
        show Steps p.tables e below (T39.setTop (mkF m 102 #[.val (.int p1), .val (.int p2), .val (.int p3), .val (.int p4), .val (.int p5), .val (.int v5), .val (.int v12), .val (.int v16), .val (.int v18), .val (.ref bc22), .val .null, .val (.ref b37), .unset] [])) _
        refine XS.iconst X39.here hx rfl (hb hby at_102) ?_
        show Steps p.tables e below (T39.setTop (mkF m 103 #[.val (.int p1), .val (.int p2), .val (.int p3), .val (.int p4), .val (.int p5), .val (.int v5), .val (.int v12), .val (.int v16), .val (.int v18), .val (.ref bc22), .val .null, .val (.ref b37), .unset] [(.int (1 : Int32))])) _
        refine XS.goto X39.here hx rfl (pc0 := 103) (pc' := 107) rfl (hb hby at_103) (by decide) (by decide) ?_
        show Steps p.tables e below (T39.setTop (mkF m 107 #[.val (.int p1), .val (.int p2), .val (.int p3), .val (.int p4), .val (.int p5), .val (.int v5), .val (.int v12), .val (.int v16), .val (.int v18), .val (.ref bc22), .val .null, .val (.ref b37), .unset] [(.int (1 : Int32))])) _
        refine XS.istore X39.here hx rfl (hb hby at_107) rfl (l' := #[.val (.int p1), .val (.int p2), .val (.int p3), .val (.int p4), .val (.int p5), .val (.int v5), .val (.int v12), .val (.int v16), .val (.int v18), .val (.ref bc22), .val .null, .val (.ref b37), .val (.int (1 : Int32))]) rfl ?_
        show Steps p.tables e below (T39.setTop (mkF m 109 #[.val (.int p1), .val (.int p2), .val (.int p3), .val (.int p4), .val (.int p5), .val (.int v5), .val (.int v12), .val (.int v16), .val (.int v18), .val (.ref bc22), .val .null, .val (.ref b37), .val (.int (1 : Int32))] [])) _
        refine XS.iload X39.here hx rfl (hb hby at_109) rfl ?_
        show Steps p.tables e below (T39.setTop (mkF m 111 #[.val (.int p1), .val (.int p2), .val (.int p3), .val (.int p4), .val (.int p5), .val (.int v5), .val (.int v12), .val (.int v16), .val (.int v18), .val (.ref bc22), .val .null, .val (.ref b37), .val (.int (1 : Int32))] [(.int (1 : Int32))])) _
        refine XS.ifNo X39.here hx rfl (hb hby at_111) rfl ((if0 _ _).trans (feq (by decide : ¬ ((1 : Int32) = (0 : Int32)))).1) ?_
        show Steps p.tables e below (T39.setTop (mkF m 114 #[.val (.int p1), .val (.int p2), .val (.int p3), .val (.int p4), .val (.int p5), .val (.int v5), .val (.int v12), .val (.int v16), .val (.int v18), .val (.ref bc22), .val .null, .val (.ref b37), .val (.int (1 : Int32))] [])) _
        refine XS.aload X39.here hx rfl (hb hby at_114) rfl rfl ?_
        show Steps p.tables e below (T39.setTop (mkF m 116 #[.val (.int p1), .val (.int p2), .val (.int p3), .val (.int p4), .val (.int p5), .val (.int v5), .val (.int v12), .val (.int v16), .val (.int v18), .val (.ref bc22), .val .null, .val (.ref b37), .val (.int (1 : Int32))] [(.ref bc22)])) _
        refine st40 _ ?_
        show Steps p.tables e below (T40.setTop (mkF m 119 #[.val (.int p1), .val (.int p2), .val (.int p3), .val (.int p4), .val (.int p5), .val (.int v5), .val (.int v12), .val (.int v16), .val (.int v18), .val (.ref bc22), .val .null, .val (.ref b37), .val (.int (1 : Int32))] [(.ref bw40)])) _
        refine st41.trans ?_
        show Steps p.tables e below (T41.setTop (mkF m 122 #[.val (.int p1), .val (.int p2), .val (.int p3), .val (.int p4), .val (.int p5), .val (.int v5), .val (.int v12), .val (.int v16), .val (.int v18), .val (.ref bc22), .val .null, .val (.ref b37), .val (.int (1 : Int32))] [(.int (1 : Int32))])) _
        refine XS.ifNo X41.here hx rfl (hb hby at_122) rfl ((if0 _ _).trans (feq (by decide : ¬ ((1 : Int32) = (0 : Int32)))).1) ?_
        show Steps p.tables e below (T41.setTop (mkF m 125 #[.val (.int p1), .val (.int p2), .val (.int p3), .val (.int p4), .val (.int p5), .val (.int v5), .val (.int v12), .val (.int v16), .val (.int v18), .val (.ref bc22), .val .null, .val (.ref b37), .val (.int (1 : Int32))] [])) _
        refine XS.iconst X41.here hx rfl (hb hby at_125) ?_
        show Steps p.tables e below (T41.setTop (mkF m 126 #[.val (.int p1), .val (.int p2), .val (.int p3), .val (.int p4), .val (.int p5), .val (.int v5), .val (.int v12), .val (.int v16), .val (.int v18), .val (.ref bc22), .val .null, .val (.ref b37), .val (.int (1 : Int32))] [(.int (1 : Int32))])) _
        refine XS.goto X41.here hx rfl (pc0 := 126) (pc' := 130) rfl (hb hby at_126) (by decide) (by decide) ?_
        show Steps p.tables e below (T41.setTop (mkF m 130 #[.val (.int p1), .val (.int p2), .val (.int p3), .val (.int p4), .val (.int p5), .val (.int v5), .val (.int v12), .val (.int v16), .val (.int v18), .val (.ref bc22), .val .null, .val (.ref b37), .val (.int (1 : Int32))] [(.int (1 : Int32))])) _
        refine XS.istore X41.here hx rfl (hb hby at_130) rfl (l' := #[.val (.int p1), .val (.int p2), .val (.int p3), .val (.int p4), .val (.int p5), .val (.int v5), .val (.int v12), .val (.int v16), .val (.int v18), .val (.ref bc22), .val .null, .val (.ref b37), .val (.int (1 : Int32))]) rfl ?_
        show Steps p.tables e below (T41.setTop (mkF m 132 #[.val (.int p1), .val (.int p2), .val (.int p3), .val (.int p4), .val (.int p5), .val (.int v5), .val (.int v12), .val (.int v16), .val (.int v18), .val (.ref bc22), .val .null, .val (.ref b37), .val (.int (1 : Int32))] [])) _
        refine XS.iload X41.here hx rfl (hb hby at_132) rfl ?_
        show Steps p.tables e below (T41.setTop (mkF m 134 #[.val (.int p1), .val (.int p2), .val (.int p3), .val (.int p4), .val (.int p5), .val (.int v5), .val (.int v12), .val (.int v16), .val (.int v18), .val (.ref bc22), .val .null, .val (.ref b37), .val (.int (1 : Int32))] [(.int (1 : Int32))])) _
        refine XS.ifNo X41.here hx rfl (hb hby at_134) rfl ((if0 _ _).trans (feq (by decide : ¬ ((1 : Int32) = (0 : Int32)))).1) ?_
        show Steps p.tables e below (T41.setTop (mkF m 137 #[.val (.int p1), .val (.int p2), .val (.int p3), .val (.int p4), .val (.int p5), .val (.int v5), .val (.int v12), .val (.int v16), .val (.int v18), .val (.ref bc22), .val .null, .val (.ref b37), .val (.int (1 : Int32))] [])) _
        refine XS.aload X41.here hx rfl (hb hby at_137) rfl rfl ?_
        show Steps p.tables e below (T41.setTop (mkF m 139 #[.val (.int p1), .val (.int p2), .val (.int p3), .val (.int p4), .val (.int p5), .val (.int v5), .val (.int v12), .val (.int v16), .val (.int v18), .val (.ref bc22), .val .null, .val (.ref b37), .val (.int (1 : Int32))] [(.ref bc22)])) _
        refine XS.iload X41.here hx rfl (hb hby at_139) rfl ?_
        show Steps p.tables e below (T41.setTop (mkF m 141 #[.val (.int p1), .val (.int p2), .val (.int p3), .val (.int p4), .val (.int p5), .val (.int v5), .val (.int v12), .val (.int v16), .val (.int v18), .val (.ref bc22), .val .null, .val (.ref b37), .val (.int (1 : Int32))] [(.int v16), (.ref bc22)])) _
        refine XS.iloadN X41.here hx rfl (hb hby at_141) rfl ?_
        show Steps p.tables e below (T41.setTop (mkF m 142 #[.val (.int p1), .val (.int p2), .val (.int p3), .val (.int p4), .val (.int p5), .val (.int v5), .val (.int v12), .val (.int v16), .val (.int v18), .val (.ref bc22), .val .null, .val (.ref b37), .val (.int (1 : Int32))] [(.int p4), (.int v16), (.ref bc22)])) _
        refine XS.iload X41.here hx rfl (hb hby at_142) rfl ?_
        exact kt
      obtain ⟨_, _, ⟨T43, L43, k43, n43⟩, -, X43, hS043, hg43, ⟨Lc43, ⟨hQ43, J43⟩, l43, y43, z43⟩, st43⟩ := callSS X41 hx (y := (⟨"com/example/tardy_snapshot/tardysnapshot/WriteIsDeletePinLaw", "draw", "(III)Ljava/lang/String;"⟩ : MethodName)) hown (mvT hZ (hw _ (List.mem_of_getElem? (i := 0) rfl))) (mvT hZ (hw _ (List.mem_of_getElem? (i := 1) rfl))) (mvT hZ (hw _ (List.mem_of_getElem? (i := 2) rfl))) (mvT hZ (hw _ (List.mem_of_getElem? (i := 3) rfl))) (by decide) (own_backJ (W := 1) (rm1 l Z a0 hw [] v16 p4 p5 G1 T40.heap n0 Z40 (O2.ext (own_ext KK40)) P5 (fun b cl q => KK40.2.1 b cl (by rw [← hZh]; exact q) nin0) hheld hcw) hZ (hw _ (List.mem_of_getElem? (i := 3) rfl)) (hw _ (List.mem_of_getElem? (i := 2) rfl)) (by decide) (by decide)) (g := (mkF m 144 #[.val (.int p1), .val (.int p2), .val (.int p3), .val (.int p4), .val (.int p5), .val (.int v5), .val (.int v12), .val (.int v16), .val (.int v18), .val (.ref bc22), .val .null, .val (.ref b37), .val (.int (1 : Int32))] [(.int p5), (.int p4), (.int v16), (.ref bc22)])) rfl (by rw [hml]; rfl) (argsL := [(.int v16), (.int p4), (.int p5)]) (rest := [(.ref bc22)]) (lenOf pd_0_1 rfl) rfl (by show 2 * 0 + _ ≤ _; exact Nat.le_of_eq rfl) (hb hby at_144) (fun _ hW₁ => ⟨rfl, e41, own_J_warm (s := (s.setVm T22.vm)) JJh40 hW₁, (by decide : 6 + 4 ≤ _), (by decide : 12 + 8 ≤ _)⟩)
      dsimp only [Pt.U, Pt.locs, Pt.cells, Pt.slots] at X43 hS043 hg43 J43 l43 y43 z43 st43 hQ43
      subst l43 y43 z43
      obtain ⟨⟨bc43, rfl⟩, N43q, K43⟩ := hQ43
      obtain ⟨X43, hS43, hZ, hown⟩ := rebS hS22 (by first | exact (Nat.le_trans (Nat.le_trans (Nat.le_trans (Nat.le_refl T22.heap.size) E37.1) K38.1) K40.1) | (rw [e41]; exact (Nat.le_trans (Nat.le_trans (Nat.le_trans (Nat.le_refl T22.heap.size) E37.1) K38.1) K40.1))) X43 hS043 hg43 hZ hown
      have N43 := Fr.app N40 N43q
      have KK43 : Keep h0 T43.heap [] := KK40.trans K43 (fun _ q => nomatch q)
      have Z43 : n0 ≤ T43.heap.size := Nat.le_trans Z40 K43.1
      replace X43 : Stand p l e room_1 (s.setVm T43.vm) m #[(.int p1), (.int p2), (.int p3), (.int p4), (.int p5)] below meth c T43 (((L22 ++ Lc38) ++ Lc40) ++ Lc43) 10 20 := X43
      obtain ⟨_, _, ⟨T44, L44, k44, n44⟩, -, X44, ⟨Lc44, hQ44, l44, y44, z44⟩, st44⟩ := Jvm.LawKit.callS X43 hx (y := (⟨"com/example/tardy_snapshot/tardysnapshot/Write", "put", "(Ljava/lang/String;Ljava/lang/String;)Lcom/example/tardy_snapshot/tardysnapshot/Write;"⟩ : MethodName)) hown (mvT hZ (hw _ (List.mem_of_getElem? (i := 52) rfl))) (mvT hZ (hw _ (List.mem_of_getElem? (i := 53) rfl))) (mvT hZ (hw _ (List.mem_of_getElem? (i := 28) rfl))) (mvT hZ (hw _ (List.mem_of_getElem? (i := 54) rfl))) (by decide) (backOf (W := 0) (rm9 l Z a0 hw [] (.ref bc22) bc43 T43.heap n0 Z43 rfl) hZ (hw _ (List.mem_of_getElem? (i := 54) rfl)) (hw _ (List.mem_of_getElem? (i := 28) rfl)) (by decide) (by decide)) (g := (mkF m 147 #[.val (.int p1), .val (.int p2), .val (.int p3), .val (.int p4), .val (.int p5), .val (.int v5), .val (.int v12), .val (.int v16), .val (.int v18), .val (.ref bc22), .val .null, .val (.ref b37), .val (.int (1 : Int32))] [(.ref bc43), (.ref bc22)])) rfl (by rw [hml]; rfl) (argsL := [(.ref bc22), (.ref bc43)]) (rest := []) (lenOf pd_0_9 rfl) rfl (by show 2 * 0 + _ ≤ _; exact Nat.le_of_eq rfl) (hb hby at_147) (fun _ _ => ⟨rfl, rfl, (by decide : 10 + 1 ≤ _), (by decide : 20 + 2 ≤ _)⟩)
      dsimp only [Pt.U, Pt.locs, Pt.cells, Pt.slots] at X44 l44 y44 z44 st44 hQ44
      subst l44 y44 z44
      obtain ⟨bw44, rfl, N44q, K44, Ex44, Fv44⟩ := hQ44
      have N44 := Fr.app N43 N44q
      have KK44 : Keep h0 T44.heap [] := KK43.trans K44 (fun _ q => nomatch q)
      have Z44 : n0 ≤ T44.heap.size := Nat.le_trans Z43 K44.1
      replace X44 : Stand p l e room_1 (s.setVm T43.vm) m #[(.int p1), (.int p2), (.int p3), (.int p4), (.int p5)] below meth c T44 ((((L22 ++ Lc38) ++ Lc40) ++ Lc43) ++ Lc44) 11 22 := X44
      have JJh44 := own_J_keep J43 K44
      obtain ⟨cq45, kq45, q45a, q45b, q45c⟩ := isOf hZ rfl Ex44
      obtain ⟨_, _, ⟨T45, L45, k45, n45⟩, -, X45, ⟨Lc45, hQ45, l45, y45, z45⟩, st45⟩ := X44.virtualBack hx (y := (⟨"com/example/tardy_snapshot/tardysnapshot/Write", "isDelete", "()Z"⟩ : MethodName)) (z := (⟨"com/example/tardy_snapshot/tardysnapshot/Write", "isDelete", "()Z"⟩ : MethodName)) hown (mvT hZ (hw _ (List.mem_of_getElem? (i := 42) rfl))) (mvT hZ (hw _ (List.mem_of_getElem? (i := 43) rfl))) (notFace_of_selects (args := #[]) (mvT hZ (hw _ (List.mem_of_getElem? (i := 45) rfl)))) (mvT hZ (hw _ (List.mem_of_getElem? (i := 45) rfl))) (mvT hZ (hw _ (List.mem_of_getElem? (i := 44) rfl))) (by decide) (backOf (W := 0) (rm7 l Z a0 hw [] bw44 bc43 T44.heap n0 Z44 Fv44) hZ (hw _ (List.mem_of_getElem? (i := 46) rfl)) (hw _ (List.mem_of_getElem? (i := 28) rfl)) (by decide) (by decide)) q45a q45c (g := (mkF m 150 #[.val (.int p1), .val (.int p2), .val (.int p3), .val (.int p4), .val (.int p5), .val (.int v5), .val (.int v12), .val (.int v16), .val (.int v18), .val (.ref bc22), .val .null, .val (.ref b37), .val (.int (1 : Int32))] [(.ref bw44)])) rfl (by rw [hml]; rfl) (Steps.refl _) (argsL := []) (rest := []) (lenOf pd_0_7 rfl) rfl (by show 2 * 0 + _ ≤ _; exact Nat.le_of_eq rfl) (hb hby at_150) (fun _ _ => ⟨rfl, rfl, (by decide : 11 + 0 ≤ _), (by decide : 22 + 0 ≤ _)⟩)
      dsimp only [Pt.U, Pt.locs, Pt.cells, Pt.slots] at X45 l45 y45 z45 st45 hQ45
      subst l45 y45 z45
      obtain ⟨rfl, rfl, e45⟩ := hQ45
      rw [List.append_nil] at X45
      replace X45 : Stand p l e room_1 (s.setVm T43.vm) m #[(.int p1), (.int p2), (.int p3), (.int p4), (.int p5)] below meth c T45 ((((L22 ++ Lc38) ++ Lc40) ++ Lc43) ++ Lc44) 11 22 := X45
      have R46 : ∀ t, Steps p.tables e below (T45.setTop (mkF m 165 #[.val (.int p1), .val (.int p2), .val (.int p3), .val (.int p4), .val (.int p5), .val (.int v5), .val (.int v12), .val (.int v16), .val (.int v18), .val (.ref bc22), .val .null, .val (.ref b37), .val (.int (1 : Int32))] [(.int (1 : Int32))])) t → Steps p.tables e below (s₁.setTop (entryFrame m #[(.int p1), (.int p2), (.int p3), (.int p4), (.int p5)] maxLocals)) t := by
        intro t kt
        refine R42 _ ?_
        show Steps p.tables e below (T41.setTop (mkF m 144 #[.val (.int p1), .val (.int p2), .val (.int p3), .val (.int p4), .val (.int p5), .val (.int v5), .val (.int v12), .val (.int v16), .val (.int v18), .val (.ref bc22), .val .null, .val (.ref b37), .val (.int (1 : Int32))] [(.int p5), (.int p4), (.int v16), (.ref bc22)])) _
        refine st43.trans ?_
        show Steps p.tables e below (T43.setTop (mkF m 147 #[.val (.int p1), .val (.int p2), .val (.int p3), .val (.int p4), .val (.int p5), .val (.int v5), .val (.int v12), .val (.int v16), .val (.int v18), .val (.ref bc22), .val .null, .val (.ref b37), .val (.int (1 : Int32))] [(.ref bc43), (.ref bc22)])) _
        refine st44 _ ?_
        show Steps p.tables e below (T44.setTop (mkF m 150 #[.val (.int p1), .val (.int p2), .val (.int p3), .val (.int p4), .val (.int p5), .val (.int v5), .val (.int v12), .val (.int v16), .val (.int v18), .val (.ref bc22), .val .null, .val (.ref b37), .val (.int (1 : Int32))] [(.ref bw44)])) _
        refine st45.trans ?_
        show Steps p.tables e below (T45.setTop (mkF m 153 #[.val (.int p1), .val (.int p2), .val (.int p3), .val (.int p4), .val (.int p5), .val (.int v5), .val (.int v12), .val (.int v16), .val (.int v18), .val (.ref bc22), .val .null, .val (.ref b37), .val (.int (1 : Int32))] [(.int (0 : Int32))])) _
        refine XS.ifNo X45.here hx rfl (hb hby at_153) rfl ((if0 _ _).trans (teq (by decide : (0 : Int32) = (0 : Int32))).2) ?_
        show Steps p.tables e below (T45.setTop (mkF m 156 #[.val (.int p1), .val (.int p2), .val (.int p3), .val (.int p4), .val (.int p5), .val (.int v5), .val (.int v12), .val (.int v16), .val (.int v18), .val (.ref bc22), .val .null, .val (.ref b37), .val (.int (1 : Int32))] [])) _
        refine XS.iconst X45.here hx rfl (hb hby at_156) ?_
        show Steps p.tables e below (T45.setTop (mkF m 157 #[.val (.int p1), .val (.int p2), .val (.int p3), .val (.int p4), .val (.int p5), .val (.int v5), .val (.int v12), .val (.int v16), .val (.int v18), .val (.ref bc22), .val .null, .val (.ref b37), .val (.int (1 : Int32))] [(.int (1 : Int32))])) _
        refine XS.goto X45.here hx rfl (pc0 := 157) (pc' := 161) rfl (hb hby at_157) (by decide) (by decide) ?_
        show Steps p.tables e below (T45.setTop (mkF m 161 #[.val (.int p1), .val (.int p2), .val (.int p3), .val (.int p4), .val (.int p5), .val (.int v5), .val (.int v12), .val (.int v16), .val (.int v18), .val (.ref bc22), .val .null, .val (.ref b37), .val (.int (1 : Int32))] [(.int (1 : Int32))])) _
        refine XS.istore X45.here hx rfl (hb hby at_161) rfl (l' := #[.val (.int p1), .val (.int p2), .val (.int p3), .val (.int p4), .val (.int p5), .val (.int v5), .val (.int v12), .val (.int v16), .val (.int v18), .val (.ref bc22), .val .null, .val (.ref b37), .val (.int (1 : Int32))]) rfl ?_
        show Steps p.tables e below (T45.setTop (mkF m 163 #[.val (.int p1), .val (.int p2), .val (.int p3), .val (.int p4), .val (.int p5), .val (.int v5), .val (.int v12), .val (.int v16), .val (.int v18), .val (.ref bc22), .val .null, .val (.ref b37), .val (.int (1 : Int32))] [])) _
        refine XS.iload X45.here hx rfl (hb hby at_163) rfl ?_
        exact kt
      obtain ⟨fs, hr, hrun, hended, w1, w2, w3, w4⟩ := Stand.leaveW (s := s) X45 hS43 (by first | exact (Nat.le_trans (Nat.le_refl T43.heap.size) K44.1) | (rw [e45]; exact (Nat.le_trans (Nat.le_refl T43.heap.size) K44.1))) (v := some (.int (1 : Int32))) (fun h => by rw [Bd.returns] at h; cases h)
      refine ⟨_, _, R46 _ ?_, hrun, hended, _, _, rfl, ?_, w1, w2, w3, w4.mono (by decide) (by decide)⟩
      · show Steps p.tables e below (T45.setTop (mkF m 165 #[.val (.int p1), .val (.int p2), .val (.int p3), .val (.int p4), .val (.int p5), .val (.int v5), .val (.int v12), .val (.int v16), .val (.int v18), .val (.ref bc22), .val .null, .val (.ref b37), .val (.int (1 : Int32))] [(.int (1 : Int32))])) _
        exact retN X45 hx (t := .boolean) Bd.returns (by simp) (hb hby at_165) hr
      · show Q0 Z p1 p2 p3 p4 p5 G1 h0 n0 _ T45.heap _
        rw [e45]
        exact ⟨rfl, N44⟩
  · have R48 : ∀ t, Steps p.tables e below (s₁.setTop (mkF m 62 #[.val (.int p1), .val (.int p2), .val (.int p3), .val (.int p4), .val (.int p5), .val (.int v5), .val (.int v12), .val (.int v16), .val (.int v18), .val .null, .unset, .unset, .unset] [(.int v5)])) t → Steps p.tables e below (s₁.setTop (entryFrame m #[(.int p1), (.int p2), (.int p3), (.int p4), (.int p5)] maxLocals)) t := by
      intro t kt
      refine R20 _ ?_
      show Steps p.tables e below (s₁.setTop (mkF m 44 #[.val (.int p1), .val (.int p2), .val (.int p3), .val (.int p4), .val (.int p5), .val (.int v5), .val (.int v12), .val (.int v16), .val (.int v18), .unset, .unset, .unset, .unset] [(.int v12)])) _
      refine XS.ifNo X0.here hx rfl (hb hby at_44) rfl ((if0 _ _).trans (feq hc19).1) ?_
      show Steps p.tables e below (s₁.setTop (mkF m 47 #[.val (.int p1), .val (.int p2), .val (.int p3), .val (.int p4), .val (.int p5), .val (.int v5), .val (.int v12), .val (.int v16), .val (.int v18), .unset, .unset, .unset, .unset] [])) _
      refine XS.aconstNull X0.here hx rfl (hb hby at_47) ?_
      show Steps p.tables e below (s₁.setTop (mkF m 48 #[.val (.int p1), .val (.int p2), .val (.int p3), .val (.int p4), .val (.int p5), .val (.int v5), .val (.int v12), .val (.int v16), .val (.int v18), .unset, .unset, .unset, .unset] [.null])) _
      refine XS.goto X0.here hx rfl (pc0 := 48) (pc' := 58) rfl (hb hby at_48) (by decide) (by decide) ?_
      show Steps p.tables e below (s₁.setTop (mkF m 58 #[.val (.int p1), .val (.int p2), .val (.int p3), .val (.int p4), .val (.int p5), .val (.int v5), .val (.int v12), .val (.int v16), .val (.int v18), .unset, .unset, .unset, .unset] [.null])) _
      refine XS.astore X0.here hx rfl (hb hby at_58) rfl rfl (l' := #[.val (.int p1), .val (.int p2), .val (.int p3), .val (.int p4), .val (.int p5), .val (.int v5), .val (.int v12), .val (.int v16), .val (.int v18), .val .null, .unset, .unset, .unset]) rfl ?_
      show Steps p.tables e below (s₁.setTop (mkF m 60 #[.val (.int p1), .val (.int p2), .val (.int p3), .val (.int p4), .val (.int p5), .val (.int v5), .val (.int v12), .val (.int v16), .val (.int v18), .val .null, .unset, .unset, .unset] [])) _
      refine XS.iload X0.here hx rfl (hb hby at_60) rfl ?_
      exact kt
    by_cases hc47 : v5 = (0 : Int32)
    · have R49 : ∀ t, Steps p.tables e below (s₁.setTop (mkF m 74 #[.val (.int p1), .val (.int p2), .val (.int p3), .val (.int p4), .val (.int p5), .val (.int v5), .val (.int v12), .val (.int v16), .val (.int v18), .val .null, .unset, .unset, .unset] [(.int p5), (.int p4), (.int v16)])) t → Steps p.tables e below (s₁.setTop (entryFrame m #[(.int p1), (.int p2), (.int p3), (.int p4), (.int p5)] maxLocals)) t := by
        intro t kt
        refine R48 _ ?_
        show Steps p.tables e below (s₁.setTop (mkF m 62 #[.val (.int p1), .val (.int p2), .val (.int p3), .val (.int p4), .val (.int p5), .val (.int v5), .val (.int v12), .val (.int v16), .val (.int v18), .val .null, .unset, .unset, .unset] [(.int v5)])) _
        refine XS.ifYes X0.here hx rfl (pc0 := 62) (pc' := 69) rfl (hb hby at_62) rfl ((if0 _ _).trans (teq hc47).1) (by decide) (by decide) ?_
        show Steps p.tables e below (s₁.setTop (mkF m 69 #[.val (.int p1), .val (.int p2), .val (.int p3), .val (.int p4), .val (.int p5), .val (.int v5), .val (.int v12), .val (.int v16), .val (.int v18), .val .null, .unset, .unset, .unset] [])) _
        refine XS.iload X0.here hx rfl (hb hby at_69) rfl ?_
        show Steps p.tables e below (s₁.setTop (mkF m 71 #[.val (.int p1), .val (.int p2), .val (.int p3), .val (.int p4), .val (.int p5), .val (.int v5), .val (.int v12), .val (.int v16), .val (.int v18), .val .null, .unset, .unset, .unset] [(.int v16)])) _
        refine XS.iloadN X0.here hx rfl (hb hby at_71) rfl ?_
        show Steps p.tables e below (s₁.setTop (mkF m 72 #[.val (.int p1), .val (.int p2), .val (.int p3), .val (.int p4), .val (.int p5), .val (.int v5), .val (.int v12), .val (.int v16), .val (.int v18), .val .null, .unset, .unset, .unset] [(.int p4), (.int v16)])) _
        refine XS.iload X0.here hx rfl (hb hby at_72) rfl ?_
        exact kt
      obtain ⟨_, _, ⟨T50, L50, k50, n50⟩, -, X50, hS050, hg50, ⟨Lc50, ⟨hQ50, J50⟩, l50, y50, z50⟩, st50⟩ := callSS X0 hx (y := (⟨"com/example/tardy_snapshot/tardysnapshot/WriteIsDeletePinLaw", "draw", "(III)Ljava/lang/String;"⟩ : MethodName)) hown (mvT hZ (hw _ (List.mem_of_getElem? (i := 0) rfl))) (mvT hZ (hw _ (List.mem_of_getElem? (i := 1) rfl))) (mvT hZ (hw _ (List.mem_of_getElem? (i := 2) rfl))) (mvT hZ (hw _ (List.mem_of_getElem? (i := 3) rfl))) (by decide) (own_backJ (W := 0) (rm1 l Z a0 hw [] v16 p4 p5 G1 h0 n0 Z0 (O2.ext (own_ext (Keep.refl h0 []))) P5 (fun b cl q => (Keep.refl h0 []).2.1 b cl (by rw [← hZh]; exact q) nin0) hheld hcw) hZ (hw _ (List.mem_of_getElem? (i := 3) rfl)) (hw _ (List.mem_of_getElem? (i := 2) rfl)) (by decide) (by decide)) (g := (mkF m 74 #[.val (.int p1), .val (.int p2), .val (.int p3), .val (.int p4), .val (.int p5), .val (.int v5), .val (.int v12), .val (.int v16), .val (.int v18), .val .null, .unset, .unset, .unset] [(.int p5), (.int p4), (.int v16)])) rfl (by rw [hml]; rfl) (argsL := [(.int v16), (.int p4), (.int p5)]) (rest := []) (lenOf pd_0_1 rfl) rfl (by show 2 * 0 + _ ≤ _; exact Nat.le_of_eq rfl) (hb hby at_74) (fun _ hW₁ => ⟨rfl, e0, own_J_warm (s := (s.setVm s.vm)) hJ hW₁, (by decide : 0 + 4 ≤ _), (by decide : 0 + 8 ≤ _)⟩)
      dsimp only [Pt.U, Pt.locs, Pt.cells, Pt.slots] at X50 hS050 hg50 J50 l50 y50 z50 st50 hQ50
      subst l50 y50 z50
      obtain ⟨⟨bc50, rfl⟩, N50q, K50⟩ := hQ50
      obtain ⟨X50, hS50, hZ, hown⟩ := rebS ((State.WarmedH.refl s).since 0) (by first | exact (Nat.zero_le _) | (rw [e0]; exact (Nat.zero_le _))) X50 hS050 hg50 hZ hown
      have N50 := Fr.app (Fr.nil n0) N50q
      have KK50 : Keep h0 T50.heap [] := (Keep.refl h0 []).trans K50 (fun _ q => nomatch q)
      have Z50 : n0 ≤ T50.heap.size := Nat.le_trans Z0 K50.1
      replace X50 : Stand p l e room_1 (s.setVm T50.vm) m #[(.int p1), (.int p2), (.int p3), (.int p4), (.int p5)] below meth c T50 L50 4 8 := X50
      obtain ⟨T51, h51, X51, e51, E51, A51, D51, -, st51⟩ := newO X50 hx hZ hown (hw _ (List.mem_of_getElem? (i := 26) rfl)) (hw _ (List.mem_of_getElem? (i := 27) rfl)) (hw _ (List.mem_of_getElem? (i := 28) rfl)) rfl (g := (mkF m 79 #[.val (.int p1), .val (.int p2), .val (.int p3), .val (.int p4), .val (.int p5), .val (.int v5), .val (.int v12), .val (.int v16), .val (.int v18), .val .null, .val (.ref bc50), .unset, .unset] [])) rfl (hb hby at_79) (by decide) (by decide)
      obtain ⟨b51, g51⟩ : ∃ z, z = T50.heap.size := ⟨_, rfl⟩
      rw [← g51] at A51 D51 st51
      have Z51 : n0 ≤ h51.size := Nat.le_trans Z50 E51.1
      have gb51 : n0 ≤ b51 := Nat.le_trans Z50 (Nat.le_of_eq g51.symm)
      have F_key_b51 : Fld Z h51 b51 "com/example/tardy_snapshot/tardysnapshot/Write" "key" "Ljava/lang/String;" .null := D51 (Or.inr (hw _ (List.mem_of_getElem? (i := 39) rfl))) (ty := (.object "java/lang/String")) (by decide)
      have F_value_b51 : Fld Z h51 b51 "com/example/tardy_snapshot/tardysnapshot/Write" "value" "Ljava/lang/String;" .null := D51 (Or.inr (hw _ (List.mem_of_getElem? (i := 41) rfl))) (ty := (.object "java/lang/String")) (by decide)
      have sz51 : h0.size ≤ b51 := Nat.le_trans KK50.1 (Nat.le_of_eq g51.symm)
      have KK51 : Keep h0 h51 [] := KK50.ext E51
      replace X51 : Stand p l e room_1 (s.setVm T50.vm) m #[(.int p1), (.int p2), (.int p3), (.int p4), (.int p5)] below meth c T51 L50 5 10 := X51
      have JJh51 := own_J_ext J50 E51
      obtain ⟨_, _, ⟨T52, L52, k52, n52⟩, -, X52, ⟨Lc52, hQ52, l52, y52, z52⟩, st52⟩ := X51.specialBack hx (y := (⟨"com/example/tardy_snapshot/tardysnapshot/Write", "<init>", "(Ljava/lang/String;Ljava/lang/String;)V"⟩ : MethodName)) rfl hown (mvT hZ (hw _ (List.mem_of_getElem? (i := 29) rfl))) (mvT hZ (hw _ (List.mem_of_getElem? (i := 30) rfl))) (mvT hZ (hw _ (List.mem_of_getElem? (i := 31) rfl))) (by decide) (backOf (W := 1) (rm5 l Z a0 hw [] b51 .null (.ref bc50) .null .null h51 n0 Z51 A51 F_key_b51 gb51 F_value_b51 rfl rfl) hZ (hw _ (List.mem_of_getElem? (i := 31) rfl)) (hw _ (List.mem_of_getElem? (i := 28) rfl)) (by decide) (by decide)) (g := (mkF m 87 #[.val (.int p1), .val (.int p2), .val (.int p3), .val (.int p4), .val (.int p5), .val (.int v5), .val (.int v12), .val (.int v16), .val (.int v18), .val .null, .val (.ref bc50), .unset, .unset] [(.ref bc50), .null, (.ref b51), (.ref b51)])) rfl (by rw [hml]; rfl) (Steps.refl _) (a := b51) (argsL := [.null, (.ref bc50)]) (rest := [(.ref b51)]) (lenOf pd_0_5 rfl) rfl (by show 2 * 0 + _ ≤ _; exact Nat.le_of_eq rfl) (hb hby at_87) (fun _ _ => ⟨rfl, e51, (by decide : 5 + 0 ≤ _), (by decide : 10 + 0 ≤ _)⟩)
      dsimp only [Pt.U, Pt.locs, Pt.cells, Pt.slots] at X52 l52 y52 z52 st52 hQ52
      subst l52 y52 z52
      obtain ⟨rfl, N52q, K52, Ex52, Fv52⟩ := hQ52
      have N52 := Fr.app N50 N52q
      have KK52 : Keep h0 T52.heap [] := KK51.trans K52 (fun x hx => by cases List.mem_singleton.mp hx; exact Or.inr sz51)
      have Z52 : n0 ≤ T52.heap.size := Nat.le_trans Z51 K52.1
      replace X52 : Stand p l e room_1 (s.setVm T50.vm) m #[(.int p1), (.int p2), (.int p3), (.int p4), (.int p5)] below meth c T52 (L50 ++ Lc52) 5 10 := X52
      have JJh52 := own_J_C JJh51 K52 A51 (by decide)
      obtain ⟨cq53, kq53, q53a, q53b, q53c⟩ := isOf hZ rfl Ex52
      obtain ⟨_, _, ⟨T53, L53, k53, n53⟩, -, X53, ⟨Lc53, hQ53, l53, y53, z53⟩, st53⟩ := X52.virtualBack hx (y := (⟨"com/example/tardy_snapshot/tardysnapshot/Write", "isDelete", "()Z"⟩ : MethodName)) (z := (⟨"com/example/tardy_snapshot/tardysnapshot/Write", "isDelete", "()Z"⟩ : MethodName)) hown (mvT hZ (hw _ (List.mem_of_getElem? (i := 42) rfl))) (mvT hZ (hw _ (List.mem_of_getElem? (i := 43) rfl))) (notFace_of_selects (args := #[]) (mvT hZ (hw _ (List.mem_of_getElem? (i := 45) rfl)))) (mvT hZ (hw _ (List.mem_of_getElem? (i := 45) rfl))) (mvT hZ (hw _ (List.mem_of_getElem? (i := 44) rfl))) (by decide) (backOf (W := 0) (rm7 l Z a0 hw [] b51 bc50 T52.heap n0 Z52 Fv52) hZ (hw _ (List.mem_of_getElem? (i := 46) rfl)) (hw _ (List.mem_of_getElem? (i := 28) rfl)) (by decide) (by decide)) q53a q53c (g := (mkF m 94 #[.val (.int p1), .val (.int p2), .val (.int p3), .val (.int p4), .val (.int p5), .val (.int v5), .val (.int v12), .val (.int v16), .val (.int v18), .val .null, .val (.ref bc50), .val (.ref b51), .unset] [(.ref b51)])) rfl (by rw [hml]; rfl) (Steps.refl _) (argsL := []) (rest := []) (lenOf pd_0_7 rfl) rfl (by show 2 * 0 + _ ≤ _; exact Nat.le_of_eq rfl) (hb hby at_94) (fun _ _ => ⟨rfl, rfl, (by decide : 5 + 0 ≤ _), (by decide : 10 + 0 ≤ _)⟩)
      dsimp only [Pt.U, Pt.locs, Pt.cells, Pt.slots] at X53 l53 y53 z53 st53 hQ53
      subst l53 y53 z53
      obtain ⟨rfl, rfl, e53⟩ := hQ53
      rw [List.append_nil] at X53
      replace X53 : Stand p l e room_1 (s.setVm T50.vm) m #[(.int p1), (.int p2), (.int p3), (.int p4), (.int p5)] below meth c T53 (L50 ++ Lc52) 5 10 := X53
      obtain ⟨_, _, ⟨T54, L54, k54, n54⟩, -, X54, ⟨Lc54, hQ54, l54, y54, z54⟩, st54⟩ := Jvm.LawKit.callS X53 hx (y := (⟨"com/example/tardy_snapshot/tardysnapshot/Write", "delete", "(Ljava/lang/String;)Lcom/example/tardy_snapshot/tardysnapshot/Write;"⟩ : MethodName)) hown (mvT hZ (hw _ (List.mem_of_getElem? (i := 47) rfl))) (mvT hZ (hw _ (List.mem_of_getElem? (i := 48) rfl))) (mvT hZ (hw _ (List.mem_of_getElem? (i := 28) rfl))) (mvT hZ (hw _ (List.mem_of_getElem? (i := 49) rfl))) (by decide) (backOf (W := 0) (rm8 l Z a0 hw [] .null T52.heap n0 Z52 rfl) hZ (hw _ (List.mem_of_getElem? (i := 49) rfl)) (hw _ (List.mem_of_getElem? (i := 28) rfl)) (by decide) (by decide)) (g := (mkF m 116 #[.val (.int p1), .val (.int p2), .val (.int p3), .val (.int p4), .val (.int p5), .val (.int v5), .val (.int v12), .val (.int v16), .val (.int v18), .val .null, .val (.ref bc50), .val (.ref b51), .val (.int (1 : Int32))] [.null])) rfl (by rw [hml]; rfl) (argsL := [.null]) (rest := []) (lenOf pd_0_8 rfl) rfl (by show 2 * 0 + _ ≤ _; exact Nat.le_of_eq rfl) (hb hby at_116) (fun _ _ => ⟨rfl, e53, (by decide : 5 + 1 ≤ _), (by decide : 10 + 2 ≤ _)⟩)
      dsimp only [Pt.U, Pt.locs, Pt.cells, Pt.slots] at X54 l54 y54 z54 st54 hQ54
      subst l54 y54 z54
      obtain ⟨bw54, rfl, N54q, K54, Ex54, Fv54⟩ := hQ54
      have N54 := Fr.app N52 N54q
      have KK54 : Keep h0 T54.heap [] := KK52.trans K54 (fun _ q => nomatch q)
      have Z54 : n0 ≤ T54.heap.size := Nat.le_trans Z52 K54.1
      replace X54 : Stand p l e room_1 (s.setVm T50.vm) m #[(.int p1), (.int p2), (.int p3), (.int p4), (.int p5)] below meth c T54 ((L50 ++ Lc52) ++ Lc54) 6 12 := X54
      have JJh54 := own_J_keep JJh52 K54
      obtain ⟨cq55, kq55, q55a, q55b, q55c⟩ := isOf hZ rfl Ex54
      obtain ⟨_, _, ⟨T55, L55, k55, n55⟩, -, X55, ⟨Lc55, hQ55, l55, y55, z55⟩, st55⟩ := X54.virtualBack hx (y := (⟨"com/example/tardy_snapshot/tardysnapshot/Write", "isDelete", "()Z"⟩ : MethodName)) (z := (⟨"com/example/tardy_snapshot/tardysnapshot/Write", "isDelete", "()Z"⟩ : MethodName)) hown (mvT hZ (hw _ (List.mem_of_getElem? (i := 42) rfl))) (mvT hZ (hw _ (List.mem_of_getElem? (i := 43) rfl))) (notFace_of_selects (args := #[]) (mvT hZ (hw _ (List.mem_of_getElem? (i := 45) rfl)))) (mvT hZ (hw _ (List.mem_of_getElem? (i := 45) rfl))) (mvT hZ (hw _ (List.mem_of_getElem? (i := 44) rfl))) (by decide) (backOf (W := 0) (rm7N l Z a0 hw [] bw54 T54.heap n0 Z54 Fv54) hZ (hw _ (List.mem_of_getElem? (i := 46) rfl)) (hw _ (List.mem_of_getElem? (i := 28) rfl)) (by decide) (by decide)) q55a q55c (g := (mkF m 119 #[.val (.int p1), .val (.int p2), .val (.int p3), .val (.int p4), .val (.int p5), .val (.int v5), .val (.int v12), .val (.int v16), .val (.int v18), .val .null, .val (.ref bc50), .val (.ref b51), .val (.int (1 : Int32))] [(.ref bw54)])) rfl (by rw [hml]; rfl) (Steps.refl _) (argsL := []) (rest := []) (lenOf pd_0_7 rfl) rfl (by show 2 * 0 + _ ≤ _; exact Nat.le_of_eq rfl) (hb hby at_119) (fun _ _ => ⟨rfl, rfl, (by decide : 6 + 0 ≤ _), (by decide : 12 + 0 ≤ _)⟩)
      dsimp only [Pt.U, Pt.locs, Pt.cells, Pt.slots] at X55 l55 y55 z55 st55 hQ55
      subst l55 y55 z55
      obtain ⟨rfl, rfl, e55⟩ := hQ55
      rw [List.append_nil] at X55
      replace X55 : Stand p l e room_1 (s.setVm T50.vm) m #[(.int p1), (.int p2), (.int p3), (.int p4), (.int p5)] below meth c T55 ((L50 ++ Lc52) ++ Lc54) 6 12 := X55
      have R56 : ∀ t, Steps p.tables e below (T55.setTop (mkF m 144 #[.val (.int p1), .val (.int p2), .val (.int p3), .val (.int p4), .val (.int p5), .val (.int v5), .val (.int v12), .val (.int v16), .val (.int v18), .val .null, .val (.ref bc50), .val (.ref b51), .val (.int (1 : Int32))] [(.int p5), (.int p4), (.int v16), .null])) t → Steps p.tables e below (s₁.setTop (entryFrame m #[(.int p1), (.int p2), (.int p3), (.int p4), (.int p5)] maxLocals)) t := by
        intro t kt
        refine R49 _ ?_
        show Steps p.tables e below (s₁.setTop (mkF m 74 #[.val (.int p1), .val (.int p2), .val (.int p3), .val (.int p4), .val (.int p5), .val (.int v5), .val (.int v12), .val (.int v16), .val (.int v18), .val .null, .unset, .unset, .unset] [(.int p5), (.int p4), (.int v16)])) _
        refine st50.trans ?_
        show Steps p.tables e below (T50.setTop (mkF m 77 #[.val (.int p1), .val (.int p2), .val (.int p3), .val (.int p4), .val (.int p5), .val (.int v5), .val (.int v12), .val (.int v16), .val (.int v18), .val .null, .unset, .unset, .unset] [(.ref bc50)])) _
        refine XS.astore X50.here hx rfl (hb hby at_77) rfl rfl (l' := #[.val (.int p1), .val (.int p2), .val (.int p3), .val (.int p4), .val (.int p5), .val (.int v5), .val (.int v12), .val (.int v16), .val (.int v18), .val .null, .val (.ref bc50), .unset, .unset]) rfl ?_
        show Steps p.tables e below (T50.setTop (mkF m 79 #[.val (.int p1), .val (.int p2), .val (.int p3), .val (.int p4), .val (.int p5), .val (.int v5), .val (.int v12), .val (.int v16), .val (.int v18), .val .null, .val (.ref bc50), .unset, .unset] [])) _
        refine st51 _ ?_
        show Steps p.tables e below (T51.setTop (mkF m 82 #[.val (.int p1), .val (.int p2), .val (.int p3), .val (.int p4), .val (.int p5), .val (.int v5), .val (.int v12), .val (.int v16), .val (.int v18), .val .null, .val (.ref bc50), .unset, .unset] [(.ref b51)])) _
        refine XS.dup X51.here hx rfl (hb hby at_82) rfl rfl ?_
        show Steps p.tables e below (T51.setTop (mkF m 83 #[.val (.int p1), .val (.int p2), .val (.int p3), .val (.int p4), .val (.int p5), .val (.int v5), .val (.int v12), .val (.int v16), .val (.int v18), .val .null, .val (.ref bc50), .unset, .unset] [(.ref b51), (.ref b51)])) _
        refine XS.aload X51.here hx rfl (hb hby at_83) rfl rfl ?_
        show Steps p.tables e below (T51.setTop (mkF m 85 #[.val (.int p1), .val (.int p2), .val (.int p3), .val (.int p4), .val (.int p5), .val (.int v5), .val (.int v12), .val (.int v16), .val (.int v18), .val .null, .val (.ref bc50), .unset, .unset] [.null, (.ref b51), (.ref b51)])) _
        refine XS.aload X51.here hx rfl (hb hby at_85) rfl rfl ?_
        show Steps p.tables e below (T51.setTop (mkF m 87 #[.val (.int p1), .val (.int p2), .val (.int p3), .val (.int p4), .val (.int p5), .val (.int v5), .val (.int v12), .val (.int v16), .val (.int v18), .val .null, .val (.ref bc50), .unset, .unset] [(.ref bc50), .null, (.ref b51), (.ref b51)])) _
        refine st52.trans ?_
        show Steps p.tables e below (T52.setTop (mkF m 90 #[.val (.int p1), .val (.int p2), .val (.int p3), .val (.int p4), .val (.int p5), .val (.int v5), .val (.int v12), .val (.int v16), .val (.int v18), .val .null, .val (.ref bc50), .unset, .unset] [(.ref b51)])) _
        refine XS.astore X52.here hx rfl (hb hby at_90) rfl rfl (l' := #[.val (.int p1), .val (.int p2), .val (.int p3), .val (.int p4), .val (.int p5), .val (.int v5), .val (.int v12), .val (.int v16), .val (.int v18), .val .null, .val (.ref bc50), .val (.ref b51), .unset]) rfl ?_
        show Steps p.tables e below (T52.setTop (mkF m 92 #[.val (.int p1), .val (.int p2), .val (.int p3), .val (.int p4), .val (.int p5), .val (.int v5), .val (.int v12), .val (.int v16), .val (.int v18), .val .null, .val (.ref bc50), .val (.ref b51), .unset] [])) _
        refine XS.aload X52.here hx rfl (hb hby at_92) rfl rfl ?_
        show Steps p.tables e below (T52.setTop (mkF m 94 #[.val (.int p1), .val (.int p2), .val (.int p3), .val (.int p4), .val (.int p5), .val (.int v5), .val (.int v12), .val (.int v16), .val (.int v18), .val .null, .val (.ref bc50), .val (.ref b51), .unset] [(.ref b51)])) _
        refine st53.trans ?_
        show Steps p.tables e below (T53.setTop (mkF m 97 #[.val (.int p1), .val (.int p2), .val (.int p3), .val (.int p4), .val (.int p5), .val (.int v5), .val (.int v12), .val (.int v16), .val (.int v18), .val .null, .val (.ref bc50), .val (.ref b51), .unset] [(.int (0 : Int32))])) _
        refine XS.iload X53.here hx rfl (hb hby at_97) rfl ?_
        show Steps p.tables e below (T53.setTop (mkF m 99 #[.val (.int p1), .val (.int p2), .val (.int p3), .val (.int p4), .val (.int p5), .val (.int v5), .val (.int v12), .val (.int v16), .val (.int v18), .val .null, .val (.ref bc50), .val (.ref b51), .unset] [(.int v5), (.int (0 : Int32))])) _
        refine XS.icmpNo X53.here hx rfl (hb hby at_99) rfl (teq (Eq.symm hc47)).2 ?_
        show Steps p.tables e below (T53.setTop (mkF m 102 #[.val (.int p1), .val (.int p2), .val (.int p3), .val (.int p4), .val (.int p5), .val (.int v5), .val (.int v12), .val (.int v16), .val (.int v18), .val .null, .val (.ref bc50), .val (.ref b51), .unset] [])) _
        refine XS.iconst X53.here hx rfl (hb hby at_102) ?_
        show Steps p.tables e below (T53.setTop (mkF m 103 #[.val (.int p1), .val (.int p2), .val (.int p3), .val (.int p4), .val (.int p5), .val (.int v5), .val (.int v12), .val (.int v16), .val (.int v18), .val .null, .val (.ref bc50), .val (.ref b51), .unset] [(.int (1 : Int32))])) _
        refine XS.goto X53.here hx rfl (pc0 := 103) (pc' := 107) rfl (hb hby at_103) (by decide) (by decide) ?_
        show Steps p.tables e below (T53.setTop (mkF m 107 #[.val (.int p1), .val (.int p2), .val (.int p3), .val (.int p4), .val (.int p5), .val (.int v5), .val (.int v12), .val (.int v16), .val (.int v18), .val .null, .val (.ref bc50), .val (.ref b51), .unset] [(.int (1 : Int32))])) _
        refine XS.istore X53.here hx rfl (hb hby at_107) rfl (l' := #[.val (.int p1), .val (.int p2), .val (.int p3), .val (.int p4), .val (.int p5), .val (.int v5), .val (.int v12), .val (.int v16), .val (.int v18), .val .null, .val (.ref bc50), .val (.ref b51), .val (.int (1 : Int32))]) rfl ?_
        show Steps p.tables e below (T53.setTop (mkF m 109 #[.val (.int p1), .val (.int p2), .val (.int p3), .val (.int p4), .val (.int p5), .val (.int v5), .val (.int v12), .val (.int v16), .val (.int v18), .val .null, .val (.ref bc50), .val (.ref b51), .val (.int (1 : Int32))] [])) _
        refine XS.iload X53.here hx rfl (hb hby at_109) rfl ?_
        show Steps p.tables e below (T53.setTop (mkF m 111 #[.val (.int p1), .val (.int p2), .val (.int p3), .val (.int p4), .val (.int p5), .val (.int v5), .val (.int v12), .val (.int v16), .val (.int v18), .val .null, .val (.ref bc50), .val (.ref b51), .val (.int (1 : Int32))] [(.int (1 : Int32))])) _
        refine XS.ifNo X53.here hx rfl (hb hby at_111) rfl ((if0 _ _).trans (feq (by decide : ¬ ((1 : Int32) = (0 : Int32)))).1) ?_
        show Steps p.tables e below (T53.setTop (mkF m 114 #[.val (.int p1), .val (.int p2), .val (.int p3), .val (.int p4), .val (.int p5), .val (.int v5), .val (.int v12), .val (.int v16), .val (.int v18), .val .null, .val (.ref bc50), .val (.ref b51), .val (.int (1 : Int32))] [])) _
        refine XS.aload X53.here hx rfl (hb hby at_114) rfl rfl ?_
        show Steps p.tables e below (T53.setTop (mkF m 116 #[.val (.int p1), .val (.int p2), .val (.int p3), .val (.int p4), .val (.int p5), .val (.int v5), .val (.int v12), .val (.int v16), .val (.int v18), .val .null, .val (.ref bc50), .val (.ref b51), .val (.int (1 : Int32))] [.null])) _
        refine st54 _ ?_
        show Steps p.tables e below (T54.setTop (mkF m 119 #[.val (.int p1), .val (.int p2), .val (.int p3), .val (.int p4), .val (.int p5), .val (.int v5), .val (.int v12), .val (.int v16), .val (.int v18), .val .null, .val (.ref bc50), .val (.ref b51), .val (.int (1 : Int32))] [(.ref bw54)])) _
        refine st55.trans ?_
        show Steps p.tables e below (T55.setTop (mkF m 122 #[.val (.int p1), .val (.int p2), .val (.int p3), .val (.int p4), .val (.int p5), .val (.int v5), .val (.int v12), .val (.int v16), .val (.int v18), .val .null, .val (.ref bc50), .val (.ref b51), .val (.int (1 : Int32))] [(.int (1 : Int32))])) _
        refine XS.ifNo X55.here hx rfl (hb hby at_122) rfl ((if0 _ _).trans (feq (by decide : ¬ ((1 : Int32) = (0 : Int32)))).1) ?_
        show Steps p.tables e below (T55.setTop (mkF m 125 #[.val (.int p1), .val (.int p2), .val (.int p3), .val (.int p4), .val (.int p5), .val (.int v5), .val (.int v12), .val (.int v16), .val (.int v18), .val .null, .val (.ref bc50), .val (.ref b51), .val (.int (1 : Int32))] [])) _
        refine XS.iconst X55.here hx rfl (hb hby at_125) ?_
        show Steps p.tables e below (T55.setTop (mkF m 126 #[.val (.int p1), .val (.int p2), .val (.int p3), .val (.int p4), .val (.int p5), .val (.int v5), .val (.int v12), .val (.int v16), .val (.int v18), .val .null, .val (.ref bc50), .val (.ref b51), .val (.int (1 : Int32))] [(.int (1 : Int32))])) _
        refine XS.goto X55.here hx rfl (pc0 := 126) (pc' := 130) rfl (hb hby at_126) (by decide) (by decide) ?_
        show Steps p.tables e below (T55.setTop (mkF m 130 #[.val (.int p1), .val (.int p2), .val (.int p3), .val (.int p4), .val (.int p5), .val (.int v5), .val (.int v12), .val (.int v16), .val (.int v18), .val .null, .val (.ref bc50), .val (.ref b51), .val (.int (1 : Int32))] [(.int (1 : Int32))])) _
        refine XS.istore X55.here hx rfl (hb hby at_130) rfl (l' := #[.val (.int p1), .val (.int p2), .val (.int p3), .val (.int p4), .val (.int p5), .val (.int v5), .val (.int v12), .val (.int v16), .val (.int v18), .val .null, .val (.ref bc50), .val (.ref b51), .val (.int (1 : Int32))]) rfl ?_
        show Steps p.tables e below (T55.setTop (mkF m 132 #[.val (.int p1), .val (.int p2), .val (.int p3), .val (.int p4), .val (.int p5), .val (.int v5), .val (.int v12), .val (.int v16), .val (.int v18), .val .null, .val (.ref bc50), .val (.ref b51), .val (.int (1 : Int32))] [])) _
        refine XS.iload X55.here hx rfl (hb hby at_132) rfl ?_
        show Steps p.tables e below (T55.setTop (mkF m 134 #[.val (.int p1), .val (.int p2), .val (.int p3), .val (.int p4), .val (.int p5), .val (.int v5), .val (.int v12), .val (.int v16), .val (.int v18), .val .null, .val (.ref bc50), .val (.ref b51), .val (.int (1 : Int32))] [(.int (1 : Int32))])) _
        refine XS.ifNo X55.here hx rfl (hb hby at_134) rfl ((if0 _ _).trans (feq (by decide : ¬ ((1 : Int32) = (0 : Int32)))).1) ?_
        show Steps p.tables e below (T55.setTop (mkF m 137 #[.val (.int p1), .val (.int p2), .val (.int p3), .val (.int p4), .val (.int p5), .val (.int v5), .val (.int v12), .val (.int v16), .val (.int v18), .val .null, .val (.ref bc50), .val (.ref b51), .val (.int (1 : Int32))] [])) _
        refine XS.aload X55.here hx rfl (hb hby at_137) rfl rfl ?_
        show Steps p.tables e below (T55.setTop (mkF m 139 #[.val (.int p1), .val (.int p2), .val (.int p3), .val (.int p4), .val (.int p5), .val (.int v5), .val (.int v12), .val (.int v16), .val (.int v18), .val .null, .val (.ref bc50), .val (.ref b51), .val (.int (1 : Int32))] [.null])) _
        refine XS.iload X55.here hx rfl (hb hby at_139) rfl ?_
        show Steps p.tables e below (T55.setTop (mkF m 141 #[.val (.int p1), .val (.int p2), .val (.int p3), .val (.int p4), .val (.int p5), .val (.int v5), .val (.int v12), .val (.int v16), .val (.int v18), .val .null, .val (.ref bc50), .val (.ref b51), .val (.int (1 : Int32))] [(.int v16), .null])) _
        refine XS.iloadN X55.here hx rfl (hb hby at_141) rfl ?_
        show Steps p.tables e below (T55.setTop (mkF m 142 #[.val (.int p1), .val (.int p2), .val (.int p3), .val (.int p4), .val (.int p5), .val (.int v5), .val (.int v12), .val (.int v16), .val (.int v18), .val .null, .val (.ref bc50), .val (.ref b51), .val (.int (1 : Int32))] [(.int p4), (.int v16), .null])) _
        refine XS.iload X55.here hx rfl (hb hby at_142) rfl ?_
        exact kt
      obtain ⟨_, _, ⟨T57, L57, k57, n57⟩, -, X57, hS057, hg57, ⟨Lc57, ⟨hQ57, J57⟩, l57, y57, z57⟩, st57⟩ := callSS X55 hx (y := (⟨"com/example/tardy_snapshot/tardysnapshot/WriteIsDeletePinLaw", "draw", "(III)Ljava/lang/String;"⟩ : MethodName)) hown (mvT hZ (hw _ (List.mem_of_getElem? (i := 0) rfl))) (mvT hZ (hw _ (List.mem_of_getElem? (i := 1) rfl))) (mvT hZ (hw _ (List.mem_of_getElem? (i := 2) rfl))) (mvT hZ (hw _ (List.mem_of_getElem? (i := 3) rfl))) (by decide) (own_backJ (W := 1) (rm1 l Z a0 hw [] v16 p4 p5 G1 T54.heap n0 Z54 (O2.ext (own_ext KK54)) P5 (fun b cl q => KK54.2.1 b cl (by rw [← hZh]; exact q) nin0) hheld hcw) hZ (hw _ (List.mem_of_getElem? (i := 3) rfl)) (hw _ (List.mem_of_getElem? (i := 2) rfl)) (by decide) (by decide)) (g := (mkF m 144 #[.val (.int p1), .val (.int p2), .val (.int p3), .val (.int p4), .val (.int p5), .val (.int v5), .val (.int v12), .val (.int v16), .val (.int v18), .val .null, .val (.ref bc50), .val (.ref b51), .val (.int (1 : Int32))] [(.int p5), (.int p4), (.int v16), .null])) rfl (by rw [hml]; rfl) (argsL := [(.int v16), (.int p4), (.int p5)]) (rest := [.null]) (lenOf pd_0_1 rfl) rfl (by show 2 * 0 + _ ≤ _; exact Nat.le_of_eq rfl) (hb hby at_144) (fun _ hW₁ => ⟨rfl, e55, own_J_warm (s := (s.setVm T50.vm)) JJh54 hW₁, (by decide : 6 + 4 ≤ _), (by decide : 12 + 8 ≤ _)⟩)
      dsimp only [Pt.U, Pt.locs, Pt.cells, Pt.slots] at X57 hS057 hg57 J57 l57 y57 z57 st57 hQ57
      subst l57 y57 z57
      obtain ⟨⟨bc57, rfl⟩, N57q, K57⟩ := hQ57
      obtain ⟨X57, hS57, hZ, hown⟩ := rebS hS50 (by first | exact (Nat.le_trans (Nat.le_trans (Nat.le_trans (Nat.le_refl T50.heap.size) E51.1) K52.1) K54.1) | (rw [e55]; exact (Nat.le_trans (Nat.le_trans (Nat.le_trans (Nat.le_refl T50.heap.size) E51.1) K52.1) K54.1))) X57 hS057 hg57 hZ hown
      have N57 := Fr.app N54 N57q
      have KK57 : Keep h0 T57.heap [] := KK54.trans K57 (fun _ q => nomatch q)
      have Z57 : n0 ≤ T57.heap.size := Nat.le_trans Z54 K57.1
      replace X57 : Stand p l e room_1 (s.setVm T57.vm) m #[(.int p1), (.int p2), (.int p3), (.int p4), (.int p5)] below meth c T57 (((L50 ++ Lc52) ++ Lc54) ++ Lc57) 10 20 := X57
      obtain ⟨_, _, ⟨T58, L58, k58, n58⟩, -, X58, ⟨Lc58, hQ58, l58, y58, z58⟩, st58⟩ := Jvm.LawKit.callS X57 hx (y := (⟨"com/example/tardy_snapshot/tardysnapshot/Write", "put", "(Ljava/lang/String;Ljava/lang/String;)Lcom/example/tardy_snapshot/tardysnapshot/Write;"⟩ : MethodName)) hown (mvT hZ (hw _ (List.mem_of_getElem? (i := 52) rfl))) (mvT hZ (hw _ (List.mem_of_getElem? (i := 53) rfl))) (mvT hZ (hw _ (List.mem_of_getElem? (i := 28) rfl))) (mvT hZ (hw _ (List.mem_of_getElem? (i := 54) rfl))) (by decide) (backOf (W := 0) (rm9 l Z a0 hw [] .null bc57 T57.heap n0 Z57 rfl) hZ (hw _ (List.mem_of_getElem? (i := 54) rfl)) (hw _ (List.mem_of_getElem? (i := 28) rfl)) (by decide) (by decide)) (g := (mkF m 147 #[.val (.int p1), .val (.int p2), .val (.int p3), .val (.int p4), .val (.int p5), .val (.int v5), .val (.int v12), .val (.int v16), .val (.int v18), .val .null, .val (.ref bc50), .val (.ref b51), .val (.int (1 : Int32))] [(.ref bc57), .null])) rfl (by rw [hml]; rfl) (argsL := [.null, (.ref bc57)]) (rest := []) (lenOf pd_0_9 rfl) rfl (by show 2 * 0 + _ ≤ _; exact Nat.le_of_eq rfl) (hb hby at_147) (fun _ _ => ⟨rfl, rfl, (by decide : 10 + 1 ≤ _), (by decide : 20 + 2 ≤ _)⟩)
      dsimp only [Pt.U, Pt.locs, Pt.cells, Pt.slots] at X58 l58 y58 z58 st58 hQ58
      subst l58 y58 z58
      obtain ⟨bw58, rfl, N58q, K58, Ex58, Fv58⟩ := hQ58
      have N58 := Fr.app N57 N58q
      have KK58 : Keep h0 T58.heap [] := KK57.trans K58 (fun _ q => nomatch q)
      have Z58 : n0 ≤ T58.heap.size := Nat.le_trans Z57 K58.1
      replace X58 : Stand p l e room_1 (s.setVm T57.vm) m #[(.int p1), (.int p2), (.int p3), (.int p4), (.int p5)] below meth c T58 ((((L50 ++ Lc52) ++ Lc54) ++ Lc57) ++ Lc58) 11 22 := X58
      have JJh58 := own_J_keep J57 K58
      obtain ⟨cq59, kq59, q59a, q59b, q59c⟩ := isOf hZ rfl Ex58
      obtain ⟨_, _, ⟨T59, L59, k59, n59⟩, -, X59, ⟨Lc59, hQ59, l59, y59, z59⟩, st59⟩ := X58.virtualBack hx (y := (⟨"com/example/tardy_snapshot/tardysnapshot/Write", "isDelete", "()Z"⟩ : MethodName)) (z := (⟨"com/example/tardy_snapshot/tardysnapshot/Write", "isDelete", "()Z"⟩ : MethodName)) hown (mvT hZ (hw _ (List.mem_of_getElem? (i := 42) rfl))) (mvT hZ (hw _ (List.mem_of_getElem? (i := 43) rfl))) (notFace_of_selects (args := #[]) (mvT hZ (hw _ (List.mem_of_getElem? (i := 45) rfl)))) (mvT hZ (hw _ (List.mem_of_getElem? (i := 45) rfl))) (mvT hZ (hw _ (List.mem_of_getElem? (i := 44) rfl))) (by decide) (backOf (W := 0) (rm7 l Z a0 hw [] bw58 bc57 T58.heap n0 Z58 Fv58) hZ (hw _ (List.mem_of_getElem? (i := 46) rfl)) (hw _ (List.mem_of_getElem? (i := 28) rfl)) (by decide) (by decide)) q59a q59c (g := (mkF m 150 #[.val (.int p1), .val (.int p2), .val (.int p3), .val (.int p4), .val (.int p5), .val (.int v5), .val (.int v12), .val (.int v16), .val (.int v18), .val .null, .val (.ref bc50), .val (.ref b51), .val (.int (1 : Int32))] [(.ref bw58)])) rfl (by rw [hml]; rfl) (Steps.refl _) (argsL := []) (rest := []) (lenOf pd_0_7 rfl) rfl (by show 2 * 0 + _ ≤ _; exact Nat.le_of_eq rfl) (hb hby at_150) (fun _ _ => ⟨rfl, rfl, (by decide : 11 + 0 ≤ _), (by decide : 22 + 0 ≤ _)⟩)
      dsimp only [Pt.U, Pt.locs, Pt.cells, Pt.slots] at X59 l59 y59 z59 st59 hQ59
      subst l59 y59 z59
      obtain ⟨rfl, rfl, e59⟩ := hQ59
      rw [List.append_nil] at X59
      replace X59 : Stand p l e room_1 (s.setVm T57.vm) m #[(.int p1), (.int p2), (.int p3), (.int p4), (.int p5)] below meth c T59 ((((L50 ++ Lc52) ++ Lc54) ++ Lc57) ++ Lc58) 11 22 := X59
      have R60 : ∀ t, Steps p.tables e below (T59.setTop (mkF m 165 #[.val (.int p1), .val (.int p2), .val (.int p3), .val (.int p4), .val (.int p5), .val (.int v5), .val (.int v12), .val (.int v16), .val (.int v18), .val .null, .val (.ref bc50), .val (.ref b51), .val (.int (1 : Int32))] [(.int (1 : Int32))])) t → Steps p.tables e below (s₁.setTop (entryFrame m #[(.int p1), (.int p2), (.int p3), (.int p4), (.int p5)] maxLocals)) t := by
        intro t kt
        refine R56 _ ?_
        show Steps p.tables e below (T55.setTop (mkF m 144 #[.val (.int p1), .val (.int p2), .val (.int p3), .val (.int p4), .val (.int p5), .val (.int v5), .val (.int v12), .val (.int v16), .val (.int v18), .val .null, .val (.ref bc50), .val (.ref b51), .val (.int (1 : Int32))] [(.int p5), (.int p4), (.int v16), .null])) _
        refine st57.trans ?_
        show Steps p.tables e below (T57.setTop (mkF m 147 #[.val (.int p1), .val (.int p2), .val (.int p3), .val (.int p4), .val (.int p5), .val (.int v5), .val (.int v12), .val (.int v16), .val (.int v18), .val .null, .val (.ref bc50), .val (.ref b51), .val (.int (1 : Int32))] [(.ref bc57), .null])) _
        refine st58 _ ?_
        show Steps p.tables e below (T58.setTop (mkF m 150 #[.val (.int p1), .val (.int p2), .val (.int p3), .val (.int p4), .val (.int p5), .val (.int v5), .val (.int v12), .val (.int v16), .val (.int v18), .val .null, .val (.ref bc50), .val (.ref b51), .val (.int (1 : Int32))] [(.ref bw58)])) _
        refine st59.trans ?_
        show Steps p.tables e below (T59.setTop (mkF m 153 #[.val (.int p1), .val (.int p2), .val (.int p3), .val (.int p4), .val (.int p5), .val (.int v5), .val (.int v12), .val (.int v16), .val (.int v18), .val .null, .val (.ref bc50), .val (.ref b51), .val (.int (1 : Int32))] [(.int (0 : Int32))])) _
        refine XS.ifNo X59.here hx rfl (hb hby at_153) rfl ((if0 _ _).trans (teq (by decide : (0 : Int32) = (0 : Int32))).2) ?_
        show Steps p.tables e below (T59.setTop (mkF m 156 #[.val (.int p1), .val (.int p2), .val (.int p3), .val (.int p4), .val (.int p5), .val (.int v5), .val (.int v12), .val (.int v16), .val (.int v18), .val .null, .val (.ref bc50), .val (.ref b51), .val (.int (1 : Int32))] [])) _
        refine XS.iconst X59.here hx rfl (hb hby at_156) ?_
        show Steps p.tables e below (T59.setTop (mkF m 157 #[.val (.int p1), .val (.int p2), .val (.int p3), .val (.int p4), .val (.int p5), .val (.int v5), .val (.int v12), .val (.int v16), .val (.int v18), .val .null, .val (.ref bc50), .val (.ref b51), .val (.int (1 : Int32))] [(.int (1 : Int32))])) _
        refine XS.goto X59.here hx rfl (pc0 := 157) (pc' := 161) rfl (hb hby at_157) (by decide) (by decide) ?_
        show Steps p.tables e below (T59.setTop (mkF m 161 #[.val (.int p1), .val (.int p2), .val (.int p3), .val (.int p4), .val (.int p5), .val (.int v5), .val (.int v12), .val (.int v16), .val (.int v18), .val .null, .val (.ref bc50), .val (.ref b51), .val (.int (1 : Int32))] [(.int (1 : Int32))])) _
        refine XS.istore X59.here hx rfl (hb hby at_161) rfl (l' := #[.val (.int p1), .val (.int p2), .val (.int p3), .val (.int p4), .val (.int p5), .val (.int v5), .val (.int v12), .val (.int v16), .val (.int v18), .val .null, .val (.ref bc50), .val (.ref b51), .val (.int (1 : Int32))]) rfl ?_
        show Steps p.tables e below (T59.setTop (mkF m 163 #[.val (.int p1), .val (.int p2), .val (.int p3), .val (.int p4), .val (.int p5), .val (.int v5), .val (.int v12), .val (.int v16), .val (.int v18), .val .null, .val (.ref bc50), .val (.ref b51), .val (.int (1 : Int32))] [])) _
        refine XS.iload X59.here hx rfl (hb hby at_163) rfl ?_
        exact kt
      obtain ⟨fs, hr, hrun, hended, w1, w2, w3, w4⟩ := Stand.leaveW (s := s) X59 hS57 (by first | exact (Nat.le_trans (Nat.le_refl T57.heap.size) K58.1) | (rw [e59]; exact (Nat.le_trans (Nat.le_refl T57.heap.size) K58.1))) (v := some (.int (1 : Int32))) (fun h => by rw [Bd.returns] at h; cases h)
      refine ⟨_, _, R60 _ ?_, hrun, hended, _, _, rfl, ?_, w1, w2, w3, w4.mono (by decide) (by decide)⟩
      · show Steps p.tables e below (T59.setTop (mkF m 165 #[.val (.int p1), .val (.int p2), .val (.int p3), .val (.int p4), .val (.int p5), .val (.int v5), .val (.int v12), .val (.int v16), .val (.int v18), .val .null, .val (.ref bc50), .val (.ref b51), .val (.int (1 : Int32))] [(.int (1 : Int32))])) _
        exact retN X59 hx (t := .boolean) Bd.returns (by simp) (hb hby at_165) hr
      · show Q0 Z p1 p2 p3 p4 p5 G1 h0 n0 _ T59.heap _
        rw [e59]
        exact ⟨rfl, N58⟩
    · obtain ⟨T61, h61, X61, e61, E61, A61, D61, -, st61⟩ := newO X0 hx hZ hown (hw _ (List.mem_of_getElem? (i := 26) rfl)) (hw _ (List.mem_of_getElem? (i := 27) rfl)) (hw _ (List.mem_of_getElem? (i := 28) rfl)) e0 (g := (mkF m 79 #[.val (.int p1), .val (.int p2), .val (.int p3), .val (.int p4), .val (.int p5), .val (.int v5), .val (.int v12), .val (.int v16), .val (.int v18), .val .null, .val .null, .unset, .unset] [])) rfl (hb hby at_79) (by decide) (by decide)
      obtain ⟨b61, g61⟩ : ∃ z, z = h0.size := ⟨_, rfl⟩
      rw [← g61] at A61 D61 st61
      have Z61 : n0 ≤ h61.size := Nat.le_trans Z0 E61.1
      have gb61 : n0 ≤ b61 := Nat.le_trans Z0 (Nat.le_of_eq g61.symm)
      have F_key_b61 : Fld Z h61 b61 "com/example/tardy_snapshot/tardysnapshot/Write" "key" "Ljava/lang/String;" .null := D61 (Or.inr (hw _ (List.mem_of_getElem? (i := 39) rfl))) (ty := (.object "java/lang/String")) (by decide)
      have F_value_b61 : Fld Z h61 b61 "com/example/tardy_snapshot/tardysnapshot/Write" "value" "Ljava/lang/String;" .null := D61 (Or.inr (hw _ (List.mem_of_getElem? (i := 41) rfl))) (ty := (.object "java/lang/String")) (by decide)
      have sz61 : h0.size ≤ b61 := Nat.le_trans (Keep.refl h0 []).1 (Nat.le_of_eq g61.symm)
      have KK61 : Keep h0 h61 [] := (Keep.refl h0 []).ext E61
      replace X61 : Stand p l e room_1 (s.setVm s.vm) m #[(.int p1), (.int p2), (.int p3), (.int p4), (.int p5)] below meth c T61 [] 1 2 := X61
      have JJh61 := own_J_ext hJ E61
      obtain ⟨_, _, ⟨T62, L62, k62, n62⟩, -, X62, ⟨Lc62, hQ62, l62, y62, z62⟩, st62⟩ := X61.specialBack hx (y := (⟨"com/example/tardy_snapshot/tardysnapshot/Write", "<init>", "(Ljava/lang/String;Ljava/lang/String;)V"⟩ : MethodName)) rfl hown (mvT hZ (hw _ (List.mem_of_getElem? (i := 29) rfl))) (mvT hZ (hw _ (List.mem_of_getElem? (i := 30) rfl))) (mvT hZ (hw _ (List.mem_of_getElem? (i := 31) rfl))) (by decide) (backOf (W := 1) (rm5 l Z a0 hw [] b61 .null .null .null .null h61 n0 Z61 A61 F_key_b61 gb61 F_value_b61 rfl rfl) hZ (hw _ (List.mem_of_getElem? (i := 31) rfl)) (hw _ (List.mem_of_getElem? (i := 28) rfl)) (by decide) (by decide)) (g := (mkF m 87 #[.val (.int p1), .val (.int p2), .val (.int p3), .val (.int p4), .val (.int p5), .val (.int v5), .val (.int v12), .val (.int v16), .val (.int v18), .val .null, .val .null, .unset, .unset] [.null, .null, (.ref b61), (.ref b61)])) rfl (by rw [hml]; rfl) (Steps.refl _) (a := b61) (argsL := [.null, .null]) (rest := [(.ref b61)]) (lenOf pd_0_5 rfl) rfl (by show 2 * 0 + _ ≤ _; exact Nat.le_of_eq rfl) (hb hby at_87) (fun _ _ => ⟨rfl, e61, (by decide : 1 + 0 ≤ _), (by decide : 2 + 0 ≤ _)⟩)
      dsimp only [Pt.U, Pt.locs, Pt.cells, Pt.slots] at X62 l62 y62 z62 st62 hQ62
      subst l62 y62 z62
      obtain ⟨rfl, N62q, K62, Ex62, Fv62⟩ := hQ62
      have N62 := Fr.app (Fr.nil n0) N62q
      have KK62 : Keep h0 T62.heap [] := KK61.trans K62 (fun x hx => by cases List.mem_singleton.mp hx; exact Or.inr sz61)
      have Z62 : n0 ≤ T62.heap.size := Nat.le_trans Z61 K62.1
      replace X62 : Stand p l e room_1 (s.setVm s.vm) m #[(.int p1), (.int p2), (.int p3), (.int p4), (.int p5)] below meth c T62 L62 1 2 := X62
      have JJh62 := own_J_C JJh61 K62 A61 (by decide)
      obtain ⟨cq63, kq63, q63a, q63b, q63c⟩ := isOf hZ rfl Ex62
      obtain ⟨_, _, ⟨T63, L63, k63, n63⟩, -, X63, ⟨Lc63, hQ63, l63, y63, z63⟩, st63⟩ := X62.virtualBack hx (y := (⟨"com/example/tardy_snapshot/tardysnapshot/Write", "isDelete", "()Z"⟩ : MethodName)) (z := (⟨"com/example/tardy_snapshot/tardysnapshot/Write", "isDelete", "()Z"⟩ : MethodName)) hown (mvT hZ (hw _ (List.mem_of_getElem? (i := 42) rfl))) (mvT hZ (hw _ (List.mem_of_getElem? (i := 43) rfl))) (notFace_of_selects (args := #[]) (mvT hZ (hw _ (List.mem_of_getElem? (i := 45) rfl)))) (mvT hZ (hw _ (List.mem_of_getElem? (i := 45) rfl))) (mvT hZ (hw _ (List.mem_of_getElem? (i := 44) rfl))) (by decide) (backOf (W := 0) (rm7N l Z a0 hw [] b61 T62.heap n0 Z62 Fv62) hZ (hw _ (List.mem_of_getElem? (i := 46) rfl)) (hw _ (List.mem_of_getElem? (i := 28) rfl)) (by decide) (by decide)) q63a q63c (g := (mkF m 94 #[.val (.int p1), .val (.int p2), .val (.int p3), .val (.int p4), .val (.int p5), .val (.int v5), .val (.int v12), .val (.int v16), .val (.int v18), .val .null, .val .null, .val (.ref b61), .unset] [(.ref b61)])) rfl (by rw [hml]; rfl) (Steps.refl _) (argsL := []) (rest := []) (lenOf pd_0_7 rfl) rfl (by show 2 * 0 + _ ≤ _; exact Nat.le_of_eq rfl) (hb hby at_94) (fun _ _ => ⟨rfl, rfl, (by decide : 1 + 0 ≤ _), (by decide : 2 + 0 ≤ _)⟩)
      dsimp only [Pt.U, Pt.locs, Pt.cells, Pt.slots] at X63 l63 y63 z63 st63 hQ63
      subst l63 y63 z63
      obtain ⟨rfl, rfl, e63⟩ := hQ63
      rw [List.append_nil] at X63
      replace X63 : Stand p l e room_1 (s.setVm s.vm) m #[(.int p1), (.int p2), (.int p3), (.int p4), (.int p5)] below meth c T63 L62 1 2 := X63
      obtain ⟨_, _, ⟨T64, L64, k64, n64⟩, -, X64, ⟨Lc64, hQ64, l64, y64, z64⟩, st64⟩ := Jvm.LawKit.callS X63 hx (y := (⟨"com/example/tardy_snapshot/tardysnapshot/Write", "delete", "(Ljava/lang/String;)Lcom/example/tardy_snapshot/tardysnapshot/Write;"⟩ : MethodName)) hown (mvT hZ (hw _ (List.mem_of_getElem? (i := 47) rfl))) (mvT hZ (hw _ (List.mem_of_getElem? (i := 48) rfl))) (mvT hZ (hw _ (List.mem_of_getElem? (i := 28) rfl))) (mvT hZ (hw _ (List.mem_of_getElem? (i := 49) rfl))) (by decide) (backOf (W := 0) (rm8 l Z a0 hw [] .null T62.heap n0 Z62 rfl) hZ (hw _ (List.mem_of_getElem? (i := 49) rfl)) (hw _ (List.mem_of_getElem? (i := 28) rfl)) (by decide) (by decide)) (g := (mkF m 116 #[.val (.int p1), .val (.int p2), .val (.int p3), .val (.int p4), .val (.int p5), .val (.int v5), .val (.int v12), .val (.int v16), .val (.int v18), .val .null, .val .null, .val (.ref b61), .val (.int (1 : Int32))] [.null])) rfl (by rw [hml]; rfl) (argsL := [.null]) (rest := []) (lenOf pd_0_8 rfl) rfl (by show 2 * 0 + _ ≤ _; exact Nat.le_of_eq rfl) (hb hby at_116) (fun _ _ => ⟨rfl, e63, (by decide : 1 + 1 ≤ _), (by decide : 2 + 2 ≤ _)⟩)
      dsimp only [Pt.U, Pt.locs, Pt.cells, Pt.slots] at X64 l64 y64 z64 st64 hQ64
      subst l64 y64 z64
      obtain ⟨bw64, rfl, N64q, K64, Ex64, Fv64⟩ := hQ64
      have N64 := Fr.app N62 N64q
      have KK64 : Keep h0 T64.heap [] := KK62.trans K64 (fun _ q => nomatch q)
      have Z64 : n0 ≤ T64.heap.size := Nat.le_trans Z62 K64.1
      replace X64 : Stand p l e room_1 (s.setVm s.vm) m #[(.int p1), (.int p2), (.int p3), (.int p4), (.int p5)] below meth c T64 (L62 ++ Lc64) 2 4 := X64
      have JJh64 := own_J_keep JJh62 K64
      obtain ⟨cq65, kq65, q65a, q65b, q65c⟩ := isOf hZ rfl Ex64
      obtain ⟨_, _, ⟨T65, L65, k65, n65⟩, -, X65, ⟨Lc65, hQ65, l65, y65, z65⟩, st65⟩ := X64.virtualBack hx (y := (⟨"com/example/tardy_snapshot/tardysnapshot/Write", "isDelete", "()Z"⟩ : MethodName)) (z := (⟨"com/example/tardy_snapshot/tardysnapshot/Write", "isDelete", "()Z"⟩ : MethodName)) hown (mvT hZ (hw _ (List.mem_of_getElem? (i := 42) rfl))) (mvT hZ (hw _ (List.mem_of_getElem? (i := 43) rfl))) (notFace_of_selects (args := #[]) (mvT hZ (hw _ (List.mem_of_getElem? (i := 45) rfl)))) (mvT hZ (hw _ (List.mem_of_getElem? (i := 45) rfl))) (mvT hZ (hw _ (List.mem_of_getElem? (i := 44) rfl))) (by decide) (backOf (W := 0) (rm7N l Z a0 hw [] bw64 T64.heap n0 Z64 Fv64) hZ (hw _ (List.mem_of_getElem? (i := 46) rfl)) (hw _ (List.mem_of_getElem? (i := 28) rfl)) (by decide) (by decide)) q65a q65c (g := (mkF m 119 #[.val (.int p1), .val (.int p2), .val (.int p3), .val (.int p4), .val (.int p5), .val (.int v5), .val (.int v12), .val (.int v16), .val (.int v18), .val .null, .val .null, .val (.ref b61), .val (.int (1 : Int32))] [(.ref bw64)])) rfl (by rw [hml]; rfl) (Steps.refl _) (argsL := []) (rest := []) (lenOf pd_0_7 rfl) rfl (by show 2 * 0 + _ ≤ _; exact Nat.le_of_eq rfl) (hb hby at_119) (fun _ _ => ⟨rfl, rfl, (by decide : 2 + 0 ≤ _), (by decide : 4 + 0 ≤ _)⟩)
      dsimp only [Pt.U, Pt.locs, Pt.cells, Pt.slots] at X65 l65 y65 z65 st65 hQ65
      subst l65 y65 z65
      obtain ⟨rfl, rfl, e65⟩ := hQ65
      rw [List.append_nil] at X65
      replace X65 : Stand p l e room_1 (s.setVm s.vm) m #[(.int p1), (.int p2), (.int p3), (.int p4), (.int p5)] below meth c T65 (L62 ++ Lc64) 2 4 := X65
      have R66 : ∀ t, Steps p.tables e below (T65.setTop (mkF m 144 #[.val (.int p1), .val (.int p2), .val (.int p3), .val (.int p4), .val (.int p5), .val (.int v5), .val (.int v12), .val (.int v16), .val (.int v18), .val .null, .val .null, .val (.ref b61), .val (.int (1 : Int32))] [(.int p5), (.int p4), (.int v16), .null])) t → Steps p.tables e below (s₁.setTop (entryFrame m #[(.int p1), (.int p2), (.int p3), (.int p4), (.int p5)] maxLocals)) t := by
        intro t kt
        refine R48 _ ?_
        show Steps p.tables e below (s₁.setTop (mkF m 62 #[.val (.int p1), .val (.int p2), .val (.int p3), .val (.int p4), .val (.int p5), .val (.int v5), .val (.int v12), .val (.int v16), .val (.int v18), .val .null, .unset, .unset, .unset] [(.int v5)])) _
        refine XS.ifNo X0.here hx rfl (hb hby at_62) rfl ((if0 _ _).trans (feq hc47).1) ?_
        show Steps p.tables e below (s₁.setTop (mkF m 65 #[.val (.int p1), .val (.int p2), .val (.int p3), .val (.int p4), .val (.int p5), .val (.int v5), .val (.int v12), .val (.int v16), .val (.int v18), .val .null, .unset, .unset, .unset] [])) _
        refine XS.aconstNull X0.here hx rfl (hb hby at_65) ?_
        show Steps p.tables e below (s₁.setTop (mkF m 66 #[.val (.int p1), .val (.int p2), .val (.int p3), .val (.int p4), .val (.int p5), .val (.int v5), .val (.int v12), .val (.int v16), .val (.int v18), .val .null, .unset, .unset, .unset] [.null])) _
        refine XS.goto X0.here hx rfl (pc0 := 66) (pc' := 77) rfl (hb hby at_66) (by decide) (by decide) ?_
        show Steps p.tables e below (s₁.setTop (mkF m 77 #[.val (.int p1), .val (.int p2), .val (.int p3), .val (.int p4), .val (.int p5), .val (.int v5), .val (.int v12), .val (.int v16), .val (.int v18), .val .null, .unset, .unset, .unset] [.null])) _
        refine XS.astore X0.here hx rfl (hb hby at_77) rfl rfl (l' := #[.val (.int p1), .val (.int p2), .val (.int p3), .val (.int p4), .val (.int p5), .val (.int v5), .val (.int v12), .val (.int v16), .val (.int v18), .val .null, .val .null, .unset, .unset]) rfl ?_
        show Steps p.tables e below (s₁.setTop (mkF m 79 #[.val (.int p1), .val (.int p2), .val (.int p3), .val (.int p4), .val (.int p5), .val (.int v5), .val (.int v12), .val (.int v16), .val (.int v18), .val .null, .val .null, .unset, .unset] [])) _
        refine st61 _ ?_
        show Steps p.tables e below (T61.setTop (mkF m 82 #[.val (.int p1), .val (.int p2), .val (.int p3), .val (.int p4), .val (.int p5), .val (.int v5), .val (.int v12), .val (.int v16), .val (.int v18), .val .null, .val .null, .unset, .unset] [(.ref b61)])) _
        refine XS.dup X61.here hx rfl (hb hby at_82) rfl rfl ?_
        show Steps p.tables e below (T61.setTop (mkF m 83 #[.val (.int p1), .val (.int p2), .val (.int p3), .val (.int p4), .val (.int p5), .val (.int v5), .val (.int v12), .val (.int v16), .val (.int v18), .val .null, .val .null, .unset, .unset] [(.ref b61), (.ref b61)])) _
        refine XS.aload X61.here hx rfl (hb hby at_83) rfl rfl ?_
        show Steps p.tables e below (T61.setTop (mkF m 85 #[.val (.int p1), .val (.int p2), .val (.int p3), .val (.int p4), .val (.int p5), .val (.int v5), .val (.int v12), .val (.int v16), .val (.int v18), .val .null, .val .null, .unset, .unset] [.null, (.ref b61), (.ref b61)])) _
        refine XS.aload X61.here hx rfl (hb hby at_85) rfl rfl ?_
        show Steps p.tables e below (T61.setTop (mkF m 87 #[.val (.int p1), .val (.int p2), .val (.int p3), .val (.int p4), .val (.int p5), .val (.int v5), .val (.int v12), .val (.int v16), .val (.int v18), .val .null, .val .null, .unset, .unset] [.null, .null, (.ref b61), (.ref b61)])) _
        refine st62.trans ?_
        show Steps p.tables e below (T62.setTop (mkF m 90 #[.val (.int p1), .val (.int p2), .val (.int p3), .val (.int p4), .val (.int p5), .val (.int v5), .val (.int v12), .val (.int v16), .val (.int v18), .val .null, .val .null, .unset, .unset] [(.ref b61)])) _
        refine XS.astore X62.here hx rfl (hb hby at_90) rfl rfl (l' := #[.val (.int p1), .val (.int p2), .val (.int p3), .val (.int p4), .val (.int p5), .val (.int v5), .val (.int v12), .val (.int v16), .val (.int v18), .val .null, .val .null, .val (.ref b61), .unset]) rfl ?_
        show Steps p.tables e below (T62.setTop (mkF m 92 #[.val (.int p1), .val (.int p2), .val (.int p3), .val (.int p4), .val (.int p5), .val (.int v5), .val (.int v12), .val (.int v16), .val (.int v18), .val .null, .val .null, .val (.ref b61), .unset] [])) _
        refine XS.aload X62.here hx rfl (hb hby at_92) rfl rfl ?_
        show Steps p.tables e below (T62.setTop (mkF m 94 #[.val (.int p1), .val (.int p2), .val (.int p3), .val (.int p4), .val (.int p5), .val (.int v5), .val (.int v12), .val (.int v16), .val (.int v18), .val .null, .val .null, .val (.ref b61), .unset] [(.ref b61)])) _
        refine st63.trans ?_
        show Steps p.tables e below (T63.setTop (mkF m 97 #[.val (.int p1), .val (.int p2), .val (.int p3), .val (.int p4), .val (.int p5), .val (.int v5), .val (.int v12), .val (.int v16), .val (.int v18), .val .null, .val .null, .val (.ref b61), .unset] [(.int (1 : Int32))])) _
        refine XS.iload X63.here hx rfl (hb hby at_97) rfl ?_
        show Steps p.tables e below (T63.setTop (mkF m 99 #[.val (.int p1), .val (.int p2), .val (.int p3), .val (.int p4), .val (.int p5), .val (.int v5), .val (.int v12), .val (.int v16), .val (.int v18), .val .null, .val .null, .val (.ref b61), .unset] [(.int v5), (.int (1 : Int32))])) _
        refine XS.icmpNo X63.here hx rfl (hb hby at_99) rfl (teq (own_one hv5 hc47)).2 ?_
        show Steps p.tables e below (T63.setTop (mkF m 102 #[.val (.int p1), .val (.int p2), .val (.int p3), .val (.int p4), .val (.int p5), .val (.int v5), .val (.int v12), .val (.int v16), .val (.int v18), .val .null, .val .null, .val (.ref b61), .unset] [])) _
        refine XS.iconst X63.here hx rfl (hb hby at_102) ?_
        show Steps p.tables e below (T63.setTop (mkF m 103 #[.val (.int p1), .val (.int p2), .val (.int p3), .val (.int p4), .val (.int p5), .val (.int v5), .val (.int v12), .val (.int v16), .val (.int v18), .val .null, .val .null, .val (.ref b61), .unset] [(.int (1 : Int32))])) _
        refine XS.goto X63.here hx rfl (pc0 := 103) (pc' := 107) rfl (hb hby at_103) (by decide) (by decide) ?_
        show Steps p.tables e below (T63.setTop (mkF m 107 #[.val (.int p1), .val (.int p2), .val (.int p3), .val (.int p4), .val (.int p5), .val (.int v5), .val (.int v12), .val (.int v16), .val (.int v18), .val .null, .val .null, .val (.ref b61), .unset] [(.int (1 : Int32))])) _
        refine XS.istore X63.here hx rfl (hb hby at_107) rfl (l' := #[.val (.int p1), .val (.int p2), .val (.int p3), .val (.int p4), .val (.int p5), .val (.int v5), .val (.int v12), .val (.int v16), .val (.int v18), .val .null, .val .null, .val (.ref b61), .val (.int (1 : Int32))]) rfl ?_
        show Steps p.tables e below (T63.setTop (mkF m 109 #[.val (.int p1), .val (.int p2), .val (.int p3), .val (.int p4), .val (.int p5), .val (.int v5), .val (.int v12), .val (.int v16), .val (.int v18), .val .null, .val .null, .val (.ref b61), .val (.int (1 : Int32))] [])) _
        refine XS.iload X63.here hx rfl (hb hby at_109) rfl ?_
        show Steps p.tables e below (T63.setTop (mkF m 111 #[.val (.int p1), .val (.int p2), .val (.int p3), .val (.int p4), .val (.int p5), .val (.int v5), .val (.int v12), .val (.int v16), .val (.int v18), .val .null, .val .null, .val (.ref b61), .val (.int (1 : Int32))] [(.int (1 : Int32))])) _
        refine XS.ifNo X63.here hx rfl (hb hby at_111) rfl ((if0 _ _).trans (feq (by decide : ¬ ((1 : Int32) = (0 : Int32)))).1) ?_
        show Steps p.tables e below (T63.setTop (mkF m 114 #[.val (.int p1), .val (.int p2), .val (.int p3), .val (.int p4), .val (.int p5), .val (.int v5), .val (.int v12), .val (.int v16), .val (.int v18), .val .null, .val .null, .val (.ref b61), .val (.int (1 : Int32))] [])) _
        refine XS.aload X63.here hx rfl (hb hby at_114) rfl rfl ?_
        show Steps p.tables e below (T63.setTop (mkF m 116 #[.val (.int p1), .val (.int p2), .val (.int p3), .val (.int p4), .val (.int p5), .val (.int v5), .val (.int v12), .val (.int v16), .val (.int v18), .val .null, .val .null, .val (.ref b61), .val (.int (1 : Int32))] [.null])) _
        refine st64 _ ?_
        show Steps p.tables e below (T64.setTop (mkF m 119 #[.val (.int p1), .val (.int p2), .val (.int p3), .val (.int p4), .val (.int p5), .val (.int v5), .val (.int v12), .val (.int v16), .val (.int v18), .val .null, .val .null, .val (.ref b61), .val (.int (1 : Int32))] [(.ref bw64)])) _
        refine st65.trans ?_
        show Steps p.tables e below (T65.setTop (mkF m 122 #[.val (.int p1), .val (.int p2), .val (.int p3), .val (.int p4), .val (.int p5), .val (.int v5), .val (.int v12), .val (.int v16), .val (.int v18), .val .null, .val .null, .val (.ref b61), .val (.int (1 : Int32))] [(.int (1 : Int32))])) _
        refine XS.ifNo X65.here hx rfl (hb hby at_122) rfl ((if0 _ _).trans (feq (by decide : ¬ ((1 : Int32) = (0 : Int32)))).1) ?_
        show Steps p.tables e below (T65.setTop (mkF m 125 #[.val (.int p1), .val (.int p2), .val (.int p3), .val (.int p4), .val (.int p5), .val (.int v5), .val (.int v12), .val (.int v16), .val (.int v18), .val .null, .val .null, .val (.ref b61), .val (.int (1 : Int32))] [])) _
        refine XS.iconst X65.here hx rfl (hb hby at_125) ?_
        show Steps p.tables e below (T65.setTop (mkF m 126 #[.val (.int p1), .val (.int p2), .val (.int p3), .val (.int p4), .val (.int p5), .val (.int v5), .val (.int v12), .val (.int v16), .val (.int v18), .val .null, .val .null, .val (.ref b61), .val (.int (1 : Int32))] [(.int (1 : Int32))])) _
        refine XS.goto X65.here hx rfl (pc0 := 126) (pc' := 130) rfl (hb hby at_126) (by decide) (by decide) ?_
        show Steps p.tables e below (T65.setTop (mkF m 130 #[.val (.int p1), .val (.int p2), .val (.int p3), .val (.int p4), .val (.int p5), .val (.int v5), .val (.int v12), .val (.int v16), .val (.int v18), .val .null, .val .null, .val (.ref b61), .val (.int (1 : Int32))] [(.int (1 : Int32))])) _
        refine XS.istore X65.here hx rfl (hb hby at_130) rfl (l' := #[.val (.int p1), .val (.int p2), .val (.int p3), .val (.int p4), .val (.int p5), .val (.int v5), .val (.int v12), .val (.int v16), .val (.int v18), .val .null, .val .null, .val (.ref b61), .val (.int (1 : Int32))]) rfl ?_
        show Steps p.tables e below (T65.setTop (mkF m 132 #[.val (.int p1), .val (.int p2), .val (.int p3), .val (.int p4), .val (.int p5), .val (.int v5), .val (.int v12), .val (.int v16), .val (.int v18), .val .null, .val .null, .val (.ref b61), .val (.int (1 : Int32))] [])) _
        refine XS.iload X65.here hx rfl (hb hby at_132) rfl ?_
        show Steps p.tables e below (T65.setTop (mkF m 134 #[.val (.int p1), .val (.int p2), .val (.int p3), .val (.int p4), .val (.int p5), .val (.int v5), .val (.int v12), .val (.int v16), .val (.int v18), .val .null, .val .null, .val (.ref b61), .val (.int (1 : Int32))] [(.int (1 : Int32))])) _
        refine XS.ifNo X65.here hx rfl (hb hby at_134) rfl ((if0 _ _).trans (feq (by decide : ¬ ((1 : Int32) = (0 : Int32)))).1) ?_
        show Steps p.tables e below (T65.setTop (mkF m 137 #[.val (.int p1), .val (.int p2), .val (.int p3), .val (.int p4), .val (.int p5), .val (.int v5), .val (.int v12), .val (.int v16), .val (.int v18), .val .null, .val .null, .val (.ref b61), .val (.int (1 : Int32))] [])) _
        refine XS.aload X65.here hx rfl (hb hby at_137) rfl rfl ?_
        show Steps p.tables e below (T65.setTop (mkF m 139 #[.val (.int p1), .val (.int p2), .val (.int p3), .val (.int p4), .val (.int p5), .val (.int v5), .val (.int v12), .val (.int v16), .val (.int v18), .val .null, .val .null, .val (.ref b61), .val (.int (1 : Int32))] [.null])) _
        refine XS.iload X65.here hx rfl (hb hby at_139) rfl ?_
        show Steps p.tables e below (T65.setTop (mkF m 141 #[.val (.int p1), .val (.int p2), .val (.int p3), .val (.int p4), .val (.int p5), .val (.int v5), .val (.int v12), .val (.int v16), .val (.int v18), .val .null, .val .null, .val (.ref b61), .val (.int (1 : Int32))] [(.int v16), .null])) _
        refine XS.iloadN X65.here hx rfl (hb hby at_141) rfl ?_
        show Steps p.tables e below (T65.setTop (mkF m 142 #[.val (.int p1), .val (.int p2), .val (.int p3), .val (.int p4), .val (.int p5), .val (.int v5), .val (.int v12), .val (.int v16), .val (.int v18), .val .null, .val .null, .val (.ref b61), .val (.int (1 : Int32))] [(.int p4), (.int v16), .null])) _
        refine XS.iload X65.here hx rfl (hb hby at_142) rfl ?_
        exact kt
      obtain ⟨_, _, ⟨T67, L67, k67, n67⟩, -, X67, hS067, hg67, ⟨Lc67, ⟨hQ67, J67⟩, l67, y67, z67⟩, st67⟩ := callSS X65 hx (y := (⟨"com/example/tardy_snapshot/tardysnapshot/WriteIsDeletePinLaw", "draw", "(III)Ljava/lang/String;"⟩ : MethodName)) hown (mvT hZ (hw _ (List.mem_of_getElem? (i := 0) rfl))) (mvT hZ (hw _ (List.mem_of_getElem? (i := 1) rfl))) (mvT hZ (hw _ (List.mem_of_getElem? (i := 2) rfl))) (mvT hZ (hw _ (List.mem_of_getElem? (i := 3) rfl))) (by decide) (own_backJ (W := 1) (rm1 l Z a0 hw [] v16 p4 p5 G1 T64.heap n0 Z64 (O2.ext (own_ext KK64)) P5 (fun b cl q => KK64.2.1 b cl (by rw [← hZh]; exact q) nin0) hheld hcw) hZ (hw _ (List.mem_of_getElem? (i := 3) rfl)) (hw _ (List.mem_of_getElem? (i := 2) rfl)) (by decide) (by decide)) (g := (mkF m 144 #[.val (.int p1), .val (.int p2), .val (.int p3), .val (.int p4), .val (.int p5), .val (.int v5), .val (.int v12), .val (.int v16), .val (.int v18), .val .null, .val .null, .val (.ref b61), .val (.int (1 : Int32))] [(.int p5), (.int p4), (.int v16), .null])) rfl (by rw [hml]; rfl) (argsL := [(.int v16), (.int p4), (.int p5)]) (rest := [.null]) (lenOf pd_0_1 rfl) rfl (by show 2 * 0 + _ ≤ _; exact Nat.le_of_eq rfl) (hb hby at_144) (fun _ hW₁ => ⟨rfl, e65, own_J_warm (s := (s.setVm s.vm)) JJh64 hW₁, (by decide : 2 + 4 ≤ _), (by decide : 4 + 8 ≤ _)⟩)
      dsimp only [Pt.U, Pt.locs, Pt.cells, Pt.slots] at X67 hS067 hg67 J67 l67 y67 z67 st67 hQ67
      subst l67 y67 z67
      obtain ⟨⟨bc67, rfl⟩, N67q, K67⟩ := hQ67
      obtain ⟨X67, hS67, hZ, hown⟩ := rebS ((State.WarmedH.refl s).since 0) (by first | exact (Nat.le_trans (Nat.le_trans (Nat.le_trans (Nat.zero_le _) E61.1) K62.1) K64.1) | (rw [e65]; exact (Nat.le_trans (Nat.le_trans (Nat.le_trans (Nat.zero_le _) E61.1) K62.1) K64.1))) X67 hS067 hg67 hZ hown
      have N67 := Fr.app N64 N67q
      have KK67 : Keep h0 T67.heap [] := KK64.trans K67 (fun _ q => nomatch q)
      have Z67 : n0 ≤ T67.heap.size := Nat.le_trans Z64 K67.1
      replace X67 : Stand p l e room_1 (s.setVm T67.vm) m #[(.int p1), (.int p2), (.int p3), (.int p4), (.int p5)] below meth c T67 ((L62 ++ Lc64) ++ Lc67) 6 12 := X67
      obtain ⟨_, _, ⟨T68, L68, k68, n68⟩, -, X68, ⟨Lc68, hQ68, l68, y68, z68⟩, st68⟩ := Jvm.LawKit.callS X67 hx (y := (⟨"com/example/tardy_snapshot/tardysnapshot/Write", "put", "(Ljava/lang/String;Ljava/lang/String;)Lcom/example/tardy_snapshot/tardysnapshot/Write;"⟩ : MethodName)) hown (mvT hZ (hw _ (List.mem_of_getElem? (i := 52) rfl))) (mvT hZ (hw _ (List.mem_of_getElem? (i := 53) rfl))) (mvT hZ (hw _ (List.mem_of_getElem? (i := 28) rfl))) (mvT hZ (hw _ (List.mem_of_getElem? (i := 54) rfl))) (by decide) (backOf (W := 0) (rm9 l Z a0 hw [] .null bc67 T67.heap n0 Z67 rfl) hZ (hw _ (List.mem_of_getElem? (i := 54) rfl)) (hw _ (List.mem_of_getElem? (i := 28) rfl)) (by decide) (by decide)) (g := (mkF m 147 #[.val (.int p1), .val (.int p2), .val (.int p3), .val (.int p4), .val (.int p5), .val (.int v5), .val (.int v12), .val (.int v16), .val (.int v18), .val .null, .val .null, .val (.ref b61), .val (.int (1 : Int32))] [(.ref bc67), .null])) rfl (by rw [hml]; rfl) (argsL := [.null, (.ref bc67)]) (rest := []) (lenOf pd_0_9 rfl) rfl (by show 2 * 0 + _ ≤ _; exact Nat.le_of_eq rfl) (hb hby at_147) (fun _ _ => ⟨rfl, rfl, (by decide : 6 + 1 ≤ _), (by decide : 12 + 2 ≤ _)⟩)
      dsimp only [Pt.U, Pt.locs, Pt.cells, Pt.slots] at X68 l68 y68 z68 st68 hQ68
      subst l68 y68 z68
      obtain ⟨bw68, rfl, N68q, K68, Ex68, Fv68⟩ := hQ68
      have N68 := Fr.app N67 N68q
      have KK68 : Keep h0 T68.heap [] := KK67.trans K68 (fun _ q => nomatch q)
      have Z68 : n0 ≤ T68.heap.size := Nat.le_trans Z67 K68.1
      replace X68 : Stand p l e room_1 (s.setVm T67.vm) m #[(.int p1), (.int p2), (.int p3), (.int p4), (.int p5)] below meth c T68 (((L62 ++ Lc64) ++ Lc67) ++ Lc68) 7 14 := X68
      have JJh68 := own_J_keep J67 K68
      obtain ⟨cq69, kq69, q69a, q69b, q69c⟩ := isOf hZ rfl Ex68
      obtain ⟨_, _, ⟨T69, L69, k69, n69⟩, -, X69, ⟨Lc69, hQ69, l69, y69, z69⟩, st69⟩ := X68.virtualBack hx (y := (⟨"com/example/tardy_snapshot/tardysnapshot/Write", "isDelete", "()Z"⟩ : MethodName)) (z := (⟨"com/example/tardy_snapshot/tardysnapshot/Write", "isDelete", "()Z"⟩ : MethodName)) hown (mvT hZ (hw _ (List.mem_of_getElem? (i := 42) rfl))) (mvT hZ (hw _ (List.mem_of_getElem? (i := 43) rfl))) (notFace_of_selects (args := #[]) (mvT hZ (hw _ (List.mem_of_getElem? (i := 45) rfl)))) (mvT hZ (hw _ (List.mem_of_getElem? (i := 45) rfl))) (mvT hZ (hw _ (List.mem_of_getElem? (i := 44) rfl))) (by decide) (backOf (W := 0) (rm7 l Z a0 hw [] bw68 bc67 T68.heap n0 Z68 Fv68) hZ (hw _ (List.mem_of_getElem? (i := 46) rfl)) (hw _ (List.mem_of_getElem? (i := 28) rfl)) (by decide) (by decide)) q69a q69c (g := (mkF m 150 #[.val (.int p1), .val (.int p2), .val (.int p3), .val (.int p4), .val (.int p5), .val (.int v5), .val (.int v12), .val (.int v16), .val (.int v18), .val .null, .val .null, .val (.ref b61), .val (.int (1 : Int32))] [(.ref bw68)])) rfl (by rw [hml]; rfl) (Steps.refl _) (argsL := []) (rest := []) (lenOf pd_0_7 rfl) rfl (by show 2 * 0 + _ ≤ _; exact Nat.le_of_eq rfl) (hb hby at_150) (fun _ _ => ⟨rfl, rfl, (by decide : 7 + 0 ≤ _), (by decide : 14 + 0 ≤ _)⟩)
      dsimp only [Pt.U, Pt.locs, Pt.cells, Pt.slots] at X69 l69 y69 z69 st69 hQ69
      subst l69 y69 z69
      obtain ⟨rfl, rfl, e69⟩ := hQ69
      rw [List.append_nil] at X69
      replace X69 : Stand p l e room_1 (s.setVm T67.vm) m #[(.int p1), (.int p2), (.int p3), (.int p4), (.int p5)] below meth c T69 (((L62 ++ Lc64) ++ Lc67) ++ Lc68) 7 14 := X69
      have R70 : ∀ t, Steps p.tables e below (T69.setTop (mkF m 165 #[.val (.int p1), .val (.int p2), .val (.int p3), .val (.int p4), .val (.int p5), .val (.int v5), .val (.int v12), .val (.int v16), .val (.int v18), .val .null, .val .null, .val (.ref b61), .val (.int (1 : Int32))] [(.int (1 : Int32))])) t → Steps p.tables e below (s₁.setTop (entryFrame m #[(.int p1), (.int p2), (.int p3), (.int p4), (.int p5)] maxLocals)) t := by
        intro t kt
        refine R66 _ ?_
        show Steps p.tables e below (T65.setTop (mkF m 144 #[.val (.int p1), .val (.int p2), .val (.int p3), .val (.int p4), .val (.int p5), .val (.int v5), .val (.int v12), .val (.int v16), .val (.int v18), .val .null, .val .null, .val (.ref b61), .val (.int (1 : Int32))] [(.int p5), (.int p4), (.int v16), .null])) _
        refine st67.trans ?_
        show Steps p.tables e below (T67.setTop (mkF m 147 #[.val (.int p1), .val (.int p2), .val (.int p3), .val (.int p4), .val (.int p5), .val (.int v5), .val (.int v12), .val (.int v16), .val (.int v18), .val .null, .val .null, .val (.ref b61), .val (.int (1 : Int32))] [(.ref bc67), .null])) _
        refine st68 _ ?_
        show Steps p.tables e below (T68.setTop (mkF m 150 #[.val (.int p1), .val (.int p2), .val (.int p3), .val (.int p4), .val (.int p5), .val (.int v5), .val (.int v12), .val (.int v16), .val (.int v18), .val .null, .val .null, .val (.ref b61), .val (.int (1 : Int32))] [(.ref bw68)])) _
        refine st69.trans ?_
        show Steps p.tables e below (T69.setTop (mkF m 153 #[.val (.int p1), .val (.int p2), .val (.int p3), .val (.int p4), .val (.int p5), .val (.int v5), .val (.int v12), .val (.int v16), .val (.int v18), .val .null, .val .null, .val (.ref b61), .val (.int (1 : Int32))] [(.int (0 : Int32))])) _
        refine XS.ifNo X69.here hx rfl (hb hby at_153) rfl ((if0 _ _).trans (teq (by decide : (0 : Int32) = (0 : Int32))).2) ?_
        show Steps p.tables e below (T69.setTop (mkF m 156 #[.val (.int p1), .val (.int p2), .val (.int p3), .val (.int p4), .val (.int p5), .val (.int v5), .val (.int v12), .val (.int v16), .val (.int v18), .val .null, .val .null, .val (.ref b61), .val (.int (1 : Int32))] [])) _
        refine XS.iconst X69.here hx rfl (hb hby at_156) ?_
        show Steps p.tables e below (T69.setTop (mkF m 157 #[.val (.int p1), .val (.int p2), .val (.int p3), .val (.int p4), .val (.int p5), .val (.int v5), .val (.int v12), .val (.int v16), .val (.int v18), .val .null, .val .null, .val (.ref b61), .val (.int (1 : Int32))] [(.int (1 : Int32))])) _
        refine XS.goto X69.here hx rfl (pc0 := 157) (pc' := 161) rfl (hb hby at_157) (by decide) (by decide) ?_
        show Steps p.tables e below (T69.setTop (mkF m 161 #[.val (.int p1), .val (.int p2), .val (.int p3), .val (.int p4), .val (.int p5), .val (.int v5), .val (.int v12), .val (.int v16), .val (.int v18), .val .null, .val .null, .val (.ref b61), .val (.int (1 : Int32))] [(.int (1 : Int32))])) _
        refine XS.istore X69.here hx rfl (hb hby at_161) rfl (l' := #[.val (.int p1), .val (.int p2), .val (.int p3), .val (.int p4), .val (.int p5), .val (.int v5), .val (.int v12), .val (.int v16), .val (.int v18), .val .null, .val .null, .val (.ref b61), .val (.int (1 : Int32))]) rfl ?_
        show Steps p.tables e below (T69.setTop (mkF m 163 #[.val (.int p1), .val (.int p2), .val (.int p3), .val (.int p4), .val (.int p5), .val (.int v5), .val (.int v12), .val (.int v16), .val (.int v18), .val .null, .val .null, .val (.ref b61), .val (.int (1 : Int32))] [])) _
        refine XS.iload X69.here hx rfl (hb hby at_163) rfl ?_
        exact kt
      obtain ⟨fs, hr, hrun, hended, w1, w2, w3, w4⟩ := Stand.leaveW (s := s) X69 hS67 (by first | exact (Nat.le_trans (Nat.le_refl T67.heap.size) K68.1) | (rw [e69]; exact (Nat.le_trans (Nat.le_refl T67.heap.size) K68.1))) (v := some (.int (1 : Int32))) (fun h => by rw [Bd.returns] at h; cases h)
      refine ⟨_, _, R70 _ ?_, hrun, hended, _, _, rfl, ?_, w1, w2, w3, w4.mono (by decide) (by decide)⟩
      · show Steps p.tables e below (T69.setTop (mkF m 165 #[.val (.int p1), .val (.int p2), .val (.int p3), .val (.int p4), .val (.int p5), .val (.int v5), .val (.int v12), .val (.int v16), .val (.int v18), .val .null, .val .null, .val (.ref b61), .val (.int (1 : Int32))] [(.int (1 : Int32))])) _
        exact retN X69 hx (t := .boolean) Bd.returns (by simp) (hb hby at_165) hr
      · show Q0 Z p1 p2 p3 p4 p5 G1 h0 n0 _ T69.heap _
        rw [e69]
        exact ⟨rfl, N68⟩
theorem own_fin {Z : State} (p1 p2 p3 p4 p5 : Int32) (G1 : Int32) (h0 : Heap) (n0 : Nat) (h : Heap) (L : List Loc) {v : Option Value} (q : Q0 Z p1 p2 p3 p4 p5 G1 h0 n0 v h L) : v = some (.int (1 : Int32)) ∧ Fr n0 L := q
set_option maxRecDepth 65536 in
set_option maxHeartbeats 40000000 in
theorem comes_1 {Post : Tables → Env → Array Value → State → Outcome → State → Prop} (hpost : ∀ tb e args s v u, (limb_1_1.after args s (.returned v) u = true ∧ limb_1_2.after args s (.returned v) u = true ∧ True) → ReturnedEndW s (.returned v) u (Jvm.fieldLocs frame_1_writes args s ++ Jvm.arrayLocs frame_1_arrays args s ++ Jvm.staticLocs frame_1_statics s) 40 1152 → Post tb e args s (.returned v) u) :
    ArmFor flags0 classFile x code maxLocals ret World_1 tables_1 room_1 Calls_1 rest_1 Pre_1 Post := by
  intro l hfl _ _ p e ha hc hk s m args below hf hA hF happ hP
  obtain ⟨hcalls, hrest, hpre⟩ := hP
  obtain ⟨-, -, -, hnamed, -, -, -, hat⟩ := (Spec.applies_iff hf).mp happ
  obtain ⟨hg, hn⟩ := and_e (Cond.before_iff.mp (show (Jvm.Cond.and given_1 narrow_1).before args s = true from hpre))
  obtain ⟨ga0, gb0⟩ := and_e hg
  obtain ⟨ga1, gb1⟩ := and_e gb0
  obtain ⟨ga2, gb2⟩ := and_e gb1
  obtain ⟨ga3, gb3⟩ := and_e gb2
  obtain ⟨ga4, gb4⟩ := and_e gb3
  obtain ⟨w0, w1, w2, w3, w4, rfl⟩ : ∃ w0 w1 w2 w3 w4 : Value, args = #[w0, w1, w2, w3, w4] := by
    have hs : args.size = 5 := by simpa [Cond.value, given_1] using ga0
    obtain ⟨L⟩ := args
    match L, hs with
    | [w0, w1, w2, w3, w4], _ => exact ⟨w0, w1, w2, w3, w4, rfl⟩
  have hw := fun d (hd : d ∈ tables_1) => atoms_spec (ws := Jvm.Cond.code x code maxLocals ret :: tables_1) hat d (List.mem_cons_of_mem _ hd)
  have hfit : Fit s := fun {y c} hc i hi => by
    obtain ⟨ha, rfl⟩ := Array.getElem?_eq_some_iff.mp hc
    have q := List.all_eq_true.mp ((Array.all_eq_true_iff_forall_mem.mp hF) _ (Array.getElem_mem ha)) i (List.mem_range.mpr hi)
    simpa [Array.getElem?_eq_getElem hi] using q
  obtain ⟨i0, ei0⟩ := is_v ga1
  obtain rfl : w0 = (.int i0) := Option.some.inj ei0
  obtain ⟨i1, ei1⟩ := is_v ga2
  obtain rfl : w1 = (.int i1) := Option.some.inj ei1
  obtain ⟨i2, ei2⟩ := is_v ga3
  obtain rfl : w2 = (.int i2) := Option.some.inj ei2
  obtain ⟨i3, ei3⟩ := is_v ga4
  obtain rfl : w3 = (.int i3) := Option.some.inj ei3
  obtain ⟨i4, ei4⟩ := is_v gb4
  obtain rfl : w4 = (.int i4) := Option.some.inj ei4
  obtain ⟨hsets, hown0⟩ := atoms_of _ (rest_1_c_eq ▸ (show rest_1_c.before _ s = true from hrest))
  have n3 := not_v (Cond.before_iff.mp (hsets _ (List.mem_of_getElem? (i := 2) rfl)))
  obtain ⟨iG, eG⟩ := is_v (Cond.before_iff.mp (hsets _ (List.mem_of_getElem? (i := 1) rfl)))
  have SG : Sta s s.heap "java/lang/String" "COMPACT_STRINGS" "Z" (.int iG) := Sta.start eG (Or.inl (hsets _ (List.mem_of_getElem? (i := 0) rfl)))
  obtain ⟨vF, eF, rF⟩ := isR_v (Cond.before_iff.mp (hsets _ (List.mem_of_getElem? (i := 8) rfl)))
  have SF : Sta s s.heap "jdk/internal/util/Preconditions" "SIOOBE_FORMATTER" "Ljava/util/function/BiFunction;" vF := Sta.start eF (Or.inl (hsets _ (List.mem_of_getElem? (i := 7) rfl)))
  have cG : ¬ (iG = (0 : Int32)) := gotF (Cond.eq_ints eG (Term.int_eval (0))) n3
  obtain ⟨n, o, h1, h2, h3, v, L, rfl, hQ, hq⟩ := rm0 l s _ hw tables_1 i0 i1 i2 i3 i4 iG s.heap s.heap.size (Nat.le_refl _) rfl SG cG (hcalls.1 ("java/lang/String", 7) (by simp [consts_1])) (hsets _ (List.mem_of_getElem? (i := 2) rfl)) p e ha hc hk s m _ below hf ((Spec.applies_iff_loose hf).mp happ).1 ⟨rfl, State.Warmed39.refl s, rfl, Or.inl IB.start⟩ trivial
  obtain ⟨rfl, N⟩ := own_fin i0 i1 i2 i3 i4 iG _ _ _ _ hQ
  refine ⟨n, _, h1, h2, h3, hpost _ _ _ _ _ _ ⟨Cond.after_iff.mpr rfl, Cond.after_iff.mpr (eq_i res_at (Term.int_eval (1)) rfl), trivial⟩ ⟨hq.1, hq.2.1, hq.2.2.1, (hq.2.2.2.sift fun y hy => Or.inr (N y hy)).mono (by decide) (by decide)⟩⟩
theorem main_1_1 : Claimed_1_1 := comes_1 fun _ _ _ _ _ _ h hF => ⟨h.1, hF⟩
theorem main_1_2 : Claimed_1_2 := comes_1 fun _ _ _ _ _ _ h hF => ⟨h.2.1, hF⟩
end Jvm.Pilot.@@N@@
namespace Jvm.Pilot.@@N@@
open Jvm Jvm.ClassFile Sem Op Lib Jvm.Free Jvm.Stand Jvm.Pilot.@@N@@.Jvm.D
/-! MADE BY PROGRAM (witnessworld.py) out of the Statement's table words and the real class files: 22 classes; the members and pool entries that the words name. The judged class is class 1, her method 2. -/
namespace start1
open Jvm.ClassFile
def u (s : String) : CpInfo := .utf8 (stringToUtf16 s)
/-- a pool by its gaps: so many unusable entries, then the entry; so many at the end -/
def gap : Nat → List CpInfo → List CpInfo
  | 0, r => r
  | n + 1, r => .unusable :: gap n r
def poolList (es : List (Nat × CpInfo)) (last : Nat) : List CpInfo := es.foldr (fun e r => gap e.1 (e.2 :: r)) (gap last [])
def pool (es : List (Nat × CpInfo)) (last : Nat) : Array CpInfo := ⟨poolList es last⟩
def fileOf (pool : Array CpInfo) (this : Nat) (attrs : Array Attribute := #[]) (ms : Array MethodInfo := #[]) (fl : Nat := 33) (sup : Nat := 0) (ifs : Array Nat := #[]) (fds : Array FieldInfo := #[]) : ClassFile where
  minorVersion := 0
  majorVersion := 65
  constantPool := pool
  accessFlags := fl
  thisClass := this
  superClass := sup
  interfaces := ifs
  fields := fds
  methods := ms
  attributes := attrs
def plain (name : String) (sup : Option ClassId) : Class where
  name := name
  kind := .ordinary
  loader := none
  accessFlags := 33
  super := sup
  interfaces := #[]
  cf := none
  fields := #[]
  methods := #[]
  instanceTypes := #[]
  staticTypes := #[]
  resolved := #[]
  callSites := []
  init := .initialized
  statics := none
  mirror := none

def pool0 : Array CpInfo := pool [(5, u "<init>"), (0, u "()V"), (1, .class_ 10), (1, u "java/lang/Object")] 113

def k0c0 : Code := { maxStack := 0, maxLocals := 1, code := object_method_1_code, exceptionTable := #[], attributes := #[] }
def k0m0 : Method := { name := "<init>", desc := "()V", sig := { parameters := [], returnType := none }, accessFlags := 1, code := some k0c0 }
/-- java/lang/Object -/
def k0 : Class := { plain "java/lang/Object" none with
  accessFlags := 33
  interfaces := #[]
  cf := some (fileOf pool0 8 #[] #[{ accessFlags := 1, nameIndex := 5, descriptorIndex := 6, attributes := #[] }] 33 0 #[] #[])
  fields := #[]
  methods := #[k0m0]
  instanceTypes := #[]
  staticTypes := #[]
  resolved := Array.replicate 124 none
  statics := none }

def pool1 : Array CpInfo := pool [(2, .class_ 4), (1, u "java/lang/Object"), (0, u "<init>"), (0, u "()V"), (0, .class_ 8), (0, u "java/lang/String"), (0, .methodref 7 10), (0, .nameAndType 5 11), (0, u "([C)V"), (0, .methodref 13 14), (0, .class_ 15), (0, .nameAndType 16 17), (0, u "com/example/tardy_snapshot/tardysnapshot/WriteIsDeletePinLaw"), (0, u "draw"), (0, u "(III)Ljava/lang/String;"), (0, .class_ 19), (0, u "com/example/tardy_snapshot/tardysnapshot/Write"), (0, .methodref 18 21), (0, .nameAndType 5 22), (0, u "(Ljava/lang/String;Ljava/lang/String;)V"), (0, .methodref 18 24), (0, .nameAndType 25 26), (0, u "isDelete"), (0, u "()Z"), (0, .methodref 18 28), (0, .nameAndType 29 30), (0, u "delete"), (0, u "(Ljava/lang/String;)Lcom/example/tardy_snapshot/tardysnapshot/Write;"), (0, .methodref 18 32), (0, .nameAndType 33 34), (0, u "put"), (0, u "(Ljava/lang/String;Ljava/lang/String;)Lcom/example/tardy_snapshot/tardysnapshot/Write;"), (3, u "law"), (0, u "(IIIII)Z")] 2

def k1m0 : Method := { name := "<init>", desc := "()V", sig := { parameters := [], returnType := none }, accessFlags := 1, code := none }
def k1c1 : Code := { maxStack := 7, maxLocals := 3, code := method_2_code, exceptionTable := #[], attributes := #[] }
def k1m1 : Method := { name := "draw", desc := "(III)Ljava/lang/String;", sig := { parameters := [.int, .int, .int], returnType := some (.object "java/lang/String") }, accessFlags := 10, code := some k1c1 }
def k1c2 : Code := { maxStack := 4, maxLocals := 13, code := code, exceptionTable := #[], attributes := #[] }
def k1m2 : Method := { name := "law", desc := "(IIIII)Z", sig := { parameters := [.int, .int, .int, .int, .int], returnType := some .boolean }, accessFlags := 9, code := some k1c2 }
/-- com/example/tardy_snapshot/tardysnapshot/WriteIsDeletePinLaw -/
def k1 : Class := { plain "com/example/tardy_snapshot/tardysnapshot/WriteIsDeletePinLaw" (some 0) with
  accessFlags := 49
  interfaces := #[]
  cf := some (fileOf pool1 13 #[] #[{ accessFlags := 1, nameIndex := 5, descriptorIndex := 6, attributes := #[] }, { accessFlags := 10, nameIndex := 16, descriptorIndex := 17, attributes := #[] }, { accessFlags := 9, nameIndex := 38, descriptorIndex := 39, attributes := #[] }] 49 2 #[] #[])
  fields := #[]
  methods := #[k1m0, k1m1, k1m2]
  instanceTypes := #[]
  staticTypes := #[]
  resolved := Array.replicate 42 none
  statics := none }

def pool2 : Array CpInfo := pool [(1, .class_ 2), (0, u "java/io/Serializable"), (0, .class_ 4), (0, u "java/lang/Object")] 2

/-- java/io/Serializable -/
def k2 : Class := { plain "java/io/Serializable" (some 0) with
  accessFlags := 1537
  interfaces := #[]
  cf := some (fileOf pool2 1 #[] #[] 1537 3 #[] #[])
  fields := #[]
  methods := #[]
  instanceTypes := #[]
  staticTypes := #[]
  resolved := Array.replicate 7 none
  statics := none }

def pool3 : Array CpInfo := pool [(1, .class_ 2), (0, u "java/lang/Comparable"), (0, .class_ 4), (0, u "java/lang/Object")] 7

/-- java/lang/Comparable -/
def k3 : Class := { plain "java/lang/Comparable" (some 0) with
  accessFlags := 1537
  interfaces := #[]
  cf := some (fileOf pool3 1 #[] #[] 1537 3 #[] #[])
  fields := #[]
  methods := #[]
  instanceTypes := #[]
  staticTypes := #[]
  resolved := Array.replicate 12 none
  statics := none }

def pool4 : Array CpInfo := pool [(2, .class_ 4), (1, u "java/lang/CharSequence"), (42, .class_ 48), (0, u "java/lang/CharSequence$1CodePointIterator"), (10, .class_ 60), (0, u "java/lang/CharSequence$1CharIterator"), (5, .class_ 67), (0, u "java/lang/Object")] 63

/-- java/lang/CharSequence -/
def k4 : Class := { plain "java/lang/CharSequence" (some 0) with
  accessFlags := 1537
  interfaces := #[]
  cf := some (fileOf pool4 2 #[.nestMembers #[47, 59]] #[] 1537 66 #[] #[])
  fields := #[]
  methods := #[]
  instanceTypes := #[]
  staticTypes := #[]
  resolved := Array.replicate 131 none
  statics := none }

def pool5 : Array CpInfo := pool [(1, .class_ 2), (0, u "java/lang/constant/Constable"), (0, .class_ 4), (0, u "java/lang/Object")] 6

/-- java/lang/constant/Constable -/
def k5 : Class := { plain "java/lang/constant/Constable" (some 0) with
  accessFlags := 1537
  interfaces := #[]
  cf := some (fileOf pool5 1 #[] #[] 1537 3 #[] #[])
  fields := #[]
  methods := #[]
  instanceTypes := #[]
  staticTypes := #[]
  resolved := Array.replicate 11 none
  statics := none }

def pool6 : Array CpInfo := pool [(1, .class_ 2), (0, u "java/lang/constant/ConstantDesc"), (0, .class_ 4), (0, u "java/lang/Object")] 32

/-- java/lang/constant/ConstantDesc -/
def k6 : Class := { plain "java/lang/constant/ConstantDesc" (some 0) with
  accessFlags := 1537
  interfaces := #[]
  cf := some (fileOf pool6 1 #[] #[] 1537 3 #[] #[])
  fields := #[]
  methods := #[]
  instanceTypes := #[]
  staticTypes := #[]
  resolved := Array.replicate 37 none
  statics := none }

def pool7 : Array CpInfo := pool [(1, .methodref 2 3), (0, .class_ 4), (0, .nameAndType 5 6), (0, u "java/lang/Object"), (0, u "<init>"), (0, u "()V"), (0, .string 8), (0, u ""), (0, .fieldref 10 11), (0, .class_ 12), (0, .nameAndType 13 14), (0, u "java/lang/String"), (0, u "value"), (0, u "[B"), (0, .fieldref 10 16), (0, .nameAndType 17 18), (0, u "coder"), (0, u "B"), (2, u "hash"), (0, u "I"), (2, u "hashIsZero"), (0, u "Z"), (0, .methodref 10 28), (0, .nameAndType 5 29), (0, u "([CIILjava/lang/Void;)V"), (8, .fieldref 10 39), (0, .nameAndType 40 26), (0, u "COMPACT_STRINGS"), (1, .class_ 44), (1, u "java/lang/StringUTF16"), (0, u "compress"), (1, .methodref 42 48), (0, .nameAndType 49 50), (0, u "coderFromArrayLen"), (0, u "([BI)B"), (126, .methodref 42 178), (0, .nameAndType 45 179), (0, u "([CII)[B"), (395, .class_ 576), (0, u "java/lang/CharSequence"), (22, u "CASE_INSENSITIVE_ORDER"), (0, u "Ljava/util/Comparator;"), (409, u "([C)V"), (90, u "serialPersistentFields"), (0, u "[Ljava/io/ObjectStreamField;"), (0, .class_ 1104), (0, u "java/lang/String$CaseInsensitiveComparator"), (1, .class_ 1107), (0, u "java/io/Serializable"), (0, .class_ 1109), (0, u "java/lang/Comparable"), (0, .class_ 1111), (0, u "java/lang/constant/Constable"), (0, .class_ 1113), (0, u "java/lang/constant/ConstantDesc"), (2, u "serialVersionUID"), (0, u "J"), (3, u "REPL"), (0, u "C"), (2, u "LATIN1"), (1, u "UTF16")] 323

def k7m0 : Method := { name := "<init>", desc := "()V", sig := { parameters := [], returnType := none }, accessFlags := 1, code := none }
def k7c1 : Code := { maxStack := 5, maxLocals := 2, code := jdk_42_method_3_code, exceptionTable := #[], attributes := #[] }
def k7m1 : Method := { name := "<init>", desc := "([C)V", sig := { parameters := [(.array .char)], returnType := none }, accessFlags := 1, code := some k7c1 }
def k7c2 : Code := { maxStack := 4, maxLocals := 6, code := jdk_42_method_149_code, exceptionTable := #[], attributes := #[] }
def k7m2 : Method := { name := "<init>", desc := "([CIILjava/lang/Void;)V", sig := { parameters := [(.array .char), .int, .int, (.object "java/lang/Void")], returnType := none }, accessFlags := 2, code := some k7c2 }
/-- java/lang/String -/
def k7 : Class := { plain "java/lang/String" (some 0) with
  accessFlags := 49
  interfaces := #[2, 3, 4, 5, 6]
  cf := some (fileOf pool7 10 #[.nestMembers #[1103]] #[{ accessFlags := 1, nameIndex := 5, descriptorIndex := 6, attributes := #[] }, { accessFlags := 1, nameIndex := 5, descriptorIndex := 1010, attributes := #[] }, { accessFlags := 2, nameIndex := 5, descriptorIndex := 29, attributes := #[] }] 49 2 #[1106, 1108, 575, 1110, 1112] #[{ accessFlags := 18, nameIndex := 13, descriptorIndex := 14, attributes := #[] }, { accessFlags := 18, nameIndex := 17, descriptorIndex := 18, attributes := #[] }, { accessFlags := 2, nameIndex := 21, descriptorIndex := 22, attributes := #[] }, { accessFlags := 2, nameIndex := 25, descriptorIndex := 26, attributes := #[] }, { accessFlags := 26, nameIndex := 1116, descriptorIndex := 1117, attributes := #[] }, { accessFlags := 24, nameIndex := 40, descriptorIndex := 26, attributes := #[] }, { accessFlags := 26, nameIndex := 1101, descriptorIndex := 1102, attributes := #[] }, { accessFlags := 26, nameIndex := 1121, descriptorIndex := 1122, attributes := #[] }, { accessFlags := 25, nameIndex := 599, descriptorIndex := 600, attributes := #[] }, { accessFlags := 24, nameIndex := 1125, descriptorIndex := 18, attributes := #[] }, { accessFlags := 24, nameIndex := 1127, descriptorIndex := 18, attributes := #[] }])
  fields := #[{ name := "value", type := (.array .byte), accessFlags := 18, slot := 0, constantValue := 0 }, { name := "coder", type := .byte, accessFlags := 18, slot := 1, constantValue := 0 }, { name := "hash", type := .int, accessFlags := 2, slot := 2, constantValue := 0 }, { name := "hashIsZero", type := .boolean, accessFlags := 2, slot := 3, constantValue := 0 }, { name := "serialVersionUID", type := .long, accessFlags := 26, slot := 0, constantValue := 0 }, { name := "COMPACT_STRINGS", type := .boolean, accessFlags := 24, slot := 1, constantValue := 0 }, { name := "serialPersistentFields", type := (.array (.object "java/io/ObjectStreamField")), accessFlags := 26, slot := 2, constantValue := 0 }, { name := "REPL", type := .char, accessFlags := 26, slot := 3, constantValue := 0 }, { name := "CASE_INSENSITIVE_ORDER", type := (.object "java/util/Comparator"), accessFlags := 25, slot := 4, constantValue := 0 }, { name := "LATIN1", type := .byte, accessFlags := 24, slot := 5, constantValue := 0 }, { name := "UTF16", type := .byte, accessFlags := 24, slot := 6, constantValue := 0 }]
  methods := #[k7m0, k7m1, k7m2]
  instanceTypes := #[(.array .byte), .byte, .int, .boolean]
  staticTypes := #[.long, .boolean, (.array (.object "java/io/ObjectStreamField")), .char, (.object "java/util/Comparator"), .byte, .byte]
  resolved := Array.replicate 1451 none
  statics := some 0 }

def pool8 : Array CpInfo := pool [(1, .methodref 2 3), (0, .class_ 4), (0, .nameAndType 5 6), (0, u "java/lang/Object"), (0, u "<init>"), (0, u "()V"), (0, .class_ 8), (0, u "java/lang/Record")] 13

def k8c0 : Code := { maxStack := 1, maxLocals := 1, code := jdk_30_method_1_code, exceptionTable := #[], attributes := #[] }
def k8m0 : Method := { name := "<init>", desc := "()V", sig := { parameters := [], returnType := none }, accessFlags := 4, code := some k8c0 }
/-- java/lang/Record -/
def k8 : Class := { plain "java/lang/Record" (some 0) with
  accessFlags := 1057
  interfaces := #[]
  cf := some (fileOf pool8 7 #[] #[{ accessFlags := 4, nameIndex := 5, descriptorIndex := 6, attributes := #[] }] 1057 2 #[] #[])
  fields := #[]
  methods := #[k8m0]
  instanceTypes := #[]
  staticTypes := #[]
  resolved := Array.replicate 22 none
  statics := none }

def pool9 : Array CpInfo := pool [(1, .class_ 2), (0, u "com/example/tardy_snapshot/tardysnapshot/KeyWrite"), (0, .class_ 4), (0, u "java/lang/Object")] 6

/-- com/example/tardy_snapshot/tardysnapshot/KeyWrite -/
def k9 : Class := { plain "com/example/tardy_snapshot/tardysnapshot/KeyWrite" (some 0) with
  accessFlags := 1536
  interfaces := #[]
  cf := some (fileOf pool9 1 #[] #[] 1536 3 #[] #[])
  fields := #[]
  methods := #[]
  instanceTypes := #[]
  staticTypes := #[]
  resolved := Array.replicate 11 none
  statics := none }

def pool10 : Array CpInfo := pool [(1, .methodref 2 3), (0, .class_ 4), (0, .nameAndType 5 6), (0, u "java/lang/Record"), (0, u "<init>"), (0, u "()V"), (0, .fieldref 8 9), (0, .class_ 10), (0, .nameAndType 11 12), (0, u "com/example/tardy_snapshot/tardysnapshot/Write"), (0, u "key"), (0, u "Ljava/lang/String;"), (0, .fieldref 8 14), (0, .nameAndType 15 12), (0, u "value"), (0, .methodref 8 17), (0, .nameAndType 5 18), (0, u "(Ljava/lang/String;Ljava/lang/String;)V"), (12, .class_ 32), (0, u "com/example/tardy_snapshot/tardysnapshot/KeyWrite"), (3, u "put"), (0, u "(Ljava/lang/String;Ljava/lang/String;)Lcom/example/tardy_snapshot/tardysnapshot/Write;"), (0, u "delete"), (0, u "(Ljava/lang/String;)Lcom/example/tardy_snapshot/tardysnapshot/Write;"), (0, u "isDelete"), (0, u "()Z")] 25

def k10c0 : Code := { maxStack := 2, maxLocals := 3, code := prog_99_method_1_code, exceptionTable := #[], attributes := #[] }
def k10m0 : Method := { name := "<init>", desc := "(Ljava/lang/String;Ljava/lang/String;)V", sig := { parameters := [(.object "java/lang/String"), (.object "java/lang/String")], returnType := none }, accessFlags := 0, code := some k10c0 }
def k10c1 : Code := { maxStack := 4, maxLocals := 2, code := prog_99_method_2_code, exceptionTable := #[], attributes := #[] }
def k10m1 : Method := { name := "put", desc := "(Ljava/lang/String;Ljava/lang/String;)Lcom/example/tardy_snapshot/tardysnapshot/Write;", sig := { parameters := [(.object "java/lang/String"), (.object "java/lang/String")], returnType := some (.object "com/example/tardy_snapshot/tardysnapshot/Write") }, accessFlags := 8, code := some k10c1 }
def k10c2 : Code := { maxStack := 4, maxLocals := 1, code := prog_99_method_3_code, exceptionTable := #[], attributes := #[] }
def k10m2 : Method := { name := "delete", desc := "(Ljava/lang/String;)Lcom/example/tardy_snapshot/tardysnapshot/Write;", sig := { parameters := [(.object "java/lang/String")], returnType := some (.object "com/example/tardy_snapshot/tardysnapshot/Write") }, accessFlags := 8, code := some k10c2 }
def k10c3 : Code := { maxStack := 1, maxLocals := 1, code := prog_99_method_4_code, exceptionTable := #[], attributes := #[] }
def k10m3 : Method := { name := "isDelete", desc := "()Z", sig := { parameters := [], returnType := some .boolean }, accessFlags := 1, code := some k10c3 }
/-- com/example/tardy_snapshot/tardysnapshot/Write -/
def k10 : Class := { plain "com/example/tardy_snapshot/tardysnapshot/Write" (some 8) with
  accessFlags := 48
  interfaces := #[9]
  cf := some (fileOf pool10 8 #[] #[{ accessFlags := 0, nameIndex := 5, descriptorIndex := 18, attributes := #[] }, { accessFlags := 8, nameIndex := 36, descriptorIndex := 37, attributes := #[] }, { accessFlags := 8, nameIndex := 38, descriptorIndex := 39, attributes := #[] }, { accessFlags := 1, nameIndex := 40, descriptorIndex := 41, attributes := #[] }] 48 2 #[31] #[{ accessFlags := 18, nameIndex := 11, descriptorIndex := 12, attributes := #[] }, { accessFlags := 18, nameIndex := 15, descriptorIndex := 12, attributes := #[] }])
  fields := #[{ name := "key", type := (.object "java/lang/String"), accessFlags := 18, slot := 0, constantValue := 0 }, { name := "value", type := (.object "java/lang/String"), accessFlags := 18, slot := 1, constantValue := 0 }]
  methods := #[k10m0, k10m1, k10m2, k10m3]
  instanceTypes := #[(.object "java/lang/String"), (.object "java/lang/String")]
  staticTypes := #[]
  resolved := Array.replicate 67 none
  statics := none }

def pool11 : Array CpInfo := pool [(6, .class_ 8), (1, u "java/lang/Object"), (0, u "<init>"), (0, u "()V"), (1, .class_ 14), (1, u "java/lang/StringUTF16"), (31, u "$assertionsDisabled"), (0, u "Z"), (13, u "HI_BYTE_SHIFT"), (0, u "I"), (2, u "LO_BYTE_SHIFT"), (49, .methodref 12 116), (0, .nameAndType 117 118), (0, u "compress"), (0, u "([CI[BII)I"), (3, u "([CII)[B"), (138, u "coderFromArrayLen"), (0, u "([BI)B"), (106, .class_ 371), (1, u "java/lang/StringUTF16$LinesSpliterator"), (58, u "MAX_LENGTH"), (196, .class_ 628), (0, u "java/lang/StringUTF16$CodePointsSpliterator"), (0, .class_ 630), (0, u "java/lang/StringUTF16$CharsSpliterator")] 4

def k11m0 : Method := { name := "<init>", desc := "()V", sig := { parameters := [], returnType := none }, accessFlags := 0, code := none }
def k11c1 : Code := { maxStack := 2, maxLocals := 2, code := jdk_52_method_15_code, exceptionTable := #[], attributes := #[] }
def k11m1 : Method := { name := "coderFromArrayLen", desc := "([BI)B", sig := { parameters := [(.array .byte), .int], returnType := some .byte }, accessFlags := 8, code := some k11c1 }
def k11c2 : Code := { maxStack := 5, maxLocals := 6, code := jdk_52_method_16_code, exceptionTable := #[], attributes := #[] }
def k11m2 : Method := { name := "compress", desc := "([CII)[B", sig := { parameters := [(.array .char), .int, .int], returnType := some (.array .byte) }, accessFlags := 9, code := some k11c2 }
def k11c3 : Code := { maxStack := 3, maxLocals := 7, code := jdk_52_method_21_code, exceptionTable := #[], attributes := #[] }
def k11m3 : Method := { name := "compress", desc := "([CI[BII)I", sig := { parameters := [(.array .char), .int, (.array .byte), .int, .int], returnType := some .int }, accessFlags := 9, code := some k11c3 }
/-- java/lang/StringUTF16 -/
def k11 : Class := { plain "java/lang/StringUTF16" (some 0) with
  accessFlags := 48
  interfaces := #[]
  cf := some (fileOf pool11 12 #[.nestMembers #[627, 629, 369]] #[{ accessFlags := 0, nameIndex := 9, descriptorIndex := 10, attributes := #[] }, { accessFlags := 8, nameIndex := 261, descriptorIndex := 262, attributes := #[] }, { accessFlags := 9, nameIndex := 117, descriptorIndex := 122, attributes := #[] }, { accessFlags := 9, nameIndex := 117, descriptorIndex := 118, attributes := #[] }] 48 6 #[] #[{ accessFlags := 26, nameIndex := 61, descriptorIndex := 62, attributes := #[] }, { accessFlags := 26, nameIndex := 65, descriptorIndex := 62, attributes := #[] }, { accessFlags := 24, nameIndex := 430, descriptorIndex := 62, attributes := #[] }, { accessFlags := 4120, nameIndex := 46, descriptorIndex := 47, attributes := #[] }])
  fields := #[{ name := "HI_BYTE_SHIFT", type := .int, accessFlags := 26, slot := 0, constantValue := 0 }, { name := "LO_BYTE_SHIFT", type := .int, accessFlags := 26, slot := 1, constantValue := 0 }, { name := "MAX_LENGTH", type := .int, accessFlags := 24, slot := 2, constantValue := 0 }, { name := "$assertionsDisabled", type := .boolean, accessFlags := 4120, slot := 3, constantValue := 0 }]
  methods := #[k11m0, k11m1, k11m2, k11m3]
  instanceTypes := #[]
  staticTypes := #[.int, .int, .int, .boolean]
  resolved := Array.replicate 635 none
  statics := none }

def pool12 : Array CpInfo := pool [(4, .class_ 6), (1, u "java/lang/Object"), (0, u "<init>"), (0, u "()V"), (5, .class_ 16), (1, u "java/lang/StringLatin1"), (104, u "$assertionsDisabled"), (0, u "Z"), (98, .class_ 223), (1, u "java/lang/StringLatin1$LinesSpliterator"), (166, .class_ 391), (0, u "java/lang/StringLatin1$CharsSpliterator")] 3

def k12m0 : Method := { name := "<init>", desc := "()V", sig := { parameters := [], returnType := none }, accessFlags := 0, code := none }
/-- java/lang/StringLatin1 -/
def k12 : Class := { plain "java/lang/StringLatin1" (some 0) with
  accessFlags := 48
  interfaces := #[]
  cf := some (fileOf pool12 14 #[.nestMembers #[390, 221]] #[{ accessFlags := 0, nameIndex := 7, descriptorIndex := 8, attributes := #[] }] 48 4 #[] #[{ accessFlags := 4120, nameIndex := 121, descriptorIndex := 122, attributes := #[] }])
  fields := #[{ name := "$assertionsDisabled", type := .boolean, accessFlags := 4120, slot := 0, constantValue := 0 }]
  methods := #[k12m0]
  instanceTypes := #[]
  staticTypes := #[.boolean]
  resolved := Array.replicate 395 none
  statics := none }

def pool13 : Array CpInfo := pool [(2, .class_ 4), (1, u "java/lang/Object"), (0, u "<init>"), (0, u "()V"), (17, .class_ 26), (1, u "jdk/internal/util/Preconditions"), (28, .class_ 56), (0, u "jdk/internal/util/Preconditions$4"), (57, .class_ 115), (0, u "jdk/internal/util/Preconditions$1"), (7, u "SIOOBE_FORMATTER"), (0, u "Ljava/util/function/BiFunction;"), (0, .class_ 126), (0, u "jdk/internal/util/Preconditions$2"), (3, u "AIOOBE_FORMATTER"), (0, .class_ 132), (0, u "jdk/internal/util/Preconditions$3"), (3, u "IOOBE_FORMATTER")] 57

def k13m0 : Method := { name := "<init>", desc := "()V", sig := { parameters := [], returnType := none }, accessFlags := 1, code := none }
/-- jdk/internal/util/Preconditions -/
def k13 : Class := { plain "jdk/internal/util/Preconditions" (some 0) with
  accessFlags := 33
  interfaces := #[]
  cf := some (fileOf pool13 24 #[.nestMembers #[55, 131, 125, 114]] #[{ accessFlags := 1, nameIndex := 5, descriptorIndex := 6, attributes := #[] }] 33 2 #[] #[{ accessFlags := 25, nameIndex := 123, descriptorIndex := 124, attributes := #[] }, { accessFlags := 25, nameIndex := 130, descriptorIndex := 124, attributes := #[] }, { accessFlags := 25, nameIndex := 136, descriptorIndex := 124, attributes := #[] }])
  fields := #[{ name := "SIOOBE_FORMATTER", type := (.object "java/util/function/BiFunction"), accessFlags := 25, slot := 0, constantValue := 0 }, { name := "AIOOBE_FORMATTER", type := (.object "java/util/function/BiFunction"), accessFlags := 25, slot := 1, constantValue := 0 }, { name := "IOOBE_FORMATTER", type := (.object "java/util/function/BiFunction"), accessFlags := 25, slot := 2, constantValue := 0 }]
  methods := #[k13m0]
  instanceTypes := #[]
  staticTypes := #[(.object "java/util/function/BiFunction"), (.object "java/util/function/BiFunction"), (.object "java/util/function/BiFunction")]
  resolved := Array.replicate 194 none
  statics := some 1 }

def pool14 : Array CpInfo := pool [(9, u "<init>"), (6, .class_ 18), (1, u "java/lang/Object"), (0, u "()V"), (1, .class_ 23), (1, u "jdk/internal/util/ArraysSupport"), (0, u "LOG2_ARRAY_LONG_INDEX_SCALE"), (0, u "I"), (2, u "U"), (0, u "Ljdk/internal/misc/Unsafe;"), (8, u "BIG_ENDIAN"), (0, u "Z"), (8, u "LOG2_BYTE_BIT_SIZE"), (4, u "LOG2_ARRAY_INT_INDEX_SCALE"), (54, u "JLA"), (0, u "Ljdk/internal/access/JavaLangAccess;"), (11, u "LOG2_ARRAY_BOOLEAN_INDEX_SCALE"), (9, u "LOG2_ARRAY_BYTE_INDEX_SCALE"), (5, u "LOG2_ARRAY_CHAR_INDEX_SCALE"), (5, u "LOG2_ARRAY_SHORT_INDEX_SCALE"), (18, u "LOG2_ARRAY_FLOAT_INDEX_SCALE"), (24, u "LOG2_ARRAY_DOUBLE_INDEX_SCALE"), (89, u "T_BOOLEAN"), (2, u "T_CHAR"), (1, u "T_FLOAT"), (1, u "T_DOUBLE"), (1, u "T_BYTE"), (1, u "T_SHORT"), (1, u "T_INT"), (1, u "T_LONG"), (1, u "SOFT_MAX_ARRAY_LENGTH")] 83

def k14m0 : Method := { name := "<init>", desc := "()V", sig := { parameters := [], returnType := none }, accessFlags := 2, code := none }
/-- jdk/internal/util/ArraysSupport -/
def k14 : Class := { plain "jdk/internal/util/ArraysSupport" (some 0) with
  accessFlags := 33
  interfaces := #[]
  cf := some (fileOf pool14 21 #[] #[{ accessFlags := 2, nameIndex := 9, descriptorIndex := 19, attributes := #[] }] 33 16 #[] #[{ accessFlags := 24, nameIndex := 28, descriptorIndex := 29, attributes := #[] }, { accessFlags := 26, nameIndex := 38, descriptorIndex := 39, attributes := #[] }, { accessFlags := 25, nameIndex := 121, descriptorIndex := 25, attributes := #[] }, { accessFlags := 25, nameIndex := 131, descriptorIndex := 25, attributes := #[] }, { accessFlags := 25, nameIndex := 137, descriptorIndex := 25, attributes := #[] }, { accessFlags := 25, nameIndex := 143, descriptorIndex := 25, attributes := #[] }, { accessFlags := 25, nameIndex := 53, descriptorIndex := 25, attributes := #[] }, { accessFlags := 25, nameIndex := 24, descriptorIndex := 25, attributes := #[] }, { accessFlags := 25, nameIndex := 162, descriptorIndex := 25, attributes := #[] }, { accessFlags := 25, nameIndex := 187, descriptorIndex := 25, attributes := #[] }, { accessFlags := 26, nameIndex := 48, descriptorIndex := 25, attributes := #[] }, { accessFlags := 25, nameIndex := 277, descriptorIndex := 25, attributes := #[] }, { accessFlags := 25, nameIndex := 280, descriptorIndex := 25, attributes := #[] }, { accessFlags := 25, nameIndex := 282, descriptorIndex := 25, attributes := #[] }, { accessFlags := 25, nameIndex := 284, descriptorIndex := 25, attributes := #[] }, { accessFlags := 25, nameIndex := 286, descriptorIndex := 25, attributes := #[] }, { accessFlags := 25, nameIndex := 288, descriptorIndex := 25, attributes := #[] }, { accessFlags := 25, nameIndex := 290, descriptorIndex := 25, attributes := #[] }, { accessFlags := 25, nameIndex := 292, descriptorIndex := 25, attributes := #[] }, { accessFlags := 26, nameIndex := 108, descriptorIndex := 109, attributes := #[] }, { accessFlags := 25, nameIndex := 294, descriptorIndex := 25, attributes := #[] }])
  fields := #[{ name := "U", type := (.object "jdk/internal/misc/Unsafe"), accessFlags := 24, slot := 0, constantValue := 0 }, { name := "BIG_ENDIAN", type := .boolean, accessFlags := 26, slot := 1, constantValue := 0 }, { name := "LOG2_ARRAY_BOOLEAN_INDEX_SCALE", type := .int, accessFlags := 25, slot := 2, constantValue := 0 }, { name := "LOG2_ARRAY_BYTE_INDEX_SCALE", type := .int, accessFlags := 25, slot := 3, constantValue := 0 }, { name := "LOG2_ARRAY_CHAR_INDEX_SCALE", type := .int, accessFlags := 25, slot := 4, constantValue := 0 }, { name := "LOG2_ARRAY_SHORT_INDEX_SCALE", type := .int, accessFlags := 25, slot := 5, constantValue := 0 }, { name := "LOG2_ARRAY_INT_INDEX_SCALE", type := .int, accessFlags := 25, slot := 6, constantValue := 0 }, { name := "LOG2_ARRAY_LONG_INDEX_SCALE", type := .int, accessFlags := 25, slot := 7, constantValue := 0 }, { name := "LOG2_ARRAY_FLOAT_INDEX_SCALE", type := .int, accessFlags := 25, slot := 8, constantValue := 0 }, { name := "LOG2_ARRAY_DOUBLE_INDEX_SCALE", type := .int, accessFlags := 25, slot := 9, constantValue := 0 }, { name := "LOG2_BYTE_BIT_SIZE", type := .int, accessFlags := 26, slot := 10, constantValue := 0 }, { name := "T_BOOLEAN", type := .int, accessFlags := 25, slot := 11, constantValue := 0 }, { name := "T_CHAR", type := .int, accessFlags := 25, slot := 12, constantValue := 0 }, { name := "T_FLOAT", type := .int, accessFlags := 25, slot := 13, constantValue := 0 }, { name := "T_DOUBLE", type := .int, accessFlags := 25, slot := 14, constantValue := 0 }, { name := "T_BYTE", type := .int, accessFlags := 25, slot := 15, constantValue := 0 }, { name := "T_SHORT", type := .int, accessFlags := 25, slot := 16, constantValue := 0 }, { name := "T_INT", type := .int, accessFlags := 25, slot := 17, constantValue := 0 }, { name := "T_LONG", type := .int, accessFlags := 25, slot := 18, constantValue := 0 }, { name := "JLA", type := (.object "jdk/internal/access/JavaLangAccess"), accessFlags := 26, slot := 19, constantValue := 0 }, { name := "SOFT_MAX_ARRAY_LENGTH", type := .int, accessFlags := 25, slot := 20, constantValue := 0 }]
  methods := #[k14m0]
  instanceTypes := #[]
  staticTypes := #[(.object "jdk/internal/misc/Unsafe"), .boolean, .int, .int, .int, .int, .int, .int, .int, .int, .int, .int, .int, .int, .int, .int, .int, .int, .int, (.object "jdk/internal/access/JavaLangAccess"), .int]
  resolved := Array.replicate 378 none
  statics := none }

def pool15 : Array CpInfo := pool [(1, u "java/lang/Cloneable"), (0, .class_ 1), (0, u "java/lang/Object"), (0, .class_ 3)] 3

/-- java/lang/Cloneable -/
def k15 : Class := { plain "java/lang/Cloneable" (some 0) with
  accessFlags := 1537
  interfaces := #[]
  cf := some (fileOf pool15 2 #[] #[] 1537 4 #[] #[])
  fields := #[]
  methods := #[]
  instanceTypes := #[]
  staticTypes := #[]
  resolved := Array.replicate 8 none
  statics := none }

/-- the primitive byte -/
def k16 : Class := { plain "byte" none with kind := .primitive 'B', accessFlags := 0x411 }
/-- [B -/
def k17 : Class := { plain "[B" (some 0) with kind := .array 16 .byte, interfaces := #[15, 2], accessFlags := 1041 }

/-- the primitive char -/
def k18 : Class := { plain "char" none with kind := .primitive 'C', accessFlags := 0x411 }
/-- [C -/
def k19 : Class := { plain "[C" (some 0) with kind := .array 18 .char, interfaces := #[15, 2], accessFlags := 1041 }

/-- the primitive int -/
def k20 : Class := { plain "int" none with kind := .primitive 'I', accessFlags := 0x411 }
/-- [I -/
def k21 : Class := { plain "[I" (some 0) with kind := .array 20 .int, interfaces := #[15, 2], accessFlags := 1041 }

def heap : Heap := #[{ cls := 7, slots := #[.long 0, .int 1, .null, .int 0, .null, .int 0, .int 0], vm := .statics 7 },
  { cls := 13, slots := #[.null, .null, .null], vm := .statics 13 }]
def classes : Array Class := #[k0, k1, k2, k3, k4, k5, k6, k7, k8, k9, k10, k11, k12, k13, k14, k15, k16, k17, k18, k19, k20, k21]
def interned : List (Array UInt16 × Addr) := []
def slotsUsed : Nat := 10
def theMethod : MethodId := ⟨1, 2⟩
def args0 : Array Value := #[.int 50, .int 7, .int 7, .int 7, .int 7]
def aboutOver (below : List Frame) : State where
  vm := { classes := classes, interned := interned.toArray }
  heap := heap
  slotsUsed := slotsUsed
  threads := #[{ frames := .invoking theMethod args0 :: below }]
def below0 : List Frame := [.native { method := ⟨0, 0⟩, args := #[] }]
def about1 : State := aboutOver below0
def p0 : Program := .bare "" "" ""
def e0 : Env := launch0.env 0 0 0
theorem w_frames : about1.frames = Frame.invoking theMethod args0 :: below0 := rfl
set_option maxRecDepth 65536 in
theorem w_args : argsFit about1.vm theMethod args0 = true := by decide +kernel
set_option maxRecDepth 65536 in
theorem w_heap : heapFits about1 = true := by decide +kernel
set_option maxRecDepth 65536 in
theorem w_runnable : about1.curStatus? = some .runnable := by decide +kernel
set_option maxRecDepth 65536 in
theorem w_alone : about1.alone = true := by decide +kernel
set_option maxRecDepth 65536 in
theorem w_named : about1.methodNamed? x = some theMethod := by decide +kernel
set_option maxRecDepth 65536 in
theorem w_hears : about1.hears theMethod below0 = true := by decide +kernel
set_option maxRecDepth 65536 in
theorem w_ripe : about1.ripe theMethod args0 below0 = true := by decide +kernel
theorem w_running : about1.status = .running := rfl
set_option maxRecDepth 65536 in
theorem w_room : about1.hasRoom e0.platform room_1 = true :=
  launch0.hasRoom_least _ room_1 (by decide +kernel) (by decide +kernel) (by decide +kernel) (by decide +kernel) (by decide +kernel) (by decide +kernel)
theorem allAtoms_all (ts : List Jvm.Cond) (a : Array Jvm.Value) (st : Jvm.State) : (allAtoms ts).before a st = ts.all (fun c => c.before a st) := by
  induction ts with
  | nil => rfl
  | cons c t ih =>
    show (Jvm.Cond.and c (allAtoms t)).before a st = _
    rw [Jvm.Cond.before_and, ih, List.all_cons]
def words1 : List Jvm.Cond := Jvm.Cond.code x code maxLocals ret :: tables_1
/-- a 'code' word, met by the world's own term for the bytes: nothing is compared byte by byte -/
theorem code_word {y : MethodName} {bytes : ByteArray} {mx : Nat} {rt : Option FieldType} {a : Array Value} {s : State} {m : MethodId} {meth : Method} {c : Code} (h1 : s.methodNamed? y = some m) (h2 : s.vm.method? m = some meth) (h3 : meth.code = some c) (h4 : c.code = bytes)
    (h5 : (c.maxLocals == mx && c.exceptionTable.isEmpty && decide (c.maxStack ≤ mostOperands) && decide (meth.sig.returnType = rt) && !meth.locks && decide (parseMethodDescriptor y.desc = some meth.sig)) = true) : (Jvm.Cond.code y bytes mx rt).before a s = true := by
  simp only [Bool.and_eq_true, beq_iff_eq, Bool.not_eq_true', decide_eq_true_eq] at h5
  obtain ⟨⟨⟨⟨⟨g1, g2⟩, g3⟩, g4⟩, g5⟩, g6⟩ := h5
  simp [Cond.before, Cond.holds, Cond.value, h1, h2, h3, h4, g1, g2, g3, g4, g5, g6]
def isCode : Jvm.Cond → Bool
  | .code _ _ _ _ => true
  | _ => false
theorem all_split {L : List Jvm.Cond} {P : Jvm.Cond → Bool} (h1 : L.all (fun c => isCode c || P c) = true) (h2 : ∀ c ∈ L.filter isCode, P c = true) : L.all P = true := by
  refine List.all_eq_true.mpr fun c hc => ?_
  have h := List.all_eq_true.mp h1 c hc
  rcases Bool.eq_false_or_eq_true (isCode c) with hi | hi
  · exact h2 c (List.mem_filter.mpr ⟨hc, hi⟩)
  · simpa [hi] using h
set_option maxRecDepth 65536 in
theorem w_c0 : (Jvm.Cond.code x code maxLocals ret).before args0 about1 = true := code_word (m := ⟨1, 2⟩) (meth := k1m2) (c := k1c2) (by decide +kernel) rfl rfl rfl (by decide +kernel)
set_option maxRecDepth 65536 in
theorem w_c1 : (Jvm.Cond.code ({ cls := "com/example/tardy_snapshot/tardysnapshot/WriteIsDeletePinLaw", name := "draw", desc := "(III)Ljava/lang/String;" } : Jvm.MethodName) method_2_code (3 : Nat) (Option.some (Jvm.ClassFile.FieldType.object "java/lang/String"))).before args0 about1 = true := code_word (m := ⟨1, 1⟩) (meth := k1m1) (c := k1c1) (by decide +kernel) rfl rfl rfl (by decide +kernel)
set_option maxRecDepth 65536 in
theorem w_c2 : (Jvm.Cond.code ({ cls := "java/lang/String", name := "<init>", desc := "([C)V" } : Jvm.MethodName) jdk_42_method_3_code (2 : Nat) (Option.none : Option Jvm.ClassFile.FieldType)).before args0 about1 = true := code_word (m := ⟨7, 1⟩) (meth := k7m1) (c := k7c1) (by decide +kernel) rfl rfl rfl (by decide +kernel)
set_option maxRecDepth 65536 in
theorem w_c3 : (Jvm.Cond.code ({ cls := "java/lang/String", name := "<init>", desc := "([CIILjava/lang/Void;)V" } : Jvm.MethodName) jdk_42_method_149_code (6 : Nat) (Option.none : Option Jvm.ClassFile.FieldType)).before args0 about1 = true := code_word (m := ⟨7, 2⟩) (meth := k7m2) (c := k7c2) (by decide +kernel) rfl rfl rfl (by decide +kernel)
set_option maxRecDepth 65536 in
theorem w_c4 : (Jvm.Cond.code ({ cls := "java/lang/Object", name := "<init>", desc := "()V" } : Jvm.MethodName) object_method_1_code (1 : Nat) (Option.none : Option Jvm.ClassFile.FieldType)).before args0 about1 = true := code_word (m := ⟨0, 0⟩) (meth := k0m0) (c := k0c0) (by decide +kernel) rfl rfl rfl (by decide +kernel)
set_option maxRecDepth 65536 in
theorem w_c5 : (Jvm.Cond.code ({ cls := "com/example/tardy_snapshot/tardysnapshot/Write", name := "<init>", desc := "(Ljava/lang/String;Ljava/lang/String;)V" } : Jvm.MethodName) prog_99_method_1_code (3 : Nat) (Option.none : Option Jvm.ClassFile.FieldType)).before args0 about1 = true := code_word (m := ⟨10, 0⟩) (meth := k10m0) (c := k10c0) (by decide +kernel) rfl rfl rfl (by decide +kernel)
set_option maxRecDepth 65536 in
theorem w_c6 : (Jvm.Cond.code ({ cls := "java/lang/Record", name := "<init>", desc := "()V" } : Jvm.MethodName) jdk_30_method_1_code (1 : Nat) (Option.none : Option Jvm.ClassFile.FieldType)).before args0 about1 = true := code_word (m := ⟨8, 0⟩) (meth := k8m0) (c := k8c0) (by decide +kernel) rfl rfl rfl (by decide +kernel)
set_option maxRecDepth 65536 in
theorem w_c7 : (Jvm.Cond.code ({ cls := "com/example/tardy_snapshot/tardysnapshot/Write", name := "isDelete", desc := "()Z" } : Jvm.MethodName) prog_99_method_4_code (1 : Nat) (Option.some Jvm.ClassFile.FieldType.boolean)).before args0 about1 = true := code_word (m := ⟨10, 3⟩) (meth := k10m3) (c := k10c3) (by decide +kernel) rfl rfl rfl (by decide +kernel)
set_option maxRecDepth 65536 in
theorem w_c8 : (Jvm.Cond.code ({ cls := "com/example/tardy_snapshot/tardysnapshot/Write", name := "delete", desc := "(Ljava/lang/String;)Lcom/example/tardy_snapshot/tardysnapshot/Write;" } : Jvm.MethodName) prog_99_method_3_code (1 : Nat) (Option.some (Jvm.ClassFile.FieldType.object "com/example/tardy_snapshot/tardysnapshot/Write"))).before args0 about1 = true := code_word (m := ⟨10, 2⟩) (meth := k10m2) (c := k10c2) (by decide +kernel) rfl rfl rfl (by decide +kernel)
set_option maxRecDepth 65536 in
theorem w_c9 : (Jvm.Cond.code ({ cls := "com/example/tardy_snapshot/tardysnapshot/Write", name := "put", desc := "(Ljava/lang/String;Ljava/lang/String;)Lcom/example/tardy_snapshot/tardysnapshot/Write;" } : Jvm.MethodName) prog_99_method_2_code (2 : Nat) (Option.some (Jvm.ClassFile.FieldType.object "com/example/tardy_snapshot/tardysnapshot/Write"))).before args0 about1 = true := code_word (m := ⟨10, 1⟩) (meth := k10m1) (c := k10c1) (by decide +kernel) rfl rfl rfl (by decide +kernel)
set_option maxRecDepth 65536 in
theorem w_c10 : (Jvm.Cond.code ({ cls := "java/lang/StringUTF16", name := "compress", desc := "([CII)[B" } : Jvm.MethodName) jdk_52_method_16_code (6 : Nat) (Option.some (Jvm.ClassFile.FieldType.array Jvm.ClassFile.FieldType.byte))).before args0 about1 = true := code_word (m := ⟨11, 2⟩) (meth := k11m2) (c := k11c2) (by decide +kernel) rfl rfl rfl (by decide +kernel)
set_option maxRecDepth 65536 in
theorem w_c11 : (Jvm.Cond.code ({ cls := "java/lang/StringUTF16", name := "compress", desc := "([CI[BII)I" } : Jvm.MethodName) jdk_52_method_21_code (7 : Nat) (Option.some Jvm.ClassFile.FieldType.int)).before args0 about1 = true := code_word (m := ⟨11, 3⟩) (meth := k11m3) (c := k11c3) (by decide +kernel) rfl rfl rfl (by decide +kernel)
set_option maxRecDepth 65536 in
theorem w_c12 : (Jvm.Cond.code ({ cls := "java/lang/StringUTF16", name := "coderFromArrayLen", desc := "([BI)B" } : Jvm.MethodName) jdk_52_method_15_code (2 : Nat) (Option.some Jvm.ClassFile.FieldType.byte)).before args0 about1 = true := code_word (m := ⟨11, 1⟩) (meth := k11m1) (c := k11c1) (by decide +kernel) rfl rfl rfl (by decide +kernel)
def codes1 : List Jvm.Cond := [Jvm.Cond.code x code maxLocals ret, Jvm.Cond.code ({ cls := "com/example/tardy_snapshot/tardysnapshot/WriteIsDeletePinLaw", name := "draw", desc := "(III)Ljava/lang/String;" } : Jvm.MethodName) method_2_code (3 : Nat) (Option.some (Jvm.ClassFile.FieldType.object "java/lang/String")), Jvm.Cond.code ({ cls := "java/lang/String", name := "<init>", desc := "([C)V" } : Jvm.MethodName) jdk_42_method_3_code (2 : Nat) (Option.none : Option Jvm.ClassFile.FieldType), Jvm.Cond.code ({ cls := "java/lang/String", name := "<init>", desc := "([CIILjava/lang/Void;)V" } : Jvm.MethodName) jdk_42_method_149_code (6 : Nat) (Option.none : Option Jvm.ClassFile.FieldType), Jvm.Cond.code ({ cls := "java/lang/Object", name := "<init>", desc := "()V" } : Jvm.MethodName) object_method_1_code (1 : Nat) (Option.none : Option Jvm.ClassFile.FieldType), Jvm.Cond.code ({ cls := "com/example/tardy_snapshot/tardysnapshot/Write", name := "<init>", desc := "(Ljava/lang/String;Ljava/lang/String;)V" } : Jvm.MethodName) prog_99_method_1_code (3 : Nat) (Option.none : Option Jvm.ClassFile.FieldType), Jvm.Cond.code ({ cls := "java/lang/Record", name := "<init>", desc := "()V" } : Jvm.MethodName) jdk_30_method_1_code (1 : Nat) (Option.none : Option Jvm.ClassFile.FieldType), Jvm.Cond.code ({ cls := "com/example/tardy_snapshot/tardysnapshot/Write", name := "isDelete", desc := "()Z" } : Jvm.MethodName) prog_99_method_4_code (1 : Nat) (Option.some Jvm.ClassFile.FieldType.boolean), Jvm.Cond.code ({ cls := "com/example/tardy_snapshot/tardysnapshot/Write", name := "delete", desc := "(Ljava/lang/String;)Lcom/example/tardy_snapshot/tardysnapshot/Write;" } : Jvm.MethodName) prog_99_method_3_code (1 : Nat) (Option.some (Jvm.ClassFile.FieldType.object "com/example/tardy_snapshot/tardysnapshot/Write")), Jvm.Cond.code ({ cls := "com/example/tardy_snapshot/tardysnapshot/Write", name := "put", desc := "(Ljava/lang/String;Ljava/lang/String;)Lcom/example/tardy_snapshot/tardysnapshot/Write;" } : Jvm.MethodName) prog_99_method_2_code (2 : Nat) (Option.some (Jvm.ClassFile.FieldType.object "com/example/tardy_snapshot/tardysnapshot/Write")), Jvm.Cond.code ({ cls := "java/lang/StringUTF16", name := "compress", desc := "([CII)[B" } : Jvm.MethodName) jdk_52_method_16_code (6 : Nat) (Option.some (Jvm.ClassFile.FieldType.array Jvm.ClassFile.FieldType.byte)), Jvm.Cond.code ({ cls := "java/lang/StringUTF16", name := "compress", desc := "([CI[BII)I" } : Jvm.MethodName) jdk_52_method_21_code (7 : Nat) (Option.some Jvm.ClassFile.FieldType.int), Jvm.Cond.code ({ cls := "java/lang/StringUTF16", name := "coderFromArrayLen", desc := "([BI)B" } : Jvm.MethodName) jdk_52_method_15_code (2 : Nat) (Option.some Jvm.ClassFile.FieldType.byte)]
set_option maxRecDepth 65536 in
theorem codes_eq : words1.filter isCode = codes1 := rfl
theorem w_codes : ∀ c ∈ words1.filter isCode, c.before args0 about1 = true := by
  rw [codes_eq]
  intro c hc
  simp only [codes1, List.mem_cons, List.not_mem_nil, or_false] at hc
  rcases hc with rfl | rfl | rfl | rfl | rfl | rfl | rfl | rfl | rfl | rfl | rfl | rfl | rfl
  · exact w_c0
  · exact w_c1
  · exact w_c2
  · exact w_c3
  · exact w_c4
  · exact w_c5
  · exact w_c6
  · exact w_c7
  · exact w_c8
  · exact w_c9
  · exact w_c10
  · exact w_c11
  · exact w_c12
set_option maxRecDepth 65536 in
theorem w_t1 : (words1.take 24).all (fun c => isCode c || c.before args0 about1) = true := by decide +kernel
set_option maxRecDepth 65536 in
theorem w_t2 : ((words1.drop 24).take 24).all (fun c => isCode c || c.before args0 about1) = true := by decide +kernel
set_option maxRecDepth 65536 in
theorem w_t3 : ((words1.drop 24).drop 24).all (fun c => isCode c || c.before args0 about1) = true := by decide +kernel
theorem w_tables : (allAtoms (Jvm.Cond.code x code maxLocals ret :: tables_1)).before args0 about1 = true := by
  rw [allAtoms_all]
  show words1.all (fun c => c.before args0 about1) = true
  refine all_split ?_ w_codes
  rw [← List.take_append_drop 24 words1, List.all_append, w_t1, ← List.take_append_drop 24 (words1.drop 24), List.all_append, w_t2, w_t3]
  rfl
set_option maxRecDepth 65536 in
theorem w_rest : rest_1_c.before args0 about1 = true := by decide +kernel
set_option maxRecDepth 65536 in
theorem w_case : (Jvm.Cond.and given_1 narrow_1).before args0 about1 = true := by decide +kernel
set_option maxRecDepth 65536 in
theorem w_consts : constsHeld consts_1 about1 := Jvm.Lit.constsHeldB_iff.mp (by decide +kernel)
theorem w_applies : (headSpec (Jvm.Cond.code x code maxLocals ret :: tables_1) room_1).applies x e0.platform about1 = true :=
  (Spec.applies_iff w_frames).mpr ⟨w_running, w_runnable, w_alone, w_named, w_hears, w_ripe, w_room, w_tables⟩
theorem atStart : AtStart classFile x code maxLocals ret World_1 tables_1 room_1 Calls_1 rest_1 Pre_1 launch0 p0 e0 about1 theMethod args0 below0 :=
  ⟨lists_1, trivial, launch0.admits_env _ _ _, launch0.least_env, fairChoices_fair.cas, fairChoices_fair.clock, w_frames, w_args, w_heap, w_applies, ⟨w_consts, trivial⟩, w_rest, w_case⟩
end start1
theorem witness_1 : WitnessClaimed_1 := ⟨start1.p0, start1.e0, start1.about1, start1.theMethod, start1.args0, start1.below0, start1.atStart⟩
end Jvm.Pilot.@@N@@
