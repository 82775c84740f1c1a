import JvmDerived
import JvmDerived.Pilot.@@N@@Statement
import JvmDerived.Pilot.@@N@@Code
set_option linter.unusedVariables false
set_option linter.unusedSimpArgs false
namespace Jvm.RoadKit
open Sem ClassFile Op Lib Jvm.Stand Jvm.Free Jvm.LawKit
section New
variable {p : Program} {l : Launch} {e : Env} {R : Room} {s : State} {m : MethodId} {args : Array Value} {below : List Frame} {meth : Method} {c : Code} {T : State} {locs : List Loc} {cells slots : Nat}
theorem retI (X : Stand p l e R s m args below meth c T locs cells slots) (hx : p.tables.exec = Jvm.exec) {pc : Nat} {Ls : Array Slot} {z : Int32} {rest : List Value} (hret : meth.sig.returnType = some .int) (hd : decode c.code pc = .ok (.ireturn, 1)) {fs : List Frame}
    (hl : ∀ (f : JFrame) (acts : List Action), f.method = m → f.locked = none → f.entered = [] → (doReturn e (T.setTop f) acts (some (.int z))).1 = T.setFrames fs) : Steps p.tables e below (T.setTop (mkF m pc Ls (.int z :: rest))) (T.setFrames fs) := by
  have hm' : T.vm.method? m = some meth := X.method'
  have hn : narrow .int (.int z) = .int z := rfl
  show Steps p.tables e below (T.setTop { method := m, pc := pc, locals := Ls, stack := _ :: rest, locked := none }) _
  jvm_step X.here [X.here.top, hx, hd, hm', hret, hn]
  first | (intro acts; rw [hl _ acts rfl rfl rfl]) | rw [hl _ _ rfl rfl rfl]
  exact Steps.refl _
end New
end Jvm.RoadKit
/- laws to paste: Road.backV (cut by pick.py; bodies as the Statement names them) -/
namespace Jvm.Pilot.@@N@@
namespace StrChars
open Jvm Sem ClassFile Op Lib Jvm.Stand Jvm.Free.XT Jvm.Free.ALB Jvm.Free.JM Jvm.Free
open Jvm.Lib.Cold (StaticIs)
/-- a char array whose places are chars -/
def Ch (a : Addr) (A : Cell) (U : State) : Prop := Arr .char a A U ∧ Typed .char A
theorem Ch.mv {a : Addr} {A : Cell} {U U' : State} (h : Ch a A U) (hal : U.vm.Alike U'.vm) (hh : U'.heap = U.heap) : Ch a A U' := ⟨h.1.mv hal hh, h.2⟩
theorem Ch.keep {a : Addr} {A : Cell} {U U' : State} (h : Ch a A U) (hal : U.vm.Alike U'.vm) (hk : U'.heap[a]? = some A) : Ch a A U' := ⟨h.1.keep hal hk, h.2⟩
/-- what place i of a char[]'s cell holds -/
def cv (A : Cell) (i : Nat) : Int32 := match A.slots[i]? with | some (.int x) => x | _ => 0
theorem Ch.get {a : Addr} {A : Cell} {U : State} (h : Ch a A U) {i : Nat} (hi : i < A.slots.size) : A.slots[i]? = some (.int (cv A i)) := by
  have e := Array.getElem?_eq_getElem hi
  have f := h.2 i _ e
  unfold cv; rw [e]
  generalize A.slots[i] = v at f
  cases v <;> simp [fits] at f ⊢
/-- the byte that i2b leaves of a char -/
def lo8 (x : Int32) : Int32 := x.toInt8.toInt32
theorem fits_lo8 (y : Int32) : fits .byte (.int (lo8 y)) = true := by
  have h1 := y.toInt8.le_toInt
  have h2 := y.toInt8.toInt_lt
  simp only [lo8, fits, Bool.and_eq_true, decide_eq_true_eq, Int32.le_iff_toInt_le, Int8.toInt_toInt32, show (-128 : Int32).toInt = -128 from by decide, show (127 : Int32).toInt = 127 from by decide]
  omega
/-- A' is A but that each place j of lo .. hi - 1 holds f j -/
def Laid (A A' : Cell) (lo hi : Nat) (f : Nat → Value) : Prop := A'.cls = A.cls ∧ A'.vm = A.vm ∧ A'.slots.size = A.slots.size ∧ ∀ i, A'.slots[i]? = if lo ≤ i ∧ i < hi then some (f i) else A.slots[i]?
theorem Laid.zero (A : Cell) (lo : Nat) (f : Nat → Value) : Laid A A lo (lo + 0) f := ⟨rfl, rfl, rfl, fun i => by rw [if_neg (by omega)]⟩
theorem Laid.step {A Ak : Cell} {lo k : Nat} {f : Nat → Value} {v : Value} (h : Laid A Ak lo k f) (hlo : lo ≤ k) (hk : k < Ak.slots.size) (hv : v = f k) : Laid A (Ak.setSlot k v) lo (k + 1) f := by
  refine ⟨h.1, h.2.1, by simpa [Cell.setSlot] using h.2.2.1, fun i => ?_⟩
  by_cases e : k = i
  · subst e; rw [Cell.slots_setSlot_self v hk, if_pos (by omega), hv]
  · rw [Cell.slots_setSlot_ne v e, h.2.2.2 i]
    by_cases q : lo ≤ i ∧ i < k
    · rw [if_pos q, if_pos (by omega)]
    · rw [if_neg q, if_neg (by omega)]
def U16 : String := "java/lang/StringUTF16"
namespace Cmp5
def yN : MethodName := ⟨"java/lang/StringUTF16", "compress", "([CI[BII)I"⟩
abbrev yB : ByteArray := jdk_52_method_21_code
theorem d0 : decode yB 0 = .ok (.iconst 0, 1) := by decide +kernel
theorem d1 : decode yB 1 = .ok (.istore 5, 2) := by decide +kernel
theorem d3 : decode yB 3 = .ok (.iload 5, 2) := by decide +kernel
theorem d5 : decode yB 5 = .ok (.iload 4, 2) := by decide +kernel
theorem d7 : decode yB 7 = .ok (.if_icmp (.ge) 37, 3) := by decide +kernel
theorem d10 : decode yB 10 = .ok (.aload_n 0, 1) := by decide +kernel
theorem d11 : decode yB 11 = .ok (.iload_n 1, 1) := by decide +kernel
theorem d12 : decode yB 12 = .ok (.caload, 1) := by decide +kernel
theorem d13 : decode yB 13 = .ok (.istore 6, 2) := by decide +kernel
theorem d15 : decode yB 15 = .ok (.iload 6, 2) := by decide +kernel
theorem d17 : decode yB 17 = .ok (.sipush 255, 3) := by decide +kernel
theorem d20 : decode yB 20 = .ok (.if_icmp (.le) 6, 3) := by decide +kernel
theorem d26 : decode yB 26 = .ok (.aload_n 2, 1) := by decide +kernel
theorem d27 : decode yB 27 = .ok (.iload_n 3, 1) := by decide +kernel
theorem d28 : decode yB 28 = .ok (.iload 6, 2) := by decide +kernel
theorem d30 : decode yB 30 = .ok (.i2b, 1) := by decide +kernel
theorem d31 : decode yB 31 = .ok (.bastore, 1) := by decide +kernel
theorem d32 : decode yB 32 = .ok (.iinc 1 1, 3) := by decide +kernel
theorem d35 : decode yB 35 = .ok (.iinc 3 1, 3) := by decide +kernel
theorem d38 : decode yB 38 = .ok (.iinc 5 1, 3) := by decide +kernel
theorem d41 : decode yB 41 = .ok (.goto (-38), 3) := by decide +kernel
theorem d44 : decode yB 44 = .ok (.iload 4, 2) := by decide +kernel
theorem d46 : decode yB 46 = .ok (.ireturn, 1) := by decide +kernel
def site : List Cond := []
def tab : Cond := tabOf yN yB 7 (some .int) site
def P (b : Addr) (A : Cell) (d : Addr) (B : Cell) (o q len : Nat) (args : Array Value) (s : State) : Prop := args = #[.ref b, .int (Int32.ofNat o), .ref d, .int (Int32.ofNat q), .int (Int32.ofNat len)] ∧ Ch b A s ∧ Arr .byte d B s ∧ b ≠ d ∧ o + len ≤ A.slots.size ∧ q + len ≤ B.slots.size ∧ ∀ i, i < len → ¬ 255 < cv A (o + i)
def E (b : Addr) (A : Cell) (d : Addr) (B : Cell) (o q len : Nat) (r : Option Value) (s u : State) : Prop := r = some (.int (Int32.ofNat len)) ∧ ∃ B', Put d B' s u ∧ Laid B B' q (q + len) (fun j => Value.int (lo8 (cv A (o + (j - q)))))
/-- no char of the range above 255: len; the places written hold each char's low byte -/
theorem law (l : Launch) (b : Addr) (A : Cell) (d : Addr) (B : Cell) (o q len : Nat) : Law l yN 5 5 0 0 yB 7 (some .int) site (P b A d B o q len) (E b A d B o q len) (copyLocs d q len) 0 0 := by
  refine Law.of_walk (plainFor_of_name (by decide +kernel)) (by decide +kernel) (by decide +kernel) (by decide) (fun _ _ h => by rw [h.1]; rfl) (fun _ U U' hal hh h => ⟨h.1, h.2.1.mv hal hh, h.2.2.1.mv hal hh, h.2.2.2⟩) (fun r U U' V V' h1 hal h2 h => ⟨h.1, h.2.elim fun B' q => ⟨B', q.1.mv h1 h2, q.2⟩⟩) ?_
  intro p e s m args below meth c s₁ X0 hexec hbytes hml hret hlk hnm hown hh0 W hP
  obtain ⟨rfl, hA, hB, hne, l1, l2, hp⟩ := hP
  have c1 : Steps p.tables e below (s₁.setTop (entryFrame m #[.ref b, .int (Int32.ofNat o), .ref d, .int (Int32.ofNat q), .int (Int32.ofNat len)] 7)) (s₁.setTop (mkF m 0 #[.val (.ref b), .val (.int (Int32.ofNat o)), .val (.ref d), .val (.int (Int32.ofNat q)), .val (.int (Int32.ofNat len)), .unset, .unset] [])) := entry rfl
  have hA0 := hA.1.mv X0.warmed.alike hh0
  have hB0 := hB.mv X0.warmed.alike hh0
  have a31 := hA.1.2.2.2
  have c2 : Steps p.tables e below (s₁.setTop (entryFrame m #[.ref b, .int (Int32.ofNat o), .ref d, .int (Int32.ofNat q), .int (Int32.ofNat len)] 7)) (s₁.setTop (mkF m 3 #[.val (.ref b), .val (.int (Int32.ofNat o)), .val (.ref d), .val (.int (Int32.ofNat q)), .val (.int (Int32.ofNat len)), .val (.int 0), .unset] [])) := c1.trans (by
    refine iconstV X0.here hexec rfl 0 (hb hbytes d0) (by decide) ?_
    refine XS.istore X0.here hexec rfl (hb hbytes d1) rfl rfl ?_
    exact Steps.refl _)
  have loop : ∀ (r i : Nat), i + r = len → ∀ (z : Slot), (z = .unset ∨ ∃ w, z = .val w ∧ w.category = 1) → ∀ (Tl : State) (Bk : Cell), Stand p l e { frames := 0, locals := 0, cells := 0, slots := 0 } s m #[.ref b, .int (Int32.ofNat o), .ref d, .int (Int32.ofNat q), .int (Int32.ofNat len)] below meth c Tl ([] ++ copyLocs d q i) 0 0 → Put d Bk s₁ Tl → Laid B Bk q (q + i) (fun j => Value.int (lo8 (cv A (o + (j - q))))) →
      Steps p.tables e below (s₁.setTop (entryFrame m #[.ref b, .int (Int32.ofNat o), .ref d, .int (Int32.ofNat q), .int (Int32.ofNat len)] 7)) (Tl.setTop (mkF m 3 #[.val (.ref b), .val (.int (Int32.ofNat (o + i))), .val (.ref d), .val (.int (Int32.ofNat (q + i))), .val (.int (Int32.ofNat len)), .val (.int (Int32.ofNat i)), z] [])) → ∃ (T' : State) (B' : Cell) (z' : Slot), Stand p l e { frames := 0, locals := 0, cells := 0, slots := 0 } s m #[.ref b, .int (Int32.ofNat o), .ref d, .int (Int32.ofNat q), .int (Int32.ofNat len)] below meth c T' ([] ++ copyLocs d q len) 0 0 ∧ Put d B' s₁ T' ∧ Laid B B' q (q + len) (fun j => Value.int (lo8 (cv A (o + (j - q))))) ∧
      Steps p.tables e below (s₁.setTop (entryFrame m #[.ref b, .int (Int32.ofNat o), .ref d, .int (Int32.ofNat q), .int (Int32.ofNat len)] 7)) (T'.setTop (mkF m 3 #[.val (.ref b), .val (.int (Int32.ofNat (o + len))), .val (.ref d), .val (.int (Int32.ofNat (q + len))), .val (.int (Int32.ofNat len)), .val (.int (Int32.ofNat len)), z'] [])) := by
    intro r
    induction r with
    | zero =>
      intro i hi z hz Tl Bk Xl pl fl cl
      have hil : i = len := by omega
      rw [hil] at Xl fl cl
      exact ⟨Tl, Bk, z, Xl, pl, fl, cl⟩
    | succ r ih =>
      intro i hi z hz Tl Bk Xl pl fl cl
      have all := X0.warmed.alike.symm.trans Xl.warmed.alike
      have hAl := hA0.keep all (pl.other hne hA0.1)
      have hBk := hB0.like all pl.1 fl.1 fl.2.1 fl.2.2.1
      have hlt : q + i < Bk.slots.size := by rw [fl.2.2.1]; omega
      have c3 : Steps p.tables e below (s₁.setTop (entryFrame m #[.ref b, .int (Int32.ofNat o), .ref d, .int (Int32.ofNat q), .int (Int32.ofNat len)] 7)) (Tl.setTop (mkF m 12 #[.val (.ref b), .val (.int (Int32.ofNat (o + i))), .val (.ref d), .val (.int (Int32.ofNat (q + i))), .val (.int (Int32.ofNat len)), .val (.int (Int32.ofNat i)), z] [.int (Int32.ofNat (o + i)), .ref b])) := cl.trans (by
        refine XS.iload Xl.here hexec rfl (hb hbytes d3) rfl ?_
        refine XS.iload Xl.here hexec rfl (hb hbytes d5) rfl ?_
        refine XS.icmpNo Xl.here hexec rfl (hb hbytes d7) rfl (ii_ge_f (lt32 (by omega) (by omega))) ?_
        refine XS.aloadN Xl.here hexec rfl (hb hbytes d10) rfl rfl ?_
        refine XS.iloadN Xl.here hexec rfl (hb hbytes d11) rfl ?_
        exact Steps.refl _)
      have c4 : Steps p.tables e below (s₁.setTop (entryFrame m #[.ref b, .int (Int32.ofNat o), .ref d, .int (Int32.ofNat q), .int (Int32.ofNat len)] 7)) (Tl.setTop (mkF m 13 #[.val (.ref b), .val (.int (Int32.ofNat (o + i))), .val (.ref d), .val (.int (Int32.ofNat (q + i))), .val (.int (Int32.ofNat len)), .val (.int (Int32.ofNat i)), z] [.int (cv A (o + i))])) := c3.trans (by
        refine Xl.aget hexec hAl rfl (hA.get (i := o + i) (by omega)) rfl rfl (hb hbytes d12) ?_
        exact Steps.refl _)
      have c5 : Steps p.tables e below (s₁.setTop (entryFrame m #[.ref b, .int (Int32.ofNat o), .ref d, .int (Int32.ofNat q), .int (Int32.ofNat len)] 7)) (Tl.setTop (mkF m 15 #[.val (.ref b), .val (.int (Int32.ofNat (o + i))), .val (.ref d), .val (.int (Int32.ofNat (q + i))), .val (.int (Int32.ofNat len)), .val (.int (Int32.ofNat i)), .val (.int (cv A (o + i)))] [])) := c4.trans (by
        refine XS.istoreS Xl.here hexec rfl (hb hbytes d13) rfl rfl hz ?_
        exact Steps.refl _)
      have c6 : Steps p.tables e below (s₁.setTop (entryFrame m #[.ref b, .int (Int32.ofNat o), .ref d, .int (Int32.ofNat q), .int (Int32.ofNat len)] 7)) (Tl.setTop (mkF m 31 #[.val (.ref b), .val (.int (Int32.ofNat (o + i))), .val (.ref d), .val (.int (Int32.ofNat (q + i))), .val (.int (Int32.ofNat len)), .val (.int (Int32.ofNat i)), .val (.int (cv A (o + i)))] [.int (lo8 (cv A (o + i))), .int (Int32.ofNat (q + i)), .ref d])) := c5.trans (by
        refine XS.iload Xl.here hexec rfl (hb hbytes d15) rfl ?_
        refine sipushV Xl.here hexec rfl 255 (hb hbytes d17) (by decide) ?_
        refine XS.icmpYes Xl.here hexec rfl (pc0 := 20) rfl (hb hbytes d20) rfl (ii_le_t (hp i (by omega))) (by decide) rfl ?_
        refine XS.aloadN Xl.here hexec rfl (hb hbytes d26) rfl rfl ?_
        refine XS.iloadN Xl.here hexec rfl (hb hbytes d27) rfl ?_
        refine XS.iload Xl.here hexec rfl (hb hbytes d28) rfl ?_
        refine i2b Xl.here hexec rfl (hb hbytes d30) rfl ?_
        exact Steps.refl _)
      obtain ⟨T7, X7, p7, st7⟩ := Xl.aput hexec hBk rfl hlt rfl (fits_lo8 (cv A (o + i))) (g := (mkF m 31 #[.val (.ref b), .val (.int (Int32.ofNat (o + i))), .val (.ref d), .val (.int (Int32.ofNat (q + i))), .val (.int (Int32.ofNat len)), .val (.int (Int32.ofNat i)), .val (.int (cv A (o + i)))] [.int (lo8 (cv A (o + i))), .int (Int32.ofNat (q + i)), .ref d])) rfl (rest := []) rfl (hb hbytes d31)
      have c8 : Steps p.tables e below (s₁.setTop (entryFrame m #[.ref b, .int (Int32.ofNat o), .ref d, .int (Int32.ofNat q), .int (Int32.ofNat len)] 7)) (T7.setTop (mkF m 32 #[.val (.ref b), .val (.int (Int32.ofNat (o + i))), .val (.ref d), .val (.int (Int32.ofNat (q + i))), .val (.int (Int32.ofNat len)), .val (.int (Int32.ofNat i)), .val (.int (cv A (o + i)))] [])) := c6.trans (st7 _ (Steps.refl _))
      have c9 : Steps p.tables e below (s₁.setTop (entryFrame m #[.ref b, .int (Int32.ofNat o), .ref d, .int (Int32.ofNat q), .int (Int32.ofNat len)] 7)) (T7.setTop (mkF m 3 #[.val (.ref b), .val (.int (Int32.ofNat (o + i) + 1)), .val (.ref d), .val (.int (Int32.ofNat (q + i) + 1)), .val (.int (Int32.ofNat len)), .val (.int (Int32.ofNat i + 1)), .val (.int (cv A (o + i)))] [])) := c8.trans (by
        refine iincV X7.here hexec rfl 1 (hb hbytes d32) (by decide) rfl rfl ?_
        refine iincV X7.here hexec rfl 1 (hb hbytes d35) (by decide) rfl rfl ?_
        refine iincV X7.here hexec rfl 1 (hb hbytes d38) (by decide) rfl rfl ?_
        refine XS.goto X7.here hexec rfl (pc0 := 41) rfl (hb hbytes d41) (by decide) rfl ?_
        exact Steps.refl _)
      have c10 : Steps p.tables e below (s₁.setTop (entryFrame m #[.ref b, .int (Int32.ofNat o), .ref d, .int (Int32.ofNat q), .int (Int32.ofNat len)] 7)) (T7.setTop (mkF m 3 #[.val (.ref b), .val (.int (Int32.ofNat (o + (i + 1)))), .val (.ref d), .val (.int (Int32.ofNat (q + (i + 1)))), .val (.int (Int32.ofNat len)), .val (.int (Int32.ofNat (i + 1))), .val (.int (cv A (o + i)))] [])) := by
        have := c9
        rw [succ32, succ32, succ32] at this
        exact this
      exact ih (i + 1) (by omega) _ (Or.inr ⟨_, rfl, rfl⟩) T7 _ (by rw [copyLocs_step, ← List.append_assoc]; exact X7) (pl.trans p7) (fl.step (by omega) hlt (by simp)) c10
  obtain ⟨T9, B9, z9, X9, p9, f9, g9⟩ := loop len 0 (by omega) .unset (Or.inl rfl) s₁ B (by simpa [copyLocs] using X0) ⟨hB0.1, fun _ _ => rfl, rfl⟩ (Laid.zero _ _ _) c2
  have c11 : Steps p.tables e below (s₁.setTop (entryFrame m #[.ref b, .int (Int32.ofNat o), .ref d, .int (Int32.ofNat q), .int (Int32.ofNat len)] 7)) (T9.setTop (mkF m 46 #[.val (.ref b), .val (.int (Int32.ofNat (o + len))), .val (.ref d), .val (.int (Int32.ofNat (q + len))), .val (.int (Int32.ofNat len)), .val (.int (Int32.ofNat len)), z9] [.int (Int32.ofNat len)])) := g9.trans (by
    refine XS.iload X9.here hexec rfl (hb hbytes d3) rfl ?_
    refine XS.iload X9.here hexec rfl (hb hbytes d5) rfl ?_
    refine XS.icmpYes X9.here hexec rfl (pc0 := 7) rfl (hb hbytes d7) rfl (ii_ge_t (nlt32 (by omega) (Nat.le_refl _))) (by decide) rfl ?_
    refine XS.iload X9.here hexec rfl (hb hbytes d44) rfl ?_
    exact Steps.refl _)
  exact ⟨T9, some (.int (Int32.ofNat len)), _, _, _, X9, by simp, rfl, rfl, (fun h => by cases h), ⟨rfl, B9, p9.from hh0, f9⟩, fun fs hl => c11.trans (X9.ireturnOut hexec hret rfl (Or.inl rfl) (hb hbytes d46) hl)⟩
end Cmp5
namespace Cmp3
def yN : MethodName := ⟨"java/lang/StringUTF16", "compress", "([CII)[B"⟩
abbrev yB : ByteArray := jdk_52_method_16_code
theorem d0 : decode yB 0 = .ok (.iload_n 2, 1) := by decide +kernel
theorem d1 : decode yB 1 = .ok (.newarray .byte, 2) := by decide +kernel
theorem d3 : decode yB 3 = .ok (.astore_n 3, 1) := by decide +kernel
theorem d4 : decode yB 4 = .ok (.aload_n 0, 1) := by decide +kernel
theorem d5 : decode yB 5 = .ok (.iload_n 1, 1) := by decide +kernel
theorem d6 : decode yB 6 = .ok (.aload_n 3, 1) := by decide +kernel
theorem d7 : decode yB 7 = .ok (.iconst 0, 1) := by decide +kernel
theorem d8 : decode yB 8 = .ok (.iload_n 2, 1) := by decide +kernel
theorem d9 : decode yB 9 = .ok (.invokestatic 115, 3) := by decide +kernel
theorem d12 : decode yB 12 = .ok (.istore 4, 2) := by decide +kernel
theorem d14 : decode yB 14 = .ok (.iload 4, 2) := by decide +kernel
theorem d16 : decode yB 16 = .ok (.iload_n 2, 1) := by decide +kernel
theorem d17 : decode yB 17 = .ok (.if_icmp (.eq) 40, 3) := by decide +kernel
theorem d57 : decode yB 57 = .ok (.aload_n 3, 1) := by decide +kernel
theorem d58 : decode yB 58 = .ok (.areturn, 1) := by decide +kernel
def site : List Cond := [.arrayClass .byte, Cmp5.tab] ++ staticW U16 115 Cmp5.yN
def tab : Cond := tabOf yN yB 6 (some (.array .byte)) site
def P (b : Addr) (A : Cell) (o len : Nat) (args : Array Value) (s : State) : Prop := args = #[.ref b, .int (Int32.ofNat o), .int (Int32.ofNat len)] ∧ Ch b A s ∧ o + len ≤ A.slots.size ∧ len ≤ 536870912 ∧ ∀ i, i < len → ¬ 255 < cv A (o + i)
def E (b : Addr) (A : Cell) (o len : Nat) (r : Option Value) (s u : State) : Prop := NewArr .byte "[B" len (fun j => .int (lo8 (cv A (o + j)))) r s u ∧ u.heap.size = s.heap.size + 1
/-- no char of the range above 255: a new byte[] of their low bytes -/
theorem law (l : Launch) (b : Addr) (A : Cell) (o len : Nat) : Law l yN 3 3 1 18 yB 6 (some (.array .byte)) site (P b A o len) (E b A o len) [] 1 len := by
  refine Law.of_walk (plainFor_of_name (by decide +kernel)) (by decide +kernel) (by decide +kernel) (by decide) (fun _ _ h => by rw [h.1]; rfl) (fun _ U U' hal hh h => ⟨h.1, h.2.1.mv hal hh, h.2.2⟩) (fun r U U' V V' h1 hal h2 h => ⟨NewArr.mv r U U' V V' h1 hal h2 h.1, by rw [h1, h2]; exact h.2⟩) ?_
  intro p e s m args below meth c s₁ X0 hexec hbytes hml hret hlk hnm hown hh0 W hP
  obtain ⟨rfl, hA, l1, l2, hp⟩ := hP
  have a31 := hA.1.2.2.2
  have c1 : Steps p.tables e below (s₁.setTop (entryFrame m #[.ref b, .int (Int32.ofNat o), .int (Int32.ofNat len)] 6)) (s₁.setTop (mkF m 0 #[.val (.ref b), .val (.int (Int32.ofNat o)), .val (.int (Int32.ofNat len)), .unset, .unset, .unset] [])) := entry rfl
  have c2 : Steps p.tables e below (s₁.setTop (entryFrame m #[.ref b, .int (Int32.ofNat o), .int (Int32.ofNat len)] 6)) (s₁.setTop (mkF m 1 #[.val (.ref b), .val (.int (Int32.ofNat o)), .val (.int (Int32.ofNat len)), .unset, .unset, .unset] [.int (Int32.ofNat len)])) := c1.trans (by
    refine XS.iloadN X0.here hexec rfl (hb hbytes d0) rfl ?_
    exact Steps.refl _)
  obtain ⟨T3, B3, X3, ba3, bs3, bv3, bh3, bf3, st3⟩ := X0.anew hexec (atype := .byte) (wk W (.arrayClass .byte)) rfl (by show len * 1 ≤ _; omega) (by omega) (g := (mkF m 1 #[.val (.ref b), .val (.int (Int32.ofNat o)), .val (.int (Int32.ofNat len)), .unset, .unset, .unset] [.int (Int32.ofNat len)])) rfl (hb hbytes d1) (rest := []) rfl (Nat.le_refl _) (by show 0 + len ≤ len; omega)
  rw [hh0] at ba3 st3
  have kp3 : XT.Kept s T3 := (XT.Kept.of_eq hh0).push bh3
  have hA3 := hA.keep X3.warmed.alike (kp3 _ _ hA.1.1)
  have hne : b ≠ s.heap.size := hA.1.ne
  have c4 : Steps p.tables e below (s₁.setTop (entryFrame m #[.ref b, .int (Int32.ofNat o), .int (Int32.ofNat len)] 6)) (T3.setTop (mkF m 3 #[.val (.ref b), .val (.int (Int32.ofNat o)), .val (.int (Int32.ofNat len)), .unset, .unset, .unset] [.ref s.heap.size])) := c2.trans (st3 _ (Steps.refl _))
  have c5 : Steps p.tables e below (s₁.setTop (entryFrame m #[.ref b, .int (Int32.ofNat o), .int (Int32.ofNat len)] 6)) (T3.setTop (mkF m 9 #[.val (.ref b), .val (.int (Int32.ofNat o)), .val (.int (Int32.ofNat len)), .val (.ref s.heap.size), .unset, .unset] [.int (Int32.ofNat len), .int 0, .ref s.heap.size, .int (Int32.ofNat o), .ref b])) := c4.trans (by
    refine XS.astoreN X3.here hexec rfl (hb hbytes d3) rfl rfl rfl ?_
    refine XS.aloadN X3.here hexec rfl (hb hbytes d4) rfl rfl ?_
    refine XS.iloadN X3.here hexec rfl (hb hbytes d5) rfl ?_
    refine XS.aloadN X3.here hexec rfl (hb hbytes d6) rfl rfl ?_
    refine iconstV X3.here hexec rfl 0 (hb hbytes d7) (by decide) ?_
    refine XS.iloadN X3.here hexec rfl (hb hbytes d8) rfl ?_
    exact Steps.refl _)
  obtain ⟨v6, T6, X6, E6, g6⟩ := X3.callS hexec (Cmp5.law l b A s.heap.size B3 o 0 len) hown (wks W (staticW U16 115 Cmp5.yN)) (wk W Cmp5.tab) (W := 0) (Nat.le_of_ble_eq_true rfl) (Nat.le_of_ble_eq_true rfl) (Nat.le_refl _) (by show 0 + len + 0 ≤ len; omega) (g := (mkF m 9 #[.val (.ref b), .val (.int (Int32.ofNat o)), .val (.int (Int32.ofNat len)), .val (.ref s.heap.size), .unset, .unset] [.int (Int32.ofNat len), .int (Int32.ofNat 0), .ref s.heap.size, .int (Int32.ofNat o), .ref b])) rfl (by rw [hml]; rfl) c5 (argsL := [.ref b, .int (Int32.ofNat o), .ref s.heap.size, .int (Int32.ofNat 0), .int (Int32.ofNat len)]) (rest := []) rfl rfl (by show 2 * 0 + 0 ≤ _; decide) (hb hbytes d9) (⟨rfl, hA3, ba3, hne, l1, by rw [bs3]; simp, hp⟩)
  obtain ⟨rfl, B6, p6, f6⟩ := E6
  have c7 : Steps p.tables e below (s₁.setTop (entryFrame m #[.ref b, .int (Int32.ofNat o), .int (Int32.ofNat len)] 6)) (T6.setTop (mkF m 12 #[.val (.ref b), .val (.int (Int32.ofNat o)), .val (.int (Int32.ofNat len)), .val (.ref s.heap.size), .unset, .unset] [.int (Int32.ofNat len)])) := g6
  have c8 : Steps p.tables e below (s₁.setTop (entryFrame m #[.ref b, .int (Int32.ofNat o), .int (Int32.ofNat len)] 6)) (T6.setTop (mkF m 58 #[.val (.ref b), .val (.int (Int32.ofNat o)), .val (.int (Int32.ofNat len)), .val (.ref s.heap.size), .val (.int (Int32.ofNat len)), .unset] [.ref s.heap.size])) := c7.trans (by
    refine XS.istore X6.here hexec rfl (hb hbytes d12) rfl rfl ?_
    refine XS.iload X6.here hexec rfl (hb hbytes d14) rfl ?_
    refine XS.iloadN X6.here hexec rfl (hb hbytes d16) rfl ?_
    refine XS.icmpYes X6.here hexec rfl (pc0 := 17) rfl (hb hbytes d17) rfl (ii_eq_t rfl) (by decide) rfl ?_
    refine XS.aloadN X6.here hexec rfl (hb hbytes d57) rfl rfl ?_
    exact Steps.refl _)
  have X8 := X6.wide (L' := []) (cells' := 1) (slots' := len) (fun x hx hlt => by
    simp only [List.nil_append, copyLocs, List.mem_map, List.mem_range] at hx
    obtain ⟨i, -, rfl⟩ := hx
    exact absurd hlt (Nat.lt_irrefl _)) (Nat.le_refl _) (by omega)
  exact ⟨T6, some (.ref s.heap.size), _, _, _, X8, rfl, rfl, rfl, (fun h => by cases h), ⟨⟨rfl, B6, ba3.like (X3.warmed.alike.symm.trans X6.warmed.alike) p6.1 f6.1 f6.2.1 f6.2.2.1, f6.2.1.trans bv3, by rw [X6.warmed.alike.findClass, f6.1]; exact bf3, by rw [f6.2.2.1, bs3]; simp, fun j hj => by rw [f6.2.2.2 j, if_pos (by omega)]; rfl, kp3.put p6 (Nat.le_refl _)⟩, by rw [p6.2.2, bh3, hh0]; simp⟩, fun fs hl => c8.trans (X8.areturnOut hexec rfl hret rfl (hb hbytes d58) hl)⟩
end Cmp3
namespace CodL
def yN : MethodName := ⟨"java/lang/StringUTF16", "coderFromArrayLen", "([BI)B"⟩
abbrev yB : ByteArray := jdk_52_method_15_code
theorem d0 : decode yB 0 = .ok (.iload_n 1, 1) := by decide +kernel
theorem d1 : decode yB 1 = .ok (.aload_n 0, 1) := by decide +kernel
theorem d2 : decode yB 2 = .ok (.arraylength, 1) := by decide +kernel
theorem d3 : decode yB 3 = .ok (.isub, 1) := by decide +kernel
theorem d4 : decode yB 4 = .ok (.bipush 31, 2) := by decide +kernel
theorem d6 : decode yB 6 = .ok (.iushr, 1) := by decide +kernel
theorem d7 : decode yB 7 = .ok (.i2b, 1) := by decide +kernel
theorem d8 : decode yB 8 = .ok (.ireturn, 1) := by decide +kernel
def site : List Cond := []
def tab : Cond := tabOf yN yB 2 (some .byte) site
def P (d : Addr) (B : Cell) (args : Array Value) (s : State) : Prop := args = #[.ref d, .int (Int32.ofNat B.slots.size)] ∧ Arr .byte d B s
def E (r : Option Value) (s u : State) : Prop := XT.PureE (some (.int 0)) r s u
/-- an array as long as the number of chars: LATIN1 -/
theorem law (l : Launch) (d : Addr) (B : Cell) : Law l yN 2 2 0 0 yB 2 (some .byte) site (P d B) E [] 0 0 := by
  refine Law.of_walk (plainFor_of_name (by decide +kernel)) (by decide +kernel) (by decide +kernel) (by decide) (fun _ _ h => by rw [h.1]; rfl) (fun _ U U' hal hh h => ⟨h.1, h.2.mv hal hh⟩) (fun r U U' V V' h1 hal h2 h => XT.PureE.mv r U U' V V' h1 hal h2 h) ?_
  intro p e s m args below meth c s₁ X0 hexec hbytes hml hret hlk hnm hown hh0 W hP
  obtain ⟨rfl, hB⟩ := hP
  have hB0 := hB.mv X0.warmed.alike hh0
  have c1 : Steps p.tables e below (s₁.setTop (entryFrame m #[.ref d, .int (Int32.ofNat B.slots.size)] 2)) (s₁.setTop (mkF m 0 #[.val (.ref d), .val (.int (Int32.ofNat B.slots.size))] [])) := entry rfl
  have c2 : Steps p.tables e below (s₁.setTop (entryFrame m #[.ref d, .int (Int32.ofNat B.slots.size)] 2)) (s₁.setTop (mkF m 2 #[.val (.ref d), .val (.int (Int32.ofNat B.slots.size))] [.ref d, .int (Int32.ofNat B.slots.size)])) := c1.trans (by
    refine XS.iloadN X0.here hexec rfl (hb hbytes d0) rfl ?_
    refine XS.aloadN X0.here hexec rfl (hb hbytes d1) rfl rfl ?_
    exact Steps.refl _)
  have c3 : Steps p.tables e below (s₁.setTop (entryFrame m #[.ref d, .int (Int32.ofNat B.slots.size)] 2)) (s₁.setTop (mkF m 8 #[.val (.ref d), .val (.int (Int32.ofNat B.slots.size))] [.int (lo8 (ushr (Int32.ofNat B.slots.size - Int32.ofNat B.slots.size) 31))])) := c2.trans (by
    refine X0.alen hexec hB0 rfl rfl (hb hbytes d2) ?_
    refine XS.isub X0.here hexec rfl (hb hbytes d3) rfl ?_
    refine bipushV X0.here hexec rfl 31 (hb hbytes d4) (by decide) ?_
    refine iushr X0.here hexec rfl (hb hbytes d6) rfl ?_
    refine i2b X0.here hexec rfl (hb hbytes d7) rfl ?_
    exact Steps.refl _)
  have e0 : lo8 (ushr (Int32.ofNat B.slots.size - Int32.ofNat B.slots.size) 31) = 0 := by rw [Int32.sub_self]; decide
  rw [e0] at c3
  exact ⟨s₁, some (.int 0), _, _, _, X0, rfl, rfl, rfl, (fun h => by cases h), ⟨rfl, hh0⟩, fun fs hl => c3.trans (X0.ireturnOut hexec hret rfl (Or.inr (Or.inr (Or.inl rfl))) (hb hbytes d8) hl)⟩
end CodL
/-- the String at a is Latin-1 over a new byte[] (the heap's one new cell): the low bytes of the len chars of A from o on; every cell but a is kept -/
def Got (a : Addr) (D : Cell) (fV fC : Field) (A : Cell) (o len : Nat) (r : Option Value) (s u : State) : Prop := r = none ∧ ∃ D' V : Cell, Blank "java/lang/String" a D' u ∧ Same D D' [fV.slot, fC.slot] ∧ D'.slots[fV.slot]? = some (.ref s.heap.size) ∧ D'.slots[fC.slot]? = some (.int 0) ∧ Arr .byte s.heap.size V u ∧ V.vm = .none ∧ u.vm.findClass "[B" = some V.cls ∧ V.slots.size = len ∧ (∀ j, j < len → V.slots[j]? = some (.int (lo8 (cv A (o + j))))) ∧ (∀ (y : Addr) (c : Cell), y ≠ a → s.heap[y]? = some c → u.heap[y]? = some c) ∧ u.heap.size = s.heap.size + 1
theorem Got.mv {a : Addr} {D A : Cell} {fV fC : Field} {o len : Nat} : ∀ r (U U' V V' : State), U'.heap = U.heap → V.vm.Alike V'.vm → V'.heap = V.heap → Got a D fV fC A o len r U V → Got a D fV fC A o len r U' V' :=
  fun r U U' V V' h1 hal h2 ⟨e0, D', X, a1, a2, a3, a4, a5, a6, a7, a8, a9, a10, a11⟩ => ⟨e0, D', X, a1.mv hal h2, a2, by rw [h1]; exact a3, a4, by rw [h1]; exact a5.mv hal h2, a6, by rw [hal.findClass]; exact a7, a8, a9, by rw [h1, h2]; exact a10, by rw [h1, h2]; exact a11⟩
namespace New4
def yN : MethodName := ⟨"java/lang/String", "<init>", "([CIILjava/lang/Void;)V"⟩
abbrev yB : ByteArray := jdk_42_method_149_code
theorem d0 : decode yB 0 = .ok (.aload_n 0, 1) := by decide +kernel
theorem d1 : decode yB 1 = .ok (.invokespecial 1, 3) := by decide +kernel
theorem d4 : decode yB 4 = .ok (.iload_n 3, 1) := by decide +kernel
theorem d5 : decode yB 5 = .ok (.ifCond (.ne) 22, 3) := by decide +kernel
theorem d27 : decode yB 27 = .ok (.getstatic 38, 3) := by decide +kernel
theorem d30 : decode yB 30 = .ok (.ifCond (.eq) 28, 3) := by decide +kernel
theorem d33 : decode yB 33 = .ok (.aload_n 1, 1) := by decide +kernel
theorem d34 : decode yB 34 = .ok (.iload_n 2, 1) := by decide +kernel
theorem d35 : decode yB 35 = .ok (.iload_n 3, 1) := by decide +kernel
theorem d36 : decode yB 36 = .ok (.invokestatic 177, 3) := by decide +kernel
theorem d39 : decode yB 39 = .ok (.astore 5, 2) := by decide +kernel
theorem d41 : decode yB 41 = .ok (.aload_n 0, 1) := by decide +kernel
theorem d42 : decode yB 42 = .ok (.aload 5, 2) := by decide +kernel
theorem d44 : decode yB 44 = .ok (.iload_n 3, 1) := by decide +kernel
theorem d45 : decode yB 45 = .ok (.invokestatic 47, 3) := by decide +kernel
theorem d48 : decode yB 48 = .ok (.putfield 15, 3) := by decide +kernel
theorem d51 : decode yB 51 = .ok (.aload_n 0, 1) := by decide +kernel
theorem d52 : decode yB 52 = .ok (.aload 5, 2) := by decide +kernel
theorem d54 : decode yB 54 = .ok (.putfield 9, 3) := by decide +kernel
theorem d57 : decode yB 57 = .ok (.return_, 1) := by decide +kernel
def site : List Cond := [.fieldLink "java/lang/String" 38 "java/lang/String" "COMPACT_STRINGS" "Z", Cmp3.tab, CodL.tab, .laysFinal "java/lang/String" "java/lang/String" "value" "[B", .fieldLink "java/lang/String" 9 "java/lang/String" "value" "[B", .laysFinal "java/lang/String" "java/lang/String" "coder" "B", .fieldLink "java/lang/String" 15 "java/lang/String" "coder" "B"] ++ objW "java/lang/String" 1 ++ staticW "java/lang/String" 177 Cmp3.yN ++ staticW "java/lang/String" 47 CodL.yN
def tab : Cond := tabOf yN yB 6 none site
def P (a : Addr) (D : Cell) (fV fC : Field) (b : Addr) (A : Cell) (z : Int32) (o len : Nat) (args : Array Value) (s : State) : Prop := args = #[.ref a, .ref b, .int (Int32.ofNat o), .int (Int32.ofNat len), .null] ∧ Blank "java/lang/String" a D s ∧ Found "java/lang/String" "value" "[B" fV s ∧ Found "java/lang/String" "coder" "B" fC s ∧ Ch b A s ∧ StaticIs s "java/lang/String" "COMPACT_STRINGS" "Z" (.int z) ∧ ¬ z = 0 ∧ 0 < len ∧ o + len ≤ A.slots.size ∧ len ≤ 536870912 ∧ ∀ i, i < len → ¬ 255 < cv A (o + i)
def E (a : Addr) (D : Cell) (fV fC : Field) (A : Cell) (o len : Nat) (r : Option Value) (s u : State) : Prop := Got a D fV fC A o len r s u
/-- len > 0, no char of the range above 255: a Latin-1 String of their low bytes -/
theorem law (l : Launch) (a : Addr) (D : Cell) (fV fC : Field) (b : Addr) (A : Cell) (z : Int32) (o len : Nat) : Law l yN 5 4 2 35 yB 6 none site (P a D fV fC b A z o len) (E a D fV fC A o len) [⟨a, fC.slot⟩, ⟨a, fV.slot⟩] 1 len := by
  refine Law.of_walk (plainFor_of_name (by decide +kernel)) (by decide +kernel) (by decide +kernel) (by decide) (fun _ _ h => by rw [h.1]; rfl) (fun _ U U' hal hh h => ⟨h.1, h.2.1.mv hal hh, h.2.2.1.al hal, h.2.2.2.1.al hal, h.2.2.2.2.1.mv hal hh, h.2.2.2.2.2.1.there hal hh, h.2.2.2.2.2.2⟩) (fun r U U' V V' h1 hal h2 h => Got.mv r U U' V V' h1 hal h2 h) ?_
  intro p e s m args below meth c s₁ X0 hexec hbytes hml hret hlk hnm hown hh0 W hP
  obtain ⟨rfl, hB, f1, f2, hA, s1, hz, l0, l1, l2, hp⟩ := hP
  have a31 := hA.1.2.2.2
  have c1 : Steps p.tables e below (s₁.setTop (entryFrame m #[.ref a, .ref b, .int (Int32.ofNat o), .int (Int32.ofNat len), .null] 6)) (s₁.setTop (mkF m 0 #[.val (.ref a), .val (.ref b), .val (.int (Int32.ofNat o)), .val (.int (Int32.ofNat len)), .val .null, .unset] [])) := entry rfl
  have c2 : Steps p.tables e below (s₁.setTop (entryFrame m #[.ref a, .ref b, .int (Int32.ofNat o), .int (Int32.ofNat len), .null] 6)) (s₁.setTop (mkF m 1 #[.val (.ref a), .val (.ref b), .val (.int (Int32.ofNat o)), .val (.int (Int32.ofNat len)), .val .null, .unset] [.ref a])) := c1.trans (by
    refine XS.aloadN X0.here hexec rfl (hb hbytes d0) rfl rfl ?_
    exact Steps.refl _)
  obtain ⟨T3, X3, q3, st3⟩ := X0.oinit hexec hown (wks W (objW "java/lang/String" 1)) (g := (mkF m 1 #[.val (.ref a), .val (.ref b), .val (.int (Int32.ofNat o)), .val (.int (Int32.ofNat len)), .val .null, .unset] [.ref a])) rfl (by rw [hml]; rfl) (rest := []) rfl (hb hbytes d1) (W := 0) (by show 2 * 0 + 0 ≤ _; decide) (Nat.le_of_ble_eq_true rfl) (Nat.le_of_ble_eq_true rfl)
  have hh3 := q3.trans hh0
  have c4 : Steps p.tables e below (s₁.setTop (entryFrame m #[.ref a, .ref b, .int (Int32.ofNat o), .int (Int32.ofNat len), .null] 6)) (T3.setTop (mkF m 27 #[.val (.ref a), .val (.ref b), .val (.int (Int32.ofNat o)), .val (.int (Int32.ofNat len)), .val .null, .unset] [])) := (c2.trans (st3 _ (Steps.refl _))).trans (by
    refine XS.iloadN X3.here hexec rfl (hb hbytes d4) rfl ?_
    refine XS.ifYes X3.here hexec rfl (pc0 := 5) rfl (hb hbytes d5) rfl (i0_ne_t (nz32 (by omega) l0)) (by decide) rfl ?_
    exact Steps.refl _)
  obtain ⟨T5, X5, q5, st5⟩ := X3.sget hexec hown (wk W (.fieldLink "java/lang/String" 38 "java/lang/String" "COMPACT_STRINGS" "Z")) s1 (fun _ _ h => by rw [hh3]; exact h) (g := (mkF m 27 #[.val (.ref a), .val (.ref b), .val (.int (Int32.ofNat o)), .val (.int (Int32.ofNat len)), .val .null, .unset] [])) rfl (hb hbytes d27)
  have hh5 := q5.trans hh3
  have c6 : Steps p.tables e below (s₁.setTop (entryFrame m #[.ref a, .ref b, .int (Int32.ofNat o), .int (Int32.ofNat len), .null] 6)) (T5.setTop (mkF m 30 #[.val (.ref a), .val (.ref b), .val (.int (Int32.ofNat o)), .val (.int (Int32.ofNat len)), .val .null, .unset] [.int z])) := c4.trans (st5 _ (Steps.refl _))
  have c7 : Steps p.tables e below (s₁.setTop (entryFrame m #[.ref a, .ref b, .int (Int32.ofNat o), .int (Int32.ofNat len), .null] 6)) (T5.setTop (mkF m 36 #[.val (.ref a), .val (.ref b), .val (.int (Int32.ofNat o)), .val (.int (Int32.ofNat len)), .val .null, .unset] [.int (Int32.ofNat len), .int (Int32.ofNat o), .ref b])) := c6.trans (by
    refine XS.ifNo X5.here hexec rfl (hb hbytes d30) rfl (i0_eq_f hz) ?_
    refine XS.aloadN X5.here hexec rfl (hb hbytes d33) rfl rfl ?_
    refine XS.iloadN X5.here hexec rfl (hb hbytes d34) rfl ?_
    refine XS.iloadN X5.here hexec rfl (hb hbytes d35) rfl ?_
    exact Steps.refl _)
  obtain ⟨v8, T8, X8, E8, g8⟩ := X5.callS hexec (Cmp3.law l b A o len) hown (wks W (staticW "java/lang/String" 177 Cmp3.yN)) (wk W Cmp3.tab) (W := 0) (Nat.le_of_ble_eq_true rfl) (Nat.le_of_ble_eq_true rfl) (Nat.le_refl _) (by show 0 + len ≤ len; omega) (g := (mkF m 36 #[.val (.ref a), .val (.ref b), .val (.int (Int32.ofNat o)), .val (.int (Int32.ofNat len)), .val .null, .unset] [.int (Int32.ofNat len), .int (Int32.ofNat o), .ref b])) rfl (by rw [hml]; rfl) c7 (argsL := [.ref b, .int (Int32.ofNat o), .int (Int32.ofNat len)]) (rest := []) rfl rfl (by show 2 * 0 + 0 ≤ _; decide) (hb hbytes d36) (⟨rfl, hA.mv X5.warmed.alike hh5, l1, l2, hp⟩)
  obtain ⟨e8, z8⟩ := E8
  obtain ⟨rfl, N, n1, n2, n3, n4, n5, n6⟩ := NewArr.mv _ T5 s _ _ hh5.symm (Vm.Alike.refl _) rfl e8
  rw [hh5] at z8
  have hB1 := hB.keep X8.warmed.alike (n6 _ _ hB.1)
  have hne : s.heap.size ≠ a := (Nat.ne_of_lt (Array.getElem?_eq_some_iff.mp hB.1).1).symm
  have c9 : Steps p.tables e below (s₁.setTop (entryFrame m #[.ref a, .ref b, .int (Int32.ofNat o), .int (Int32.ofNat len), .null] 6)) (T8.setTop (mkF m 39 #[.val (.ref a), .val (.ref b), .val (.int (Int32.ofNat o)), .val (.int (Int32.ofNat len)), .val .null, .unset] [.ref s.heap.size])) := g8
  have c10 : Steps p.tables e below (s₁.setTop (entryFrame m #[.ref a, .ref b, .int (Int32.ofNat o), .int (Int32.ofNat len), .null] 6)) (T8.setTop (mkF m 45 #[.val (.ref a), .val (.ref b), .val (.int (Int32.ofNat o)), .val (.int (Int32.ofNat len)), .val .null, .val (.ref s.heap.size)] [.int (Int32.ofNat N.slots.size), .ref s.heap.size, .ref a])) := by
    have hc : Steps p.tables e below (s₁.setTop (entryFrame m #[.ref a, .ref b, .int (Int32.ofNat o), .int (Int32.ofNat len), .null] 6)) (T8.setTop (mkF m 45 #[.val (.ref a), .val (.ref b), .val (.int (Int32.ofNat o)), .val (.int (Int32.ofNat len)), .val .null, .val (.ref s.heap.size)] [.int (Int32.ofNat len), .ref s.heap.size, .ref a])) := c9.trans (by
      refine XS.astore X8.here hexec rfl (hb hbytes d39) rfl rfl rfl ?_
      refine XS.aloadN X8.here hexec rfl (hb hbytes d41) rfl rfl ?_
      refine XS.aload X8.here hexec rfl (hb hbytes d42) rfl rfl ?_
      refine XS.iloadN X8.here hexec rfl (hb hbytes d44) rfl ?_
      exact Steps.refl _)
    rw [n4]; exact hc
  obtain ⟨v11, T11, X11, E11, g11⟩ := X8.callS hexec (CodL.law l s.heap.size N) hown (wks W (staticW "java/lang/String" 47 CodL.yN)) (wk W CodL.tab) (W := 1) (Nat.le_of_ble_eq_true rfl) (Nat.le_of_ble_eq_true rfl) (Nat.le_refl _) (by show 0 + len + 0 ≤ len; omega) (g := (mkF m 45 #[.val (.ref a), .val (.ref b), .val (.int (Int32.ofNat o)), .val (.int (Int32.ofNat len)), .val .null, .val (.ref s.heap.size)] [.int (Int32.ofNat N.slots.size), .ref s.heap.size, .ref a])) rfl (by rw [hml]; rfl) c10 (argsL := [.ref s.heap.size, .int (Int32.ofNat N.slots.size)]) (rest := [.ref a]) rfl rfl (by show 2 * 0 + (1 + 0) ≤ _; decide) (hb hbytes d45) (⟨rfl, n1⟩)
  obtain ⟨rfl, q11⟩ := E11
  have hB11 := hB1.mv (X8.warmed.alike.symm.trans X11.warmed.alike) q11
  have c12 : Steps p.tables e below (s₁.setTop (entryFrame m #[.ref a, .ref b, .int (Int32.ofNat o), .int (Int32.ofNat len), .null] 6)) (T11.setTop (mkF m 48 #[.val (.ref a), .val (.ref b), .val (.int (Int32.ofNat o)), .val (.int (Int32.ofNat len)), .val .null, .val (.ref s.heap.size)] [.int 0, .ref a])) := g11
  obtain ⟨T13, X13, p13, bl13, sl13, st13⟩ := X11.finit hexec hown (wk W (.fieldLink "java/lang/String" 15 "java/lang/String" "coder" "B")) (Or.inr ⟨_, (wk W (.laysFinal "java/lang/String" "java/lang/String" "coder" "B"))⟩) (Or.inl ⟨rfl, hnm⟩) f2 (Or.inl rfl) hB11 (t := .byte) (by decide +kernel) rfl (g := (mkF m 48 #[.val (.ref a), .val (.ref b), .val (.int (Int32.ofNat o)), .val (.int (Int32.ofNat len)), .val .null, .val (.ref s.heap.size)] [.int 0, .ref a])) rfl (rest := []) rfl (hb hbytes d48)
  have c14 : Steps p.tables e below (s₁.setTop (entryFrame m #[.ref a, .ref b, .int (Int32.ofNat o), .int (Int32.ofNat len), .null] 6)) (T13.setTop (mkF m 54 #[.val (.ref a), .val (.ref b), .val (.int (Int32.ofNat o)), .val (.int (Int32.ofNat len)), .val .null, .val (.ref s.heap.size)] [.ref s.heap.size, .ref a])) := (c12.trans (st13 _ (Steps.refl _))).trans (by
    refine XS.aloadN X13.here hexec rfl (hb hbytes d51) rfl rfl ?_
    refine XS.aload X13.here hexec rfl (hb hbytes d52) rfl rfl ?_
    exact Steps.refl _)
  obtain ⟨T15, X15, p15, bl15, sl15, st15⟩ := X13.finit hexec hown (wk W (.fieldLink "java/lang/String" 9 "java/lang/String" "value" "[B")) (Or.inr ⟨_, (wk W (.laysFinal "java/lang/String" "java/lang/String" "value" "[B"))⟩) (Or.inl ⟨rfl, hnm⟩) f1 (Or.inl rfl) bl13 (t := (.array .byte)) (by decide +kernel) rfl (g := (mkF m 54 #[.val (.ref a), .val (.ref b), .val (.int (Int32.ofNat o)), .val (.int (Int32.ofNat len)), .val .null, .val (.ref s.heap.size)] [.ref s.heap.size, .ref a])) rfl (rest := []) rfl (hb hbytes d54)
  have c16 : Steps p.tables e below (s₁.setTop (entryFrame m #[.ref a, .ref b, .int (Int32.ofNat o), .int (Int32.ofNat len), .null] 6)) (T15.setTop (mkF m 57 #[.val (.ref a), .val (.ref b), .val (.int (Int32.ofNat o)), .val (.int (Int32.ofNat len)), .val .null, .val (.ref s.heap.size)] [])) := c14.trans (st15 _ (Steps.refl _))
  have ap := apart (Or.inr ⟨_, (wk W (.laysFinal "java/lang/String" "java/lang/String" "value" "[B"))⟩) (Or.inr ⟨_, (wk W (.laysFinal "java/lang/String" "java/lang/String" "coder" "B"))⟩) f1 f2 (t₁ := .array .byte) (t₂ := .byte) (by decide +kernel) (by decide +kernel) (by decide)
  have al := X8.warmed.alike.symm.trans X15.warmed.alike
  have n7 : T11.heap[s.heap.size]? = some N := by rw [q11]; exact n1.1
  exact ⟨T15, none, _, _, _, X15, by simp, rfl, by omega, (fun _ => rfl), ⟨rfl, _, N, bl15, ((Same.refl D _).set _ (by simp)).set _ (by simp), sl15, (Cell.slots_setSlot_ne _ ap).trans sl13, n1.keep al (p15.other hne (p13.other hne n7)), n2, by rw [al.findClass]; exact n3, n4, n5, fun y c h1 h2 => p15.other h1 (p13.other h1 (by rw [q11]; exact n6 y c h2)), by rw [p15.2.2, p13.2.2, q11]; exact z8⟩, fun fs hl => c16.trans (X15.returnOut hexec hret (hb hbytes d57) hl)⟩
end New4
namespace New1
def yN : MethodName := ⟨"java/lang/String", "<init>", "([C)V"⟩
abbrev yB : ByteArray := jdk_42_method_3_code
theorem d0 : decode yB 0 = .ok (.aload_n 0, 1) := by decide +kernel
theorem d1 : decode yB 1 = .ok (.aload_n 1, 1) := by decide +kernel
theorem d2 : decode yB 2 = .ok (.iconst 0, 1) := by decide +kernel
theorem d3 : decode yB 3 = .ok (.aload_n 1, 1) := by decide +kernel
theorem d4 : decode yB 4 = .ok (.arraylength, 1) := by decide +kernel
theorem d5 : decode yB 5 = .ok (.aconst_null, 1) := by decide +kernel
theorem d6 : decode yB 6 = .ok (.invokespecial 27, 3) := by decide +kernel
theorem d9 : decode yB 9 = .ok (.return_, 1) := by decide +kernel
def site : List Cond := [New4.tab] ++ initW "java/lang/String" 27 New4.yN
def tab : Cond := tabOf yN yB 2 none site
def P (a : Addr) (D : Cell) (fV fC : Field) (b : Addr) (A : Cell) (z : Int32) (args : Array Value) (s : State) : Prop := args = #[.ref a, .ref b] ∧ Blank "java/lang/String" a D s ∧ Found "java/lang/String" "value" "[B" fV s ∧ Found "java/lang/String" "coder" "B" fC s ∧ Ch b A s ∧ StaticIs s "java/lang/String" "COMPACT_STRINGS" "Z" (.int z) ∧ ¬ z = 0 ∧ 0 < A.slots.size ∧ A.slots.size ≤ 536870912 ∧ ∀ i, i < A.slots.size → ¬ 255 < cv A i
def E (a : Addr) (D : Cell) (fV fC : Field) (A : Cell) (r : Option Value) (s u : State) : Prop := Got a D fV fC A 0 A.slots.size r s u
/-- new String(chars), not empty, no char above 255: a Latin-1 String of their low bytes -/
theorem law (l : Launch) (a : Addr) (D : Cell) (fV fC : Field) (b : Addr) (A : Cell) (z : Int32) : Law l yN 2 1 3 52 yB 2 none site (P a D fV fC b A z) (E a D fV fC A) [⟨a, fC.slot⟩, ⟨a, fV.slot⟩] 1 A.slots.size := by
  refine Law.of_walk (plainFor_of_name (by decide +kernel)) (by decide +kernel) (by decide +kernel) (by decide) (fun _ _ h => by rw [h.1]; rfl) (fun _ U U' hal hh h => ⟨h.1, h.2.1.mv hal hh, h.2.2.1.al hal, h.2.2.2.1.al hal, h.2.2.2.2.1.mv hal hh, h.2.2.2.2.2.1.there hal hh, h.2.2.2.2.2.2⟩) (fun r U U' V V' h1 hal h2 h => Got.mv r U U' V V' h1 hal h2 h) ?_
  intro p e s m args below meth c s₁ X0 hexec hbytes hml hret hlk hnm hown hh0 W hP
  obtain ⟨rfl, hB, f1, f2, hA, s1, hz, l0, l2, hp⟩ := hP
  have c1 : Steps p.tables e below (s₁.setTop (entryFrame m #[.ref a, .ref b] 2)) (s₁.setTop (mkF m 0 #[.val (.ref a), .val (.ref b)] [])) := entry rfl
  have c2 : Steps p.tables e below (s₁.setTop (entryFrame m #[.ref a, .ref b] 2)) (s₁.setTop (mkF m 6 #[.val (.ref a), .val (.ref b)] [.null, .int (Int32.ofNat A.slots.size), .int 0, .ref b, .ref a])) := c1.trans (by
    refine XS.aloadN X0.here hexec rfl (hb hbytes d0) rfl rfl ?_
    refine XS.aloadN X0.here hexec rfl (hb hbytes d1) rfl rfl ?_
    refine iconstV X0.here hexec rfl 0 (hb hbytes d2) (by decide) ?_
    refine XS.aloadN X0.here hexec rfl (hb hbytes d3) rfl rfl ?_
    refine X0.alen hexec (hA.1.mv X0.warmed.alike hh0) rfl rfl (hb hbytes d4) ?_
    refine XS.aconstNull X0.here hexec rfl (hb hbytes d5) ?_
    exact Steps.refl _)
  obtain ⟨v3, T3, X3, E3, g3⟩ := X0.callN hexec (New4.law l a D fV fC b A z 0 A.slots.size) rfl hown (wks W (initW "java/lang/String" 27 New4.yN)) (W New4.tab (by simp only [site, List.mem_cons, List.mem_append, true_or, or_true])) (W := 0) (Nat.le_of_ble_eq_true rfl) (Nat.le_of_ble_eq_true rfl) (Nat.le_refl _) (by show 0 + A.slots.size ≤ A.slots.size; omega) (g := (mkF m 6 #[.val (.ref a), .val (.ref b)] [.null, .int (Int32.ofNat A.slots.size), .int (Int32.ofNat 0), .ref b, .ref a])) rfl (by rw [hml]; rfl) c2 (argsL := [.ref b, .int (Int32.ofNat 0), .int (Int32.ofNat A.slots.size), .null]) (rest := []) rfl rfl (by show 2 * 0 + 0 ≤ _; decide) (hb hbytes d6) (⟨rfl, hB.mv X0.warmed.alike hh0, f1.al X0.warmed.alike, f2.al X0.warmed.alike, hA.mv X0.warmed.alike hh0, s1.there X0.warmed.alike hh0, hz, l0, by omega, l2, fun i hi => by rw [Nat.zero_add]; exact hp i hi⟩)
  have e0 := Got.mv _ s₁ s _ _ hh0.symm (Vm.Alike.refl _) rfl E3
  obtain rfl := e0.1
  have c4 : Steps p.tables e below (s₁.setTop (entryFrame m #[.ref a, .ref b] 2)) (T3.setTop (mkF m 9 #[.val (.ref a), .val (.ref b)] [])) := g3
  exact ⟨T3, none, _, _, _, X3, by simp, rfl, by omega, (fun _ => rfl), e0, fun fs hl => c4.trans (X3.returnOut hexec hret (hb hbytes d9) hl)⟩
theorem pays {l : Launch} {R : Room} {p : Program} {e : Env} {below : List Frame} {s : State} {sargs : Array Value} {len W : Nat} (a : Addr) (D : Cell) (fV fC : Field) (b : Addr) (A : Cell) (z : Int32) (htab : tab.before sargs s = true) (hfr : 4 ≤ R.frames) (hlo : W + 65 ≤ R.locals) :
    Back l R p e below s sargs yN len W (fun A₁ a₁ => A₁.cells + 1 ≤ R.cells ∧ A₁.slots + A.slots.size ≤ R.slots ∧ P a D fV fC b A z a₁ A₁.U) (fun A₁ _ v₁ B₁ => E a D fV fC A v₁ A₁.U B₁.U ∧ B₁.locs = A₁.locs ++ [⟨a, fC.slot⟩, ⟨a, fV.slot⟩] ∧ B₁.cells = A₁.cells + 1 ∧ B₁.slots = A₁.slots + A.slots.size) :=
  (law l a D fV fC b A z).pays htab hfr (by omega)
end New1
end StrChars
namespace StrChars.Road
open Jvm Sem ClassFile Op Lib Jvm.Stand Jvm.Free Jvm.Free.XT
open Jvm.Lib.Cold (StaticIs)
abbrev ST : String := "java/lang/String"
/-- every table word that New1's law asks, flat -/
abbrev words : List Jvm.Cond := [.code New1.yN New1.yB 2 none, .initialized ST, .methodLink ST 27 New4.yN, .instanceMethod New4.yN,
  .code New4.yN New4.yB 6 none, .fieldLink ST 38 ST "COMPACT_STRINGS" "Z", .laysFinal ST ST "value" "[B", .fieldLink ST 9 ST "value" "[B", .laysFinal ST ST "coder" "B", .fieldLink ST 15 ST "coder" "B",
  .methodLink ST 1 Lib.objectInit, .instanceMethod Lib.objectInit, .code Lib.objectInit ⟨#[0xb1]⟩ 1 none, .methodLink ST 177 Cmp3.yN, .static Cmp3.yN, .methodLink ST 47 CodL.yN, .static CodL.yN,
  .code Cmp3.yN Cmp3.yB 6 (some (.array .byte)), .initialized U16, .arrayClass .byte, .methodLink U16 115 Cmp5.yN, .static Cmp5.yN, .code Cmp5.yN Cmp5.yB 7 (some .int), .code CodL.yN CodL.yB 2 (some .byte)]
theorem tab_of {a : Array Value} {s : State} (h : ∀ w ∈ words, w.before a s = true) : New1.tab.before a s = true := by
  have h5 : Cmp5.tab.before a s = true := unparts (wk h (.code Cmp5.yN Cmp5.yB 7 (some .int))) (wks h (.initialized Cmp5.yN.cls :: Cmp5.site))
  have hc : CodL.tab.before a s = true := unparts (wk h (.code CodL.yN CodL.yB 2 (some .byte))) (wks h (.initialized CodL.yN.cls :: CodL.site))
  have q5 : ∀ w ∈ Cmp5.tab :: words, w.before a s = true := fun w hw => (List.mem_cons.mp hw).elim (fun e => e ▸ h5) (h w)
  have h3 : Cmp3.tab.before a s = true := unparts (wk q5 (.code Cmp3.yN Cmp3.yB 6 (some (.array .byte)))) (wks q5 (.initialized Cmp3.yN.cls :: Cmp3.site))
  have q3 : ∀ w ∈ Cmp3.tab :: CodL.tab :: words, w.before a s = true := fun w hw => (List.mem_cons.mp hw).elim (fun e => e ▸ h3) fun hw => (List.mem_cons.mp hw).elim (fun e => e ▸ hc) (h w)
  have h4 : New4.tab.before a s = true := unparts (wk q3 (.code New4.yN New4.yB 6 none)) (wks q3 (.initialized New4.yN.cls :: New4.site))
  have q4 : ∀ w ∈ New4.tab :: words, w.before a s = true := fun w hw => (List.mem_cons.mp hw).elim (fun e => e ▸ h4) (h w)
  exact unparts (wk q4 (.code New1.yN New1.yB 2 none)) (wks q4 (.initialized New1.yN.cls :: New1.site))
/-- the words ride from the start Z to the walk's own state -/
theorem moved {Z s : State} {a0 args : Array Value} (hZ : Z.Warmed39 s.vm) (hw : ∀ d ∈ words, d.before a0 Z = true) : ∀ d ∈ words, d.before args s = true := fun d hd => by
  have q := hw d hd
  have t : ∀ d ∈ words, d = .arrayClass .byte ∨ (d.onTables && d.keepsFace) = true := by decide +kernel
  rcases t d hd with rfl | t
  · exact RoadKit.mvA hZ q
  · exact RoadKit.mv hZ q t
/-- WHAT COMES BACK, over the tables of the start Z: h the heap at the call, h' behind it -/
def Q (Z : State) (x : Addr) (A : Cell) (h : Heap) (v : Option Value) (h' : Heap) (L : List Loc) : Prop := v = none ∧ (∀ y ∈ L, y.base = x) ∧ RoadKit.Keep h h' [x] ∧ h'.size = h.size + 1 ∧ RoadKit.Exa Z h' x ST ∧ RoadKit.Fld Z h' x ST "value" "[B" (.ref h.size) ∧ RoadKit.Fld Z h' x ST "coder" "B" (.int 0) ∧
  (∃ V : Cell, RoadKit.Arr Z h' h.size V .byte ∧ V.vm = .none ∧ Z.vm.findClass "[B" = some V.cls ∧ V.slots.size = A.slots.size ∧ ∀ j, j < A.slots.size → V.slots[j]? = some (.int (lo8 (cv A j)))) ∧
  ∀ (O n d : String) (w : Value), RoadKit.Fld Z h x O n d w → RoadKit.slotOf Z O n d ≠ RoadKit.slotOf Z ST "value" "[B" → RoadKit.slotOf Z O n d ≠ RoadKit.slotOf Z ST "coder" "B" → RoadKit.Fld Z h' x O n d w
/-- **new String(chars) AT A CALL, IN THE ROAD'S FORM**: for specialBack behind newO: x the fresh String, b the char[] with the cell A -/
theorem back {p : Program} {l : Launch} {e : Env} {R : Room} {s : State} {args : Array Value} {below : List Frame} {len W : Nat} {Z : State} {a0 : Array Value} {h : Heap} (hZ : Z.Warmed39 s.vm) (hw : ∀ d ∈ words, d.before a0 Z = true) {kI : Nat} (wi : (Jvm.Cond.instantiable ST kI).before a0 Z = true)
    {x b : Addr} {A : Cell} {z : Int32} {v0 c0 : Value} (E : RoadKit.Exa Z h x ST) (V : RoadKit.Fld Z h x ST "value" "[B" v0) (C : RoadKit.Fld Z h x ST "coder" "B" c0) (K : RoadKit.Arr Z h b A .char) (hty : Typed .char A) (S : RoadKit.Sta Z h ST "COMPACT_STRINGS" "Z" (.int z)) (hz : ¬ z = 0)
    (l0 : 0 < A.slots.size) (l2 : A.slots.size ≤ 536870912) (hp : ∀ i, i < A.slots.size → ¬ 255 < cv A i) (hfr : 4 ≤ R.frames) (hlo : W + 65 ≤ R.locals) :
    Back l R p e below s args New1.yN len W (fun P a => a = #[.ref x, .ref b] ∧ P.U.heap = h ∧ P.cells + 1 ≤ R.cells ∧ P.slots + A.slots.size ≤ R.slots)
      (fun P _ v B => ∃ L, Q Z x A h v B.U.heap L ∧ B.locs = P.locs ++ L ∧ B.cells = P.cells + 1 ∧ B.slots = P.slots + A.slots.size) := by
  intro m meth c P g ig mk a X hg hsize hdg hW hn hp'
  obtain ⟨rfl, rfl, r1, r2⟩ := hp'
  have al : Z.vm.Alike P.U.vm := hZ.alike.trans X.warmed.alike
  obtain ⟨D, cfV, kV, iV, fV, hD, gV, stV, knV, obV, asV, slV⟩ := id V
  obtain ⟨D', cfC, kC, iC, fC, hD', gC, stC, -, -, asC, slC⟩ := id C
  cases hD.symm.trans hD'
  obtain ⟨D2, kD, e1, e2, e3, e4, e5⟩ := id E
  cases hD.symm.trans e1
  obtain ⟨c2, k2, i1, i2, i3, -⟩ := Cond.instantiable_spec wi
  cases e2.symm.trans i1
  cases e3.symm.trans i2
  obtain ⟨kU, u1, u2⟩ := al.2.2 _ _ e3
  have hB : Blank ST x D P.U := ⟨hD, ⟨knV, fun q hq => by rw [hq] at obV; cases obV⟩, by rw [al.findClass]; exact e2, kU, u1, by rw [u2]; exact i3, by rw [u2]; exact e5 i3⟩
  have F1 : Found ST "value" "[B" fV P.U := ⟨SBG.found_only al ⟨cfV, kV, iV, gV⟩, stV⟩
  have F2 : Found ST "coder" "B" fC P.U := ⟨SBG.found_only al ⟨cfC, kC, iC, gC⟩, stC⟩
  have hA : Ch b A P.U := ⟨⟨K.1, State.isArrayOf_alike al K.2.1, K.2.2, by omega⟩, hty⟩
  have hS : StaticIs P.U ST "COMPACT_STRINGS" "Z" (.int z) := by
    obtain ⟨cfS, iS, kS, fS, st, cS, t1, t2, t3, t4, t5, t6, t7⟩ := S
    exact StaticIs.there (s := { Z with heap := P.U.heap }) ⟨cfS, iS, kS, fS, st, cS, t1, t2, t3, t4, t5, (fun q => by rw [q] at t6; cases t6), t7⟩ al rfl
  obtain ⟨v, B, X', ⟨⟨hv, E', V', q1, q2, q3, q4, q5, q6, q7, q8, q9, q10, q11⟩, hl, hc, hs⟩, st⟩ := New1.pays x D fV fC b A z (tab_of (moved hZ hw)) hfr hlo m meth c P g ig mk _ X hg hsize hdg hW hn ⟨r1, r2, rfl, hB, F1, F2, hA, hS, hz, l0, l2, hp⟩
  have al' : Z.vm.Alike B.U.vm := hZ.alike.trans X'.warmed.alike
  have hsz : E'.slots.size = D.slots.size := by
    obtain ⟨-, -, -, kB, w1, w2, w3⟩ := q1
    obtain ⟨kB', y1, y2⟩ := al'.2.2 _ _ e3
    rw [q2.2.1] at w1
    cases w1.symm.trans y1
    rw [w3, e5 i3, y2]
  refine ⟨v, B, X', ⟨_, ⟨hv, ?_, ⟨by omega, fun y cy hy hn' => q10 y cy (by simpa using hn') hy, fun y cy hy => ?_⟩, q11, ⟨E', _, q1.1, by rw [q2.2.1]; exact e2, by rw [q2.2.1]; exact e3, by rw [q2.1]; exact obV, fun _ => by rw [hsz]; exact e5 i3⟩,
    ⟨E', cfV, kV, iV, fV, q1.1, gV, stV, by rw [q2.1]; exact knV, by rw [q2.1]; exact obV, by rw [q2.2.1]; exact asV, q3⟩, ⟨E', cfC, kC, iC, fC, q1.1, gC, stC, by rw [q2.1]; exact knV, by rw [q2.1]; exact obV, by rw [q2.2.1]; exact asC, q4⟩,
    ⟨V', ⟨q5.1, State.isArrayOf_alike al'.symm q5.2.1, q5.2.2.1⟩, q6, by rw [← al'.findClass]; exact q7, q8, fun j hj => by have := q9 j hj; rwa [Nat.zero_add] at this⟩, fun O n d w F n1 n2 => ?_⟩, hl, hc, hs⟩, st⟩
  · intro y hy
    simp only [List.mem_cons, List.not_mem_nil, or_false] at hy
    rcases hy with rfl | rfl <;> rfl
  · by_cases q : y = x
    · subst q
      cases hD.symm.trans hy
      exact ⟨E', q1.1, q2.2.1, q2.1, hsz⟩
    · exact ⟨cy, q10 y cy q hy, rfl, rfl, rfl⟩
  · obtain ⟨D3, cf, k, i, f, g1, g2, g3, g4, g5, g6, g7⟩ := F
    cases hD.symm.trans g1
    simp only [RoadKit.slotOf, g2, gV, gC, Option.map_some, Option.getD_some] at n1 n2
    exact ⟨E', cf, k, i, f, q1.1, g2, g3, by rw [q2.1]; exact g4, by rw [q2.1]; exact g5, by rw [q2.2.1]; exact g6, by rw [q2.2.2 f.slot (by simp [n1, n2])]; exact g7⟩
end StrChars.Road
namespace StrChars.Road
open Jvm Sem ClassFile Op Lib Jvm.Stand Jvm.Free Jvm.Free.XT
/-- WHAT COMES BACK, the byte[] as a list of values -/
def QA (Z : State) (x : Addr) (zn : Int32) (cs : List Int32) (h : Heap) (v : Option Value) (h' : Heap) (L : List Loc) : Prop := v = none ∧ (∀ y ∈ L, y.base = x) ∧ RoadKit.Keep h h' [x] ∧ h'.size = h.size + 1 ∧ RoadKit.Exa Z h' x ST ∧ RoadKit.Fld Z h' x ST "value" "[B" (.ref h.size) ∧ RoadKit.Fld Z h' x ST "coder" "B" (.int 0) ∧
  (∃ kb, Z.vm.findClass "[B" = some kb ∧ RoadKit.Arv Z h' h.size kb .byte zn (cs.map fun c => .int (lo8 c)) (.int 0)) ∧
  ∀ (O n d : String) (w : Value), RoadKit.Fld Z h x O n d w → RoadKit.slotOf Z O n d ≠ RoadKit.slotOf Z ST "value" "[B" → RoadKit.slotOf Z O n d ≠ RoadKit.slotOf Z ST "coder" "B" → RoadKit.Fld Z h' x O n d w
/-- **new String(chars) AT A CALL, THE ARRAYS AS LISTS**: the char[] at b holds cs, not empty, no char above 255 -/
theorem backArv {p : Program} {l : Launch} {e : Env} {R : Room} {s : State} {args : Array Value} {below : List Frame} {len W : Nat} {Z : State} {a0 : Array Value} {h : Heap} (hZ : Z.Warmed39 s.vm) (hw : ∀ d ∈ words, d.before a0 Z = true) {kI : Nat} (wi : (Jvm.Cond.instantiable ST kI).before a0 Z = true)
    {x b : Addr} {k : ClassId} {zn z : Int32} {cs : List Int32} {dv v0 c0 : Value} (E : RoadKit.Exa Z h x ST) (V : RoadKit.Fld Z h x ST "value" "[B" v0) (C : RoadKit.Fld Z h x ST "coder" "B" c0) (K : RoadKit.Arv Z h b k .char zn (cs.map Value.int) dv) (S : RoadKit.Sta Z h ST "COMPACT_STRINGS" "Z" (.int z)) (hz : ¬ z = 0)
    (hlen : zn.toNatClampNeg = cs.length) (h0 : 0 < cs.length) (hbig : cs.length ≤ 536870912) (hall : ∀ c ∈ cs, ¬ 255 < c) (hfr : 4 ≤ R.frames) (hlo : W + 65 ≤ R.locals) :
    Back l R p e below s args New1.yN len W (fun P a => a = #[.ref x, .ref b] ∧ P.U.heap = h ∧ P.cells + 1 ≤ R.cells ∧ P.slots + cs.length ≤ R.slots)
      (fun P _ v B => ∃ L, QA Z x zn cs h v B.U.heap L ∧ B.locs = P.locs ++ L ∧ B.cells = P.cells + 1 ∧ B.slots = P.slots + cs.length) := by
  obtain ⟨A, K1, K2, K3, K4, K5, K6⟩ := K
  have e : A.slots.size = cs.length := K3.trans hlen
  have hat : ∀ (i : Nat) (hi : i < cs.length), A.slots[i]? = some (.int cs[i]) := fun i hi => by rw [K5 i (by omega)]; simp [List.getD_eq_getElem?_getD, hi]
  have hcv : ∀ (i : Nat) (hi : i < cs.length), cv A i = cs[i] := fun i hi => by unfold cv; rw [hat i hi]
  have hty : Typed .char A := fun i v hv => by
    have hi : i < A.slots.size := (Array.getElem?_eq_some_iff.mp hv).1
    have q := K5 i hi
    rw [hv] at q
    rw [Option.some.inj q]
    exact K6 i hi
  refine Back.mono (back hZ hw wi E V C K1 hty S hz (by omega) (by omega) (fun i hi => by rw [hcv i (by omega)]; exact hall _ (List.getElem_mem _)) hfr hlo) (fun P a hp => ⟨hp.1, hp.2.1, hp.2.2.1, by rw [e]; exact hp.2.2.2⟩) (fun P a v B hp hq => ?_)
  obtain ⟨L, ⟨q1, q2, q3, q4, q5, q6, q7, ⟨V', v1, v2, v3, v4, v5⟩, q9⟩, hl, hc, hs⟩ := hq
  refine ⟨L, ⟨q1, q2, q3, q4, q5, q6, q7, ⟨V'.cls, v3, V', v1, rfl, by rw [v4, e, hlen], K4, fun i hi => ?_, fun i hi => ?_⟩, q9⟩, hl, hc, by rw [hs, e]⟩
  · have hi' : i < cs.length := by omega
    rw [v5 i (by omega), hcv i hi']; simp [List.getD_eq_getElem?_getD, hi']
  · have hi' : i < cs.length := by omega
    simp only [List.getD_eq_getElem?_getD, List.getElem?_map, List.getElem?_eq_getElem hi', Option.map_some, Option.getD_some]
    exact fits_lo8 _
end StrChars.Road
namespace StrChars.Road
open Jvm Sem ClassFile Op Lib Jvm.Stand Jvm.Free Jvm.Free.XT
/-- WHAT COMES BACK, in the writer's own shape -/
def QV (Z : State) (x : Addr) (N : Int32) (bs : List Int32) (h : Heap) (n0 : Nat) (v : Option Value) (h' : Heap) (L : List Loc) : Prop := v = none ∧ RoadKit.Fr n0 L ∧ RoadKit.Keep h h' [x] ∧ RoadKit.Exa Z h' x ST ∧ RoadKit.Fld Z h' x ST "coder" "B" (.int 0) ∧
  ∃ (t : Addr) (kb : ClassId), n0 ≤ t ∧ h.size ≤ t ∧ ¬ t = x ∧ RoadKit.Fld Z h' x ST "value" "[B" (.ref t) ∧ RoadKit.Arv Z h' t kb .byte N (bs.map Value.int) (.int 0)
/-- **new String(chars) AT A CALL, FOR THE WRITER**: a char[] of n known ints, each 0 to 255 -/
theorem backV {p : Program} {l : Launch} {e : Env} {R : Room} {s : State} {args : Array Value} {below : List Frame} {len W : Nat} {Z : State} {a0 : Array Value} {h : Heap} (hZ : Z.Warmed39 s.vm) (hw : ∀ d ∈ words, d.before a0 Z = true) {kI : Nat} (wi : (Jvm.Cond.instantiable ST kI).before a0 Z = true)
    {x b : Addr} {kC : ClassId} {cs bs : List Int32} {d v0 c0 : Value} {z N : Int32} {n n0 : Nat} (hx0 : n0 ≤ x) (hh0 : n0 ≤ h.size) (E : RoadKit.Exa Z h x ST) (V : RoadKit.Fld Z h x ST "value" "[B" v0) (C : RoadKit.Fld Z h x ST "coder" "B" c0) (K : RoadKit.Arv Z h b kC .char N (cs.map Value.int) d) (S : RoadKit.Sta Z h ST "COMPACT_STRINGS" "Z" (.int z)) (hz : ¬ z = 0)
    (hn : cs.length = n) (hN : N = Int32.ofNat n) (l0 : 0 < n) (l2 : n ≤ 4000) (hp : ∀ c ∈ cs, ¬ c < 0 ∧ ¬ (255 : Int32) < c) (hb : bs = cs.map (fun c => c.toInt8.toInt32)) (hfr : 4 ≤ R.frames) (hlo : W + 65 ≤ R.locals) :
    Back l R p e below s args (⟨"java/lang/String", "<init>", "([C)V"⟩ : MethodName) len W (fun P a => a = #[.ref x, .ref b] ∧ P.U.heap = h ∧ P.cells + 1 ≤ R.cells ∧ P.slots + n ≤ R.slots)
      (fun P _ v B => ∃ L, QV Z x N bs h n0 v B.U.heap L ∧ B.locs = P.locs ++ L ∧ B.cells = P.cells + 1 ∧ B.slots = P.slots + n) := by
  subst hn hN hb
  refine Back.mono (backArv hZ hw wi E V C K S hz (n32 (by omega)) l0 (by omega) (fun c hc => (hp c hc).2) hfr hlo) (fun P a hp => hp) (fun P a v B hp hq => ?_)
  obtain ⟨L, ⟨q1, q2, q3, q4, q5, q6, q7, ⟨kb, v1, v2⟩, q9⟩, hl, hc, hs⟩ := hq
  exact ⟨L, ⟨q1, fun y hy => by rw [q2 y hy]; exact hx0, q3, q5, q7, h.size, kb, hh0, Nat.le_refl _, Nat.ne_of_gt E.lt, q6, by rw [List.map_map]; exact v2⟩, hl, hc, hs⟩
end StrChars.Road
end Jvm.Pilot.@@N@@
namespace Jvm.Pilot.@@N@@
open Jvm Jvm.ClassFile Sem Op Lib Jvm.Free Jvm.Stand Jvm.LawKit Jvm.RoadKit Bundle Jvm.Pilot.@@N@@.Jvm.D
section OwnArrays
variable {Z : State} {h h' : Heap} {a b : Addr} {ty : FieldType} {n sl : Nat} {f : Nat → Value} {v : Value} {ws : List Addr}
/-- an array of n places, by what each holds -/
def AF (Z : State) (h : Heap) (a : Addr) (ty : FieldType) (n : Nat) (f : Nat → Value) : Prop := ∃ c : Cell, Arr Z h a c ty ∧ c.slots.size = n ∧ ∀ j, j < n → c.slots[j]? = some (f j)
theorem AF.new {k : ClassId} {z : Int32} (A : Arr Z h a (newA k ty z) ty) (q : ¬ z < 0) : AF Z h a ty z.toNatClampNeg (fun _ => defaultValue ty) := by
  obtain ⟨c, A', -, S, -, H, -⟩ := Arv.new A q
  exact ⟨c, A', S, fun j hj => H j (by rw [S]; exact hj)⟩
theorem AF.of_arv {k : ClassId} {z : Int32} {vs : List Value} {d : Value} (V : Arv Z h a k ty z vs d) : AF Z h a ty z.toNatClampNeg (fun j => vs.getD j d) := by
  obtain ⟨c, A, -, S, -, H, -⟩ := V
  exact ⟨c, A, S, fun j hj => H j (by rw [S]; exact hj)⟩
theorem AF.lt (F : AF Z h a ty n f) : a < h.size := by obtain ⟨c, A, -⟩ := F; exact A.lt
theorem AF.ext (F : AF Z h a ty n f) (E : Ext h h') : AF Z h' a ty n f := by obtain ⟨c, A, r⟩ := F; exact ⟨c, A.ext E, r⟩
theorem AF.other (F : AF Z h b ty n f) (W : Wr h h' a sl v) (q : b ≠ a) : AF Z h' b ty n f := by obtain ⟨c, A, r⟩ := F; exact ⟨c, A.other W q, r⟩
theorem AF.keep (F : AF Z h a ty n f) (K : Keep h h' ws) (q : a ∉ ws) : AF Z h' a ty n f := by obtain ⟨c, A, r⟩ := F; exact ⟨c, ⟨K.2.1 a c A.1 q, A.2⟩, r⟩
theorem AF.congr {g : Nat → Value} (F : AF Z h a ty n f) (q : ∀ j, j < n → f j = g j) : AF Z h a ty n g := by
  obtain ⟨c, A, S, H⟩ := F
  exact ⟨c, A, S, fun j hj => by rw [← q j hj]; exact H j hj⟩
theorem AF.same {c : Cell} (A : Arr Z h a c ty) (S : c.slots.size = n) (H : ∀ j, j < n → c.slots[j]? = some (f j)) (W : Wr h h' a sl v) : AF Z h' a ty n (fun i => if i = sl then v else f i) := by
  refine ⟨_, A.same W, by rw [sz_set]; exact S, fun j hj => ?_⟩
  by_cases q : j = sl
  · subst q
    simp only [if_true]
    simp [Cell.setSlot, S, hj]
  · simp only [q, if_false]
    simp only [Cell.setSlot]
    rw [Array.getElem?_setIfInBounds_ne (fun z => q z.symm)]; exact H j hj
theorem AF_in {c : Cell} {j : Int32} (S : c.slots.size = n) (h1 : 0 ≤ j.toInt) (h2 : j.toInt < n) : ¬ (j < 0 ∨ c.slots.size ≤ j.toNatClampNeg) := by
  rw [S, Int32.lt_iff_toInt_lt, show (0 : Int32).toInt = 0 from rfl]
  simp only [Int32.toNatClampNeg]; omega
theorem AF_at {c : Cell} {j : Int32} {w : Value} (H : ∀ j, j < n → c.slots[j]? = some (f j)) (h1 : 0 ≤ j.toInt) (h2 : j.toInt < n) (e : f j.toNatClampNeg = w) : c.slots[j.toNatClampNeg]? = some w := by
  rw [← e]; exact H _ (by simp only [Int32.toNatClampNeg]; omega)
end OwnArrays
section OwnStrings
variable {Z : State} {h h' : Heap} {a b : Addr} {ty : FieldType} {n : Nat} {f : Nat → Value}
theorem own_ext (K : Keep h h' []) : Ext h h' := ⟨K.1, fun x c q => K.2.1 x c q nin0⟩
theorem AF.arv {N : Int32} {vs : List Value} {d : Value} (V : AF Z h a ty n f) (hN : N.toNatClampNeg = n) (hn : ¬ N < 0) (hv : ∀ j, j < n → f j = vs.getD j d) (hf : ∀ j, j < n → fits ty (f j) = true) : ∃ k, Arv Z h a k ty N vs d := by
  obtain ⟨c, A, S, H⟩ := V
  exact ⟨c.cls, c, A, rfl, S.trans hN.symm, hn, fun j hj => by rw [← hv j (S ▸ hj)]; exact H j (S ▸ hj), fun j hj => by rw [← hv j (S ▸ hj)]; exact hf j (S ▸ hj)⟩
end OwnStrings
theorem own_lo {j : Int32} (h1 : ¬ j < 0) : 0 ≤ j.toInt := by
  rw [Int32.lt_iff_toInt_lt, show (0 : Int32).toInt = 0 from rfl] at h1; omega
theorem own_up {j z : Int32} (h1 : ¬ j < 0) (h2 : j < z) : j.toInt < (z.toNatClampNeg : Int) := by
  have := own_lo h1
  rw [Int32.lt_iff_toInt_lt] at h2
  simp only [Int32.toNatClampNeg]; omega
theorem d15_0 : decode jdk_41_method_11_code 0 = .ok (.iload_n 0, 1) := by decide +kernel
theorem d15_1 : decode jdk_41_method_11_code 1 = .ok (.ifCond .lt 8, 3) := by decide +kernel
theorem d15_4 : decode jdk_41_method_11_code 4 = .ok (.iload_n 0, 1) := by decide +kernel
theorem d15_5 : decode jdk_41_method_11_code 5 = .ok (.iload_n 1, 1) := by decide +kernel
theorem d15_6 : decode jdk_41_method_11_code 6 = .ok (.if_icmp .lt 10, 3) := by decide +kernel
theorem d15_16 : decode jdk_41_method_11_code 16 = .ok (.iload_n 0, 1) := by decide +kernel
theorem d15_17 : decode jdk_41_method_11_code 17 = .ok (.ireturn, 1) := by decide +kernel
theorem pn_15 : plainName "jdk/internal/util/Preconditions" = true := by first | (simp [plainName, overriddenIn]; done) | decide +kernel
theorem ef_15 (m : MethodId) (x0 : Int32) (x1 : Int32) (x2 : Value) (hv2 : x2.isRef = true) : entryFrame m #[(.int x0), (.int x1), x2] 3 = mkF m 0 #[.val (.int x0), .val (.int x1), .val x2] [] := by
  cases x2 <;> first | rfl | (simp [Value.isRef] at hv2)
def F15 (p1 : Int32) (p2 : Int32) : Int32 :=
  p1
def Q15 (Z : State) (p1 : Int32) (p2 : Int32) (w3 : Value) (h0 : Heap) (n0 : Nat) (v : Option Value) (h : Heap) (L : List Loc) : Prop := v = some (.int (F15 p1 p2)) ∧ L = [] ∧ h = h0
set_option maxRecDepth 65536 in
set_option maxHeartbeats 40000000 in
theorem rm15 (l : Launch) (Z : State) (a0 : Array Value) (hw : ∀ d ∈ tables_1, d.before a0 Z = true) (ws : List Jvm.Cond) (p1 : Int32) (p2 : Int32) (w3 : Value) (h0 : Heap) (n0 : Nat) (Z0 : n0 ≤ h0.size) (h1 : ¬ p1 < 0) (h2 : p1 < p2) (hv3 : w3.isRef = true) :
    MetFree l (⟨"jdk/internal/util/Preconditions", "checkIndex", "(IILjava/util/function/BiFunction;)I"⟩ : MethodName) (head1 (Jvm.Cond.code (⟨"jdk/internal/util/Preconditions", "checkIndex", "(IILjava/util/function/BiFunction;)I"⟩ : MethodName) jdk_41_method_11_code 3 (some .int) :: ws) ({ frames := 0, cells := 0, slots := 0, locals := 0 } : Room)) (fun a U => a = #[(.int p1), (.int p2), w3] ∧ Z.Warmed39 U.vm ∧ U.heap = h0) (fun _ _ _ _ _ => True) (fun _ U o U' => ∃ v L, o = .returned v ∧ Q15 Z p1 p2 w3 h0 n0 v U'.heap L ∧ FrameEnd U o U' L ({ frames := 0, cells := 0, slots := 0, locals := 0 } : Room).cells ({ frames := 0, cells := 0, slots := 0, locals := 0 } : Room).slots) := by
  refine MetFree.of_bodySF (plainFor_of_name pn_15) hisR ?_
  intro p e s m args below meth c s₁ Bd hml0 hP hK
  obtain ⟨rfl, hZ, hh⟩ := hP
  have hx := Bd.exec
  have hby := Bd.bytes
  have hml : c.maxLocals = 3 := hml0
  have hown : s.vm.findClass "jdk/internal/util/Preconditions" = some m.cls := findClass_of_methodNamed Bd.named
  have hnm := (name_of_methodNamed Bd.named Bd.method).1
  have X0 : Stand p l e ({ frames := 0, cells := 0, slots := 0, locals := 0 } : Room) s m #[(.int p1), (.int p2), w3] below meth c s₁ [] 0 0 := Stand.of_body Bd
  have e0 : s₁.heap = h0 := by rw [← hh, Bd.state]; rfl
  have N0 := Fr.nil n0
  have pre0 : ∀ t, Steps p.tables e below (s₁.setTop (mkF m 0 #[.val (.int p1), .val (.int p2), .val w3] [])) t → Steps p.tables e below (s₁.setTop (entryFrame m #[(.int p1), (.int p2), w3] 3)) t := fun t k => castTop (ef_15 m p1 p2 w3 hv3) k
  have R1 : ∀ t, Steps p.tables e below (s₁.setTop (mkF m 17 #[.val (.int p1), .val (.int p2), .val w3] [(.int p1)])) t → Steps p.tables e below (s₁.setTop (entryFrame m #[(.int p1), (.int p2), w3] 3)) t := by
    intro t kt
    refine pre0 _ ?_
    show Steps p.tables e below (s₁.setTop (mkF m 0 #[.val (.int p1), .val (.int p2), .val w3] [])) _
    refine XS.iloadN X0.here hx rfl (hb hby d15_0) rfl ?_
    show Steps p.tables e below (s₁.setTop (mkF m 1 #[.val (.int p1), .val (.int p2), .val w3] [(.int p1)])) _
    refine XS.ifNo X0.here hx rfl (hb hby d15_1) rfl ((if0 _ _).trans (flt h1).1) ?_
    show Steps p.tables e below (s₁.setTop (mkF m 4 #[.val (.int p1), .val (.int p2), .val w3] [])) _
    refine XS.iloadN X0.here hx rfl (hb hby d15_4) rfl ?_
    show Steps p.tables e below (s₁.setTop (mkF m 5 #[.val (.int p1), .val (.int p2), .val w3] [(.int p1)])) _
    refine XS.iloadN X0.here hx rfl (hb hby d15_5) rfl ?_
    show Steps p.tables e below (s₁.setTop (mkF m 6 #[.val (.int p1), .val (.int p2), .val w3] [(.int p2), (.int p1)])) _
    refine XS.icmpYes X0.here hx rfl (pc0 := 6) (pc' := 16) rfl (hb hby d15_6) rfl (tlt h2).1 (by decide) (by decide) ?_
    show Steps p.tables e below (s₁.setTop (mkF m 16 #[.val (.int p1), .val (.int p2), .val w3] [])) _
    refine XS.iloadN X0.here hx rfl (hb hby d15_16) rfl ?_
    exact kt
  obtain ⟨fs, hr, hrun, hended, hW, hsame⟩ := X0.leave (v := some (.int p1)) (fun h => by rw [Bd.returns] at h; cases h)
  refine ⟨_, _, R1 _ ?_, hrun, hended, _, _, rfl, ?_, ⟨_, rfl⟩, hW, hsame.mono (by decide) (by decide)⟩
  · show Steps p.tables e below (s₁.setTop (mkF m 17 #[.val (.int p1), .val (.int p2), .val w3] [(.int p1)])) _
    exact retI X0 hx Bd.returns (hb hby d15_17) hr
  · show Q15 Z p1 p2 w3 h0 n0 _ s₁.heap _
    rw [e0]
    refine ⟨?_, rfl, rfl⟩
    rfl
theorem d14_0 : decode jdk_42_method_155_code 0 = .ok (.iload_n 0, 1) := by decide +kernel
theorem d14_1 : decode jdk_42_method_155_code 1 = .ok (.iload_n 1, 1) := by decide +kernel
theorem d14_2 : decode jdk_42_method_155_code 2 = .ok (.getstatic 1053, 3) := by decide +kernel
theorem d14_5 : decode jdk_42_method_155_code 5 = .ok (.invokestatic 1059, 3) := by decide +kernel
theorem d14_8 : decode jdk_42_method_155_code 8 = .ok (.pop, 1) := by decide +kernel
theorem d14_9 : decode jdk_42_method_155_code 9 = .ok (.return_, 1) := by decide +kernel
theorem pn_14 : plainName "java/lang/String" = true := by first | (simp [plainName, overriddenIn]; done) | decide +kernel
theorem pd_14_15 : parseMethodDescriptor "(IILjava/util/function/BiFunction;)I" = some ⟨[.int, .int, (.object "java/util/function/BiFunction")], some .int⟩ := by decide +kernel
theorem ef_14 (m : MethodId) (x0 : Int32) (x1 : Int32) : entryFrame m #[(.int x0), (.int x1)] 2 = mkF m 0 #[.val (.int x0), .val (.int x1)] [] := by first | (simp [entryFrame, mkF, argsToLocals, Value.category]; done) | rfl
def Q14 (Z : State) (p1 : Int32) (p2 : Int32) (G3 : Value) (h0 : Heap) (n0 : Nat) (v : Option Value) (h : Heap) (L : List Loc) : Prop := v = none ∧ L = [] ∧ h = h0
set_option maxRecDepth 65536 in
set_option maxHeartbeats 40000000 in
theorem rm14 (l : Launch) (Z : State) (a0 : Array Value) (hw : ∀ d ∈ tables_1, d.before a0 Z = true) (ws : List Jvm.Cond) (p1 : Int32) (p2 : Int32) (G3 : Value) (h0 : Heap) (n0 : Nat) (Z0 : n0 ≤ h0.size) (h1 : ¬ p1 < 0) (h2 : p1 < p2) (O4 : Sta Z h0 "jdk/internal/util/Preconditions" "SIOOBE_FORMATTER" "Ljava/util/function/BiFunction;" G3) (rG3 : G3.isRef = true) :
    MetFree l (⟨"java/lang/String", "checkIndex", "(II)V"⟩ : MethodName) (head1 (Jvm.Cond.code (⟨"java/lang/String", "checkIndex", "(II)V"⟩ : MethodName) jdk_42_method_155_code 2 none :: ws) ({ frames := 1, cells := 0, slots := 0, locals := 14 } : Room)) (fun a U => a = #[(.int p1), (.int p2)] ∧ Z.Warmed39 U.vm ∧ U.heap = h0) (fun _ _ _ _ _ => True) (fun _ U o U' => ∃ v L, o = .returned v ∧ Q14 Z p1 p2 G3 h0 n0 v U'.heap L ∧ FrameEnd U o U' L ({ frames := 1, cells := 0, slots := 0, locals := 14 } : Room).cells ({ frames := 1, cells := 0, slots := 0, locals := 14 } : Room).slots) := by
  refine MetFree.of_bodySF (plainFor_of_name pn_14) hisR ?_
  intro p e s m args below meth c s₁ Bd hml0 hP hK
  obtain ⟨rfl, hZ, hh⟩ := hP
  have hx := Bd.exec
  have hby := Bd.bytes
  have hml : c.maxLocals = 2 := hml0
  have hown : s.vm.findClass "java/lang/String" = some m.cls := findClass_of_methodNamed Bd.named
  have hnm := (name_of_methodNamed Bd.named Bd.method).1
  have X0 : Stand p l e ({ frames := 1, cells := 0, slots := 0, locals := 14 } : Room) s m #[(.int p1), (.int p2)] below meth c s₁ [] 0 0 := Stand.of_body Bd
  have e0 : s₁.heap = h0 := by rw [← hh, Bd.state]; rfl
  have N0 := Fr.nil n0
  have pre0 : ∀ t, Steps p.tables e below (s₁.setTop (mkF m 0 #[.val (.int p1), .val (.int p2)] [])) t → Steps p.tables e below (s₁.setTop (entryFrame m #[(.int p1), (.int p2)] 2)) t := fun t k => castTop (ef_14 m p1 p2) k
  obtain ⟨T1, X1, e1, st1⟩ := getS2 X0 hx hZ hown (host := "") (Or.inl (hw _ (List.mem_of_getElem? (i := 74) rfl))) Via.refl e0 O4 (g := (mkF m 2 #[.val (.int p1), .val (.int p2)] [(.int p2), (.int p1)])) rfl (hb hby d14_2)
  obtain ⟨_, _, ⟨T2, L2, k2, n2⟩, -, X2, ⟨Lc2, hQ2, l2, y2, z2⟩, st2⟩ := Jvm.LawKit.callS X1 hx (y := (⟨"jdk/internal/util/Preconditions", "checkIndex", "(IILjava/util/function/BiFunction;)I"⟩ : MethodName)) hown (mvT hZ (hw _ (List.mem_of_getElem? (i := 76) rfl))) (mvT hZ (hw _ (List.mem_of_getElem? (i := 77) rfl))) (mvT hZ (hw _ (List.mem_of_getElem? (i := 75) rfl))) (mvT hZ (hw _ (List.mem_of_getElem? (i := 78) rfl))) (by decide) (backOf (W := 0) (rm15 l Z a0 hw [] p1 p2 G3 h0 n0 Z0 h1 h2 rG3) hZ (hw _ (List.mem_of_getElem? (i := 78) rfl)) (hw _ (List.mem_of_getElem? (i := 75) rfl)) (by decide) (by decide)) (g := (mkF m 5 #[.val (.int p1), .val (.int p2)] [G3, (.int p2), (.int p1)])) rfl (by rw [hml]; rfl) (argsL := [(.int p1), (.int p2), G3]) (rest := []) (lenOf pd_14_15 rfl) rfl (by show 2 * 0 + _ ≤ _; exact Nat.le_of_eq rfl) (hb hby d14_5) (fun _ _ => ⟨rfl, e1, (by decide : 0 + 0 ≤ _), (by decide : 0 + 0 ≤ _)⟩)
  dsimp only [Pt.U, Pt.locs, Pt.cells, Pt.slots] at X2 l2 y2 z2 st2 hQ2
  subst l2 y2 z2
  obtain ⟨rfl, rfl, e2⟩ := hQ2
  replace X2 : Stand p l e ({ frames := 1, cells := 0, slots := 0, locals := 14 } : Room) s m #[(.int p1), (.int p2)] below meth c T2 [] 0 0 := X2
  have R3 : ∀ t, Steps p.tables e below (T2.setTop (mkF m 9 #[.val (.int p1), .val (.int p2)] [])) t → Steps p.tables e below (s₁.setTop (entryFrame m #[(.int p1), (.int p2)] 2)) t := by
    intro t kt
    refine pre0 _ ?_
    show Steps p.tables e below (s₁.setTop (mkF m 0 #[.val (.int p1), .val (.int p2)] [])) _
    refine XS.iloadN X0.here hx rfl (hb hby d14_0) rfl ?_
    show Steps p.tables e below (s₁.setTop (mkF m 1 #[.val (.int p1), .val (.int p2)] [(.int p1)])) _
    refine XS.iloadN X0.here hx rfl (hb hby d14_1) rfl ?_
    show Steps p.tables e below (s₁.setTop (mkF m 2 #[.val (.int p1), .val (.int p2)] [(.int p2), (.int p1)])) _
    refine st1 _ ?_
    show Steps p.tables e below (T1.setTop (mkF m 5 #[.val (.int p1), .val (.int p2)] [G3, (.int p2), (.int p1)])) _
    refine st2 _ ?_
    show Steps p.tables e below (T2.setTop (mkF m 8 #[.val (.int p1), .val (.int p2)] [(.int (F15 p1 p2))])) _
    refine XS.pop X2.here hx rfl (hb hby d14_8) rfl rfl ?_
    exact kt
  obtain ⟨fs, hr, hrun, hended, hW, hsame⟩ := X2.leave (v := none) (fun _ => rfl)
  refine ⟨_, _, R3 _ ?_, hrun, hended, _, _, rfl, ?_, ⟨_, rfl⟩, hW, hsame.mono (by decide) (by decide)⟩
  · show Steps p.tables e below (T2.setTop (mkF m 9 #[.val (.int p1), .val (.int p2)] [])) _
    exact X2.returnOut hx Bd.returns (hb hby d14_9) hr
  · show Q14 Z p1 p2 G3 h0 n0 _ T2.heap _
    rw [e2]
    refine ⟨?_, rfl, rfl⟩
    rfl
theorem d13_0 : decode jdk_43_method_2_code 0 = .ok (.iload_n 1, 1) := by decide +kernel
theorem d13_1 : decode jdk_43_method_2_code 1 = .ok (.aload_n 0, 1) := by decide +kernel
theorem d13_2 : decode jdk_43_method_2_code 2 = .ok (.arraylength, 1) := by decide +kernel
theorem d13_3 : decode jdk_43_method_2_code 3 = .ok (.invokestatic 9, 3) := by decide +kernel
theorem d13_6 : decode jdk_43_method_2_code 6 = .ok (.aload_n 0, 1) := by decide +kernel
theorem d13_7 : decode jdk_43_method_2_code 7 = .ok (.iload_n 1, 1) := by decide +kernel
theorem d13_8 : decode jdk_43_method_2_code 8 = .ok (.baload, 1) := by decide +kernel
theorem d13_9 : decode jdk_43_method_2_code 9 = .ok (.sipush 255, 3) := by decide +kernel
theorem d13_12 : decode jdk_43_method_2_code 12 = .ok (.iand, 1) := by decide +kernel
theorem d13_13 : decode jdk_43_method_2_code 13 = .ok (.i2c, 1) := by decide +kernel
theorem d13_14 : decode jdk_43_method_2_code 14 = .ok (.ireturn, 1) := by decide +kernel
theorem pn_13 : plainName "java/lang/StringLatin1" = true := by first | (simp [plainName, overriddenIn]; done) | decide +kernel
theorem pd_13_14 : parseMethodDescriptor "(II)V" = some ⟨[.int, .int], none⟩ := by decide +kernel
theorem ef_13 (m : MethodId) (x0 : Addr) (x1 : Int32) : entryFrame m #[(.ref x0), (.int x1)] 2 = mkF m 0 #[.val (.ref x0), .val (.int x1)] [] := by first | (simp [entryFrame, mkF, argsToLocals, Value.category]; done) | rfl
def F13 (p2 : Int32) (u : Nat → Int32) : Int32 :=
  (nar .char (((u p2.toNatClampNeg) &&& (255 : Int32)).toUInt32.toUInt16.toUInt32.toInt32))
def Q13 (Z : State) (a1 : Addr) (p2 : Int32) (z : Int32) (u : Nat → Int32) (G3 : Value) (h0 : Heap) (n0 : Nat) (v : Option Value) (h : Heap) (L : List Loc) : Prop := v = some (.int (F13 p2 u)) ∧ L = [] ∧ h = h0
set_option maxRecDepth 65536 in
set_option maxHeartbeats 40000000 in
theorem rm13 (l : Launch) (Z : State) (a0 : Array Value) (hw : ∀ d ∈ tables_1, d.before a0 Z = true) (ws : List Jvm.Cond) (a1 : Addr) (p2 : Int32) (z : Int32) (u : Nat → Int32) (G3 : Value) (h0 : Heap) (n0 : Nat) (Z0 : n0 ≤ h0.size) (V : AF Z h0 a1 .byte z.toNatClampNeg (fun j => .int (u j))) (hz : ¬ z < 0) (h1 : ¬ p2 < 0) (h2 : p2 < z) (O4 : Sta Z h0 "jdk/internal/util/Preconditions" "SIOOBE_FORMATTER" "Ljava/util/function/BiFunction;" G3) (rG3 : G3.isRef = true) :
    MetFree l (⟨"java/lang/StringLatin1", "charAt", "([BI)C"⟩ : MethodName) (head1 (Jvm.Cond.code (⟨"java/lang/StringLatin1", "charAt", "([BI)C"⟩ : MethodName) jdk_43_method_2_code 2 (some .char) :: ws) ({ frames := 2, cells := 0, slots := 0, locals := 27 } : Room)) (fun a U => a = #[(.ref a1), (.int p2)] ∧ Z.Warmed39 U.vm ∧ U.heap = h0) (fun _ _ _ _ _ => True) (fun _ U o U' => ∃ v L, o = .returned v ∧ Q13 Z a1 p2 z u G3 h0 n0 v U'.heap L ∧ FrameEnd U o U' L ({ frames := 2, cells := 0, slots := 0, locals := 27 } : Room).cells ({ frames := 2, cells := 0, slots := 0, locals := 27 } : Room).slots) := by
  refine MetFree.of_bodySF (plainFor_of_name pn_13) hisR ?_
  intro p e s m args below meth c s₁ Bd hml0 hP hK
  obtain ⟨rfl, hZ, hh⟩ := hP
  have hx := Bd.exec
  have hby := Bd.bytes
  have hml : c.maxLocals = 2 := hml0
  have hown : s.vm.findClass "java/lang/StringLatin1" = some m.cls := findClass_of_methodNamed Bd.named
  have hnm := (name_of_methodNamed Bd.named Bd.method).1
  have X0 : Stand p l e ({ frames := 2, cells := 0, slots := 0, locals := 27 } : Room) s m #[(.ref a1), (.int p2)] below meth c s₁ [] 0 0 := Stand.of_body Bd
  have e0 : s₁.heap = h0 := by rw [← hh, Bd.state]; rfl
  have N0 := Fr.nil n0
  have pre0 : ∀ t, Steps p.tables e below (s₁.setTop (mkF m 0 #[.val (.ref a1), .val (.int p2)] [])) t → Steps p.tables e below (s₁.setTop (entryFrame m #[(.ref a1), (.int p2)] 2)) t := fun t k => castTop (ef_13 m a1 p2) k
  obtain ⟨cl1, Ar1, S1, H1⟩ := id V
  obtain ⟨_, _, ⟨T2, L2, k2, n2⟩, -, X2, ⟨Lc2, hQ2, l2, y2, z2⟩, st2⟩ := Jvm.LawKit.callS X0 hx (y := (⟨"java/lang/String", "checkIndex", "(II)V"⟩ : MethodName)) hown (mvT hZ (hw _ (List.mem_of_getElem? (i := 71) rfl))) (mvT hZ (hw _ (List.mem_of_getElem? (i := 72) rfl))) (mvT hZ (hw _ (List.mem_of_getElem? (i := 18) rfl))) (mvT hZ (hw _ (List.mem_of_getElem? (i := 73) rfl))) (by decide) (backOf (W := 0) (rm14 l Z a0 hw [] p2 z G3 h0 n0 Z0 h1 h2 O4 rG3) hZ (hw _ (List.mem_of_getElem? (i := 73) rfl)) (hw _ (List.mem_of_getElem? (i := 18) rfl)) (by decide) (by decide)) (g := (mkF m 3 #[.val (.ref a1), .val (.int p2)] [(.int z), (.int p2)])) rfl (by rw [hml]; rfl) (argsL := [(.int p2), (.int z)]) (rest := []) (lenOf pd_13_14 rfl) rfl (by show 2 * 0 + _ ≤ _; exact Nat.le_of_eq rfl) (hb hby d13_3) (fun _ _ => ⟨rfl, e0, (by decide : 0 + 0 ≤ _), (by decide : 0 + 0 ≤ _)⟩)
  dsimp only [Pt.U, Pt.locs, Pt.cells, Pt.slots] at X2 l2 y2 z2 st2 hQ2
  subst l2 y2 z2
  obtain ⟨rfl, rfl, e2⟩ := hQ2
  replace X2 : Stand p l e ({ frames := 2, cells := 0, slots := 0, locals := 27 } : Room) s m #[(.ref a1), (.int p2)] below meth c T2 [] 0 0 := X2
  obtain ⟨cl3, Ar3, S3, H3⟩ := id V
  have hin3 := AF_in (j := p2) S3 (own_lo h1) (own_up h1 h2)
  have hat3 := AF_at (j := p2) (w := (.int (u p2.toNatClampNeg))) H3 (own_lo h1) (own_up h1 h2) rfl
  have R4 : ∀ t, Steps p.tables e below (T2.setTop (mkF m 14 #[.val (.ref a1), .val (.int p2)] [(.int (((u p2.toNatClampNeg) &&& (255 : Int32)).toUInt32.toUInt16.toUInt32.toInt32))])) t → Steps p.tables e below (s₁.setTop (entryFrame m #[(.ref a1), (.int p2)] 2)) t := by
    intro t kt
    refine pre0 _ ?_
    show Steps p.tables e below (s₁.setTop (mkF m 0 #[.val (.ref a1), .val (.int p2)] [])) _
    refine XS.iloadN X0.here hx rfl (hb hby d13_0) rfl ?_
    show Steps p.tables e below (s₁.setTop (mkF m 1 #[.val (.ref a1), .val (.int p2)] [(.int p2)])) _
    refine XS.aloadN X0.here hx rfl (hb hby d13_1) rfl rfl ?_
    show Steps p.tables e below (s₁.setTop (mkF m 2 #[.val (.ref a1), .val (.int p2)] [(.ref a1), (.int p2)])) _
    refine X0.arraylength hx (by rw [e0]; exact Ar1.1) (State.isArrayOf_alike hZ.alike Ar1.2.1) (g := (mkF m 2 #[.val (.ref a1), .val (.int p2)] [(.ref a1), (.int p2)])) rfl rfl (hb hby d13_2) _ ?_
    rw [len_of S1 hz]
    show Steps p.tables e below (s₁.setTop (mkF m 3 #[.val (.ref a1), .val (.int p2)] [(.int z), (.int p2)])) _
    refine st2 _ ?_
    show Steps p.tables e below (T2.setTop (mkF m 6 #[.val (.ref a1), .val (.int p2)] [])) _
    refine XS.aloadN X2.here hx rfl (hb hby d13_6) rfl rfl ?_
    show Steps p.tables e below (T2.setTop (mkF m 7 #[.val (.ref a1), .val (.int p2)] [(.ref a1)])) _
    refine XS.iloadN X2.here hx rfl (hb hby d13_7) rfl ?_
    show Steps p.tables e below (T2.setTop (mkF m 8 #[.val (.ref a1), .val (.int p2)] [(.int p2), (.ref a1)])) _
    refine X2.baloadBytes hx (j := p2) (v := (.int (u p2.toNatClampNeg))) (by rw [e2]; exact Ar3.1) (State.isArrayOf_alike hZ.alike Ar3.2.1) Ar3.2.2 hin3 hat3 (g := (mkF m 8 #[.val (.ref a1), .val (.int p2)] [(.int p2), (.ref a1)])) rfl rfl (hb hby d13_8) _ ?_
    show Steps p.tables e below (T2.setTop (mkF m 9 #[.val (.ref a1), .val (.int p2)] [(.int (u p2.toNatClampNeg))])) _
    refine XS.sipush X2.here hx rfl (hb hby d13_9) ?_
    show Steps p.tables e below (T2.setTop (mkF m 12 #[.val (.ref a1), .val (.int p2)] [(.int (255 : Int32)), (.int (u p2.toNatClampNeg))])) _
    refine XS.iand X2.here hx rfl (hb hby d13_12) rfl ?_
    show Steps p.tables e below (T2.setTop (mkF m 13 #[.val (.ref a1), .val (.int p2)] [(.int ((u p2.toNatClampNeg) &&& (255 : Int32)))])) _
    refine XS.i2c X2.here hx rfl (hb hby d13_13) rfl ?_
    exact kt
  obtain ⟨fs, hr, hrun, hended, hW, hsame⟩ := X2.leave (v := some (.int (nar .char (((u p2.toNatClampNeg) &&& (255 : Int32)).toUInt32.toUInt16.toUInt32.toInt32)))) (fun h => by rw [Bd.returns] at h; cases h)
  refine ⟨_, _, R4 _ ?_, hrun, hended, _, _, rfl, ?_, ⟨_, rfl⟩, hW, hsame.mono (by decide) (by decide)⟩
  · show Steps p.tables e below (T2.setTop (mkF m 14 #[.val (.ref a1), .val (.int p2)] [(.int (((u p2.toNatClampNeg) &&& (255 : Int32)).toUInt32.toUInt16.toUInt32.toInt32))])) _
    exact retN X2 hx (t := .char) Bd.returns (by simp) (hb hby d13_14) hr
  · show Q13 Z a1 p2 z u G3 h0 n0 _ T2.heap _
    rw [e2]
    refine ⟨?_, rfl, rfl⟩
    rfl
theorem d12_0 : decode jdk_42_method_154_code 0 = .ok (.getstatic 38, 3) := by decide +kernel
theorem d12_3 : decode jdk_42_method_154_code 3 = .ok (.ifCond .eq 14, 3) := by decide +kernel
theorem d12_6 : decode jdk_42_method_154_code 6 = .ok (.aload_n 0, 1) := by decide +kernel
theorem d12_7 : decode jdk_42_method_154_code 7 = .ok (.getfield 15, 3) := by decide +kernel
theorem d12_10 : decode jdk_42_method_154_code 10 = .ok (.ifCond .ne 7, 3) := by decide +kernel
theorem d12_13 : decode jdk_42_method_154_code 13 = .ok (.iconst 1, 1) := by decide +kernel
theorem d12_14 : decode jdk_42_method_154_code 14 = .ok (.goto 4, 3) := by decide +kernel
theorem d12_18 : decode jdk_42_method_154_code 18 = .ok (.ireturn, 1) := by decide +kernel
theorem pn_12 : plainName "java/lang/String" = true := by first | (simp [plainName, overriddenIn]; done) | decide +kernel
theorem ef_12 (m : MethodId) (x0 : Addr) : entryFrame m #[(.ref x0)] 1 = mkF m 0 #[.val (.ref x0)] [] := by first | (simp [entryFrame, mkF, argsToLocals, Value.category]; done) | rfl
def F12  : Int32 :=
  (1 : Int32)
def Q12 (Z : State) (a1 : Addr) (G1 : Int32) (h0 : Heap) (n0 : Nat) (v : Option Value) (h : Heap) (L : List Loc) : Prop := v = some (.int (F12 )) ∧ L = [] ∧ h = h0
set_option maxRecDepth 65536 in
set_option maxHeartbeats 40000000 in
theorem rm12 (l : Launch) (Z : State) (a0 : Array Value) (hw : ∀ d ∈ tables_1, d.before a0 Z = true) (ws : List Jvm.Cond) (a1 : Addr) (G1 : Int32) (h0 : Heap) (n0 : Nat) (Z0 : n0 ≤ h0.size) (O2 : Sta Z h0 "java/lang/String" "COMPACT_STRINGS" "Z" (.int G1)) (P5 : ¬ (G1 = (0 : Int32))) (Fc : Fld Z h0 a1 "java/lang/String" "coder" "B" (.int (0 : Int32))) :
    MetFree l (⟨"java/lang/String", "isLatin1", "()Z"⟩ : MethodName) (head1 (Jvm.Cond.code (⟨"java/lang/String", "isLatin1", "()Z"⟩ : MethodName) jdk_42_method_154_code 1 (some .boolean) :: ws) ({ frames := 0, cells := 0, slots := 0, locals := 0 } : Room)) (fun a U => a = #[(.ref a1)] ∧ Z.Warmed39 U.vm ∧ U.heap = h0) (fun _ _ _ _ _ => True) (fun _ U o U' => ∃ v L, o = .returned v ∧ Q12 Z a1 G1 h0 n0 v U'.heap L ∧ FrameEnd U o U' L ({ frames := 0, cells := 0, slots := 0, locals := 0 } : Room).cells ({ frames := 0, cells := 0, slots := 0, locals := 0 } : Room).slots) := by
  refine MetFree.of_bodySF (plainFor_of_name pn_12) hisR ?_
  intro p e s m args below meth c s₁ Bd hml0 hP hK
  obtain ⟨rfl, hZ, hh⟩ := hP
  have hx := Bd.exec
  have hby := Bd.bytes
  have hml : c.maxLocals = 1 := hml0
  have hown : s.vm.findClass "java/lang/String" = some m.cls := findClass_of_methodNamed Bd.named
  have hnm := (name_of_methodNamed Bd.named Bd.method).1
  have X0 : Stand p l e ({ frames := 0, cells := 0, slots := 0, locals := 0 } : Room) s m #[(.ref a1)] below meth c s₁ [] 0 0 := Stand.of_body Bd
  have e0 : s₁.heap = h0 := by rw [← hh, Bd.state]; rfl
  have N0 := Fr.nil n0
  have pre0 : ∀ t, Steps p.tables e below (s₁.setTop (mkF m 0 #[.val (.ref a1)] [])) t → Steps p.tables e below (s₁.setTop (entryFrame m #[(.ref a1)] 1)) t := fun t k => castTop (ef_12 m a1) k
  obtain ⟨T1, X1, e1, st1⟩ := getS2 X0 hx hZ hown (host := "") (Or.inl (hw _ (List.mem_of_getElem? (i := 29) rfl))) Via.refl e0 O2 (g := (mkF m 0 #[.val (.ref a1)] [])) rfl (hb hby d12_0)
  obtain ⟨T2, X2, e2, st2⟩ := getF X1 hx hZ hown (host := "") (Or.inl (hw _ (List.mem_of_getElem? (i := 41) rfl))) Via.refl e1 Fc (g := (mkF m 7 #[.val (.ref a1)] [(.ref a1)])) rfl rfl (hb hby d12_7)
  have R3 : ∀ t, Steps p.tables e below (T2.setTop (mkF m 18 #[.val (.ref a1)] [(.int (1 : Int32))])) t → Steps p.tables e below (s₁.setTop (entryFrame m #[(.ref a1)] 1)) t := by
    intro t kt
    refine pre0 _ ?_
    show Steps p.tables e below (s₁.setTop (mkF m 0 #[.val (.ref a1)] [])) _
    refine st1 _ ?_
    show Steps p.tables e below (T1.setTop (mkF m 3 #[.val (.ref a1)] [(.int G1)])) _
    refine XS.ifNo X1.here hx rfl (hb hby d12_3) rfl ((if0 _ _).trans (feq P5).1) ?_
    show Steps p.tables e below (T1.setTop (mkF m 6 #[.val (.ref a1)] [])) _
    refine XS.aloadN X1.here hx rfl (hb hby d12_6) rfl rfl ?_
    show Steps p.tables e below (T1.setTop (mkF m 7 #[.val (.ref a1)] [(.ref a1)])) _
    refine st2 _ ?_
    show Steps p.tables e below (T2.setTop (mkF m 10 #[.val (.ref a1)] [(.int (0 : Int32))])) _
    refine XS.ifNo X2.here hx rfl (hb hby d12_10) rfl ((if0 _ _).trans (teq (by decide : (0 : Int32) = (0 : Int32))).2) ?_
    show Steps p.tables e below (T2.setTop (mkF m 13 #[.val (.ref a1)] [])) _
    refine XS.iconst X2.here hx rfl (hb hby d12_13) ?_
    show Steps p.tables e below (T2.setTop (mkF m 14 #[.val (.ref a1)] [(.int (1 : Int32))])) _
    refine XS.goto X2.here hx rfl (pc0 := 14) (pc' := 18) rfl (hb hby d12_14) (by decide) (by decide) ?_
    exact kt
  obtain ⟨fs, hr, hrun, hended, hW, hsame⟩ := X2.leave (v := some (.int (1 : Int32))) (fun h => by rw [Bd.returns] at h; cases h)
  refine ⟨_, _, R3 _ ?_, hrun, hended, _, _, rfl, ?_, ⟨_, rfl⟩, hW, hsame.mono (by decide) (by decide)⟩
  · show Steps p.tables e below (T2.setTop (mkF m 18 #[.val (.ref a1)] [(.int (1 : Int32))])) _
    exact retN X2 hx (t := .boolean) Bd.returns (by simp) (hb hby d12_18) hr
  · show Q12 Z a1 G1 h0 n0 _ T2.heap _
    rw [e2]
    refine ⟨?_, rfl, rfl⟩
    rfl
theorem d11_0 : decode jdk_42_method_56_code 0 = .ok (.aload_n 0, 1) := by decide +kernel
theorem d11_1 : decode jdk_42_method_56_code 1 = .ok (.invokevirtual 492, 3) := by decide +kernel
theorem d11_4 : decode jdk_42_method_56_code 4 = .ok (.ifCond .eq 12, 3) := by decide +kernel
theorem d11_7 : decode jdk_42_method_56_code 7 = .ok (.aload_n 0, 1) := by decide +kernel
theorem d11_8 : decode jdk_42_method_56_code 8 = .ok (.getfield 9, 3) := by decide +kernel
theorem d11_11 : decode jdk_42_method_56_code 11 = .ok (.iload_n 1, 1) := by decide +kernel
theorem d11_12 : decode jdk_42_method_56_code 12 = .ok (.invokestatic 495, 3) := by decide +kernel
theorem d11_15 : decode jdk_42_method_56_code 15 = .ok (.ireturn, 1) := by decide +kernel
theorem pn_11 : plainName "java/lang/String" = true := by first | (simp [plainName, overriddenIn]; done) | decide +kernel
theorem pd_11_12 : parseMethodDescriptor "()Z" = some ⟨[], some .boolean⟩ := by decide +kernel
theorem pd_11_13 : parseMethodDescriptor "([BI)C" = some ⟨[(.array .byte), .int], some .char⟩ := by decide +kernel
theorem ef_11 (m : MethodId) (x0 : Addr) (x1 : Int32) : entryFrame m #[(.ref x0), (.int x1)] 2 = mkF m 0 #[.val (.ref x0), .val (.int x1)] [] := by first | (simp [entryFrame, mkF, argsToLocals, Value.category]; done) | rfl
def F11 (p2 : Int32) (u : Nat → Int32) : Int32 :=
  (nar .char (F13 p2 u))
def Q11 (Z : State) (a1 : Addr) (p2 : Int32) (tv : Addr) (z : Int32) (u : Nat → Int32) (G1 : Int32) (G3 : Value) (h0 : Heap) (n0 : Nat) (v : Option Value) (h : Heap) (L : List Loc) : Prop := v = some (.int (F11 p2 u)) ∧ L = [] ∧ h = h0
set_option maxRecDepth 65536 in
set_option maxHeartbeats 40000000 in
theorem rm11 (l : Launch) (Z : State) (a0 : Array Value) (hw : ∀ d ∈ tables_1, d.before a0 Z = true) (ws : List Jvm.Cond) (a1 : Addr) (p2 : Int32) (tv : Addr) (z : Int32) (u : Nat → Int32) (G1 : Int32) (G3 : Value) (h0 : Heap) (n0 : Nat) (Z0 : n0 ≤ h0.size) (Ex : Exa Z h0 a1 "java/lang/String") (Fc : Fld Z h0 a1 "java/lang/String" "coder" "B" (.int (0 : Int32))) (Fv : Fld Z h0 a1 "java/lang/String" "value" "[B" (.ref tv)) (V : AF Z h0 tv .byte z.toNatClampNeg (fun j => .int (u j))) (hz : ¬ z < 0) (h1 : ¬ p2 < 0) (h2 : p2 < z) (O2 : Sta Z h0 "java/lang/String" "COMPACT_STRINGS" "Z" (.int G1)) (P5 : ¬ (G1 = (0 : Int32))) (O4 : Sta Z h0 "jdk/internal/util/Preconditions" "SIOOBE_FORMATTER" "Ljava/util/function/BiFunction;" G3) (rG3 : G3.isRef = true) :
    MetFree l (⟨"java/lang/String", "charAt", "(I)C"⟩ : MethodName) (head1 (Jvm.Cond.code (⟨"java/lang/String", "charAt", "(I)C"⟩ : MethodName) jdk_42_method_56_code 2 (some .char) :: ws) ({ frames := 3, cells := 0, slots := 0, locals := 40 } : Room)) (fun a U => a = #[(.ref a1), (.int p2)] ∧ Z.Warmed39 U.vm ∧ U.heap = h0) (fun _ _ _ _ _ => True) (fun _ U o U' => ∃ v L, o = .returned v ∧ Q11 Z a1 p2 tv z u G1 G3 h0 n0 v U'.heap L ∧ FrameEnd U o U' L ({ frames := 3, cells := 0, slots := 0, locals := 40 } : Room).cells ({ frames := 3, cells := 0, slots := 0, locals := 40 } : Room).slots) := by
  refine MetFree.of_bodySF (plainFor_of_name pn_11) hisR ?_
  intro p e s m args below meth c s₁ Bd hml0 hP hK
  obtain ⟨rfl, hZ, hh⟩ := hP
  have hx := Bd.exec
  have hby := Bd.bytes
  have hml : c.maxLocals = 2 := hml0
  have hown : s.vm.findClass "java/lang/String" = some m.cls := findClass_of_methodNamed Bd.named
  have hnm := (name_of_methodNamed Bd.named Bd.method).1
  have X0 : Stand p l e ({ frames := 3, cells := 0, slots := 0, locals := 40 } : Room) s m #[(.ref a1), (.int p2)] below meth c s₁ [] 0 0 := Stand.of_body Bd
  have e0 : s₁.heap = h0 := by rw [← hh, Bd.state]; rfl
  have N0 := Fr.nil n0
  have pre0 : ∀ t, Steps p.tables e below (s₁.setTop (mkF m 0 #[.val (.ref a1), .val (.int p2)] [])) t → Steps p.tables e below (s₁.setTop (entryFrame m #[(.ref a1), (.int p2)] 2)) t := fun t k => castTop (ef_11 m a1 p2) k
  obtain ⟨cq1, kq1, q1a, q1b, q1c⟩ := isOf hZ e0 Ex
  obtain ⟨_, _, ⟨T1, L1, k1, n1⟩, -, X1, ⟨Lc1, hQ1, l1, y1, z1⟩, st1⟩ := X0.virtualBack hx (y := (⟨"java/lang/String", "isLatin1", "()Z"⟩ : MethodName)) (z := (⟨"java/lang/String", "isLatin1", "()Z"⟩ : MethodName)) hown (mvT hZ (hw _ (List.mem_of_getElem? (i := 62) rfl))) (mvT hZ (hw _ (List.mem_of_getElem? (i := 63) rfl))) (notFace_of_selects (args := #[]) (mvT hZ (hw _ (List.mem_of_getElem? (i := 65) rfl)))) (mvT hZ (hw _ (List.mem_of_getElem? (i := 65) rfl))) (mvT hZ (hw _ (List.mem_of_getElem? (i := 64) rfl))) (by decide) (backOf (W := 0) (rm12 l Z a0 hw [] a1 G1 h0 n0 Z0 O2 P5 Fc) hZ (hw _ (List.mem_of_getElem? (i := 66) rfl)) (hw _ (List.mem_of_getElem? (i := 18) rfl)) (by decide) (by decide)) q1a q1c (g := (mkF m 1 #[.val (.ref a1), .val (.int p2)] [(.ref a1)])) rfl (by rw [hml]; rfl) (Steps.refl _) (argsL := []) (rest := []) (lenOf pd_11_12 rfl) rfl (by show 2 * 0 + _ ≤ _; exact Nat.le_of_eq rfl) (hb hby d11_1) (fun _ _ => ⟨rfl, e0, (by decide : 0 + 0 ≤ _), (by decide : 0 + 0 ≤ _)⟩)
  dsimp only [Pt.U, Pt.locs, Pt.cells, Pt.slots] at X1 l1 y1 z1 st1 hQ1
  subst l1 y1 z1
  obtain ⟨rfl, rfl, e1⟩ := hQ1
  replace X1 : Stand p l e ({ frames := 3, cells := 0, slots := 0, locals := 40 } : Room) s m #[(.ref a1), (.int p2)] below meth c T1 [] 0 0 := X1
  obtain ⟨T2, X2, e2, st2⟩ := getF X1 hx hZ hown (host := "") (Or.inl (hw _ (List.mem_of_getElem? (i := 43) rfl))) Via.refl e1 Fv (g := (mkF m 8 #[.val (.ref a1), .val (.int p2)] [(.ref a1)])) rfl rfl (hb hby d11_8)
  obtain ⟨_, _, ⟨T3, L3, k3, n3⟩, -, X3, ⟨Lc3, hQ3, l3, y3, z3⟩, st3⟩ := Jvm.LawKit.callS X2 hx (y := (⟨"java/lang/StringLatin1", "charAt", "([BI)C"⟩ : MethodName)) hown (mvT hZ (hw _ (List.mem_of_getElem? (i := 67) rfl))) (mvT hZ (hw _ (List.mem_of_getElem? (i := 68) rfl))) (mvT hZ (hw _ (List.mem_of_getElem? (i := 69) rfl))) (mvT hZ (hw _ (List.mem_of_getElem? (i := 70) rfl))) (by decide) (backOf (W := 0) (rm13 l Z a0 hw [] tv p2 z u G3 h0 n0 Z0 V hz h1 h2 O4 rG3) hZ (hw _ (List.mem_of_getElem? (i := 70) rfl)) (hw _ (List.mem_of_getElem? (i := 69) rfl)) (by decide) (by decide)) (g := (mkF m 12 #[.val (.ref a1), .val (.int p2)] [(.int p2), (.ref tv)])) rfl (by rw [hml]; rfl) (argsL := [(.ref tv), (.int p2)]) (rest := []) (lenOf pd_11_13 rfl) rfl (by show 2 * 0 + _ ≤ _; exact Nat.le_of_eq rfl) (hb hby d11_12) (fun _ _ => ⟨rfl, e2, (by decide : 0 + 0 ≤ _), (by decide : 0 + 0 ≤ _)⟩)
  dsimp only [Pt.U, Pt.locs, Pt.cells, Pt.slots] at X3 l3 y3 z3 st3 hQ3
  subst l3 y3 z3
  obtain ⟨rfl, rfl, e3⟩ := hQ3
  replace X3 : Stand p l e ({ frames := 3, cells := 0, slots := 0, locals := 40 } : Room) s m #[(.ref a1), (.int p2)] below meth c T3 [] 0 0 := X3
  have R4 : ∀ t, Steps p.tables e below (T3.setTop (mkF m 15 #[.val (.ref a1), .val (.int p2)] [(.int (F13 p2 u))])) t → Steps p.tables e below (s₁.setTop (entryFrame m #[(.ref a1), (.int p2)] 2)) t := by
    intro t kt
    refine pre0 _ ?_
    show Steps p.tables e below (s₁.setTop (mkF m 0 #[.val (.ref a1), .val (.int p2)] [])) _
    refine XS.aloadN X0.here hx rfl (hb hby d11_0) rfl rfl ?_
    show Steps p.tables e below (s₁.setTop (mkF m 1 #[.val (.ref a1), .val (.int p2)] [(.ref a1)])) _
    refine st1.trans ?_
    show Steps p.tables e below (T1.setTop (mkF m 4 #[.val (.ref a1), .val (.int p2)] [(.int (F12))])) _
    refine XS.ifNo X1.here hx rfl (hb hby d11_4) rfl ((if0 _ _).trans (feq (by decide)).1) ?_
    show Steps p.tables e below (T1.setTop (mkF m 7 #[.val (.ref a1), .val (.int p2)] [])) _
    refine XS.aloadN X1.here hx rfl (hb hby d11_7) rfl rfl ?_
    show Steps p.tables e below (T1.setTop (mkF m 8 #[.val (.ref a1), .val (.int p2)] [(.ref a1)])) _
    refine st2 _ ?_
    show Steps p.tables e below (T2.setTop (mkF m 11 #[.val (.ref a1), .val (.int p2)] [(.ref tv)])) _
    refine XS.iloadN X2.here hx rfl (hb hby d11_11) rfl ?_
    show Steps p.tables e below (T2.setTop (mkF m 12 #[.val (.ref a1), .val (.int p2)] [(.int p2), (.ref tv)])) _
    refine st3 _ ?_
    exact kt
  obtain ⟨fs, hr, hrun, hended, hW, hsame⟩ := X3.leave (v := some (.int (nar .char (F13 p2 u)))) (fun h => by rw [Bd.returns] at h; cases h)
  refine ⟨_, _, R4 _ ?_, hrun, hended, _, _, rfl, ?_, ⟨_, rfl⟩, hW, hsame.mono (by decide) (by decide)⟩
  · show Steps p.tables e below (T3.setTop (mkF m 15 #[.val (.ref a1), .val (.int p2)] [(.int (F13 p2 u))])) _
    exact retN X3 hx (t := .char) Bd.returns (by simp) (hb hby d11_15) hr
  · show Q11 Z a1 p2 tv z u G1 G3 h0 n0 _ T3.heap _
    rw [e3]
    refine ⟨?_, rfl, rfl⟩
    rfl
theorem d8_0 : decode jdk_29_method_69_code 0 = .ok (.iload_n 0, 1) := by decide +kernel
theorem d8_1 : decode jdk_29_method_69_code 1 = .ok (.iload_n 1, 1) := by decide +kernel
theorem d8_2 : decode jdk_29_method_69_code 2 = .ok (.if_icmp .gt 7, 3) := by decide +kernel
theorem d8_5 : decode jdk_29_method_69_code 5 = .ok (.iload_n 0, 1) := by decide +kernel
theorem d8_6 : decode jdk_29_method_69_code 6 = .ok (.goto 4, 3) := by decide +kernel
theorem d8_9 : decode jdk_29_method_69_code 9 = .ok (.iload_n 1, 1) := by decide +kernel
theorem d8_10 : decode jdk_29_method_69_code 10 = .ok (.ireturn, 1) := by decide +kernel
theorem ef_8 (m : MethodId) (x0 : Int32) (x1 : Int32) : entryFrame m #[(.int x0), (.int x1)] 2 = mkF m 0 #[.val (.int x0), .val (.int x1)] [] := by first | (simp [entryFrame, mkF, argsToLocals, Value.category]; done) | rfl
def F8 (p1 : Int32) (p2 : Int32) : Int32 :=
  let v5 : Int32 := (if p2 < p1 then p2 else p1)
  v5
def Q8 (Z : State) (p1 : Int32) (p2 : Int32) (h0 : Heap) (n0 : Nat) (v : Option Value) (h : Heap) (L : List Loc) : Prop := v = some (.int (F8 p1 p2)) ∧ L = [] ∧ h = h0
set_option maxRecDepth 65536 in
set_option maxHeartbeats 40000000 in
theorem rm8 (l : Launch) (Z : State) (a0 : Array Value) (hw : ∀ d ∈ tables_1, d.before a0 Z = true) (ws : List Jvm.Cond) (p1 : Int32) (p2 : Int32) (h0 : Heap) (n0 : Nat) (Z0 : n0 ≤ h0.size) :
    MetFree l (⟨"java/lang/Math", "min", "(II)I"⟩ : MethodName) (head1 (Jvm.Cond.code (⟨"java/lang/Math", "min", "(II)I"⟩ : MethodName) jdk_29_method_69_code 2 (some .int) :: ws) ({ frames := 0, cells := 0, slots := 0, locals := 0 } : Room)) (fun a U => a = #[(.int p1), (.int p2)] ∧ Z.Warmed39 U.vm ∧ U.heap = h0) (fun _ _ _ _ _ => True) (fun _ U o U' => ∃ v L, o = .returned v ∧ Q8 Z p1 p2 h0 n0 v U'.heap L ∧ FrameEnd U o U' L ({ frames := 0, cells := 0, slots := 0, locals := 0 } : Room).cells ({ frames := 0, cells := 0, slots := 0, locals := 0 } : Room).slots) := by
  refine MetFree.of_bodySF (Jvm.Free.JP.mathPlain rfl (by decide +kernel)) hisR ?_
  intro p e s m args below meth c s₁ Bd hml0 hP hK
  obtain ⟨rfl, hZ, hh⟩ := hP
  have hx := Bd.exec
  have hby := Bd.bytes
  have hml : c.maxLocals = 2 := hml0
  have hown : s.vm.findClass "java/lang/Math" = some m.cls := findClass_of_methodNamed Bd.named
  have hnm := (name_of_methodNamed Bd.named Bd.method).1
  have X0 : Stand p l e ({ frames := 0, cells := 0, slots := 0, locals := 0 } : Room) s m #[(.int p1), (.int p2)] below meth c s₁ [] 0 0 := Stand.of_body Bd
  have e0 : s₁.heap = h0 := by rw [← hh, Bd.state]; rfl
  have N0 := Fr.nil n0
  have pre0 : ∀ t, Steps p.tables e below (s₁.setTop (mkF m 0 #[.val (.int p1), .val (.int p2)] [])) t → Steps p.tables e below (s₁.setTop (entryFrame m #[(.int p1), (.int p2)] 2)) t := fun t k => castTop (ef_8 m p1 p2) k
  have R2 : ∀ t, Steps p.tables e below (s₁.setTop (mkF m 2 #[.val (.int p1), .val (.int p2)] [(.int p2), (.int p1)])) t → Steps p.tables e below (s₁.setTop (entryFrame m #[(.int p1), (.int p2)] 2)) t := by
    intro t kt
    refine pre0 _ ?_
    show Steps p.tables e below (s₁.setTop (mkF m 0 #[.val (.int p1), .val (.int p2)] [])) _
    refine XS.iloadN X0.here hx rfl (hb hby d8_0) rfl ?_
    show Steps p.tables e below (s₁.setTop (mkF m 1 #[.val (.int p1), .val (.int p2)] [(.int p1)])) _
    refine XS.iloadN X0.here hx rfl (hb hby d8_1) rfl ?_
    exact kt
  have J7 : ∃ (v5 : Int32), v5 = (if p2 < p1 then p2 else p1) ∧ ∀ t, Steps p.tables e below (s₁.setTop (mkF m 10 #[.val (.int p1), .val (.int p2)] [(.int v5)])) t → Steps p.tables e below (s₁.setTop (entryFrame m #[(.int p1), (.int p2)] 2)) t := by
    by_cases hc1 : p2 < p1
    · have R3 : ∀ t, Steps p.tables e below (s₁.setTop (mkF m 10 #[.val (.int p1), .val (.int p2)] [(.int p2)])) t → Steps p.tables e below (s₁.setTop (entryFrame m #[(.int p1), (.int p2)] 2)) t := by
        intro t kt
        refine R2 _ ?_
        show Steps p.tables e below (s₁.setTop (mkF m 2 #[.val (.int p1), .val (.int p2)] [(.int p2), (.int p1)])) _
        refine XS.icmpYes X0.here hx rfl (pc0 := 2) (pc' := 9) rfl (hb hby d8_2) rfl (tlt hc1).2.2.1 (by decide) (by decide) ?_
        show Steps p.tables e below (s₁.setTop (mkF m 9 #[.val (.int p1), .val (.int p2)] [])) _
        refine XS.iloadN X0.here hx rfl (hb hby d8_9) rfl ?_
        exact kt
      exact ⟨p2, (by rw [if_pos hc1]), R3⟩
    · have R4 : ∀ t, Steps p.tables e below (s₁.setTop (mkF m 10 #[.val (.int p1), .val (.int p2)] [(.int p1)])) t → Steps p.tables e below (s₁.setTop (entryFrame m #[(.int p1), (.int p2)] 2)) t := by
        intro t kt
        refine R2 _ ?_
        show Steps p.tables e below (s₁.setTop (mkF m 2 #[.val (.int p1), .val (.int p2)] [(.int p2), (.int p1)])) _
        refine XS.icmpNo X0.here hx rfl (hb hby d8_2) rfl (flt hc1).2.2.1 ?_
        show Steps p.tables e below (s₁.setTop (mkF m 5 #[.val (.int p1), .val (.int p2)] [])) _
        refine XS.iloadN X0.here hx rfl (hb hby d8_5) rfl ?_
        show Steps p.tables e below (s₁.setTop (mkF m 6 #[.val (.int p1), .val (.int p2)] [(.int p1)])) _
        refine XS.goto X0.here hx rfl (pc0 := 6) (pc' := 10) rfl (hb hby d8_6) (by decide) (by decide) ?_
        exact kt
      exact ⟨p1, (by rw [if_neg hc1]), R4⟩
  obtain ⟨v5, hv5, R6⟩ := J7
  obtain ⟨fs, hr, hrun, hended, hW, hsame⟩ := X0.leave (v := some (.int v5)) (fun h => by rw [Bd.returns] at h; cases h)
  refine ⟨_, _, R6 _ ?_, hrun, hended, _, _, rfl, ?_, ⟨_, rfl⟩, hW, hsame.mono (by decide) (by decide)⟩
  · show Steps p.tables e below (s₁.setTop (mkF m 10 #[.val (.int p1), .val (.int p2)] [(.int v5)])) _
    exact retI X0 hx Bd.returns (hb hby d8_10) hr
  · show Q8 Z p1 p2 h0 n0 _ s₁.heap _
    rw [e0]
    refine ⟨?_, rfl, rfl⟩
    subst hv5; rfl
theorem d1_0 : decode method_3_code 0 = .ok (.lload_n 0, 1) := by decide +kernel
theorem d1_1 : decode method_3_code 1 = .ok (.aload_n 2, 1) := by decide +kernel
theorem d1_2 : decode method_3_code 2 = .ok (.iload_n 3, 1) := by decide +kernel
theorem d1_3 : decode method_3_code 3 = .ok (.laload, 1) := by decide +kernel
theorem d1_4 : decode method_3_code 4 = .ok (.ldiv, 1) := by decide +kernel
theorem d1_5 : decode method_3_code 5 = .ok (.ldc2_w 7, 3) := by decide +kernel
theorem d1_8 : decode method_3_code 8 = .ok (.lrem, 1) := by decide +kernel
theorem d1_9 : decode method_3_code 9 = .ok (.l2i, 1) := by decide +kernel
theorem d1_10 : decode method_3_code 10 = .ok (.ireturn, 1) := by decide +kernel
theorem pn_1 : plainName "com/example/lookback/lookback/PlainDecimalsValueOfPinLaw" = true := by first | (simp [plainName, overriddenIn]; done) | decide +kernel
theorem ef_1 (m : MethodId) (x0 : Int64) (x1 : Addr) (x2 : Int32) : entryFrame m #[(.long x0), (.ref x1), (.int x2)] 4 = mkF m 0 #[.val (.long x0), .second, .val (.ref x1), .val (.int x2)] [] := by first | (simp [entryFrame, mkF, argsToLocals, Value.category]; done) | rfl
def F1 (q1 : Int64) (p3 : Int32) (u : Nat → Int64) : Int32 :=
  let v3 : Int64 := (q1 / (u p3.toNatClampNeg))
  ((v3 - (v3 / (10 : Int64)) * (10 : Int64)).toInt32)
def Q1 (Z : State) (q1 : Int64) (a2 : Addr) (p3 : Int32) (u : Nat → Int64) (h0 : Heap) (n0 : Nat) (v : Option Value) (h : Heap) (L : List Loc) : Prop := v = some (.int (F1 q1 p3 u)) ∧ L = [] ∧ h = h0
set_option maxRecDepth 65536 in
set_option maxHeartbeats 40000000 in
theorem rm1 (l : Launch) (Z : State) (a0 : Array Value) (hw : ∀ d ∈ tables_1, d.before a0 Z = true) (ws : List Jvm.Cond) (q1 : Int64) (a2 : Addr) (p3 : Int32) (u : Nat → Int64) (h0 : Heap) (n0 : Nat) (Z0 : n0 ≤ h0.size) (V : AF Z h0 a2 .long 10 (fun j => .long (u j))) (hp : 0 ≤ p3.toInt ∧ p3.toInt < 10) (hu : u p3.toNatClampNeg ≠ 0) :
    MetFree l (⟨"com/example/lookback/lookback/PlainDecimalsValueOfPinLaw", "digit", "(J[JI)I"⟩ : MethodName) (head1 (Jvm.Cond.code (⟨"com/example/lookback/lookback/PlainDecimalsValueOfPinLaw", "digit", "(J[JI)I"⟩ : MethodName) method_3_code 4 (some .int) :: ws) ({ frames := 0, cells := 0, slots := 0, locals := 0 } : Room)) (fun a U => a = #[(.long q1), (.ref a2), (.int p3)] ∧ Z.Warmed39 U.vm ∧ U.heap = h0) (fun _ _ _ _ _ => True) (fun _ U o U' => ∃ v L, o = .returned v ∧ Q1 Z q1 a2 p3 u h0 n0 v U'.heap L ∧ FrameEnd U o U' L ({ frames := 0, cells := 0, slots := 0, locals := 0 } : Room).cells ({ frames := 0, cells := 0, slots := 0, locals := 0 } : Room).slots) := by
  refine MetFree.of_bodySF (plainFor_of_name pn_1) hisR ?_
  intro p e s m args below meth c s₁ Bd hml0 hP hK
  obtain ⟨rfl, hZ, hh⟩ := hP
  have hx := Bd.exec
  have hby := Bd.bytes
  have hml : c.maxLocals = 4 := hml0
  have hown : s.vm.findClass "com/example/lookback/lookback/PlainDecimalsValueOfPinLaw" = some m.cls := findClass_of_methodNamed Bd.named
  have hnm := (name_of_methodNamed Bd.named Bd.method).1
  have X0 : Stand p l e ({ frames := 0, cells := 0, slots := 0, locals := 0 } : Room) s m #[(.long q1), (.ref a2), (.int p3)] below meth c s₁ [] 0 0 := Stand.of_body Bd
  have e0 : s₁.heap = h0 := by rw [← hh, Bd.state]; rfl
  have N0 := Fr.nil n0
  have pre0 : ∀ t, Steps p.tables e below (s₁.setTop (mkF m 0 #[.val (.long q1), .second, .val (.ref a2), .val (.int p3)] [])) t → Steps p.tables e below (s₁.setTop (entryFrame m #[(.long q1), (.ref a2), (.int p3)] 4)) t := fun t k => castTop (ef_1 m q1 a2 p3) k
  obtain ⟨cl1, Ar1, S1, H1⟩ := id V
  have hin1 := AF_in (j := p3) S1 hp.1 hp.2
  have hat1 := AF_at (j := p3) (w := (.long (u p3.toNatClampNeg))) H1 hp.1 hp.2 rfl
  have R2 : ∀ t, Steps p.tables e below (s₁.setTop (mkF m 8 #[.val (.long q1), .second, .val (.ref a2), .val (.int p3)] [(.long (10 : Int64)), (.long (q1 / (u p3.toNatClampNeg)))])) t → Steps p.tables e below (s₁.setTop (entryFrame m #[(.long q1), (.ref a2), (.int p3)] 4)) t := by
    intro t kt
    refine pre0 _ ?_
    show Steps p.tables e below (s₁.setTop (mkF m 0 #[.val (.long q1), .second, .val (.ref a2), .val (.int p3)] [])) _
    refine XS.lloadN X0.here hx rfl (hb hby d1_0) rfl ?_
    show Steps p.tables e below (s₁.setTop (mkF m 1 #[.val (.long q1), .second, .val (.ref a2), .val (.int p3)] [(.long q1)])) _
    refine XS.aloadN X0.here hx rfl (hb hby d1_1) rfl rfl ?_
    show Steps p.tables e below (s₁.setTop (mkF m 2 #[.val (.long q1), .second, .val (.ref a2), .val (.int p3)] [(.ref a2), (.long q1)])) _
    refine XS.iloadN X0.here hx rfl (hb hby d1_2) rfl ?_
    show Steps p.tables e below (s₁.setTop (mkF m 3 #[.val (.long q1), .second, .val (.ref a2), .val (.int p3)] [(.int p3), (.ref a2), (.long q1)])) _
    refine X0.laload hx (j := p3) (v := (.long (u p3.toNatClampNeg))) (by rw [e0]; exact Ar1.1) (State.isArrayOf_alike hZ.alike Ar1.2.1) Ar1.2.2 hin1 hat1 (g := (mkF m 3 #[.val (.long q1), .second, .val (.ref a2), .val (.int p3)] [(.int p3), (.ref a2), (.long q1)])) rfl rfl (hb hby d1_3) _ ?_
    show Steps p.tables e below (s₁.setTop (mkF m 4 #[.val (.long q1), .second, .val (.ref a2), .val (.int p3)] [(.long (u p3.toNatClampNeg)), (.long q1)])) _
    refine XS.ldiv X0.here hx rfl (hb hby d1_4) rfl hu ?_
    show Steps p.tables e below (s₁.setTop (mkF m 5 #[.val (.long q1), .second, .val (.ref a2), .val (.int p3)] [(.long (q1 / (u p3.toNatClampNeg)))])) _
    refine X0.ldc2Long hx hown (mvT hZ (hw _ (List.mem_of_getElem? (i := 1) rfl))) (g := (mkF m 5 #[.val (.long q1), .second, .val (.ref a2), .val (.int p3)] [(.long (q1 / (u p3.toNatClampNeg)))])) rfl (hb hby d1_5) _ ?_
    exact kt
  obtain ⟨v3, hv3⟩ : ∃ zz9 : Int64, zz9 = (q1 / (u p3.toNatClampNeg)) := ⟨_, rfl⟩
  rw [← hv3] at R2
  have R4 : ∀ t, Steps p.tables e below (s₁.setTop (mkF m 10 #[.val (.long q1), .second, .val (.ref a2), .val (.int p3)] [(.int ((v3 - (v3 / (10 : Int64)) * (10 : Int64)).toInt32))])) t → Steps p.tables e below (s₁.setTop (entryFrame m #[(.long q1), (.ref a2), (.int p3)] 4)) t := by
    intro t kt
    refine R2 _ ?_
    show Steps p.tables e below (s₁.setTop (mkF m 8 #[.val (.long q1), .second, .val (.ref a2), .val (.int p3)] [(.long (10 : Int64)), (.long v3)])) _
    refine XS.lrem X0.here hx rfl (hb hby d1_8) rfl (by decide) ?_
    show Steps p.tables e below (s₁.setTop (mkF m 9 #[.val (.long q1), .second, .val (.ref a2), .val (.int p3)] [(.long (v3 - (v3 / (10 : Int64)) * (10 : Int64)))])) _
    refine XS.l2i X0.here hx rfl (hb hby d1_9) rfl ?_
    exact kt
  obtain ⟨fs, hr, hrun, hended, hW, hsame⟩ := X0.leave (v := some (.int ((v3 - (v3 / (10 : Int64)) * (10 : Int64)).toInt32))) (fun h => by rw [Bd.returns] at h; cases h)
  refine ⟨_, _, R4 _ ?_, hrun, hended, _, _, rfl, ?_, ⟨_, rfl⟩, hW, hsame.mono (by decide) (by decide)⟩
  · show Steps p.tables e below (s₁.setTop (mkF m 10 #[.val (.long q1), .second, .val (.ref a2), .val (.int p3)] [(.int ((v3 - (v3 / (10 : Int64)) * (10 : Int64)).toInt32))])) _
    exact retI X0 hx Bd.returns (hb hby d1_10) hr
  · show Q1 Z q1 a2 p3 u h0 n0 _ s₁.heap _
    rw [e0]
    refine ⟨?_, rfl, rfl⟩
    subst hv3; rfl
theorem d9_0 : decode method_4_code 0 = .ok (.iload_n 2, 1) := by decide +kernel
theorem d9_1 : decode method_4_code 1 = .ok (.iload_n 3, 1) := by decide +kernel
theorem d9_2 : decode method_4_code 2 = .ok (.if_icmp .lt 9, 3) := by decide +kernel
theorem d9_5 : decode method_4_code 5 = .ok (.iload_n 2, 1) := by decide +kernel
theorem d9_6 : decode method_4_code 6 = .ok (.iload 4, 2) := by decide +kernel
theorem d9_8 : decode method_4_code 8 = .ok (.if_icmp .lt 5, 3) := by decide +kernel
theorem d9_11 : decode method_4_code 11 = .ok (.lconst 0, 1) := by decide +kernel
theorem d9_12 : decode method_4_code 12 = .ok (.lreturn, 1) := by decide +kernel
theorem d9_13 : decode method_4_code 13 = .ok (.aload_n 0, 1) := by decide +kernel
theorem d9_14 : decode method_4_code 14 = .ok (.iload_n 2, 1) := by decide +kernel
theorem d9_15 : decode method_4_code 15 = .ok (.iaload, 1) := by decide +kernel
theorem d9_16 : decode method_4_code 16 = .ok (.i2l, 1) := by decide +kernel
theorem d9_17 : decode method_4_code 17 = .ok (.aload_n 1, 1) := by decide +kernel
theorem d9_18 : decode method_4_code 18 = .ok (.iload 4, 2) := by decide +kernel
theorem d9_20 : decode method_4_code 20 = .ok (.iconst 1, 1) := by decide +kernel
theorem d9_21 : decode method_4_code 21 = .ok (.isub, 1) := by decide +kernel
theorem d9_22 : decode method_4_code 22 = .ok (.iload_n 2, 1) := by decide +kernel
theorem d9_23 : decode method_4_code 23 = .ok (.isub, 1) := by decide +kernel
theorem d9_24 : decode method_4_code 24 = .ok (.laload, 1) := by decide +kernel
theorem d9_25 : decode method_4_code 25 = .ok (.lmul, 1) := by decide +kernel
theorem d9_26 : decode method_4_code 26 = .ok (.lreturn, 1) := by decide +kernel
theorem pn_9 : plainName "com/example/lookback/lookback/PlainDecimalsValueOfPinLaw" = true := by first | (simp [plainName, overriddenIn]; done) | decide +kernel
theorem ef_9 (m : MethodId) (x0 : Addr) (x1 : Addr) (x2 : Int32) (x3 : Int32) (x4 : Int32) : entryFrame m #[(.ref x0), (.ref x1), (.int x2), (.int x3), (.int x4)] 5 = mkF m 0 #[.val (.ref x0), .val (.ref x1), .val (.int x2), .val (.int x3), .val (.int x4)] [] := by first | (simp [entryFrame, mkF, argsToLocals, Value.category]; done) | rfl
def F9 (p3 : Int32) (p4 : Int32) (p5 : Int32) (u : Nat → Int32) (pw : Nat → Int64) : Int64 :=
  (if p3 < p4 then (0 : Int64) else (if p3 < p5 then (((u p3.toNatClampNeg).toInt64) * (pw ((p5 - (1 : Int32)) - p3).toNatClampNeg)) else (0 : Int64)))
def Q9 (Z : State) (a1 : Addr) (a2 : Addr) (p3 : Int32) (p4 : Int32) (p5 : Int32) (u : Nat → Int32) (pw : Nat → Int64) (h0 : Heap) (n0 : Nat) (v : Option Value) (h : Heap) (L : List Loc) : Prop := v = some (.long (F9 p3 p4 p5 u pw)) ∧ L = [] ∧ h = h0
set_option maxRecDepth 65536 in
set_option maxHeartbeats 40000000 in
theorem rm9 (l : Launch) (Z : State) (a0 : Array Value) (hw : ∀ d ∈ tables_1, d.before a0 Z = true) (ws : List Jvm.Cond) (a1 : Addr) (a2 : Addr) (p3 : Int32) (p4 : Int32) (p5 : Int32) (u : Nat → Int32) (pw : Nat → Int64) (h0 : Heap) (n0 : Nat) (Z0 : n0 ≤ h0.size) (V1 : AF Z h0 a1 .int 12 (fun j => .int (u j))) (V2 : AF Z h0 a2 .long 10 (fun j => .long (pw j))) (h3 : 0 ≤ p3.toInt ∧ p3.toInt < 12) (h5 : ¬ p3 < p4 → p3 < p5 → 0 ≤ ((p5 - (1 : Int32)) - p3).toInt ∧ ((p5 - (1 : Int32)) - p3).toInt < 10) :
    MetFree l (⟨"com/example/lookback/lookback/PlainDecimalsValueOfPinLaw", "term", "([I[JIII)J"⟩ : MethodName) (head1 (Jvm.Cond.code (⟨"com/example/lookback/lookback/PlainDecimalsValueOfPinLaw", "term", "([I[JIII)J"⟩ : MethodName) method_4_code 5 (some .long) :: ws) ({ frames := 0, cells := 0, slots := 0, locals := 0 } : Room)) (fun a U => a = #[(.ref a1), (.ref a2), (.int p3), (.int p4), (.int p5)] ∧ Z.Warmed39 U.vm ∧ U.heap = h0) (fun _ _ _ _ _ => True) (fun _ U o U' => ∃ v L, o = .returned v ∧ Q9 Z a1 a2 p3 p4 p5 u pw h0 n0 v U'.heap L ∧ FrameEnd U o U' L ({ frames := 0, cells := 0, slots := 0, locals := 0 } : Room).cells ({ frames := 0, cells := 0, slots := 0, locals := 0 } : Room).slots) := by
  refine MetFree.of_bodySF (plainFor_of_name pn_9) hisR ?_
  intro p e s m args below meth c s₁ Bd hml0 hP hK
  obtain ⟨rfl, hZ, hh⟩ := hP
  have hx := Bd.exec
  have hby := Bd.bytes
  have hml : c.maxLocals = 5 := hml0
  have hown : s.vm.findClass "com/example/lookback/lookback/PlainDecimalsValueOfPinLaw" = some m.cls := findClass_of_methodNamed Bd.named
  have hnm := (name_of_methodNamed Bd.named Bd.method).1
  have X0 : Stand p l e ({ frames := 0, cells := 0, slots := 0, locals := 0 } : Room) s m #[(.ref a1), (.ref a2), (.int p3), (.int p4), (.int p5)] below meth c s₁ [] 0 0 := Stand.of_body Bd
  have e0 : s₁.heap = h0 := by rw [← hh, Bd.state]; rfl
  have N0 := Fr.nil n0
  have pre0 : ∀ t, Steps p.tables e below (s₁.setTop (mkF m 0 #[.val (.ref a1), .val (.ref a2), .val (.int p3), .val (.int p4), .val (.int p5)] [])) t → Steps p.tables e below (s₁.setTop (entryFrame m #[(.ref a1), (.ref a2), (.int p3), (.int p4), (.int p5)] 5)) t := fun t k => castTop (ef_9 m a1 a2 p3 p4 p5) k
  have R2 : ∀ t, Steps p.tables e below (s₁.setTop (mkF m 2 #[.val (.ref a1), .val (.ref a2), .val (.int p3), .val (.int p4), .val (.int p5)] [(.int p4), (.int p3)])) t → Steps p.tables e below (s₁.setTop (entryFrame m #[(.ref a1), (.ref a2), (.int p3), (.int p4), (.int p5)] 5)) t := by
    intro t kt
    refine pre0 _ ?_
    show Steps p.tables e below (s₁.setTop (mkF m 0 #[.val (.ref a1), .val (.ref a2), .val (.int p3), .val (.int p4), .val (.int p5)] [])) _
    refine XS.iloadN X0.here hx rfl (hb hby d9_0) rfl ?_
    show Steps p.tables e below (s₁.setTop (mkF m 1 #[.val (.ref a1), .val (.ref a2), .val (.int p3), .val (.int p4), .val (.int p5)] [(.int p3)])) _
    refine XS.iloadN X0.here hx rfl (hb hby d9_1) rfl ?_
    exact kt
  by_cases hc1 : p3 < p4
  · have R3 : ∀ t, Steps p.tables e below (s₁.setTop (mkF m 12 #[.val (.ref a1), .val (.ref a2), .val (.int p3), .val (.int p4), .val (.int p5)] [(.long (0 : Int64))])) t → Steps p.tables e below (s₁.setTop (entryFrame m #[(.ref a1), (.ref a2), (.int p3), (.int p4), (.int p5)] 5)) t := by
      intro t kt
      refine R2 _ ?_
      show Steps p.tables e below (s₁.setTop (mkF m 2 #[.val (.ref a1), .val (.ref a2), .val (.int p3), .val (.int p4), .val (.int p5)] [(.int p4), (.int p3)])) _
      refine XS.icmpYes X0.here hx rfl (pc0 := 2) (pc' := 11) rfl (hb hby d9_2) rfl (tlt hc1).1 (by decide) (by decide) ?_
      show Steps p.tables e below (s₁.setTop (mkF m 11 #[.val (.ref a1), .val (.ref a2), .val (.int p3), .val (.int p4), .val (.int p5)] [])) _
      refine XS.lconst X0.here hx rfl (hb hby d9_11) ?_
      exact kt
    obtain ⟨fs, hr, hrun, hended, hW, hsame⟩ := X0.leave (v := some (.long (0 : Int64))) (fun h => by rw [Bd.returns] at h; cases h)
    refine ⟨_, _, R3 _ ?_, hrun, hended, _, _, rfl, ?_, ⟨_, rfl⟩, hW, hsame.mono (by decide) (by decide)⟩
    · show Steps p.tables e below (s₁.setTop (mkF m 12 #[.val (.ref a1), .val (.ref a2), .val (.int p3), .val (.int p4), .val (.int p5)] [(.long (0 : Int64))])) _
      exact X0.lreturnOut hx Bd.returns (hb hby d9_12) hr
    · show Q9 Z a1 a2 p3 p4 p5 u pw h0 n0 _ s₁.heap _
      rw [e0]
      refine ⟨?_, rfl, rfl⟩
      simp only [F9, if_pos hc1]
  · have R5 : ∀ t, Steps p.tables e below (s₁.setTop (mkF m 8 #[.val (.ref a1), .val (.ref a2), .val (.int p3), .val (.int p4), .val (.int p5)] [(.int p5), (.int p3)])) t → Steps p.tables e below (s₁.setTop (entryFrame m #[(.ref a1), (.ref a2), (.int p3), (.int p4), (.int p5)] 5)) t := by
      intro t kt
      refine R2 _ ?_
      show Steps p.tables e below (s₁.setTop (mkF m 2 #[.val (.ref a1), .val (.ref a2), .val (.int p3), .val (.int p4), .val (.int p5)] [(.int p4), (.int p3)])) _
      refine XS.icmpNo X0.here hx rfl (hb hby d9_2) rfl (flt hc1).1 ?_
      show Steps p.tables e below (s₁.setTop (mkF m 5 #[.val (.ref a1), .val (.ref a2), .val (.int p3), .val (.int p4), .val (.int p5)] [])) _
      refine XS.iloadN X0.here hx rfl (hb hby d9_5) rfl ?_
      show Steps p.tables e below (s₁.setTop (mkF m 6 #[.val (.ref a1), .val (.ref a2), .val (.int p3), .val (.int p4), .val (.int p5)] [(.int p3)])) _
      refine XS.iload X0.here hx rfl (hb hby d9_6) rfl ?_
      exact kt
    by_cases hc4 : p3 < p5
    · obtain ⟨cl6, Ar6, S6, H6⟩ := id V1
      have hin6 := AF_in (j := p3) S6 h3.1 h3.2
      have hat6 := AF_at (j := p3) (w := (.int (u p3.toNatClampNeg))) H6 h3.1 h3.2 rfl
      obtain ⟨cl7, Ar7, S7, H7⟩ := id V2
      have hin7 := AF_in (j := ((p5 - (1 : Int32)) - p3)) S7 (h5 hc1 hc4).1 (h5 hc1 hc4).2
      have hat7 := AF_at (j := ((p5 - (1 : Int32)) - p3)) (w := (.long (pw ((p5 - (1 : Int32)) - p3).toNatClampNeg))) H7 (h5 hc1 hc4).1 (h5 hc1 hc4).2 rfl
      have R8 : ∀ t, Steps p.tables e below (s₁.setTop (mkF m 26 #[.val (.ref a1), .val (.ref a2), .val (.int p3), .val (.int p4), .val (.int p5)] [(.long (((u p3.toNatClampNeg).toInt64) * (pw ((p5 - (1 : Int32)) - p3).toNatClampNeg)))])) t → Steps p.tables e below (s₁.setTop (entryFrame m #[(.ref a1), (.ref a2), (.int p3), (.int p4), (.int p5)] 5)) t := by
        intro t kt
        refine R5 _ ?_
        show Steps p.tables e below (s₁.setTop (mkF m 8 #[.val (.ref a1), .val (.ref a2), .val (.int p3), .val (.int p4), .val (.int p5)] [(.int p5), (.int p3)])) _
        refine XS.icmpYes X0.here hx rfl (pc0 := 8) (pc' := 13) rfl (hb hby d9_8) rfl (tlt hc4).1 (by decide) (by decide) ?_
        show Steps p.tables e below (s₁.setTop (mkF m 13 #[.val (.ref a1), .val (.ref a2), .val (.int p3), .val (.int p4), .val (.int p5)] [])) _
        refine XS.aloadN X0.here hx rfl (hb hby d9_13) rfl rfl ?_
        show Steps p.tables e below (s₁.setTop (mkF m 14 #[.val (.ref a1), .val (.ref a2), .val (.int p3), .val (.int p4), .val (.int p5)] [(.ref a1)])) _
        refine XS.iloadN X0.here hx rfl (hb hby d9_14) rfl ?_
        show Steps p.tables e below (s₁.setTop (mkF m 15 #[.val (.ref a1), .val (.ref a2), .val (.int p3), .val (.int p4), .val (.int p5)] [(.int p3), (.ref a1)])) _
        refine X0.iaload hx (j := p3) (v := (.int (u p3.toNatClampNeg))) (by rw [e0]; exact Ar6.1) (State.isArrayOf_alike hZ.alike Ar6.2.1) Ar6.2.2 hin6 hat6 (g := (mkF m 15 #[.val (.ref a1), .val (.ref a2), .val (.int p3), .val (.int p4), .val (.int p5)] [(.int p3), (.ref a1)])) rfl rfl (hb hby d9_15) _ ?_
        show Steps p.tables e below (s₁.setTop (mkF m 16 #[.val (.ref a1), .val (.ref a2), .val (.int p3), .val (.int p4), .val (.int p5)] [(.int (u p3.toNatClampNeg))])) _
        refine XS.i2l X0.here hx rfl (hb hby d9_16) rfl ?_
        show Steps p.tables e below (s₁.setTop (mkF m 17 #[.val (.ref a1), .val (.ref a2), .val (.int p3), .val (.int p4), .val (.int p5)] [(.long ((u p3.toNatClampNeg).toInt64))])) _
        refine XS.aloadN X0.here hx rfl (hb hby d9_17) rfl rfl ?_
        show Steps p.tables e below (s₁.setTop (mkF m 18 #[.val (.ref a1), .val (.ref a2), .val (.int p3), .val (.int p4), .val (.int p5)] [(.ref a2), (.long ((u p3.toNatClampNeg).toInt64))])) _
        refine XS.iload X0.here hx rfl (hb hby d9_18) rfl ?_
        show Steps p.tables e below (s₁.setTop (mkF m 20 #[.val (.ref a1), .val (.ref a2), .val (.int p3), .val (.int p4), .val (.int p5)] [(.int p5), (.ref a2), (.long ((u p3.toNatClampNeg).toInt64))])) _
        refine XS.iconst X0.here hx rfl (hb hby d9_20) ?_
        show Steps p.tables e below (s₁.setTop (mkF m 21 #[.val (.ref a1), .val (.ref a2), .val (.int p3), .val (.int p4), .val (.int p5)] [(.int (1 : Int32)), (.int p5), (.ref a2), (.long ((u p3.toNatClampNeg).toInt64))])) _
        refine XS.isub X0.here hx rfl (hb hby d9_21) rfl ?_
        show Steps p.tables e below (s₁.setTop (mkF m 22 #[.val (.ref a1), .val (.ref a2), .val (.int p3), .val (.int p4), .val (.int p5)] [(.int (p5 - (1 : Int32))), (.ref a2), (.long ((u p3.toNatClampNeg).toInt64))])) _
        refine XS.iloadN X0.here hx rfl (hb hby d9_22) rfl ?_
        show Steps p.tables e below (s₁.setTop (mkF m 23 #[.val (.ref a1), .val (.ref a2), .val (.int p3), .val (.int p4), .val (.int p5)] [(.int p3), (.int (p5 - (1 : Int32))), (.ref a2), (.long ((u p3.toNatClampNeg).toInt64))])) _
        refine XS.isub X0.here hx rfl (hb hby d9_23) rfl ?_
        show Steps p.tables e below (s₁.setTop (mkF m 24 #[.val (.ref a1), .val (.ref a2), .val (.int p3), .val (.int p4), .val (.int p5)] [(.int ((p5 - (1 : Int32)) - p3)), (.ref a2), (.long ((u p3.toNatClampNeg).toInt64))])) _
        refine X0.laload hx (j := ((p5 - (1 : Int32)) - p3)) (v := (.long (pw ((p5 - (1 : Int32)) - p3).toNatClampNeg))) (by rw [e0]; exact Ar7.1) (State.isArrayOf_alike hZ.alike Ar7.2.1) Ar7.2.2 hin7 hat7 (g := (mkF m 24 #[.val (.ref a1), .val (.ref a2), .val (.int p3), .val (.int p4), .val (.int p5)] [(.int ((p5 - (1 : Int32)) - p3)), (.ref a2), (.long ((u p3.toNatClampNeg).toInt64))])) rfl rfl (hb hby d9_24) _ ?_
        show Steps p.tables e below (s₁.setTop (mkF m 25 #[.val (.ref a1), .val (.ref a2), .val (.int p3), .val (.int p4), .val (.int p5)] [(.long (pw ((p5 - (1 : Int32)) - p3).toNatClampNeg)), (.long ((u p3.toNatClampNeg).toInt64))])) _
        refine XS.lmul X0.here hx rfl (hb hby d9_25) rfl ?_
        exact kt
      obtain ⟨fs, hr, hrun, hended, hW, hsame⟩ := X0.leave (v := some (.long (((u p3.toNatClampNeg).toInt64) * (pw ((p5 - (1 : Int32)) - p3).toNatClampNeg)))) (fun h => by rw [Bd.returns] at h; cases h)
      refine ⟨_, _, R8 _ ?_, hrun, hended, _, _, rfl, ?_, ⟨_, rfl⟩, hW, hsame.mono (by decide) (by decide)⟩
      · show Steps p.tables e below (s₁.setTop (mkF m 26 #[.val (.ref a1), .val (.ref a2), .val (.int p3), .val (.int p4), .val (.int p5)] [(.long (((u p3.toNatClampNeg).toInt64) * (pw ((p5 - (1 : Int32)) - p3).toNatClampNeg)))])) _
        exact X0.lreturnOut hx Bd.returns (hb hby d9_26) hr
      · show Q9 Z a1 a2 p3 p4 p5 u pw h0 n0 _ s₁.heap _
        rw [e0]
        refine ⟨?_, rfl, rfl⟩
        simp only [F9, if_neg hc1, if_pos hc4]
    · have R9 : ∀ t, Steps p.tables e below (s₁.setTop (mkF m 12 #[.val (.ref a1), .val (.ref a2), .val (.int p3), .val (.int p4), .val (.int p5)] [(.long (0 : Int64))])) t → Steps p.tables e below (s₁.setTop (entryFrame m #[(.ref a1), (.ref a2), (.int p3), (.int p4), (.int p5)] 5)) t := by
        intro t kt
        refine R5 _ ?_
        show Steps p.tables e below (s₁.setTop (mkF m 8 #[.val (.ref a1), .val (.ref a2), .val (.int p3), .val (.int p4), .val (.int p5)] [(.int p5), (.int p3)])) _
        refine XS.icmpNo X0.here hx rfl (hb hby d9_8) rfl (flt hc4).1 ?_
        show Steps p.tables e below (s₁.setTop (mkF m 11 #[.val (.ref a1), .val (.ref a2), .val (.int p3), .val (.int p4), .val (.int p5)] [])) _
        refine XS.lconst X0.here hx rfl (hb hby d9_11) ?_
        exact kt
      obtain ⟨fs, hr, hrun, hended, hW, hsame⟩ := X0.leave (v := some (.long (0 : Int64))) (fun h => by rw [Bd.returns] at h; cases h)
      refine ⟨_, _, R9 _ ?_, hrun, hended, _, _, rfl, ?_, ⟨_, rfl⟩, hW, hsame.mono (by decide) (by decide)⟩
      · show Steps p.tables e below (s₁.setTop (mkF m 12 #[.val (.ref a1), .val (.ref a2), .val (.int p3), .val (.int p4), .val (.int p5)] [(.long (0 : Int64))])) _
        exact X0.lreturnOut hx Bd.returns (hb hby d9_12) hr
      · show Q9 Z a1 a2 p3 p4 p5 u pw h0 n0 _ s₁.heap _
        rw [e0]
        refine ⟨?_, rfl, rfl⟩
        simp only [F9, if_neg hc1, if_neg hc4]
theorem d10_5 : decode prog_50_method_5_code 5 = .ok (.iload 4, 2) := by decide +kernel
theorem d10_7 : decode prog_50_method_5_code 7 = .ok (.iload_n 2, 1) := by decide +kernel
theorem d10_8 : decode prog_50_method_5_code 8 = .ok (.if_icmp .ge 24, 3) := by decide +kernel
theorem d10_11 : decode prog_50_method_5_code 11 = .ok (.bipush 10, 2) := by decide +kernel
theorem d10_13 : decode prog_50_method_5_code 13 = .ok (.iload_n 3, 1) := by decide +kernel
theorem d10_14 : decode prog_50_method_5_code 14 = .ok (.imul, 1) := by decide +kernel
theorem d10_15 : decode prog_50_method_5_code 15 = .ok (.aload_n 0, 1) := by decide +kernel
theorem d10_16 : decode prog_50_method_5_code 16 = .ok (.iload 4, 2) := by decide +kernel
theorem d10_18 : decode prog_50_method_5_code 18 = .ok (.invokevirtual 24, 3) := by decide +kernel
theorem d10_21 : decode prog_50_method_5_code 21 = .ok (.bipush 48, 2) := by decide +kernel
theorem d10_23 : decode prog_50_method_5_code 23 = .ok (.isub, 1) := by decide +kernel
theorem d10_24 : decode prog_50_method_5_code 24 = .ok (.iadd, 1) := by decide +kernel
theorem d10_25 : decode prog_50_method_5_code 25 = .ok (.istore_n 3, 1) := by decide +kernel
theorem d10_26 : decode prog_50_method_5_code 26 = .ok (.iinc 4 1, 3) := by decide +kernel
theorem d10_29 : decode prog_50_method_5_code 29 = .ok (.goto (-24), 3) := by decide +kernel
theorem pd_10_11 : parseMethodDescriptor "(I)C" = some ⟨[.int], some .char⟩ := by decide +kernel
set_option maxRecDepth 65536 in
set_option maxHeartbeats 40000000 in
theorem own_turn {p : Program} {l : Launch} {e : Env} {s : State} {m : MethodId} {args : Array Value} {below : List Frame} {meth : Method} {c : Code} {T0 : State} {Z : State} {a0 : Array Value} {h0 : Heap} {n0 : Nat} (a1 : Addr) (s1 : Slot) (i2 : Int32) (i3 : Int32) (i4 : Int32) (tv : Addr) (z : Int32) (u : Nat → Int32) (G1 : Int32) (G3 : Value)
    (X0 : Stand p l e ({ frames := 4, cells := 0, slots := 0, locals := 54 } : Room) s m args below meth c T0 [] 0 0) (hx : p.tables.exec = Jvm.exec) (hZ : Z.Warmed39 s.vm) (hw : ∀ d ∈ tables_1, d.before a0 Z = true) (hby : c.code = prog_50_method_5_code) (hml : c.maxLocals = 5) (hown : s.vm.findClass "com/example/lookback/lookback/PlainDecimals" = some m.cls) (e0 : T0.heap = h0) (Z0 : n0 ≤ h0.size) (Ex : Exa Z h0 a1 "java/lang/String") (Fc : Fld Z h0 a1 "java/lang/String" "coder" "B" (.int (0 : Int32))) (Fv : Fld Z h0 a1 "java/lang/String" "value" "[B" (.ref tv)) (V : AF Z h0 tv .byte z.toNatClampNeg (fun j => .int (u j))) (hz : ¬ z < 0) (O2 : Sta Z h0 "java/lang/String" "COMPACT_STRINGS" "Z" (.int G1)) (P5 : ¬ (G1 = (0 : Int32))) (O4 : Sta Z h0 "jdk/internal/util/Preconditions" "SIOOBE_FORMATTER" "Ljava/util/function/BiFunction;" G3) (rG3 : G3.isRef = true) (h1 : ¬ i4 < 0) (h2 : i4 < z) (hc : i4 < i2) :
    ∃ (T' : State), Stand p l e ({ frames := 4, cells := 0, slots := 0, locals := 54 } : Room) s m args below meth c T' [] 0 0 ∧ T'.heap = h0 ∧ ∀ t, Steps p.tables e below (T'.setTop (mkF m 5 #[.val (.ref a1), s1, .val (.int i2), .val (.int (((10 : Int32) * i3) + ((F11 i4 u) - (48 : Int32)))), .val (.int (i4 + (1 : Int32)))] [])) t → Steps p.tables e below (T0.setTop (mkF m 5 #[.val (.ref a1), s1, .val (.int i2), .val (.int i3), .val (.int i4)] [])) t := by
  have pre0 : ∀ t, Steps p.tables e below (T0.setTop (mkF m 5 #[.val (.ref a1), s1, .val (.int i2), .val (.int i3), .val (.int i4)] [])) t → Steps p.tables e below (T0.setTop (mkF m 5 #[.val (.ref a1), s1, .val (.int i2), .val (.int i3), .val (.int i4)] [])) t := fun _ k => k
  obtain ⟨cq1, kq1, q1a, q1b, q1c⟩ := isOf hZ e0 Ex
  obtain ⟨_, _, ⟨T1, L1, k1, n1⟩, -, X1, ⟨Lc1, hQ1, l1, y1, z1⟩, st1⟩ := X0.virtualBack hx (y := (⟨"java/lang/String", "charAt", "(I)C"⟩ : MethodName)) (z := (⟨"java/lang/String", "charAt", "(I)C"⟩ : MethodName)) hown (mvT hZ (hw _ (List.mem_of_getElem? (i := 57) rfl))) (mvT hZ (hw _ (List.mem_of_getElem? (i := 58) rfl))) (notFace_of_selects (args := #[]) (mvT hZ (hw _ (List.mem_of_getElem? (i := 60) rfl)))) (mvT hZ (hw _ (List.mem_of_getElem? (i := 60) rfl))) (mvT hZ (hw _ (List.mem_of_getElem? (i := 59) rfl))) (by decide) (backOf (W := 1) (rm11 l Z a0 hw [] a1 i4 tv z u G1 G3 h0 n0 Z0 Ex Fc Fv V hz h1 h2 O2 P5 O4 rG3) hZ (hw _ (List.mem_of_getElem? (i := 61) rfl)) (hw _ (List.mem_of_getElem? (i := 18) rfl)) (by decide) (by decide)) q1a q1c (g := (mkF m 18 #[.val (.ref a1), s1, .val (.int i2), .val (.int i3), .val (.int i4)] [(.int i4), (.ref a1), (.int ((10 : Int32) * i3))])) rfl (by rw [hml]; rfl) (Steps.refl _) (argsL := [(.int i4)]) (rest := [(.int ((10 : Int32) * i3))]) (lenOf pd_10_11 rfl) rfl (by show 2 * 0 + _ ≤ _; exact Nat.le_of_eq rfl) (hb hby d10_18) (fun _ _ => ⟨rfl, e0, (by decide : 0 + 0 ≤ _), (by decide : 0 + 0 ≤ _)⟩)
  dsimp only [Pt.U, Pt.locs, Pt.cells, Pt.slots] at X1 l1 y1 z1 st1 hQ1
  subst l1 y1 z1
  obtain ⟨rfl, rfl, e1⟩ := hQ1
  replace X1 : Stand p l e ({ frames := 4, cells := 0, slots := 0, locals := 54 } : Room) s m args below meth c T1 [] 0 0 := X1
  have R2 : ∀ t, Steps p.tables e below (T1.setTop (mkF m 5 #[.val (.ref a1), s1, .val (.int i2), .val (.int (((10 : Int32) * i3) + ((F11 i4 u) - (48 : Int32)))), .val (.int (i4 + (1 : Int32)))] [])) t → Steps p.tables e below (T0.setTop (mkF m 5 #[.val (.ref a1), s1, .val (.int i2), .val (.int i3), .val (.int i4)] [])) t := by
    intro t kt
    refine pre0 _ ?_
    show Steps p.tables e below (T0.setTop (mkF m 5 #[.val (.ref a1), s1, .val (.int i2), .val (.int i3), .val (.int i4)] [])) _
    refine XS.iload X0.here hx rfl (hb hby d10_5) rfl ?_
    show Steps p.tables e below (T0.setTop (mkF m 7 #[.val (.ref a1), s1, .val (.int i2), .val (.int i3), .val (.int i4)] [(.int i4)])) _
    refine XS.iloadN X0.here hx rfl (hb hby d10_7) rfl ?_
    show Steps p.tables e below (T0.setTop (mkF m 8 #[.val (.ref a1), s1, .val (.int i2), .val (.int i3), .val (.int i4)] [(.int i2), (.int i4)])) _
    refine XS.icmpNo X0.here hx rfl (hb hby d10_8) rfl (tlt hc).2.1 ?_
    show Steps p.tables e below (T0.setTop (mkF m 11 #[.val (.ref a1), s1, .val (.int i2), .val (.int i3), .val (.int i4)] [])) _
    refine XS.bipush X0.here hx rfl (hb hby d10_11) ?_
    show Steps p.tables e below (T0.setTop (mkF m 13 #[.val (.ref a1), s1, .val (.int i2), .val (.int i3), .val (.int i4)] [(.int (10 : Int32))])) _
    refine XS.iloadN X0.here hx rfl (hb hby d10_13) rfl ?_
    show Steps p.tables e below (T0.setTop (mkF m 14 #[.val (.ref a1), s1, .val (.int i2), .val (.int i3), .val (.int i4)] [(.int i3), (.int (10 : Int32))])) _
    refine XS.imul X0.here hx rfl (hb hby d10_14) rfl ?_
    show Steps p.tables e below (T0.setTop (mkF m 15 #[.val (.ref a1), s1, .val (.int i2), .val (.int i3), .val (.int i4)] [(.int ((10 : Int32) * i3))])) _
    refine XS.aloadN X0.here hx rfl (hb hby d10_15) rfl rfl ?_
    show Steps p.tables e below (T0.setTop (mkF m 16 #[.val (.ref a1), s1, .val (.int i2), .val (.int i3), .val (.int i4)] [(.ref a1), (.int ((10 : Int32) * i3))])) _
    refine XS.iload X0.here hx rfl (hb hby d10_16) rfl ?_
    show Steps p.tables e below (T0.setTop (mkF m 18 #[.val (.ref a1), s1, .val (.int i2), .val (.int i3), .val (.int i4)] [(.int i4), (.ref a1), (.int ((10 : Int32) * i3))])) _
    refine st1.trans ?_
    show Steps p.tables e below (T1.setTop (mkF m 21 #[.val (.ref a1), s1, .val (.int i2), .val (.int i3), .val (.int i4)] [(.int (F11 i4 u)), (.int ((10 : Int32) * i3))])) _
    refine XS.bipush X1.here hx rfl (hb hby d10_21) ?_
    show Steps p.tables e below (T1.setTop (mkF m 23 #[.val (.ref a1), s1, .val (.int i2), .val (.int i3), .val (.int i4)] [(.int (48 : Int32)), (.int (F11 i4 u)), (.int ((10 : Int32) * i3))])) _
    refine XS.isub X1.here hx rfl (hb hby d10_23) rfl ?_
    show Steps p.tables e below (T1.setTop (mkF m 24 #[.val (.ref a1), s1, .val (.int i2), .val (.int i3), .val (.int i4)] [(.int ((F11 i4 u) - (48 : Int32))), (.int ((10 : Int32) * i3))])) _
    refine XS.iadd X1.here hx rfl (hb hby d10_24) rfl ?_
    show Steps p.tables e below (T1.setTop (mkF m 25 #[.val (.ref a1), s1, .val (.int i2), .val (.int i3), .val (.int i4)] [(.int (((10 : Int32) * i3) + ((F11 i4 u) - (48 : Int32))))])) _
    refine XS.istoreN X1.here hx rfl (hb hby d10_25) rfl (l' := #[.val (.ref a1), s1, .val (.int i2), .val (.int (((10 : Int32) * i3) + ((F11 i4 u) - (48 : Int32)))), .val (.int i4)]) rfl ?_
    show Steps p.tables e below (T1.setTop (mkF m 26 #[.val (.ref a1), s1, .val (.int i2), .val (.int (((10 : Int32) * i3) + ((F11 i4 u) - (48 : Int32)))), .val (.int i4)] [])) _
    refine XS.iinc X1.here hx rfl (hb hby d10_26) rfl (l' := #[.val (.ref a1), s1, .val (.int i2), .val (.int (((10 : Int32) * i3) + ((F11 i4 u) - (48 : Int32)))), .val (.int (i4 + (1 : Int32)))]) rfl ?_
    show Steps p.tables e below (T1.setTop (mkF m 29 #[.val (.ref a1), s1, .val (.int i2), .val (.int (((10 : Int32) * i3) + ((F11 i4 u) - (48 : Int32)))), .val (.int (i4 + (1 : Int32)))] [])) _
    refine XS.goto X1.here hx rfl (pc0 := 29) (pc' := 5) rfl (hb hby d10_29) (by decide) (by decide) ?_
    exact kt
  exact ⟨T1, X1, e1, R2⟩
set_option maxRecDepth 65536 in
set_option maxHeartbeats 40000000 in
theorem own_leave {p : Program} {l : Launch} {e : Env} {s : State} {m : MethodId} {args : Array Value} {below : List Frame} {meth : Method} {c : Code} {T0 : State} {Z : State} {a0 : Array Value} {h0 : Heap} {n0 : Nat} (a1 : Addr) (s1 : Slot) (i2 : Int32) (i3 : Int32) (i4 : Int32)
    (X0 : Stand p l e ({ frames := 4, cells := 0, slots := 0, locals := 54 } : Room) s m args below meth c T0 [] 0 0) (hx : p.tables.exec = Jvm.exec) (hZ : Z.Warmed39 s.vm) (hw : ∀ d ∈ tables_1, d.before a0 Z = true) (hby : c.code = prog_50_method_5_code) (hml : c.maxLocals = 5) (hown : s.vm.findClass "com/example/lookback/lookback/PlainDecimals" = some m.cls) (e0 : T0.heap = h0) (Z0 : n0 ≤ h0.size) (hc : ¬ i4 < i2) :
    ∃ (T' : State), Stand p l e ({ frames := 4, cells := 0, slots := 0, locals := 54 } : Room) s m args below meth c T' [] 0 0 ∧ T'.heap = h0 ∧ ∀ t, Steps p.tables e below (T'.setTop (mkF m 32 #[.val (.ref a1), s1, .val (.int i2), .val (.int i3), .val (.int i4)] [])) t → Steps p.tables e below (T0.setTop (mkF m 5 #[.val (.ref a1), s1, .val (.int i2), .val (.int i3), .val (.int i4)] [])) t := by
  have pre0 : ∀ t, Steps p.tables e below (T0.setTop (mkF m 5 #[.val (.ref a1), s1, .val (.int i2), .val (.int i3), .val (.int i4)] [])) t → Steps p.tables e below (T0.setTop (mkF m 5 #[.val (.ref a1), s1, .val (.int i2), .val (.int i3), .val (.int i4)] [])) t := fun _ k => k
  have R1 : ∀ t, Steps p.tables e below (T0.setTop (mkF m 32 #[.val (.ref a1), s1, .val (.int i2), .val (.int i3), .val (.int i4)] [])) t → Steps p.tables e below (T0.setTop (mkF m 5 #[.val (.ref a1), s1, .val (.int i2), .val (.int i3), .val (.int i4)] [])) t := by
    intro t kt
    refine pre0 _ ?_
    show Steps p.tables e below (T0.setTop (mkF m 5 #[.val (.ref a1), s1, .val (.int i2), .val (.int i3), .val (.int i4)] [])) _
    refine XS.iload X0.here hx rfl (hb hby d10_5) rfl ?_
    show Steps p.tables e below (T0.setTop (mkF m 7 #[.val (.ref a1), s1, .val (.int i2), .val (.int i3), .val (.int i4)] [(.int i4)])) _
    refine XS.iloadN X0.here hx rfl (hb hby d10_7) rfl ?_
    show Steps p.tables e below (T0.setTop (mkF m 8 #[.val (.ref a1), s1, .val (.int i2), .val (.int i3), .val (.int i4)] [(.int i2), (.int i4)])) _
    refine XS.icmpYes X0.here hx rfl (pc0 := 8) (pc' := 32) rfl (hb hby d10_8) rfl (flt hc).2.1 (by decide) (by decide) ?_
    exact kt
  exact ⟨T0, X0, e0, R1⟩
def own_c (u : Nat → Int32) (j : Nat) : Int32 := (nar .char (nar .char (((u j) &&& (255 : Int32)).toUInt32.toUInt16.toUInt32.toInt32)))
theorem own_F11 (p : Int32) (u : Nat → Int32) : F11 p u = own_c u p.toNatClampNeg := rfl
def own_val (u : Nat → Int32) (i : Nat) : Nat → Int32
  | 0 => 0
  | k + 1 => (((10 : Int32) * own_val u i k) + (own_c u (i + k) - (48 : Int32)))
theorem own_k0 {p2 p3 z : Int32} (hp : 0 ≤ p2.toInt ∧ p2.toInt ≤ p3.toInt ∧ p3.toInt ≤ z.toInt) : p2.toInt + ((p3.toNatClampNeg - p2.toNatClampNeg : Nat) : Int) = p3.toInt := by
  simp only [Int32.toNatClampNeg]; omega
theorem own_v0 (u : Nat → Int32) (p2 : Int32) : (0 : Int32) = own_val u p2.toNatClampNeg (p2.toNatClampNeg - p2.toNatClampNeg) := by rw [Nat.sub_self]; rfl
theorem own_loop {p : Program} {l : Launch} {e : Env} {s : State} {m : MethodId} {args : Array Value} {below : List Frame} {meth : Method} {c : Code} {Z : State} {a0 : Array Value} {h0 : Heap} {n0 : Nat} (a1 : Addr) (s1 : Slot) (p2 p3 : Int32) (tv : Addr) (z : Int32) (u : Nat → Int32) (G1 : Int32) (G3 : Value)
    (hx : p.tables.exec = Jvm.exec) (hZ : Z.Warmed39 s.vm) (hw : ∀ d ∈ tables_1, d.before a0 Z = true) (hby : c.code = prog_50_method_5_code) (hml : c.maxLocals = 5) (hown : s.vm.findClass "com/example/lookback/lookback/PlainDecimals" = some m.cls) (Z0 : n0 ≤ h0.size) (Ex : Exa Z h0 a1 "java/lang/String") (Fc : Fld Z h0 a1 "java/lang/String" "coder" "B" (.int (0 : Int32))) (Fv : Fld Z h0 a1 "java/lang/String" "value" "[B" (.ref tv)) (V : AF Z h0 tv .byte z.toNatClampNeg (fun j => .int (u j))) (hz : ¬ z < 0) (O2 : Sta Z h0 "java/lang/String" "COMPACT_STRINGS" "Z" (.int G1)) (P5 : ¬ (G1 = (0 : Int32))) (O4 : Sta Z h0 "jdk/internal/util/Preconditions" "SIOOBE_FORMATTER" "Ljava/util/function/BiFunction;" G3) (rG3 : G3.isRef = true) (hp1 : 0 ≤ p2.toInt) (hp3 : p3.toInt ≤ z.toInt) :
    ∀ (k : Nat) (i4 i3 : Int32) (T0 : State), i4.toInt + (k : Int) = p3.toInt → p2.toInt ≤ i4.toInt → Stand p l e ({ frames := 4, cells := 0, slots := 0, locals := 54 } : Room) s m args below meth c T0 [] 0 0 → T0.heap = h0 → i3 = own_val u p2.toNatClampNeg (i4.toNatClampNeg - p2.toNatClampNeg) →
      ∃ (T' : State), Stand p l e ({ frames := 4, cells := 0, slots := 0, locals := 54 } : Room) s m args below meth c T' [] 0 0 ∧ T'.heap = h0 ∧
        ∀ t, Steps p.tables e below (T'.setTop (mkF m 32 #[.val (.ref a1), s1, .val (.int p3), .val (.int (own_val u p2.toNatClampNeg (p3.toNatClampNeg - p2.toNatClampNeg))), .val (.int p3)] [])) t → Steps p.tables e below (T0.setTop (mkF m 5 #[.val (.ref a1), s1, .val (.int p3), .val (.int i3), .val (.int i4)] [])) t := by
  intro k
  induction k with
  | zero =>
    intro i4 i3 T0 hi h4 X0 e0 hv
    have hi' : i4 = p3 := Int32.toInt_inj.mp (by omega)
    subst hi' hv
    exact own_leave a1 s1 i4 _ i4 X0 hx hZ hw hby hml hown e0 Z0 Int32.lt_irrefl
  | succ k ih =>
    intro i4 i3 T0 hi h4 X0 e0 hv
    have h1 : ¬ i4 < 0 := by rw [Int32.lt_iff_toInt_lt, show (0 : Int32).toInt = 0 from rfl]; omega
    have h2 : i4 < z := by rw [Int32.lt_iff_toInt_lt]; omega
    have hc : i4 < p3 := by rw [Int32.lt_iff_toInt_lt]; omega
    obtain ⟨T1, X1, e1, st1⟩ := own_turn a1 s1 p3 i3 i4 tv z u G1 G3 X0 hx hZ hw hby hml hown e0 Z0 Ex Fc Fv V hz O2 P5 O4 rG3 h1 h2 hc
    have a := c_iadd i4 1
    have r1 := rng32 (i4 + 1)
    have r2 := rng32 p3
    rw [show (1 : Int32).toInt = 1 from rfl] at a
    have e5 : (i4 + 1).toInt = i4.toInt + 1 := by omega
    have n5 : (i4 + 1).toNatClampNeg - p2.toNatClampNeg = (i4.toNatClampNeg - p2.toNatClampNeg) + 1 := by simp only [Int32.toNatClampNeg, e5]; omega
    have n6 : p2.toNatClampNeg + (i4.toNatClampNeg - p2.toNatClampNeg) = i4.toNatClampNeg := by simp only [Int32.toNatClampNeg]; omega
    obtain ⟨T', X', e', st⟩ := ih (i4 + 1) (((10 : Int32) * i3) + ((F11 i4 u) - (48 : Int32))) T1 (by omega) (by omega) X1 e1 (by
      rw [n5, hv, own_F11]
      show _ = (((10 : Int32) * own_val u p2.toNatClampNeg (i4.toNatClampNeg - p2.toNatClampNeg)) + (own_c u (p2.toNatClampNeg + (i4.toNatClampNeg - p2.toNatClampNeg)) - (48 : Int32)))
      rw [n6])
    exact ⟨T', X', e', fun t h => st1 t (st t h)⟩
theorem d10_0 : decode prog_50_method_5_code 0 = .ok (.iconst 0, 1) := by decide +kernel
theorem d10_1 : decode prog_50_method_5_code 1 = .ok (.istore_n 3, 1) := by decide +kernel
theorem d10_2 : decode prog_50_method_5_code 2 = .ok (.iload_n 1, 1) := by decide +kernel
theorem d10_3 : decode prog_50_method_5_code 3 = .ok (.istore 4, 2) := by decide +kernel
theorem d10_32 : decode prog_50_method_5_code 32 = .ok (.iload_n 3, 1) := by decide +kernel
theorem d10_33 : decode prog_50_method_5_code 33 = .ok (.ireturn, 1) := by decide +kernel
theorem pn_10 : plainName "com/example/lookback/lookback/PlainDecimals" = true := by first | (simp [plainName, overriddenIn]; done) | decide +kernel
theorem ef_10 (m : MethodId) (x0 : Addr) (x1 : Int32) (x2 : Int32) : entryFrame m #[(.ref x0), (.int x1), (.int x2)] 5 = mkF m 0 #[.val (.ref x0), .val (.int x1), .val (.int x2), .unset, .unset] [] := by first | (simp [entryFrame, mkF, argsToLocals, Value.category]; done) | rfl
def F10 (p2 : Int32) (p3 : Int32) (u : Nat → Int32) : Int32 :=
  (own_val u p2.toNatClampNeg (p3.toNatClampNeg - p2.toNatClampNeg))
def Q10 (Z : State) (a1 : Addr) (p2 : Int32) (p3 : Int32) (tv : Addr) (z : Int32) (u : Nat → Int32) (G1 : Int32) (G3 : Value) (h0 : Heap) (n0 : Nat) (v : Option Value) (h : Heap) (L : List Loc) : Prop := v = some (.int (F10 p2 p3 u)) ∧ L = [] ∧ h = h0
set_option maxRecDepth 65536 in
set_option maxHeartbeats 40000000 in
theorem rm10 (l : Launch) (Z : State) (a0 : Array Value) (hw : ∀ d ∈ tables_1, d.before a0 Z = true) (ws : List Jvm.Cond) (a1 : Addr) (p2 : Int32) (p3 : Int32) (tv : Addr) (z : Int32) (u : Nat → Int32) (G1 : Int32) (G3 : Value) (h0 : Heap) (n0 : Nat) (Z0 : n0 ≤ h0.size) (Ex : Exa Z h0 a1 "java/lang/String") (Fc : Fld Z h0 a1 "java/lang/String" "coder" "B" (.int (0 : Int32))) (Fv : Fld Z h0 a1 "java/lang/String" "value" "[B" (.ref tv)) (V : AF Z h0 tv .byte z.toNatClampNeg (fun j => .int (u j))) (hz : ¬ z < 0) (O2 : Sta Z h0 "java/lang/String" "COMPACT_STRINGS" "Z" (.int G1)) (P5 : ¬ (G1 = (0 : Int32))) (O4 : Sta Z h0 "jdk/internal/util/Preconditions" "SIOOBE_FORMATTER" "Ljava/util/function/BiFunction;" G3) (rG3 : G3.isRef = true) (hp : 0 ≤ p2.toInt ∧ p2.toInt ≤ p3.toInt ∧ p3.toInt ≤ z.toInt) :
    MetFree l (⟨"com/example/lookback/lookback/PlainDecimals", "valueOf", "(Ljava/lang/String;II)I"⟩ : MethodName) (head1 (Jvm.Cond.code (⟨"com/example/lookback/lookback/PlainDecimals", "valueOf", "(Ljava/lang/String;II)I"⟩ : MethodName) prog_50_method_5_code 5 (some .int) :: ws) ({ frames := 4, cells := 0, slots := 0, locals := 54 } : Room)) (fun a U => a = #[(.ref a1), (.int p2), (.int p3)] ∧ Z.Warmed39 U.vm ∧ U.heap = h0) (fun _ _ _ _ _ => True) (fun _ U o U' => ∃ v L, o = .returned v ∧ Q10 Z a1 p2 p3 tv z u G1 G3 h0 n0 v U'.heap L ∧ FrameEnd U o U' L ({ frames := 4, cells := 0, slots := 0, locals := 54 } : Room).cells ({ frames := 4, cells := 0, slots := 0, locals := 54 } : Room).slots) := by
  refine MetFree.of_bodySF (plainFor_of_name pn_10) hisR ?_
  intro p e s m args below meth c s₁ Bd hml0 hP hK
  obtain ⟨rfl, hZ, hh⟩ := hP
  have hx := Bd.exec
  have hby := Bd.bytes
  have hml : c.maxLocals = 5 := hml0
  have hown : s.vm.findClass "com/example/lookback/lookback/PlainDecimals" = some m.cls := findClass_of_methodNamed Bd.named
  have hnm := (name_of_methodNamed Bd.named Bd.method).1
  have X0 : Stand p l e ({ frames := 4, cells := 0, slots := 0, locals := 54 } : Room) s m #[(.ref a1), (.int p2), (.int p3)] below meth c s₁ [] 0 0 := Stand.of_body Bd
  have e0 : s₁.heap = h0 := by rw [← hh, Bd.state]; rfl
  have N0 := Fr.nil n0
  have pre0 : ∀ t, Steps p.tables e below (s₁.setTop (mkF m 0 #[.val (.ref a1), .val (.int p2), .val (.int p3), .unset, .unset] [])) t → Steps p.tables e below (s₁.setTop (entryFrame m #[(.ref a1), (.int p2), (.int p3)] 5)) t := fun t k => castTop (ef_10 m a1 p2 p3) k
  have R1 : ∀ t, Steps p.tables e below (s₁.setTop (mkF m 5 #[.val (.ref a1), .val (.int p2), .val (.int p3), .val (.int (0 : Int32)), .val (.int p2)] [])) t → Steps p.tables e below (s₁.setTop (entryFrame m #[(.ref a1), (.int p2), (.int p3)] 5)) t := by
    intro t kt
    refine pre0 _ ?_
    show Steps p.tables e below (s₁.setTop (mkF m 0 #[.val (.ref a1), .val (.int p2), .val (.int p3), .unset, .unset] [])) _
    refine XS.iconst X0.here hx rfl (hb hby d10_0) ?_
    show Steps p.tables e below (s₁.setTop (mkF m 1 #[.val (.ref a1), .val (.int p2), .val (.int p3), .unset, .unset] [(.int (0 : Int32))])) _
    refine XS.istoreN X0.here hx rfl (hb hby d10_1) rfl (l' := #[.val (.ref a1), .val (.int p2), .val (.int p3), .val (.int (0 : Int32)), .unset]) rfl ?_
    show Steps p.tables e below (s₁.setTop (mkF m 2 #[.val (.ref a1), .val (.int p2), .val (.int p3), .val (.int (0 : Int32)), .unset] [])) _
    refine XS.iloadN X0.here hx rfl (hb hby d10_2) rfl ?_
    show Steps p.tables e below (s₁.setTop (mkF m 3 #[.val (.ref a1), .val (.int p2), .val (.int p3), .val (.int (0 : Int32)), .unset] [(.int p2)])) _
    refine XS.istore X0.here hx rfl (hb hby d10_3) rfl (l' := #[.val (.ref a1), .val (.int p2), .val (.int p3), .val (.int (0 : Int32)), .val (.int p2)]) rfl ?_
    exact kt
  obtain ⟨T2, X2, e2, lp2⟩ := own_loop a1 (.val (.int p2)) p2 p3 tv z u G1 G3 hx hZ hw hby hml hown Z0 Ex Fc Fv V hz O2 P5 O4 rG3 hp.1 hp.2.2 (p3.toNatClampNeg - p2.toNatClampNeg) p2 (0 : Int32) s₁ (own_k0 hp) (Int.le_refl _) X0 e0 (own_v0 u p2)
  have R3 : ∀ t, Steps p.tables e below (T2.setTop (mkF m 32 #[.val (.ref a1), .val (.int p2), .val (.int p3), .val (.int (own_val u p2.toNatClampNeg (p3.toNatClampNeg - p2.toNatClampNeg))), .val (.int p3)] [])) t → Steps p.tables e below (s₁.setTop (entryFrame m #[(.ref a1), (.int p2), (.int p3)] 5)) t := fun t kt => R1 t (lp2 t kt)
  have R4 : ∀ t, Steps p.tables e below (T2.setTop (mkF m 33 #[.val (.ref a1), .val (.int p2), .val (.int p3), .val (.int (own_val u p2.toNatClampNeg (p3.toNatClampNeg - p2.toNatClampNeg))), .val (.int p3)] [(.int (own_val u p2.toNatClampNeg (p3.toNatClampNeg - p2.toNatClampNeg)))])) t → Steps p.tables e below (s₁.setTop (entryFrame m #[(.ref a1), (.int p2), (.int p3)] 5)) t := by
    intro t kt
    refine R3 _ ?_
    show Steps p.tables e below (T2.setTop (mkF m 32 #[.val (.ref a1), .val (.int p2), .val (.int p3), .val (.int (own_val u p2.toNatClampNeg (p3.toNatClampNeg - p2.toNatClampNeg))), .val (.int p3)] [])) _
    refine XS.iloadN X2.here hx rfl (hb hby d10_32) rfl ?_
    exact kt
  obtain ⟨fs, hr, hrun, hended, hW, hsame⟩ := X2.leave (v := some (.int (own_val u p2.toNatClampNeg (p3.toNatClampNeg - p2.toNatClampNeg)))) (fun h => by rw [Bd.returns] at h; cases h)
  refine ⟨_, _, R4 _ ?_, hrun, hended, _, _, rfl, ?_, ⟨_, rfl⟩, hW, hsame.mono (by decide) (by decide)⟩
  · show Steps p.tables e below (T2.setTop (mkF m 33 #[.val (.ref a1), .val (.int p2), .val (.int p3), .val (.int (own_val u p2.toNatClampNeg (p3.toNatClampNeg - p2.toNatClampNeg))), .val (.int p3)] [(.int (own_val u p2.toNatClampNeg (p3.toNatClampNeg - p2.toNatClampNeg)))])) _
    exact retI X2 hx Bd.returns (hb hby d10_33) hr
  · show Q10 Z a1 p2 p3 tv z u G1 G3 h0 n0 _ T2.heap _
    rw [e2]
    refine ⟨?_, rfl, rfl⟩
    rfl
def own_pw (j : Nat) : Int64 := ([1, 10, 100, 1000, 10000, 100000, 1000000, 10000000, 100000000, 1000000000] : List Int64).getD j 0
section OwnA
variable {Z : State} {h : Heap} {a : Addr}
theorem own_pow (V : AF Z h a .long 10 (fun i => if i = (9 : Int32).toNatClampNeg then .long (1000000000 : Int64) else if i = (8 : Int32).toNatClampNeg then .long (100000000 : Int64) else if i = (7 : Int32).toNatClampNeg then .long (10000000 : Int64) else if i = (6 : Int32).toNatClampNeg then .long (1000000 : Int64) else if i = (5 : Int32).toNatClampNeg then .long (100000 : Int64) else if i = (4 : Int32).toNatClampNeg then .long (10000 : Int64) else if i = (3 : Int32).toNatClampNeg then .long (1000 : Int64) else if i = (2 : Int32).toNatClampNeg then .long (100 : Int64) else if i = (1 : Int32).toNatClampNeg then .long (10 : Int64) else if i = (0 : Int32).toNatClampNeg then .long (1 : Int64) else .long (0 : Int64))) : AF Z h a .long 10 (fun j => .long (own_pw j)) := V.congr fun j hj => by
  match j, hj with
  | 0, _ => rfl
  | 1, _ => rfl
  | 2, _ => rfl
  | 3, _ => rfl
  | 4, _ => rfl
  | 5, _ => rfl
  | 6, _ => rfl
  | 7, _ => rfl
  | 8, _ => rfl
  | 9, _ => rfl
def own_d (q : Int64) : Nat → Int32
  | 1 => F1 q (0 : Int32) own_pw
  | 2 => F1 q (1 : Int32) own_pw
  | 3 => F1 q (2 : Int32) own_pw
  | 4 => F1 q (3 : Int32) own_pw
  | 5 => F1 q (4 : Int32) own_pw
  | 6 => F1 q (5 : Int32) own_pw
  | 7 => F1 q (6 : Int32) own_pw
  | 8 => F1 q (7 : Int32) own_pw
  | 9 => F1 q (8 : Int32) own_pw
  | 10 => F1 q (9 : Int32) own_pw
  | _ => 0
theorem own_dig {q : Int64} (V : AF Z h a .int 12 (fun i => if i = (10 : Int32).toNatClampNeg then .int (F1 q (9 : Int32) own_pw) else if i = (9 : Int32).toNatClampNeg then .int (F1 q (8 : Int32) own_pw) else if i = (8 : Int32).toNatClampNeg then .int (F1 q (7 : Int32) own_pw) else if i = (7 : Int32).toNatClampNeg then .int (F1 q (6 : Int32) own_pw) else if i = (6 : Int32).toNatClampNeg then .int (F1 q (5 : Int32) own_pw) else if i = (5 : Int32).toNatClampNeg then .int (F1 q (4 : Int32) own_pw) else if i = (4 : Int32).toNatClampNeg then .int (F1 q (3 : Int32) own_pw) else if i = (3 : Int32).toNatClampNeg then .int (F1 q (2 : Int32) own_pw) else if i = (2 : Int32).toNatClampNeg then .int (F1 q (1 : Int32) own_pw) else if i = (1 : Int32).toNatClampNeg then .int (F1 q (0 : Int32) own_pw) else .int (0 : Int32))) : AF Z h a .int 12 (fun j => .int (own_d q j)) := V.congr fun j hj => by
  match j, hj with
  | 0, _ => rfl
  | 1, _ => rfl
  | 2, _ => rfl
  | 3, _ => rfl
  | 4, _ => rfl
  | 5, _ => rfl
  | 6, _ => rfl
  | 7, _ => rfl
  | 8, _ => rfl
  | 9, _ => rfl
  | 10, _ => rfl
  | 11, _ => rfl
theorem own_chars {x y : Int32} {q : Int64} (V : AF Z h a .char 12 (fun i => if i = (11 : Int32).toNatClampNeg then .int (nar .char ((y &&& (255 : Int32)).toUInt32.toUInt16.toUInt32.toInt32)) else if i = (10 : Int32).toNatClampNeg then .int (nar .char (((48 : Int32) + (own_d q 10)).toUInt32.toUInt16.toUInt32.toInt32)) else if i = (9 : Int32).toNatClampNeg then .int (nar .char (((48 : Int32) + (own_d q 9)).toUInt32.toUInt16.toUInt32.toInt32)) else if i = (8 : Int32).toNatClampNeg then .int (nar .char (((48 : Int32) + (own_d q 8)).toUInt32.toUInt16.toUInt32.toInt32)) else if i = (7 : Int32).toNatClampNeg then .int (nar .char (((48 : Int32) + (own_d q 7)).toUInt32.toUInt16.toUInt32.toInt32)) else if i = (6 : Int32).toNatClampNeg then .int (nar .char (((48 : Int32) + (own_d q 6)).toUInt32.toUInt16.toUInt32.toInt32)) else if i = (5 : Int32).toNatClampNeg then .int (nar .char (((48 : Int32) + (own_d q 5)).toUInt32.toUInt16.toUInt32.toInt32)) else if i = (4 : Int32).toNatClampNeg then .int (nar .char (((48 : Int32) + (own_d q 4)).toUInt32.toUInt16.toUInt32.toInt32)) else if i = (3 : Int32).toNatClampNeg then .int (nar .char (((48 : Int32) + (own_d q 3)).toUInt32.toUInt16.toUInt32.toInt32)) else if i = (2 : Int32).toNatClampNeg then .int (nar .char (((48 : Int32) + (own_d q 2)).toUInt32.toUInt16.toUInt32.toInt32)) else if i = (1 : Int32).toNatClampNeg then .int (nar .char (((48 : Int32) + (own_d q 1)).toUInt32.toUInt16.toUInt32.toInt32)) else if i = (0 : Int32).toNatClampNeg then .int (nar .char ((x &&& (255 : Int32)).toUInt32.toUInt16.toUInt32.toInt32)) else .int (0 : Int32))) : ∃ k, Arv Z h a k .char (12 : Int32) (([(nar .char ((x &&& (255 : Int32)).toUInt32.toUInt16.toUInt32.toInt32)), (nar .char (((48 : Int32) + (own_d q 1)).toUInt32.toUInt16.toUInt32.toInt32)), (nar .char (((48 : Int32) + (own_d q 2)).toUInt32.toUInt16.toUInt32.toInt32)), (nar .char (((48 : Int32) + (own_d q 3)).toUInt32.toUInt16.toUInt32.toInt32)), (nar .char (((48 : Int32) + (own_d q 4)).toUInt32.toUInt16.toUInt32.toInt32)), (nar .char (((48 : Int32) + (own_d q 5)).toUInt32.toUInt16.toUInt32.toInt32)), (nar .char (((48 : Int32) + (own_d q 6)).toUInt32.toUInt16.toUInt32.toInt32)), (nar .char (((48 : Int32) + (own_d q 7)).toUInt32.toUInt16.toUInt32.toInt32)), (nar .char (((48 : Int32) + (own_d q 8)).toUInt32.toUInt16.toUInt32.toInt32)), (nar .char (((48 : Int32) + (own_d q 9)).toUInt32.toUInt16.toUInt32.toInt32)), (nar .char (((48 : Int32) + (own_d q 10)).toUInt32.toUInt16.toUInt32.toInt32)), (nar .char ((y &&& (255 : Int32)).toUInt32.toUInt16.toUInt32.toInt32))] : List Int32).map Value.int) (.int (0 : Int32)) := by
  refine V.arv rfl (by decide) (fun j hj => ?_) (fun j hj => ?_)
  · match j, hj with
    | 0, _ => rfl
    | 1, _ => rfl
    | 2, _ => rfl
    | 3, _ => rfl
    | 4, _ => rfl
    | 5, _ => rfl
    | 6, _ => rfl
    | 7, _ => rfl
    | 8, _ => rfl
    | 9, _ => rfl
    | 10, _ => rfl
    | 11, _ => rfl
  · match j, hj with
    | 0, _ => exact fits_nar_char _
    | 1, _ => exact fits_nar_char _
    | 2, _ => exact fits_nar_char _
    | 3, _ => exact fits_nar_char _
    | 4, _ => exact fits_nar_char _
    | 5, _ => exact fits_nar_char _
    | 6, _ => exact fits_nar_char _
    | 7, _ => exact fits_nar_char _
    | 8, _ => exact fits_nar_char _
    | 9, _ => exact fits_nar_char _
    | 10, _ => exact fits_nar_char _
    | 11, _ => exact fits_nar_char _
def own_u (x y : Int32) (q : Int64) (j : Nat) : Int32 := (([(nar .char ((x &&& (255 : Int32)).toUInt32.toUInt16.toUInt32.toInt32)), (nar .char (((48 : Int32) + (own_d q 1)).toUInt32.toUInt16.toUInt32.toInt32)), (nar .char (((48 : Int32) + (own_d q 2)).toUInt32.toUInt16.toUInt32.toInt32)), (nar .char (((48 : Int32) + (own_d q 3)).toUInt32.toUInt16.toUInt32.toInt32)), (nar .char (((48 : Int32) + (own_d q 4)).toUInt32.toUInt16.toUInt32.toInt32)), (nar .char (((48 : Int32) + (own_d q 5)).toUInt32.toUInt16.toUInt32.toInt32)), (nar .char (((48 : Int32) + (own_d q 6)).toUInt32.toUInt16.toUInt32.toInt32)), (nar .char (((48 : Int32) + (own_d q 7)).toUInt32.toUInt16.toUInt32.toInt32)), (nar .char (((48 : Int32) + (own_d q 8)).toUInt32.toUInt16.toUInt32.toInt32)), (nar .char (((48 : Int32) + (own_d q 9)).toUInt32.toUInt16.toUInt32.toInt32)), (nar .char (((48 : Int32) + (own_d q 10)).toUInt32.toUInt16.toUInt32.toInt32)), (nar .char ((y &&& (255 : Int32)).toUInt32.toUInt16.toUInt32.toInt32))] : List Int32).map (fun c => c.toInt8.toInt32)).getD j 0
theorem own_getD (f : Int32 → Value) : ∀ (l : List Int32) (k : Nat) (d : Int32), (l.map f).getD k (f d) = f (l.getD k d)
  | [], _, _ => rfl
  | _ :: _, 0, _ => rfl
  | _ :: r, k + 1, d => own_getD f r k d
theorem own_V {x y : Int32} {q : Int64} {k : ClassId} (V : Arv Z h a k .byte (12 : Int32) ((([(nar .char ((x &&& (255 : Int32)).toUInt32.toUInt16.toUInt32.toInt32)), (nar .char (((48 : Int32) + (own_d q 1)).toUInt32.toUInt16.toUInt32.toInt32)), (nar .char (((48 : Int32) + (own_d q 2)).toUInt32.toUInt16.toUInt32.toInt32)), (nar .char (((48 : Int32) + (own_d q 3)).toUInt32.toUInt16.toUInt32.toInt32)), (nar .char (((48 : Int32) + (own_d q 4)).toUInt32.toUInt16.toUInt32.toInt32)), (nar .char (((48 : Int32) + (own_d q 5)).toUInt32.toUInt16.toUInt32.toInt32)), (nar .char (((48 : Int32) + (own_d q 6)).toUInt32.toUInt16.toUInt32.toInt32)), (nar .char (((48 : Int32) + (own_d q 7)).toUInt32.toUInt16.toUInt32.toInt32)), (nar .char (((48 : Int32) + (own_d q 8)).toUInt32.toUInt16.toUInt32.toInt32)), (nar .char (((48 : Int32) + (own_d q 9)).toUInt32.toUInt16.toUInt32.toInt32)), (nar .char (((48 : Int32) + (own_d q 10)).toUInt32.toUInt16.toUInt32.toInt32)), (nar .char ((y &&& (255 : Int32)).toUInt32.toUInt16.toUInt32.toInt32))] : List Int32).map (fun c => c.toInt8.toInt32)).map Value.int) (.int (0 : Int32))) : AF Z h a .byte (12 : Int32).toNatClampNeg (fun j => .int (own_u x y q j)) :=
  (AF.of_arv V).congr fun j _ => own_getD Value.int _ j 0
end OwnA
theorem own_qn {q1 v : Int64} (h : v = ((q1.toUInt64 >>> ((1 : Int32) &&& 0x3f).toInt64.toUInt64).toInt64)) : 0 ≤ v.toInt := by
  have e := c_lushr q1 1 1 (by decide) (by decide)
  rw [h, e]
  have := Int.emod_nonneg q1.toInt (show (18446744073709551616 : Int) ≠ 0 by decide)
  exact Int.ediv_nonneg this (by decide)
theorem own_d9 (q y : Int64) (hq : 0 ≤ q.toInt) (hy : 0 < y.toInt) : 0 ≤ (((q / y) - ((q / y) / (10 : Int64)) * (10 : Int64)).toInt32).toInt ∧ (((q / y) - ((q / y) / (10 : Int64)) * (10 : Int64)).toInt32).toInt ≤ 9 := by
  have a := (c_ldiv q y y.toInt rfl (fun z => by rw [z] at hy; exact absurd hy (by decide))).1 hq
  have n : 0 ≤ (q / y).toInt := by rw [a]; exact Int.ediv_nonneg hq (Int.le_of_lt hy)
  have b := (c_lrem (q / y) 10 10 rfl).1 n
  have c := c_l2i ((q / y) - ((q / y) / (10 : Int64)) * (10 : Int64))
  have r := rng32 (((q / y) - ((q / y) / (10 : Int64)) * (10 : Int64)).toInt32)
  generalize (((q / y) - ((q / y) / (10 : Int64)) * (10 : Int64)).toInt32).toInt = A at *
  generalize ((q / y) - ((q / y) / (10 : Int64)) * (10 : Int64)).toInt = B at *
  generalize (q / y).toInt = C at *
  omega
theorem own_dr (q : Int64) (hq : 0 ≤ q.toInt) (j : Nat) (h1 : 1 ≤ j) (h2 : j ≤ 10) : 0 ≤ (own_d q j).toInt ∧ (own_d q j).toInt ≤ 9 := by
  match j, h1, h2 with
  | 1, _, _ => exact own_d9 q (own_pw 0) hq (by decide)
  | 2, _, _ => exact own_d9 q (own_pw 1) hq (by decide)
  | 3, _, _ => exact own_d9 q (own_pw 2) hq (by decide)
  | 4, _, _ => exact own_d9 q (own_pw 3) hq (by decide)
  | 5, _, _ => exact own_d9 q (own_pw 4) hq (by decide)
  | 6, _, _ => exact own_d9 q (own_pw 5) hq (by decide)
  | 7, _, _ => exact own_d9 q (own_pw 6) hq (by decide)
  | 8, _, _ => exact own_d9 q (own_pw 7) hq (by decide)
  | 9, _, _ => exact own_d9 q (own_pw 8) hq (by decide)
  | 10, _, _ => exact own_d9 q (own_pw 9) hq (by decide)
theorem own_hp1 (x : Int32) : ¬ nar .char ((x &&& (255 : Int32)).toUInt32.toUInt16.toUInt32.toInt32) < 0 ∧ ¬ (255 : Int32) < nar .char ((x &&& (255 : Int32)).toUInt32.toUInt16.toUInt32.toInt32) := by
  have m := c_mask x 255 8 (by decide) (by decide)
  have a := c_i2c (x &&& (255 : Int32))
  have b := c_i2c ((x &&& (255 : Int32)).toUInt32.toUInt16.toUInt32.toInt32)
  simp only [Int32.lt_iff_toInt_lt, nar, show (0 : Int32).toInt = 0 from rfl, show (255 : Int32).toInt = 255 from rfl]
  rw [show ((2 ^ 8 : Nat) : Int) = 256 from rfl] at m
  omega
theorem own_enum (c : Int32) (lo : Int) (n : Nat) (h1 : lo ≤ c.toInt) (h2 : c.toInt < lo + n) : ∃ k : Fin n, c = Int32.ofInt (lo + k.val) :=
  ⟨⟨(c.toInt - lo).toNat, by omega⟩, by
    show c = Int32.ofInt (lo + ((c.toInt - lo).toNat : Int))
    rw [show lo + ((c.toInt - lo).toNat : Int) = c.toInt by omega, Int32.ofInt_toInt]⟩
theorem own_hp2 (d : Int32) (h : 0 ≤ d.toInt ∧ d.toInt ≤ 9) : ¬ nar .char (((48 : Int32) + d).toUInt32.toUInt16.toUInt32.toInt32) < 0 ∧ ¬ (255 : Int32) < nar .char (((48 : Int32) + d).toUInt32.toUInt16.toUInt32.toInt32) := by
  obtain ⟨k, rfl⟩ := own_enum d 0 10 (by omega) (by omega)
  clear h; revert k; decide +kernel
theorem own_hp (x y : Int32) (q : Int64) (hq : 0 ≤ q.toInt) : ∀ c ∈ ([(nar .char ((x &&& (255 : Int32)).toUInt32.toUInt16.toUInt32.toInt32)), (nar .char (((48 : Int32) + (own_d q 1)).toUInt32.toUInt16.toUInt32.toInt32)), (nar .char (((48 : Int32) + (own_d q 2)).toUInt32.toUInt16.toUInt32.toInt32)), (nar .char (((48 : Int32) + (own_d q 3)).toUInt32.toUInt16.toUInt32.toInt32)), (nar .char (((48 : Int32) + (own_d q 4)).toUInt32.toUInt16.toUInt32.toInt32)), (nar .char (((48 : Int32) + (own_d q 5)).toUInt32.toUInt16.toUInt32.toInt32)), (nar .char (((48 : Int32) + (own_d q 6)).toUInt32.toUInt16.toUInt32.toInt32)), (nar .char (((48 : Int32) + (own_d q 7)).toUInt32.toUInt16.toUInt32.toInt32)), (nar .char (((48 : Int32) + (own_d q 8)).toUInt32.toUInt16.toUInt32.toInt32)), (nar .char (((48 : Int32) + (own_d q 9)).toUInt32.toUInt16.toUInt32.toInt32)), (nar .char (((48 : Int32) + (own_d q 10)).toUInt32.toUInt16.toUInt32.toInt32)), (nar .char ((y &&& (255 : Int32)).toUInt32.toUInt16.toUInt32.toInt32))] : List Int32), ¬ c < 0 ∧ ¬ (255 : Int32) < c := by
  intro c hc
  simp only [List.mem_cons, List.not_mem_nil, or_false] at hc
  rcases hc with rfl | rfl | rfl | rfl | rfl | rfl | rfl | rfl | rfl | rfl | rfl | rfl
  · exact own_hp1 x
  · exact own_hp2 _ (own_dr q hq 1 (by decide) (by decide))
  · exact own_hp2 _ (own_dr q hq 2 (by decide) (by decide))
  · exact own_hp2 _ (own_dr q hq 3 (by decide) (by decide))
  · exact own_hp2 _ (own_dr q hq 4 (by decide) (by decide))
  · exact own_hp2 _ (own_dr q hq 5 (by decide) (by decide))
  · exact own_hp2 _ (own_dr q hq 6 (by decide) (by decide))
  · exact own_hp2 _ (own_dr q hq 7 (by decide) (by decide))
  · exact own_hp2 _ (own_dr q hq 8 (by decide) (by decide))
  · exact own_hp2 _ (own_dr q hq 9 (by decide) (by decide))
  · exact own_hp2 _ (own_dr q hq 10 (by decide) (by decide))
  · exact own_hp1 y
theorem own_m10 (x : Int32) : 0 ≤ ((x &&& (2147483647 : Int32)) % (10 : Int32)).toInt ∧ ((x &&& (2147483647 : Int32)) % (10 : Int32)).toInt ≤ 9 := by
  have h := c_mask x 2147483647 31 (by decide) (by decide)
  have n : 0 ≤ (x &&& (2147483647 : Int32)).toInt := by rw [h]; exact Int.emod_nonneg _ (by decide)
  have r := (c_irem (x &&& (2147483647 : Int32)) 10 10 rfl).1 n
  omega
theorem own_se {p4 p5 s ln e : Int32} (hs : s = ((1 : Int32) + ((p4 &&& (2147483647 : Int32)) % (10 : Int32)))) (hl : ln = (F8 ((p5 &&& (2147483647 : Int32)) % (10 : Int32)) ((11 : Int32) - s))) (he : e = (s + ln)) :
    1 ≤ s.toInt ∧ s.toInt ≤ 10 ∧ s.toInt ≤ e.toInt ∧ e.toInt ≤ 11 ∧ e.toInt - s.toInt ≤ 9 := by
  have a := own_m10 p4
  have b := own_m10 p5
  have c := c_iadd 1 ((p4 &&& (2147483647 : Int32)) % (10 : Int32))
  have rc := rng32 ((1 : Int32) + ((p4 &&& (2147483647 : Int32)) % (10 : Int32)))
  rw [show (1 : Int32).toInt = 1 from rfl] at c
  rw [← hs] at c rc
  have s1 : 1 ≤ s.toInt ∧ s.toInt ≤ 10 := by omega
  clear c rc a
  have d := c_isub 11 s
  have rd := rng32 (11 - s)
  rw [show (11 : Int32).toInt = 11 from rfl] at d
  have d2 : (11 - s).toInt = 11 - s.toInt := by omega
  clear d rd
  have l1 : 0 ≤ ln.toInt ∧ ln.toInt ≤ 9 ∧ ln.toInt ≤ 11 - s.toInt := by
    rw [hl]
    simp only [F8, Int32.lt_iff_toInt_lt]
    split <;> omega
  have f := c_iadd s ln
  have rf := rng32 (s + ln)
  rw [← he] at f rf
  omega
theorem own_tix {i s e : Int32} (hi : 1 ≤ i.toInt ∧ i.toInt ≤ 10) (h : 1 ≤ s.toInt ∧ s.toInt ≤ 10 ∧ s.toInt ≤ e.toInt ∧ e.toInt ≤ 11 ∧ e.toInt - s.toInt ≤ 9) : ¬ i < s → i < e → 0 ≤ ((e - (1 : Int32)) - i).toInt ∧ ((e - (1 : Int32)) - i).toInt < 10 := by
  intro h1 h2
  rw [Int32.lt_iff_toInt_lt] at h1 h2
  have a := c_isub e 1
  have ra := rng32 (e - 1)
  rw [show (1 : Int32).toInt = 1 from rfl] at a
  have a2 : (e - 1).toInt = e.toInt - 1 := by omega
  clear a ra
  have b := c_isub (e - 1) i
  have rb := rng32 ((e - 1) - i)
  omega
theorem own_vp {s e : Int32} (h : 1 ≤ s.toInt ∧ s.toInt ≤ 10 ∧ s.toInt ≤ e.toInt ∧ e.toInt ≤ 11 ∧ e.toInt - s.toInt ≤ 9) : 0 ≤ s.toInt ∧ s.toInt ≤ e.toInt ∧ e.toInt ≤ (12 : Int32).toInt := by
  rw [show (12 : Int32).toInt = 12 from rfl]; omega
theorem pn_0 : plainName "com/example/lookback/lookback/PlainDecimalsValueOfPinLaw" = true := by first | (simp [plainName, overriddenIn]; done) | decide +kernel
theorem pd_0_1 : parseMethodDescriptor "(J[JI)I" = some ⟨[.long, (.array .long), .int], some .int⟩ := by decide +kernel
theorem pd_0_10 : parseMethodDescriptor "(Ljava/lang/String;II)I" = some ⟨[(.object "java/lang/String"), .int, .int], some .int⟩ := by decide +kernel
theorem pd_0_8 : parseMethodDescriptor "(II)I" = some ⟨[.int, .int], some .int⟩ := by decide +kernel
theorem pd_0_9 : parseMethodDescriptor "([I[JIII)J" = some ⟨[(.array .int), (.array .long), .int, .int, .int], some .long⟩ := by decide +kernel
theorem pd_0_str : parseMethodDescriptor "([C)V" = some ⟨[(.array .char)], none⟩ := by decide +kernel
theorem ef_0 (m : MethodId) (x0 : Int64) (x1 : Int32) (x2 : Int32) (x3 : Int32) (x4 : Int32) : entryFrame m #[(.long x0), (.int x1), (.int x2), (.int x3), (.int x4)] maxLocals = mkF m 0 #[.val (.long x0), .second, .val (.int x1), .val (.int x2), .val (.int x3), .val (.int x4), .unset, .unset, .unset, .unset, .unset, .unset, .unset, .unset, .unset, .unset, .unset, .unset, .unset] [] := by first | (simp [entryFrame, mkF, argsToLocals, Value.category, maxLocals]; done) | rfl
def F0 (q1 : Int64) (p2 : Int32) (p3 : Int32) (p4 : Int32) (p5 : Int32) : Int32 :=
  let v2 : Int64 := ((q1.toUInt64 >>> ((1 : Int32) &&& 0x3f).toInt64.toUInt64).toInt64)
  let v64 : Int32 := ((1 : Int32) + ((p4 &&& (2147483647 : Int32)) % (10 : Int32)))
  let v67 : Int32 := (F8 ((p5 &&& (2147483647 : Int32)) % (10 : Int32)) ((11 : Int32) - v64))
  let v69 : Int32 := (v64 + v67)
  let v81 : Int64 := ((((((((((F9 (1 : Int32) v64 v69 (own_d v2) own_pw) + (F9 (2 : Int32) v64 v69 (own_d v2) own_pw)) + (F9 (3 : Int32) v64 v69 (own_d v2) own_pw)) + (F9 (4 : Int32) v64 v69 (own_d v2) own_pw)) + (F9 (5 : Int32) v64 v69 (own_d v2) own_pw)) + (F9 (6 : Int32) v64 v69 (own_d v2) own_pw)) + (F9 (7 : Int32) v64 v69 (own_d v2) own_pw)) + (F9 (8 : Int32) v64 v69 (own_d v2) own_pw)) + (F9 (9 : Int32) v64 v69 (own_d v2) own_pw)) + (F9 (10 : Int32) v64 v69 (own_d v2) own_pw))
  let v84 : Int64 := ((F10 v64 v69 (own_u p2 p3 v2)).toInt64)
  let v89 : Int32 := (if v84 = v81 then (1 : Int32) else (0 : Int32))
  (nar .boolean v89)
def Q0 (Z : State) (q1 : Int64) (p2 : Int32) (p3 : Int32) (p4 : Int32) (p5 : Int32) (G1 : Int32) (G3 : Value) (h0 : Heap) (n0 : Nat) (v : Option Value) (h : Heap) (L : List Loc) : Prop := v = some (.int (F0 q1 p2 p3 p4 p5)) ∧ Fr n0 L
set_option maxRecDepth 65536 in
set_option maxHeartbeats 40000000 in
theorem rm0 (l : Launch) (Z : State) (a0 : Array Value) (hw : ∀ d ∈ tables_1, d.before a0 Z = true) (ws : List Jvm.Cond) (q1 : Int64) (p2 : Int32) (p3 : Int32) (p4 : Int32) (p5 : Int32) (G1 : Int32) (G3 : Value) (h0 : Heap) (n0 : Nat) (Z0 : n0 ≤ h0.size) (O2 : Sta Z h0 "java/lang/String" "COMPACT_STRINGS" "Z" (.int G1)) (P5 : ¬ (G1 = (0 : Int32))) (O4 : Sta Z h0 "jdk/internal/util/Preconditions" "SIOOBE_FORMATTER" "Ljava/util/function/BiFunction;" G3) (rG3 : G3.isRef = true) :
    MetFree l x (head1 (Jvm.Cond.code x code maxLocals ret :: ws) room_1) (fun a U => a = #[(.long q1), (.int p2), (.int p3), (.int p4), (.int p5)] ∧ Z.Warmed39 U.vm ∧ U.heap = h0) (fun _ _ _ _ _ => True) (fun _ U o U' => ∃ v L, o = .returned v ∧ Q0 Z q1 p2 p3 p4 p5 G1 G3 h0 n0 v U'.heap L ∧ FrameEnd U o U' L room_1.cells room_1.slots) := by
  refine MetFree.of_bodySF (plainFor_of_name pn_0) hisR ?_
  intro p e s m args below meth c s₁ Bd hml0 hP hK
  obtain ⟨rfl, hZ, hh⟩ := hP
  have hx := Bd.exec
  have hby := Bd.bytes
  have hml : c.maxLocals = 19 := hml0
  have hown : s.vm.findClass "com/example/lookback/lookback/PlainDecimalsValueOfPinLaw" = some m.cls := findClass_of_methodNamed Bd.named
  have hnm := (name_of_methodNamed Bd.named Bd.method).1
  have X0 : Stand p l e room_1 s m #[(.long q1), (.int p2), (.int p3), (.int p4), (.int p5)] below meth c s₁ [] 0 0 := Stand.of_body Bd
  have e0 : s₁.heap = h0 := by rw [← hh, Bd.state]; rfl
  have N0 := Fr.nil n0
  have hws : ∀ d ∈ StrChars.Road.words, d.before a0 Z = true := fun d hd => hw d ((by decide +kernel : ∀ d ∈ StrChars.Road.words, d ∈ tables_1) d hd)
  have pre0 : ∀ t, Steps p.tables e below (s₁.setTop (mkF m 0 #[.val (.long q1), .second, .val (.int p2), .val (.int p3), .val (.int p4), .val (.int p5), .unset, .unset, .unset, .unset, .unset, .unset, .unset, .unset, .unset, .unset, .unset, .unset, .unset] [])) t → Steps p.tables e below (s₁.setTop (entryFrame m #[(.long q1), (.int p2), (.int p3), (.int p4), (.int p5)] maxLocals)) t := fun t k => castTop (ef_0 m q1 p2 p3 p4 p5) k
  have R1 : ∀ t, Steps p.tables e below (s₁.setTop (mkF m 3 #[.val (.long q1), .second, .val (.int p2), .val (.int p3), .val (.int p4), .val (.int p5), .unset, .unset, .unset, .unset, .unset, .unset, .unset, .unset, .unset, .unset, .unset, .unset, .unset] [(.long ((q1.toUInt64 >>> ((1 : Int32) &&& 0x3f).toInt64.toUInt64).toInt64))])) t → Steps p.tables e below (s₁.setTop (entryFrame m #[(.long q1), (.int p2), (.int p3), (.int p4), (.int p5)] maxLocals)) t := by
    intro t kt
    refine pre0 _ ?_
    show Steps p.tables e below (s₁.setTop (mkF m 0 #[.val (.long q1), .second, .val (.int p2), .val (.int p3), .val (.int p4), .val (.int p5), .unset, .unset, .unset, .unset, .unset, .unset, .unset, .unset, .unset, .unset, .unset, .unset, .unset] [])) _
    refine XS.lloadN X0.here hx rfl (hb hby at_0) rfl ?_
    show Steps p.tables e below (s₁.setTop (mkF m 1 #[.val (.long q1), .second, .val (.int p2), .val (.int p3), .val (.int p4), .val (.int p5), .unset, .unset, .unset, .unset, .unset, .unset, .unset, .unset, .unset, .unset, .unset, .unset, .unset] [(.long q1)])) _
    refine XS.iconst X0.here hx rfl (hb hby at_1) ?_
    show Steps p.tables e below (s₁.setTop (mkF m 2 #[.val (.long q1), .second, .val (.int p2), .val (.int p3), .val (.int p4), .val (.int p5), .unset, .unset, .unset, .unset, .unset, .unset, .unset, .unset, .unset, .unset, .unset, .unset, .unset] [(.int (1 : Int32)), (.long q1)])) _
    refine XS.lushr X0.here hx rfl (hb hby at_2) rfl ?_
    exact kt
  obtain ⟨v2, hv2⟩ : ∃ zz9 : Int64, zz9 = ((q1.toUInt64 >>> ((1 : Int32) &&& 0x3f).toInt64.toUInt64).toInt64) := ⟨_, rfl⟩
  rw [← hv2] at R1
  obtain ⟨T3, h3, k3, X3, e3, E3, A3, st3⟩ := newP X0 hx hZ (hw _ (List.mem_of_getElem? (i := 0) rfl)) e0 (g := (mkF m 7 #[.val (.long q1), .second, .val (.int p2), .val (.int p3), .val (.int p4), .val (.int p5), .val (.long v2), .second, .unset, .unset, .unset, .unset, .unset, .unset, .unset, .unset, .unset, .unset, .unset] [(.int (10 : Int32))])) rfl (hb hby at_7) rfl (by decide) (cap := 10) (by decide) (by decide) (by decide) (by decide)
  obtain ⟨b3, g3⟩ : ∃ z, z = h0.size := ⟨_, rfl⟩
  rw [← g3] at A3 st3
  have V3 := AF.new A3 (by decide)
  have Z3 : n0 ≤ h3.size := Nat.le_trans Z0 E3.1
  have gb3 : n0 ≤ b3 := Nat.le_trans Z0 (Nat.le_of_eq g3.symm)
  have sz3 : h0.size ≤ b3 := Nat.le_trans (Keep.refl h0 []).1 (Nat.le_of_eq g3.symm)
  have KK3 : Keep h0 h3 [] := (Keep.refl h0 []).ext E3
  replace X3 : Stand p l e room_1 s m #[(.long q1), (.int p2), (.int p3), (.int p4), (.int p5)] below meth c T3 [] 1 10 := X3
  obtain ⟨cl4, Ar4, S4, H4⟩ := V3
  have hin4 := AF_in (j := (0 : Int32)) S4 (by decide) (by decide)
  obtain ⟨T4, h4, X4, e4, W4, st4⟩ := stJ X3 hx hZ e3 Ar4 (j := (0 : Int32)) hin4 (g := (mkF m 12 #[.val (.long q1), .second, .val (.int p2), .val (.int p3), .val (.int p4), .val (.int p5), .val (.long v2), .second, .unset, .unset, .unset, .unset, .unset, .unset, .unset, .unset, .unset, .unset, .unset] [(.long (1 : Int64)), (.int (0 : Int32)), (.ref b3), (.ref b3)])) rfl rfl (hb hby at_12)
  have V4 := AF.same Ar4 S4 H4 W4
  have N4 := Fr.snoc X4 (Fr.nil n0) gb3
  have KK4 : Keep h0 h4 [] := KK3.wr W4 (Or.inr sz3)
  obtain ⟨L4, l4⟩ : ∃ z, z = [] ++ [(⟨b3, ((0 : Int32) : Int32).toNatClampNeg⟩ : Loc)] := ⟨_, rfl⟩
  rw [← l4] at X4 N4
  obtain ⟨cl5, Ar5, S5, H5⟩ := V4
  have hin5 := AF_in (j := (1 : Int32)) S5 (by decide) (by decide)
  obtain ⟨T5, h5, X5, e5, W5, st5⟩ := stJ X4 hx hZ e4 Ar5 (j := (1 : Int32)) hin5 (g := (mkF m 18 #[.val (.long q1), .second, .val (.int p2), .val (.int p3), .val (.int p4), .val (.int p5), .val (.long v2), .second, .unset, .unset, .unset, .unset, .unset, .unset, .unset, .unset, .unset, .unset, .unset] [(.long (10 : Int64)), (.int (1 : Int32)), (.ref b3), (.ref b3)])) rfl rfl (hb hby at_18)
  have V5 := AF.same Ar5 S5 H5 W5
  have N5 := Fr.snoc X5 N4 gb3
  have KK5 : Keep h0 h5 [] := KK4.wr W5 (Or.inr sz3)
  obtain ⟨L5, l5⟩ : ∃ z, z = L4 ++ [(⟨b3, ((1 : Int32) : Int32).toNatClampNeg⟩ : Loc)] := ⟨_, rfl⟩
  rw [← l5] at X5 N5
  obtain ⟨cl6, Ar6, S6, H6⟩ := V5
  have hin6 := AF_in (j := (2 : Int32)) S6 (by decide) (by decide)
  obtain ⟨T6, h6, X6, e6, W6, st6⟩ := stJ X5 hx hZ e5 Ar6 (j := (2 : Int32)) hin6 (g := (mkF m 24 #[.val (.long q1), .second, .val (.int p2), .val (.int p3), .val (.int p4), .val (.int p5), .val (.long v2), .second, .unset, .unset, .unset, .unset, .unset, .unset, .unset, .unset, .unset, .unset, .unset] [(.long (100 : Int64)), (.int (2 : Int32)), (.ref b3), (.ref b3)])) rfl rfl (hb hby at_24)
  have V6 := AF.same Ar6 S6 H6 W6
  have N6 := Fr.snoc X6 N5 gb3
  have KK6 : Keep h0 h6 [] := KK5.wr W6 (Or.inr sz3)
  obtain ⟨L6, l6⟩ : ∃ z, z = L5 ++ [(⟨b3, ((2 : Int32) : Int32).toNatClampNeg⟩ : Loc)] := ⟨_, rfl⟩
  rw [← l6] at X6 N6
  obtain ⟨cl7, Ar7, S7, H7⟩ := V6
  have hin7 := AF_in (j := (3 : Int32)) S7 (by decide) (by decide)
  obtain ⟨T7, h7, X7, e7, W7, st7⟩ := stJ X6 hx hZ e6 Ar7 (j := (3 : Int32)) hin7 (g := (mkF m 30 #[.val (.long q1), .second, .val (.int p2), .val (.int p3), .val (.int p4), .val (.int p5), .val (.long v2), .second, .unset, .unset, .unset, .unset, .unset, .unset, .unset, .unset, .unset, .unset, .unset] [(.long (1000 : Int64)), (.int (3 : Int32)), (.ref b3), (.ref b3)])) rfl rfl (hb hby at_30)
  have V7 := AF.same Ar7 S7 H7 W7
  have N7 := Fr.snoc X7 N6 gb3
  have KK7 : Keep h0 h7 [] := KK6.wr W7 (Or.inr sz3)
  obtain ⟨L7, l7⟩ : ∃ z, z = L6 ++ [(⟨b3, ((3 : Int32) : Int32).toNatClampNeg⟩ : Loc)] := ⟨_, rfl⟩
  rw [← l7] at X7 N7
  obtain ⟨cl8, Ar8, S8, H8⟩ := V7
  have hin8 := AF_in (j := (4 : Int32)) S8 (by decide) (by decide)
  obtain ⟨T8, h8, X8, e8, W8, st8⟩ := stJ X7 hx hZ e7 Ar8 (j := (4 : Int32)) hin8 (g := (mkF m 36 #[.val (.long q1), .second, .val (.int p2), .val (.int p3), .val (.int p4), .val (.int p5), .val (.long v2), .second, .unset, .unset, .unset, .unset, .unset, .unset, .unset, .unset, .unset, .unset, .unset] [(.long (10000 : Int64)), (.int (4 : Int32)), (.ref b3), (.ref b3)])) rfl rfl (hb hby at_36)
  have V8 := AF.same Ar8 S8 H8 W8
  have N8 := Fr.snoc X8 N7 gb3
  have KK8 : Keep h0 h8 [] := KK7.wr W8 (Or.inr sz3)
  obtain ⟨L8, l8⟩ : ∃ z, z = L7 ++ [(⟨b3, ((4 : Int32) : Int32).toNatClampNeg⟩ : Loc)] := ⟨_, rfl⟩
  rw [← l8] at X8 N8
  obtain ⟨cl9, Ar9, S9, H9⟩ := V8
  have hin9 := AF_in (j := (5 : Int32)) S9 (by decide) (by decide)
  obtain ⟨T9, h9, X9, e9, W9, st9⟩ := stJ X8 hx hZ e8 Ar9 (j := (5 : Int32)) hin9 (g := (mkF m 42 #[.val (.long q1), .second, .val (.int p2), .val (.int p3), .val (.int p4), .val (.int p5), .val (.long v2), .second, .unset, .unset, .unset, .unset, .unset, .unset, .unset, .unset, .unset, .unset, .unset] [(.long (100000 : Int64)), (.int (5 : Int32)), (.ref b3), (.ref b3)])) rfl rfl (hb hby at_42)
  have V9 := AF.same Ar9 S9 H9 W9
  have N9 := Fr.snoc X9 N8 gb3
  have KK9 : Keep h0 h9 [] := KK8.wr W9 (Or.inr sz3)
  obtain ⟨L9, l9⟩ : ∃ z, z = L8 ++ [(⟨b3, ((5 : Int32) : Int32).toNatClampNeg⟩ : Loc)] := ⟨_, rfl⟩
  rw [← l9] at X9 N9
  obtain ⟨cl10, Ar10, S10, H10⟩ := V9
  have hin10 := AF_in (j := (6 : Int32)) S10 (by decide) (by decide)
  obtain ⟨T10, h10, X10, e10, W10, st10⟩ := stJ X9 hx hZ e9 Ar10 (j := (6 : Int32)) hin10 (g := (mkF m 49 #[.val (.long q1), .second, .val (.int p2), .val (.int p3), .val (.int p4), .val (.int p5), .val (.long v2), .second, .unset, .unset, .unset, .unset, .unset, .unset, .unset, .unset, .unset, .unset, .unset] [(.long (1000000 : Int64)), (.int (6 : Int32)), (.ref b3), (.ref b3)])) rfl rfl (hb hby at_49)
  have V10 := AF.same Ar10 S10 H10 W10
  have N10 := Fr.snoc X10 N9 gb3
  have KK10 : Keep h0 h10 [] := KK9.wr W10 (Or.inr sz3)
  obtain ⟨L10, l10⟩ : ∃ z, z = L9 ++ [(⟨b3, ((6 : Int32) : Int32).toNatClampNeg⟩ : Loc)] := ⟨_, rfl⟩
  rw [← l10] at X10 N10
  obtain ⟨cl11, Ar11, S11, H11⟩ := V10
  have hin11 := AF_in (j := (7 : Int32)) S11 (by decide) (by decide)
  obtain ⟨T11, h11, X11, e11, W11, st11⟩ := stJ X10 hx hZ e10 Ar11 (j := (7 : Int32)) hin11 (g := (mkF m 56 #[.val (.long q1), .second, .val (.int p2), .val (.int p3), .val (.int p4), .val (.int p5), .val (.long v2), .second, .unset, .unset, .unset, .unset, .unset, .unset, .unset, .unset, .unset, .unset, .unset] [(.long (10000000 : Int64)), (.int (7 : Int32)), (.ref b3), (.ref b3)])) rfl rfl (hb hby at_56)
  have V11 := AF.same Ar11 S11 H11 W11
  have N11 := Fr.snoc X11 N10 gb3
  have KK11 : Keep h0 h11 [] := KK10.wr W11 (Or.inr sz3)
  obtain ⟨L11, l11⟩ : ∃ z, z = L10 ++ [(⟨b3, ((7 : Int32) : Int32).toNatClampNeg⟩ : Loc)] := ⟨_, rfl⟩
  rw [← l11] at X11 N11
  obtain ⟨cl12, Ar12, S12, H12⟩ := V11
  have hin12 := AF_in (j := (8 : Int32)) S12 (by decide) (by decide)
  obtain ⟨T12, h12, X12, e12, W12, st12⟩ := stJ X11 hx hZ e11 Ar12 (j := (8 : Int32)) hin12 (g := (mkF m 63 #[.val (.long q1), .second, .val (.int p2), .val (.int p3), .val (.int p4), .val (.int p5), .val (.long v2), .second, .unset, .unset, .unset, .unset, .unset, .unset, .unset, .unset, .unset, .unset, .unset] [(.long (100000000 : Int64)), (.int (8 : Int32)), (.ref b3), (.ref b3)])) rfl rfl (hb hby at_63)
  have V12 := AF.same Ar12 S12 H12 W12
  have N12 := Fr.snoc X12 N11 gb3
  have KK12 : Keep h0 h12 [] := KK11.wr W12 (Or.inr sz3)
  obtain ⟨L12, l12⟩ : ∃ z, z = L11 ++ [(⟨b3, ((8 : Int32) : Int32).toNatClampNeg⟩ : Loc)] := ⟨_, rfl⟩
  rw [← l12] at X12 N12
  obtain ⟨cl13, Ar13, S13, H13⟩ := V12
  have hin13 := AF_in (j := (9 : Int32)) S13 (by decide) (by decide)
  obtain ⟨T13, h13, X13, e13, W13, st13⟩ := stJ X12 hx hZ e12 Ar13 (j := (9 : Int32)) hin13 (g := (mkF m 70 #[.val (.long q1), .second, .val (.int p2), .val (.int p3), .val (.int p4), .val (.int p5), .val (.long v2), .second, .unset, .unset, .unset, .unset, .unset, .unset, .unset, .unset, .unset, .unset, .unset] [(.long (1000000000 : Int64)), (.int (9 : Int32)), (.ref b3), (.ref b3)])) rfl rfl (hb hby at_70)
  have V13 := AF.same Ar13 S13 H13 W13
  have N13 := Fr.snoc X13 N12 gb3
  have KK13 : Keep h0 h13 [] := KK12.wr W13 (Or.inr sz3)
  obtain ⟨L13, l13⟩ : ∃ z, z = L12 ++ [(⟨b3, ((9 : Int32) : Int32).toNatClampNeg⟩ : Loc)] := ⟨_, rfl⟩
  rw [← l13] at X13 N13
  have VC14 := own_pow V13
  obtain ⟨T15, h15, k15, X15, e15, E15, A15, st15⟩ := newP X13 hx hZ (hw _ (List.mem_of_getElem? (i := 10) rfl)) e13 (g := (mkF m 75 #[.val (.long q1), .second, .val (.int p2), .val (.int p3), .val (.int p4), .val (.int p5), .val (.long v2), .second, .val (.ref b3), .unset, .unset, .unset, .unset, .unset, .unset, .unset, .unset, .unset, .unset] [(.int (12 : Int32))])) rfl (hb hby at_75) rfl (by decide) (cap := 12) (by decide) (by decide) (by decide) (by decide)
  obtain ⟨b15, g15⟩ : ∃ z, z = h13.size := ⟨_, rfl⟩
  rw [← g15] at A15 st15
  have ne_b3_b15 : b3 ≠ b15 := Nat.ne_of_lt (Nat.lt_of_lt_of_le VC14.lt (Nat.le_of_eq g15.symm))
  have VX15_b3 := VC14.ext E15
  have V15 := AF.new A15 (by decide)
  have Z15 : n0 ≤ h15.size := Nat.le_trans (Nat.le_trans Z0 KK13.1) E15.1
  have gb15 : n0 ≤ b15 := Nat.le_trans (Nat.le_trans Z0 KK13.1) (Nat.le_of_eq g15.symm)
  have sz15 : h0.size ≤ b15 := Nat.le_trans KK13.1 (Nat.le_of_eq g15.symm)
  have KK15 : Keep h0 h15 [] := KK13.ext E15
  replace X15 : Stand p l e room_1 s m #[(.long q1), (.int p2), (.int p3), (.int p4), (.int p5)] below meth c T15 L13 2 22 := X15
  obtain ⟨_, _, ⟨T16, L16, k16, n16⟩, -, X16, ⟨Lc16, hQ16, l16, y16, z16⟩, st16⟩ := Jvm.LawKit.callS X15 hx (y := (⟨"com/example/lookback/lookback/PlainDecimalsValueOfPinLaw", "digit", "(J[JI)I"⟩ : MethodName)) hown (mvT hZ (hw _ (List.mem_of_getElem? (i := 11) rfl))) (mvT hZ (hw _ (List.mem_of_getElem? (i := 12) rfl))) (mvT hZ (hw _ (List.mem_of_getElem? (i := 13) rfl))) (mvT hZ (hw _ (List.mem_of_getElem? (i := 14) rfl))) (by decide) (backOf (W := 2) (rm1 l Z a0 hw [] v2 b3 (0 : Int32) own_pw h15 n0 Z15 VX15_b3 (by decide) (by decide)) hZ (hw _ (List.mem_of_getElem? (i := 14) rfl)) (hw _ (List.mem_of_getElem? (i := 13) rfl)) (by decide) (by decide)) (g := (mkF m 87 #[.val (.long q1), .second, .val (.int p2), .val (.int p3), .val (.int p4), .val (.int p5), .val (.long v2), .second, .val (.ref b3), .val (.ref b15), .unset, .unset, .unset, .unset, .unset, .unset, .unset, .unset, .unset] [(.int (0 : Int32)), (.ref b3), (.long v2), (.int (1 : Int32)), (.ref b15)])) rfl (by rw [hml]; rfl) (argsL := [(.long v2), (.ref b3), (.int (0 : Int32))]) (rest := [(.int (1 : Int32)), (.ref b15)]) (lenOf pd_0_1 rfl) rfl (by show 2 * 0 + _ ≤ _; exact Nat.le_of_eq rfl) (hb hby at_87) (fun _ _ => ⟨rfl, e15, (by decide : 2 + 0 ≤ _), (by decide : 22 + 0 ≤ _)⟩)
  dsimp only [Pt.U, Pt.locs, Pt.cells, Pt.slots] at X16 l16 y16 z16 st16 hQ16
  subst l16 y16 z16
  obtain ⟨rfl, rfl, e16⟩ := hQ16
  rw [List.append_nil] at X16
  replace X16 : Stand p l e room_1 s m #[(.long q1), (.int p2), (.int p3), (.int p4), (.int p5)] below meth c T16 L13 2 22 := X16
  obtain ⟨cl17, Ar17, S17, H17⟩ := V15
  have hin17 := AF_in (j := (1 : Int32)) S17 (by decide) (by decide)
  obtain ⟨T17, h17, X17, e17, W17, st17⟩ := stI X16 hx hZ e16 Ar17 (j := (1 : Int32)) hin17 (g := (mkF m 90 #[.val (.long q1), .second, .val (.int p2), .val (.int p3), .val (.int p4), .val (.int p5), .val (.long v2), .second, .val (.ref b3), .val (.ref b15), .unset, .unset, .unset, .unset, .unset, .unset, .unset, .unset, .unset] [(.int (F1 v2 (0 : Int32) own_pw)), (.int (1 : Int32)), (.ref b15)])) rfl rfl (hb hby at_90)
  have V17 := AF.same Ar17 S17 H17 W17
  have N17 := Fr.snoc X17 N13 gb15
  have KK17 : Keep h0 h17 [] := KK15.wr W17 (Or.inr sz15)
  obtain ⟨L17, l17⟩ : ∃ z, z = L13 ++ [(⟨b15, ((1 : Int32) : Int32).toNatClampNeg⟩ : Loc)] := ⟨_, rfl⟩
  rw [← l17] at X17 N17
  have VW17_b3 := VX15_b3.other W17 ne_b3_b15
  obtain ⟨_, _, ⟨T18, L18, k18, n18⟩, -, X18, ⟨Lc18, hQ18, l18, y18, z18⟩, st18⟩ := Jvm.LawKit.callS X17 hx (y := (⟨"com/example/lookback/lookback/PlainDecimalsValueOfPinLaw", "digit", "(J[JI)I"⟩ : MethodName)) hown (mvT hZ (hw _ (List.mem_of_getElem? (i := 11) rfl))) (mvT hZ (hw _ (List.mem_of_getElem? (i := 12) rfl))) (mvT hZ (hw _ (List.mem_of_getElem? (i := 13) rfl))) (mvT hZ (hw _ (List.mem_of_getElem? (i := 14) rfl))) (by decide) (backOf (W := 2) (rm1 l Z a0 hw [] v2 b3 (1 : Int32) own_pw h17 n0 (Nat.le_trans Z0 KK17.1) VW17_b3 (by decide) (by decide)) hZ (hw _ (List.mem_of_getElem? (i := 14) rfl)) (hw _ (List.mem_of_getElem? (i := 13) rfl)) (by decide) (by decide)) (g := (mkF m 99 #[.val (.long q1), .second, .val (.int p2), .val (.int p3), .val (.int p4), .val (.int p5), .val (.long v2), .second, .val (.ref b3), .val (.ref b15), .unset, .unset, .unset, .unset, .unset, .unset, .unset, .unset, .unset] [(.int (1 : Int32)), (.ref b3), (.long v2), (.int (2 : Int32)), (.ref b15)])) rfl (by rw [hml]; rfl) (argsL := [(.long v2), (.ref b3), (.int (1 : Int32))]) (rest := [(.int (2 : Int32)), (.ref b15)]) (lenOf pd_0_1 rfl) rfl (by show 2 * 0 + _ ≤ _; exact Nat.le_of_eq rfl) (hb hby at_99) (fun _ _ => ⟨rfl, e17, (by decide : 2 + 0 ≤ _), (by decide : 22 + 0 ≤ _)⟩)
  dsimp only [Pt.U, Pt.locs, Pt.cells, Pt.slots] at X18 l18 y18 z18 st18 hQ18
  subst l18 y18 z18
  obtain ⟨rfl, rfl, e18⟩ := hQ18
  rw [List.append_nil] at X18
  replace X18 : Stand p l e room_1 s m #[(.long q1), (.int p2), (.int p3), (.int p4), (.int p5)] below meth c T18 L17 2 22 := X18
  obtain ⟨cl19, Ar19, S19, H19⟩ := V17
  have hin19 := AF_in (j := (2 : Int32)) S19 (by decide) (by decide)
  obtain ⟨T19, h19, X19, e19, W19, st19⟩ := stI X18 hx hZ e18 Ar19 (j := (2 : Int32)) hin19 (g := (mkF m 102 #[.val (.long q1), .second, .val (.int p2), .val (.int p3), .val (.int p4), .val (.int p5), .val (.long v2), .second, .val (.ref b3), .val (.ref b15), .unset, .unset, .unset, .unset, .unset, .unset, .unset, .unset, .unset] [(.int (F1 v2 (1 : Int32) own_pw)), (.int (2 : Int32)), (.ref b15)])) rfl rfl (hb hby at_102)
  have V19 := AF.same Ar19 S19 H19 W19
  have N19 := Fr.snoc X19 N17 gb15
  have KK19 : Keep h0 h19 [] := KK17.wr W19 (Or.inr sz15)
  obtain ⟨L19, l19⟩ : ∃ z, z = L17 ++ [(⟨b15, ((2 : Int32) : Int32).toNatClampNeg⟩ : Loc)] := ⟨_, rfl⟩
  rw [← l19] at X19 N19
  have VW19_b3 := VW17_b3.other W19 ne_b3_b15
  obtain ⟨_, _, ⟨T20, L20, k20, n20⟩, -, X20, ⟨Lc20, hQ20, l20, y20, z20⟩, st20⟩ := Jvm.LawKit.callS X19 hx (y := (⟨"com/example/lookback/lookback/PlainDecimalsValueOfPinLaw", "digit", "(J[JI)I"⟩ : MethodName)) hown (mvT hZ (hw _ (List.mem_of_getElem? (i := 11) rfl))) (mvT hZ (hw _ (List.mem_of_getElem? (i := 12) rfl))) (mvT hZ (hw _ (List.mem_of_getElem? (i := 13) rfl))) (mvT hZ (hw _ (List.mem_of_getElem? (i := 14) rfl))) (by decide) (backOf (W := 2) (rm1 l Z a0 hw [] v2 b3 (2 : Int32) own_pw h19 n0 (Nat.le_trans Z0 KK19.1) VW19_b3 (by decide) (by decide)) hZ (hw _ (List.mem_of_getElem? (i := 14) rfl)) (hw _ (List.mem_of_getElem? (i := 13) rfl)) (by decide) (by decide)) (g := (mkF m 111 #[.val (.long q1), .second, .val (.int p2), .val (.int p3), .val (.int p4), .val (.int p5), .val (.long v2), .second, .val (.ref b3), .val (.ref b15), .unset, .unset, .unset, .unset, .unset, .unset, .unset, .unset, .unset] [(.int (2 : Int32)), (.ref b3), (.long v2), (.int (3 : Int32)), (.ref b15)])) rfl (by rw [hml]; rfl) (argsL := [(.long v2), (.ref b3), (.int (2 : Int32))]) (rest := [(.int (3 : Int32)), (.ref b15)]) (lenOf pd_0_1 rfl) rfl (by show 2 * 0 + _ ≤ _; exact Nat.le_of_eq rfl) (hb hby at_111) (fun _ _ => ⟨rfl, e19, (by decide : 2 + 0 ≤ _), (by decide : 22 + 0 ≤ _)⟩)
  dsimp only [Pt.U, Pt.locs, Pt.cells, Pt.slots] at X20 l20 y20 z20 st20 hQ20
  subst l20 y20 z20
  obtain ⟨rfl, rfl, e20⟩ := hQ20
  rw [List.append_nil] at X20
  replace X20 : Stand p l e room_1 s m #[(.long q1), (.int p2), (.int p3), (.int p4), (.int p5)] below meth c T20 L19 2 22 := X20
  obtain ⟨cl21, Ar21, S21, H21⟩ := V19
  have hin21 := AF_in (j := (3 : Int32)) S21 (by decide) (by decide)
  obtain ⟨T21, h21, X21, e21, W21, st21⟩ := stI X20 hx hZ e20 Ar21 (j := (3 : Int32)) hin21 (g := (mkF m 114 #[.val (.long q1), .second, .val (.int p2), .val (.int p3), .val (.int p4), .val (.int p5), .val (.long v2), .second, .val (.ref b3), .val (.ref b15), .unset, .unset, .unset, .unset, .unset, .unset, .unset, .unset, .unset] [(.int (F1 v2 (2 : Int32) own_pw)), (.int (3 : Int32)), (.ref b15)])) rfl rfl (hb hby at_114)
  have V21 := AF.same Ar21 S21 H21 W21
  have N21 := Fr.snoc X21 N19 gb15
  have KK21 : Keep h0 h21 [] := KK19.wr W21 (Or.inr sz15)
  obtain ⟨L21, l21⟩ : ∃ z, z = L19 ++ [(⟨b15, ((3 : Int32) : Int32).toNatClampNeg⟩ : Loc)] := ⟨_, rfl⟩
  rw [← l21] at X21 N21
  have VW21_b3 := VW19_b3.other W21 ne_b3_b15
  obtain ⟨_, _, ⟨T22, L22, k22, n22⟩, -, X22, ⟨Lc22, hQ22, l22, y22, z22⟩, st22⟩ := Jvm.LawKit.callS X21 hx (y := (⟨"com/example/lookback/lookback/PlainDecimalsValueOfPinLaw", "digit", "(J[JI)I"⟩ : MethodName)) hown (mvT hZ (hw _ (List.mem_of_getElem? (i := 11) rfl))) (mvT hZ (hw _ (List.mem_of_getElem? (i := 12) rfl))) (mvT hZ (hw _ (List.mem_of_getElem? (i := 13) rfl))) (mvT hZ (hw _ (List.mem_of_getElem? (i := 14) rfl))) (by decide) (backOf (W := 2) (rm1 l Z a0 hw [] v2 b3 (3 : Int32) own_pw h21 n0 (Nat.le_trans Z0 KK21.1) VW21_b3 (by decide) (by decide)) hZ (hw _ (List.mem_of_getElem? (i := 14) rfl)) (hw _ (List.mem_of_getElem? (i := 13) rfl)) (by decide) (by decide)) (g := (mkF m 123 #[.val (.long q1), .second, .val (.int p2), .val (.int p3), .val (.int p4), .val (.int p5), .val (.long v2), .second, .val (.ref b3), .val (.ref b15), .unset, .unset, .unset, .unset, .unset, .unset, .unset, .unset, .unset] [(.int (3 : Int32)), (.ref b3), (.long v2), (.int (4 : Int32)), (.ref b15)])) rfl (by rw [hml]; rfl) (argsL := [(.long v2), (.ref b3), (.int (3 : Int32))]) (rest := [(.int (4 : Int32)), (.ref b15)]) (lenOf pd_0_1 rfl) rfl (by show 2 * 0 + _ ≤ _; exact Nat.le_of_eq rfl) (hb hby at_123) (fun _ _ => ⟨rfl, e21, (by decide : 2 + 0 ≤ _), (by decide : 22 + 0 ≤ _)⟩)
  dsimp only [Pt.U, Pt.locs, Pt.cells, Pt.slots] at X22 l22 y22 z22 st22 hQ22
  subst l22 y22 z22
  obtain ⟨rfl, rfl, e22⟩ := hQ22
  rw [List.append_nil] at X22
  replace X22 : Stand p l e room_1 s m #[(.long q1), (.int p2), (.int p3), (.int p4), (.int p5)] below meth c T22 L21 2 22 := X22
  obtain ⟨cl23, Ar23, S23, H23⟩ := V21
  have hin23 := AF_in (j := (4 : Int32)) S23 (by decide) (by decide)
  obtain ⟨T23, h23, X23, e23, W23, st23⟩ := stI X22 hx hZ e22 Ar23 (j := (4 : Int32)) hin23 (g := (mkF m 126 #[.val (.long q1), .second, .val (.int p2), .val (.int p3), .val (.int p4), .val (.int p5), .val (.long v2), .second, .val (.ref b3), .val (.ref b15), .unset, .unset, .unset, .unset, .unset, .unset, .unset, .unset, .unset] [(.int (F1 v2 (3 : Int32) own_pw)), (.int (4 : Int32)), (.ref b15)])) rfl rfl (hb hby at_126)
  have V23 := AF.same Ar23 S23 H23 W23
  have N23 := Fr.snoc X23 N21 gb15
  have KK23 : Keep h0 h23 [] := KK21.wr W23 (Or.inr sz15)
  obtain ⟨L23, l23⟩ : ∃ z, z = L21 ++ [(⟨b15, ((4 : Int32) : Int32).toNatClampNeg⟩ : Loc)] := ⟨_, rfl⟩
  rw [← l23] at X23 N23
  have VW23_b3 := VW21_b3.other W23 ne_b3_b15
  obtain ⟨_, _, ⟨T24, L24, k24, n24⟩, -, X24, ⟨Lc24, hQ24, l24, y24, z24⟩, st24⟩ := Jvm.LawKit.callS X23 hx (y := (⟨"com/example/lookback/lookback/PlainDecimalsValueOfPinLaw", "digit", "(J[JI)I"⟩ : MethodName)) hown (mvT hZ (hw _ (List.mem_of_getElem? (i := 11) rfl))) (mvT hZ (hw _ (List.mem_of_getElem? (i := 12) rfl))) (mvT hZ (hw _ (List.mem_of_getElem? (i := 13) rfl))) (mvT hZ (hw _ (List.mem_of_getElem? (i := 14) rfl))) (by decide) (backOf (W := 2) (rm1 l Z a0 hw [] v2 b3 (4 : Int32) own_pw h23 n0 (Nat.le_trans Z0 KK23.1) VW23_b3 (by decide) (by decide)) hZ (hw _ (List.mem_of_getElem? (i := 14) rfl)) (hw _ (List.mem_of_getElem? (i := 13) rfl)) (by decide) (by decide)) (g := (mkF m 135 #[.val (.long q1), .second, .val (.int p2), .val (.int p3), .val (.int p4), .val (.int p5), .val (.long v2), .second, .val (.ref b3), .val (.ref b15), .unset, .unset, .unset, .unset, .unset, .unset, .unset, .unset, .unset] [(.int (4 : Int32)), (.ref b3), (.long v2), (.int (5 : Int32)), (.ref b15)])) rfl (by rw [hml]; rfl) (argsL := [(.long v2), (.ref b3), (.int (4 : Int32))]) (rest := [(.int (5 : Int32)), (.ref b15)]) (lenOf pd_0_1 rfl) rfl (by show 2 * 0 + _ ≤ _; exact Nat.le_of_eq rfl) (hb hby at_135) (fun _ _ => ⟨rfl, e23, (by decide : 2 + 0 ≤ _), (by decide : 22 + 0 ≤ _)⟩)
  dsimp only [Pt.U, Pt.locs, Pt.cells, Pt.slots] at X24 l24 y24 z24 st24 hQ24
  subst l24 y24 z24
  obtain ⟨rfl, rfl, e24⟩ := hQ24
  rw [List.append_nil] at X24
  replace X24 : Stand p l e room_1 s m #[(.long q1), (.int p2), (.int p3), (.int p4), (.int p5)] below meth c T24 L23 2 22 := X24
  obtain ⟨cl25, Ar25, S25, H25⟩ := V23
  have hin25 := AF_in (j := (5 : Int32)) S25 (by decide) (by decide)
  obtain ⟨T25, h25, X25, e25, W25, st25⟩ := stI X24 hx hZ e24 Ar25 (j := (5 : Int32)) hin25 (g := (mkF m 138 #[.val (.long q1), .second, .val (.int p2), .val (.int p3), .val (.int p4), .val (.int p5), .val (.long v2), .second, .val (.ref b3), .val (.ref b15), .unset, .unset, .unset, .unset, .unset, .unset, .unset, .unset, .unset] [(.int (F1 v2 (4 : Int32) own_pw)), (.int (5 : Int32)), (.ref b15)])) rfl rfl (hb hby at_138)
  have V25 := AF.same Ar25 S25 H25 W25
  have N25 := Fr.snoc X25 N23 gb15
  have KK25 : Keep h0 h25 [] := KK23.wr W25 (Or.inr sz15)
  obtain ⟨L25, l25⟩ : ∃ z, z = L23 ++ [(⟨b15, ((5 : Int32) : Int32).toNatClampNeg⟩ : Loc)] := ⟨_, rfl⟩
  rw [← l25] at X25 N25
  have VW25_b3 := VW23_b3.other W25 ne_b3_b15
  obtain ⟨_, _, ⟨T26, L26, k26, n26⟩, -, X26, ⟨Lc26, hQ26, l26, y26, z26⟩, st26⟩ := Jvm.LawKit.callS X25 hx (y := (⟨"com/example/lookback/lookback/PlainDecimalsValueOfPinLaw", "digit", "(J[JI)I"⟩ : MethodName)) hown (mvT hZ (hw _ (List.mem_of_getElem? (i := 11) rfl))) (mvT hZ (hw _ (List.mem_of_getElem? (i := 12) rfl))) (mvT hZ (hw _ (List.mem_of_getElem? (i := 13) rfl))) (mvT hZ (hw _ (List.mem_of_getElem? (i := 14) rfl))) (by decide) (backOf (W := 2) (rm1 l Z a0 hw [] v2 b3 (5 : Int32) own_pw h25 n0 (Nat.le_trans Z0 KK25.1) VW25_b3 (by decide) (by decide)) hZ (hw _ (List.mem_of_getElem? (i := 14) rfl)) (hw _ (List.mem_of_getElem? (i := 13) rfl)) (by decide) (by decide)) (g := (mkF m 148 #[.val (.long q1), .second, .val (.int p2), .val (.int p3), .val (.int p4), .val (.int p5), .val (.long v2), .second, .val (.ref b3), .val (.ref b15), .unset, .unset, .unset, .unset, .unset, .unset, .unset, .unset, .unset] [(.int (5 : Int32)), (.ref b3), (.long v2), (.int (6 : Int32)), (.ref b15)])) rfl (by rw [hml]; rfl) (argsL := [(.long v2), (.ref b3), (.int (5 : Int32))]) (rest := [(.int (6 : Int32)), (.ref b15)]) (lenOf pd_0_1 rfl) rfl (by show 2 * 0 + _ ≤ _; exact Nat.le_of_eq rfl) (hb hby at_148) (fun _ _ => ⟨rfl, e25, (by decide : 2 + 0 ≤ _), (by decide : 22 + 0 ≤ _)⟩)
  dsimp only [Pt.U, Pt.locs, Pt.cells, Pt.slots] at X26 l26 y26 z26 st26 hQ26
  subst l26 y26 z26
  obtain ⟨rfl, rfl, e26⟩ := hQ26
  rw [List.append_nil] at X26
  replace X26 : Stand p l e room_1 s m #[(.long q1), (.int p2), (.int p3), (.int p4), (.int p5)] below meth c T26 L25 2 22 := X26
  obtain ⟨cl27, Ar27, S27, H27⟩ := V25
  have hin27 := AF_in (j := (6 : Int32)) S27 (by decide) (by decide)
  obtain ⟨T27, h27, X27, e27, W27, st27⟩ := stI X26 hx hZ e26 Ar27 (j := (6 : Int32)) hin27 (g := (mkF m 151 #[.val (.long q1), .second, .val (.int p2), .val (.int p3), .val (.int p4), .val (.int p5), .val (.long v2), .second, .val (.ref b3), .val (.ref b15), .unset, .unset, .unset, .unset, .unset, .unset, .unset, .unset, .unset] [(.int (F1 v2 (5 : Int32) own_pw)), (.int (6 : Int32)), (.ref b15)])) rfl rfl (hb hby at_151)
  have V27 := AF.same Ar27 S27 H27 W27
  have N27 := Fr.snoc X27 N25 gb15
  have KK27 : Keep h0 h27 [] := KK25.wr W27 (Or.inr sz15)
  obtain ⟨L27, l27⟩ : ∃ z, z = L25 ++ [(⟨b15, ((6 : Int32) : Int32).toNatClampNeg⟩ : Loc)] := ⟨_, rfl⟩
  rw [← l27] at X27 N27
  have VW27_b3 := VW25_b3.other W27 ne_b3_b15
  obtain ⟨_, _, ⟨T28, L28, k28, n28⟩, -, X28, ⟨Lc28, hQ28, l28, y28, z28⟩, st28⟩ := Jvm.LawKit.callS X27 hx (y := (⟨"com/example/lookback/lookback/PlainDecimalsValueOfPinLaw", "digit", "(J[JI)I"⟩ : MethodName)) hown (mvT hZ (hw _ (List.mem_of_getElem? (i := 11) rfl))) (mvT hZ (hw _ (List.mem_of_getElem? (i := 12) rfl))) (mvT hZ (hw _ (List.mem_of_getElem? (i := 13) rfl))) (mvT hZ (hw _ (List.mem_of_getElem? (i := 14) rfl))) (by decide) (backOf (W := 2) (rm1 l Z a0 hw [] v2 b3 (6 : Int32) own_pw h27 n0 (Nat.le_trans Z0 KK27.1) VW27_b3 (by decide) (by decide)) hZ (hw _ (List.mem_of_getElem? (i := 14) rfl)) (hw _ (List.mem_of_getElem? (i := 13) rfl)) (by decide) (by decide)) (g := (mkF m 162 #[.val (.long q1), .second, .val (.int p2), .val (.int p3), .val (.int p4), .val (.int p5), .val (.long v2), .second, .val (.ref b3), .val (.ref b15), .unset, .unset, .unset, .unset, .unset, .unset, .unset, .unset, .unset] [(.int (6 : Int32)), (.ref b3), (.long v2), (.int (7 : Int32)), (.ref b15)])) rfl (by rw [hml]; rfl) (argsL := [(.long v2), (.ref b3), (.int (6 : Int32))]) (rest := [(.int (7 : Int32)), (.ref b15)]) (lenOf pd_0_1 rfl) rfl (by show 2 * 0 + _ ≤ _; exact Nat.le_of_eq rfl) (hb hby at_162) (fun _ _ => ⟨rfl, e27, (by decide : 2 + 0 ≤ _), (by decide : 22 + 0 ≤ _)⟩)
  dsimp only [Pt.U, Pt.locs, Pt.cells, Pt.slots] at X28 l28 y28 z28 st28 hQ28
  subst l28 y28 z28
  obtain ⟨rfl, rfl, e28⟩ := hQ28
  rw [List.append_nil] at X28
  replace X28 : Stand p l e room_1 s m #[(.long q1), (.int p2), (.int p3), (.int p4), (.int p5)] below meth c T28 L27 2 22 := X28
  obtain ⟨cl29, Ar29, S29, H29⟩ := V27
  have hin29 := AF_in (j := (7 : Int32)) S29 (by decide) (by decide)
  obtain ⟨T29, h29, X29, e29, W29, st29⟩ := stI X28 hx hZ e28 Ar29 (j := (7 : Int32)) hin29 (g := (mkF m 165 #[.val (.long q1), .second, .val (.int p2), .val (.int p3), .val (.int p4), .val (.int p5), .val (.long v2), .second, .val (.ref b3), .val (.ref b15), .unset, .unset, .unset, .unset, .unset, .unset, .unset, .unset, .unset] [(.int (F1 v2 (6 : Int32) own_pw)), (.int (7 : Int32)), (.ref b15)])) rfl rfl (hb hby at_165)
  have V29 := AF.same Ar29 S29 H29 W29
  have N29 := Fr.snoc X29 N27 gb15
  have KK29 : Keep h0 h29 [] := KK27.wr W29 (Or.inr sz15)
  obtain ⟨L29, l29⟩ : ∃ z, z = L27 ++ [(⟨b15, ((7 : Int32) : Int32).toNatClampNeg⟩ : Loc)] := ⟨_, rfl⟩
  rw [← l29] at X29 N29
  have VW29_b3 := VW27_b3.other W29 ne_b3_b15
  obtain ⟨_, _, ⟨T30, L30, k30, n30⟩, -, X30, ⟨Lc30, hQ30, l30, y30, z30⟩, st30⟩ := Jvm.LawKit.callS X29 hx (y := (⟨"com/example/lookback/lookback/PlainDecimalsValueOfPinLaw", "digit", "(J[JI)I"⟩ : MethodName)) hown (mvT hZ (hw _ (List.mem_of_getElem? (i := 11) rfl))) (mvT hZ (hw _ (List.mem_of_getElem? (i := 12) rfl))) (mvT hZ (hw _ (List.mem_of_getElem? (i := 13) rfl))) (mvT hZ (hw _ (List.mem_of_getElem? (i := 14) rfl))) (by decide) (backOf (W := 2) (rm1 l Z a0 hw [] v2 b3 (7 : Int32) own_pw h29 n0 (Nat.le_trans Z0 KK29.1) VW29_b3 (by decide) (by decide)) hZ (hw _ (List.mem_of_getElem? (i := 14) rfl)) (hw _ (List.mem_of_getElem? (i := 13) rfl)) (by decide) (by decide)) (g := (mkF m 176 #[.val (.long q1), .second, .val (.int p2), .val (.int p3), .val (.int p4), .val (.int p5), .val (.long v2), .second, .val (.ref b3), .val (.ref b15), .unset, .unset, .unset, .unset, .unset, .unset, .unset, .unset, .unset] [(.int (7 : Int32)), (.ref b3), (.long v2), (.int (8 : Int32)), (.ref b15)])) rfl (by rw [hml]; rfl) (argsL := [(.long v2), (.ref b3), (.int (7 : Int32))]) (rest := [(.int (8 : Int32)), (.ref b15)]) (lenOf pd_0_1 rfl) rfl (by show 2 * 0 + _ ≤ _; exact Nat.le_of_eq rfl) (hb hby at_176) (fun _ _ => ⟨rfl, e29, (by decide : 2 + 0 ≤ _), (by decide : 22 + 0 ≤ _)⟩)
  dsimp only [Pt.U, Pt.locs, Pt.cells, Pt.slots] at X30 l30 y30 z30 st30 hQ30
  subst l30 y30 z30
  obtain ⟨rfl, rfl, e30⟩ := hQ30
  rw [List.append_nil] at X30
  replace X30 : Stand p l e room_1 s m #[(.long q1), (.int p2), (.int p3), (.int p4), (.int p5)] below meth c T30 L29 2 22 := X30
  obtain ⟨cl31, Ar31, S31, H31⟩ := V29
  have hin31 := AF_in (j := (8 : Int32)) S31 (by decide) (by decide)
  obtain ⟨T31, h31, X31, e31, W31, st31⟩ := stI X30 hx hZ e30 Ar31 (j := (8 : Int32)) hin31 (g := (mkF m 179 #[.val (.long q1), .second, .val (.int p2), .val (.int p3), .val (.int p4), .val (.int p5), .val (.long v2), .second, .val (.ref b3), .val (.ref b15), .unset, .unset, .unset, .unset, .unset, .unset, .unset, .unset, .unset] [(.int (F1 v2 (7 : Int32) own_pw)), (.int (8 : Int32)), (.ref b15)])) rfl rfl (hb hby at_179)
  have V31 := AF.same Ar31 S31 H31 W31
  have N31 := Fr.snoc X31 N29 gb15
  have KK31 : Keep h0 h31 [] := KK29.wr W31 (Or.inr sz15)
  obtain ⟨L31, l31⟩ : ∃ z, z = L29 ++ [(⟨b15, ((8 : Int32) : Int32).toNatClampNeg⟩ : Loc)] := ⟨_, rfl⟩
  rw [← l31] at X31 N31
  have VW31_b3 := VW29_b3.other W31 ne_b3_b15
  obtain ⟨_, _, ⟨T32, L32, k32, n32⟩, -, X32, ⟨Lc32, hQ32, l32, y32, z32⟩, st32⟩ := Jvm.LawKit.callS X31 hx (y := (⟨"com/example/lookback/lookback/PlainDecimalsValueOfPinLaw", "digit", "(J[JI)I"⟩ : MethodName)) hown (mvT hZ (hw _ (List.mem_of_getElem? (i := 11) rfl))) (mvT hZ (hw _ (List.mem_of_getElem? (i := 12) rfl))) (mvT hZ (hw _ (List.mem_of_getElem? (i := 13) rfl))) (mvT hZ (hw _ (List.mem_of_getElem? (i := 14) rfl))) (by decide) (backOf (W := 2) (rm1 l Z a0 hw [] v2 b3 (8 : Int32) own_pw h31 n0 (Nat.le_trans Z0 KK31.1) VW31_b3 (by decide) (by decide)) hZ (hw _ (List.mem_of_getElem? (i := 14) rfl)) (hw _ (List.mem_of_getElem? (i := 13) rfl)) (by decide) (by decide)) (g := (mkF m 190 #[.val (.long q1), .second, .val (.int p2), .val (.int p3), .val (.int p4), .val (.int p5), .val (.long v2), .second, .val (.ref b3), .val (.ref b15), .unset, .unset, .unset, .unset, .unset, .unset, .unset, .unset, .unset] [(.int (8 : Int32)), (.ref b3), (.long v2), (.int (9 : Int32)), (.ref b15)])) rfl (by rw [hml]; rfl) (argsL := [(.long v2), (.ref b3), (.int (8 : Int32))]) (rest := [(.int (9 : Int32)), (.ref b15)]) (lenOf pd_0_1 rfl) rfl (by show 2 * 0 + _ ≤ _; exact Nat.le_of_eq rfl) (hb hby at_190) (fun _ _ => ⟨rfl, e31, (by decide : 2 + 0 ≤ _), (by decide : 22 + 0 ≤ _)⟩)
  dsimp only [Pt.U, Pt.locs, Pt.cells, Pt.slots] at X32 l32 y32 z32 st32 hQ32
  subst l32 y32 z32
  obtain ⟨rfl, rfl, e32⟩ := hQ32
  rw [List.append_nil] at X32
  replace X32 : Stand p l e room_1 s m #[(.long q1), (.int p2), (.int p3), (.int p4), (.int p5)] below meth c T32 L31 2 22 := X32
  obtain ⟨cl33, Ar33, S33, H33⟩ := V31
  have hin33 := AF_in (j := (9 : Int32)) S33 (by decide) (by decide)
  obtain ⟨T33, h33, X33, e33, W33, st33⟩ := stI X32 hx hZ e32 Ar33 (j := (9 : Int32)) hin33 (g := (mkF m 193 #[.val (.long q1), .second, .val (.int p2), .val (.int p3), .val (.int p4), .val (.int p5), .val (.long v2), .second, .val (.ref b3), .val (.ref b15), .unset, .unset, .unset, .unset, .unset, .unset, .unset, .unset, .unset] [(.int (F1 v2 (8 : Int32) own_pw)), (.int (9 : Int32)), (.ref b15)])) rfl rfl (hb hby at_193)
  have V33 := AF.same Ar33 S33 H33 W33
  have N33 := Fr.snoc X33 N31 gb15
  have KK33 : Keep h0 h33 [] := KK31.wr W33 (Or.inr sz15)
  obtain ⟨L33, l33⟩ : ∃ z, z = L31 ++ [(⟨b15, ((9 : Int32) : Int32).toNatClampNeg⟩ : Loc)] := ⟨_, rfl⟩
  rw [← l33] at X33 N33
  have VW33_b3 := VW31_b3.other W33 ne_b3_b15
  obtain ⟨_, _, ⟨T34, L34, k34, n34⟩, -, X34, ⟨Lc34, hQ34, l34, y34, z34⟩, st34⟩ := Jvm.LawKit.callS X33 hx (y := (⟨"com/example/lookback/lookback/PlainDecimalsValueOfPinLaw", "digit", "(J[JI)I"⟩ : MethodName)) hown (mvT hZ (hw _ (List.mem_of_getElem? (i := 11) rfl))) (mvT hZ (hw _ (List.mem_of_getElem? (i := 12) rfl))) (mvT hZ (hw _ (List.mem_of_getElem? (i := 13) rfl))) (mvT hZ (hw _ (List.mem_of_getElem? (i := 14) rfl))) (by decide) (backOf (W := 2) (rm1 l Z a0 hw [] v2 b3 (9 : Int32) own_pw h33 n0 (Nat.le_trans Z0 KK33.1) VW33_b3 (by decide) (by decide)) hZ (hw _ (List.mem_of_getElem? (i := 14) rfl)) (hw _ (List.mem_of_getElem? (i := 13) rfl)) (by decide) (by decide)) (g := (mkF m 204 #[.val (.long q1), .second, .val (.int p2), .val (.int p3), .val (.int p4), .val (.int p5), .val (.long v2), .second, .val (.ref b3), .val (.ref b15), .unset, .unset, .unset, .unset, .unset, .unset, .unset, .unset, .unset] [(.int (9 : Int32)), (.ref b3), (.long v2), (.int (10 : Int32)), (.ref b15)])) rfl (by rw [hml]; rfl) (argsL := [(.long v2), (.ref b3), (.int (9 : Int32))]) (rest := [(.int (10 : Int32)), (.ref b15)]) (lenOf pd_0_1 rfl) rfl (by show 2 * 0 + _ ≤ _; exact Nat.le_of_eq rfl) (hb hby at_204) (fun _ _ => ⟨rfl, e33, (by decide : 2 + 0 ≤ _), (by decide : 22 + 0 ≤ _)⟩)
  dsimp only [Pt.U, Pt.locs, Pt.cells, Pt.slots] at X34 l34 y34 z34 st34 hQ34
  subst l34 y34 z34
  obtain ⟨rfl, rfl, e34⟩ := hQ34
  rw [List.append_nil] at X34
  replace X34 : Stand p l e room_1 s m #[(.long q1), (.int p2), (.int p3), (.int p4), (.int p5)] below meth c T34 L33 2 22 := X34
  obtain ⟨cl35, Ar35, S35, H35⟩ := V33
  have hin35 := AF_in (j := (10 : Int32)) S35 (by decide) (by decide)
  obtain ⟨T35, h35, X35, e35, W35, st35⟩ := stI X34 hx hZ e34 Ar35 (j := (10 : Int32)) hin35 (g := (mkF m 207 #[.val (.long q1), .second, .val (.int p2), .val (.int p3), .val (.int p4), .val (.int p5), .val (.long v2), .second, .val (.ref b3), .val (.ref b15), .unset, .unset, .unset, .unset, .unset, .unset, .unset, .unset, .unset] [(.int (F1 v2 (9 : Int32) own_pw)), (.int (10 : Int32)), (.ref b15)])) rfl rfl (hb hby at_207)
  have V35 := AF.same Ar35 S35 H35 W35
  have N35 := Fr.snoc X35 N33 gb15
  have KK35 : Keep h0 h35 [] := KK33.wr W35 (Or.inr sz15)
  obtain ⟨L35, l35⟩ : ∃ z, z = L33 ++ [(⟨b15, ((10 : Int32) : Int32).toNatClampNeg⟩ : Loc)] := ⟨_, rfl⟩
  rw [← l35] at X35 N35
  have VW35_b3 := VW33_b3.other W35 ne_b3_b15
  have VC36 := own_dig V35
  obtain ⟨T37, h37, k37, X37, e37, E37, A37, st37⟩ := newP X35 hx hZ (hw _ (List.mem_of_getElem? (i := 15) rfl)) e35 (g := (mkF m 210 #[.val (.long q1), .second, .val (.int p2), .val (.int p3), .val (.int p4), .val (.int p5), .val (.long v2), .second, .val (.ref b3), .val (.ref b15), .unset, .unset, .unset, .unset, .unset, .unset, .unset, .unset, .unset] [(.int (12 : Int32))])) rfl (hb hby at_210) rfl (by decide) (cap := 12) (by decide) (by decide) (by decide) (by decide)
  obtain ⟨b37, g37⟩ : ∃ z, z = h35.size := ⟨_, rfl⟩
  rw [← g37] at A37 st37
  have ne_b3_b37 : b3 ≠ b37 := Nat.ne_of_lt (Nat.lt_of_lt_of_le VW35_b3.lt (Nat.le_of_eq g37.symm))
  have VX37_b3 := VW35_b3.ext E37
  have ne_b15_b37 : b15 ≠ b37 := Nat.ne_of_lt (Nat.lt_of_lt_of_le VC36.lt (Nat.le_of_eq g37.symm))
  have VX37_b15 := VC36.ext E37
  have V37 := AF.new A37 (by decide)
  have Z37 : n0 ≤ h37.size := Nat.le_trans (Nat.le_trans Z0 KK35.1) E37.1
  have gb37 : n0 ≤ b37 := Nat.le_trans (Nat.le_trans Z0 KK35.1) (Nat.le_of_eq g37.symm)
  have sz37 : h0.size ≤ b37 := Nat.le_trans KK35.1 (Nat.le_of_eq g37.symm)
  have KK37 : Keep h0 h37 [] := KK35.ext E37
  replace X37 : Stand p l e room_1 s m #[(.long q1), (.int p2), (.int p3), (.int p4), (.int p5)] below meth c T37 L35 3 34 := X37
  obtain ⟨cl38, Ar38, S38, H38⟩ := V37
  have hin38 := AF_in (j := (0 : Int32)) S38 (by decide) (by decide)
  obtain ⟨T38, h38, X38, e38, W38, st38⟩ := stC X37 hx hZ e37 Ar38 (j := (0 : Int32)) hin38 (g := (mkF m 223 #[.val (.long q1), .second, .val (.int p2), .val (.int p3), .val (.int p4), .val (.int p5), .val (.long v2), .second, .val (.ref b3), .val (.ref b15), .val (.ref b37), .unset, .unset, .unset, .unset, .unset, .unset, .unset, .unset] [(.int ((p2 &&& (255 : Int32)).toUInt32.toUInt16.toUInt32.toInt32)), (.int (0 : Int32)), (.ref b37)])) rfl rfl (hb hby at_223)
  have V38 := AF.same Ar38 S38 H38 W38
  have N38 := Fr.snoc X38 N35 gb37
  have KK38 : Keep h0 h38 [] := KK37.wr W38 (Or.inr sz37)
  obtain ⟨L38, l38⟩ : ∃ z, z = L35 ++ [(⟨b37, ((0 : Int32) : Int32).toNatClampNeg⟩ : Loc)] := ⟨_, rfl⟩
  rw [← l38] at X38 N38
  have VW38_b3 := VX37_b3.other W38 ne_b3_b37
  have VW38_b15 := VX37_b15.other W38 ne_b15_b37
  obtain ⟨cl39, Ar39, S39, H39⟩ := id VW38_b15
  have hin39 := AF_in (j := (1 : Int32)) S39 (by decide) (by decide)
  have hat39 := AF_at (j := (1 : Int32)) (w := (.int (own_d v2 1))) H39 (by decide) (by decide) rfl
  obtain ⟨cl40, Ar40, S40, H40⟩ := V38
  have hin40 := AF_in (j := (1 : Int32)) S40 (by decide) (by decide)
  obtain ⟨T40, h40, X40, e40, W40, st40⟩ := stC X38 hx hZ e38 Ar40 (j := (1 : Int32)) hin40 (g := (mkF m 235 #[.val (.long q1), .second, .val (.int p2), .val (.int p3), .val (.int p4), .val (.int p5), .val (.long v2), .second, .val (.ref b3), .val (.ref b15), .val (.ref b37), .unset, .unset, .unset, .unset, .unset, .unset, .unset, .unset] [(.int (((48 : Int32) + (own_d v2 1)).toUInt32.toUInt16.toUInt32.toInt32)), (.int (1 : Int32)), (.ref b37)])) rfl rfl (hb hby at_235)
  have V40 := AF.same Ar40 S40 H40 W40
  have N40 := Fr.snoc X40 N38 gb37
  have KK40 : Keep h0 h40 [] := KK38.wr W40 (Or.inr sz37)
  obtain ⟨L40, l40⟩ : ∃ z, z = L38 ++ [(⟨b37, ((1 : Int32) : Int32).toNatClampNeg⟩ : Loc)] := ⟨_, rfl⟩
  rw [← l40] at X40 N40
  have VW40_b3 := VW38_b3.other W40 ne_b3_b37
  have VW40_b15 := VW38_b15.other W40 ne_b15_b37
  obtain ⟨cl41, Ar41, S41, H41⟩ := id VW40_b15
  have hin41 := AF_in (j := (2 : Int32)) S41 (by decide) (by decide)
  have hat41 := AF_at (j := (2 : Int32)) (w := (.int (own_d v2 2))) H41 (by decide) (by decide) rfl
  obtain ⟨cl42, Ar42, S42, H42⟩ := V40
  have hin42 := AF_in (j := (2 : Int32)) S42 (by decide) (by decide)
  obtain ⟨T42, h42, X42, e42, W42, st42⟩ := stC X40 hx hZ e40 Ar42 (j := (2 : Int32)) hin42 (g := (mkF m 247 #[.val (.long q1), .second, .val (.int p2), .val (.int p3), .val (.int p4), .val (.int p5), .val (.long v2), .second, .val (.ref b3), .val (.ref b15), .val (.ref b37), .unset, .unset, .unset, .unset, .unset, .unset, .unset, .unset] [(.int (((48 : Int32) + (own_d v2 2)).toUInt32.toUInt16.toUInt32.toInt32)), (.int (2 : Int32)), (.ref b37)])) rfl rfl (hb hby at_247)
  have V42 := AF.same Ar42 S42 H42 W42
  have N42 := Fr.snoc X42 N40 gb37
  have KK42 : Keep h0 h42 [] := KK40.wr W42 (Or.inr sz37)
  obtain ⟨L42, l42⟩ : ∃ z, z = L40 ++ [(⟨b37, ((2 : Int32) : Int32).toNatClampNeg⟩ : Loc)] := ⟨_, rfl⟩
  rw [← l42] at X42 N42
  have VW42_b3 := VW40_b3.other W42 ne_b3_b37
  have VW42_b15 := VW40_b15.other W42 ne_b15_b37
  obtain ⟨cl43, Ar43, S43, H43⟩ := id VW42_b15
  have hin43 := AF_in (j := (3 : Int32)) S43 (by decide) (by decide)
  have hat43 := AF_at (j := (3 : Int32)) (w := (.int (own_d v2 3))) H43 (by decide) (by decide) rfl
  obtain ⟨cl44, Ar44, S44, H44⟩ := V42
  have hin44 := AF_in (j := (3 : Int32)) S44 (by decide) (by decide)
  obtain ⟨T44, h44, X44, e44, W44, st44⟩ := stC X42 hx hZ e42 Ar44 (j := (3 : Int32)) hin44 (g := (mkF m 259 #[.val (.long q1), .second, .val (.int p2), .val (.int p3), .val (.int p4), .val (.int p5), .val (.long v2), .second, .val (.ref b3), .val (.ref b15), .val (.ref b37), .unset, .unset, .unset, .unset, .unset, .unset, .unset, .unset] [(.int (((48 : Int32) + (own_d v2 3)).toUInt32.toUInt16.toUInt32.toInt32)), (.int (3 : Int32)), (.ref b37)])) rfl rfl (hb hby at_259)
  have V44 := AF.same Ar44 S44 H44 W44
  have N44 := Fr.snoc X44 N42 gb37
  have KK44 : Keep h0 h44 [] := KK42.wr W44 (Or.inr sz37)
  obtain ⟨L44, l44⟩ : ∃ z, z = L42 ++ [(⟨b37, ((3 : Int32) : Int32).toNatClampNeg⟩ : Loc)] := ⟨_, rfl⟩
  rw [← l44] at X44 N44
  have VW44_b3 := VW42_b3.other W44 ne_b3_b37
  have VW44_b15 := VW42_b15.other W44 ne_b15_b37
  obtain ⟨cl45, Ar45, S45, H45⟩ := id VW44_b15
  have hin45 := AF_in (j := (4 : Int32)) S45 (by decide) (by decide)
  have hat45 := AF_at (j := (4 : Int32)) (w := (.int (own_d v2 4))) H45 (by decide) (by decide) rfl
  obtain ⟨cl46, Ar46, S46, H46⟩ := V44
  have hin46 := AF_in (j := (4 : Int32)) S46 (by decide) (by decide)
  obtain ⟨T46, h46, X46, e46, W46, st46⟩ := stC X44 hx hZ e44 Ar46 (j := (4 : Int32)) hin46 (g := (mkF m 271 #[.val (.long q1), .second, .val (.int p2), .val (.int p3), .val (.int p4), .val (.int p5), .val (.long v2), .second, .val (.ref b3), .val (.ref b15), .val (.ref b37), .unset, .unset, .unset, .unset, .unset, .unset, .unset, .unset] [(.int (((48 : Int32) + (own_d v2 4)).toUInt32.toUInt16.toUInt32.toInt32)), (.int (4 : Int32)), (.ref b37)])) rfl rfl (hb hby at_271)
  have V46 := AF.same Ar46 S46 H46 W46
  have N46 := Fr.snoc X46 N44 gb37
  have KK46 : Keep h0 h46 [] := KK44.wr W46 (Or.inr sz37)
  obtain ⟨L46, l46⟩ : ∃ z, z = L44 ++ [(⟨b37, ((4 : Int32) : Int32).toNatClampNeg⟩ : Loc)] := ⟨_, rfl⟩
  rw [← l46] at X46 N46
  have VW46_b3 := VW44_b3.other W46 ne_b3_b37
  have VW46_b15 := VW44_b15.other W46 ne_b15_b37
  obtain ⟨cl47, Ar47, S47, H47⟩ := id VW46_b15
  have hin47 := AF_in (j := (5 : Int32)) S47 (by decide) (by decide)
  have hat47 := AF_at (j := (5 : Int32)) (w := (.int (own_d v2 5))) H47 (by decide) (by decide) rfl
  obtain ⟨cl48, Ar48, S48, H48⟩ := V46
  have hin48 := AF_in (j := (5 : Int32)) S48 (by decide) (by decide)
  obtain ⟨T48, h48, X48, e48, W48, st48⟩ := stC X46 hx hZ e46 Ar48 (j := (5 : Int32)) hin48 (g := (mkF m 283 #[.val (.long q1), .second, .val (.int p2), .val (.int p3), .val (.int p4), .val (.int p5), .val (.long v2), .second, .val (.ref b3), .val (.ref b15), .val (.ref b37), .unset, .unset, .unset, .unset, .unset, .unset, .unset, .unset] [(.int (((48 : Int32) + (own_d v2 5)).toUInt32.toUInt16.toUInt32.toInt32)), (.int (5 : Int32)), (.ref b37)])) rfl rfl (hb hby at_283)
  have V48 := AF.same Ar48 S48 H48 W48
  have N48 := Fr.snoc X48 N46 gb37
  have KK48 : Keep h0 h48 [] := KK46.wr W48 (Or.inr sz37)
  obtain ⟨L48, l48⟩ : ∃ z, z = L46 ++ [(⟨b37, ((5 : Int32) : Int32).toNatClampNeg⟩ : Loc)] := ⟨_, rfl⟩
  rw [← l48] at X48 N48
  have VW48_b3 := VW46_b3.other W48 ne_b3_b37
  have VW48_b15 := VW46_b15.other W48 ne_b15_b37
  obtain ⟨cl49, Ar49, S49, H49⟩ := id VW48_b15
  have hin49 := AF_in (j := (6 : Int32)) S49 (by decide) (by decide)
  have hat49 := AF_at (j := (6 : Int32)) (w := (.int (own_d v2 6))) H49 (by decide) (by decide) rfl
  obtain ⟨cl50, Ar50, S50, H50⟩ := V48
  have hin50 := AF_in (j := (6 : Int32)) S50 (by decide) (by decide)
  obtain ⟨T50, h50, X50, e50, W50, st50⟩ := stC X48 hx hZ e48 Ar50 (j := (6 : Int32)) hin50 (g := (mkF m 297 #[.val (.long q1), .second, .val (.int p2), .val (.int p3), .val (.int p4), .val (.int p5), .val (.long v2), .second, .val (.ref b3), .val (.ref b15), .val (.ref b37), .unset, .unset, .unset, .unset, .unset, .unset, .unset, .unset] [(.int (((48 : Int32) + (own_d v2 6)).toUInt32.toUInt16.toUInt32.toInt32)), (.int (6 : Int32)), (.ref b37)])) rfl rfl (hb hby at_297)
  have V50 := AF.same Ar50 S50 H50 W50
  have N50 := Fr.snoc X50 N48 gb37
  have KK50 : Keep h0 h50 [] := KK48.wr W50 (Or.inr sz37)
  obtain ⟨L50, l50⟩ : ∃ z, z = L48 ++ [(⟨b37, ((6 : Int32) : Int32).toNatClampNeg⟩ : Loc)] := ⟨_, rfl⟩
  rw [← l50] at X50 N50
  have VW50_b3 := VW48_b3.other W50 ne_b3_b37
  have VW50_b15 := VW48_b15.other W50 ne_b15_b37
  obtain ⟨cl51, Ar51, S51, H51⟩ := id VW50_b15
  have hin51 := AF_in (j := (7 : Int32)) S51 (by decide) (by decide)
  have hat51 := AF_at (j := (7 : Int32)) (w := (.int (own_d v2 7))) H51 (by decide) (by decide) rfl
  obtain ⟨cl52, Ar52, S52, H52⟩ := V50
  have hin52 := AF_in (j := (7 : Int32)) S52 (by decide) (by decide)
  obtain ⟨T52, h52, X52, e52, W52, st52⟩ := stC X50 hx hZ e50 Ar52 (j := (7 : Int32)) hin52 (g := (mkF m 311 #[.val (.long q1), .second, .val (.int p2), .val (.int p3), .val (.int p4), .val (.int p5), .val (.long v2), .second, .val (.ref b3), .val (.ref b15), .val (.ref b37), .unset, .unset, .unset, .unset, .unset, .unset, .unset, .unset] [(.int (((48 : Int32) + (own_d v2 7)).toUInt32.toUInt16.toUInt32.toInt32)), (.int (7 : Int32)), (.ref b37)])) rfl rfl (hb hby at_311)
  have V52 := AF.same Ar52 S52 H52 W52
  have N52 := Fr.snoc X52 N50 gb37
  have KK52 : Keep h0 h52 [] := KK50.wr W52 (Or.inr sz37)
  obtain ⟨L52, l52⟩ : ∃ z, z = L50 ++ [(⟨b37, ((7 : Int32) : Int32).toNatClampNeg⟩ : Loc)] := ⟨_, rfl⟩
  rw [← l52] at X52 N52
  have VW52_b3 := VW50_b3.other W52 ne_b3_b37
  have VW52_b15 := VW50_b15.other W52 ne_b15_b37
  obtain ⟨cl53, Ar53, S53, H53⟩ := id VW52_b15
  have hin53 := AF_in (j := (8 : Int32)) S53 (by decide) (by decide)
  have hat53 := AF_at (j := (8 : Int32)) (w := (.int (own_d v2 8))) H53 (by decide) (by decide) rfl
  obtain ⟨cl54, Ar54, S54, H54⟩ := V52
  have hin54 := AF_in (j := (8 : Int32)) S54 (by decide) (by decide)
  obtain ⟨T54, h54, X54, e54, W54, st54⟩ := stC X52 hx hZ e52 Ar54 (j := (8 : Int32)) hin54 (g := (mkF m 325 #[.val (.long q1), .second, .val (.int p2), .val (.int p3), .val (.int p4), .val (.int p5), .val (.long v2), .second, .val (.ref b3), .val (.ref b15), .val (.ref b37), .unset, .unset, .unset, .unset, .unset, .unset, .unset, .unset] [(.int (((48 : Int32) + (own_d v2 8)).toUInt32.toUInt16.toUInt32.toInt32)), (.int (8 : Int32)), (.ref b37)])) rfl rfl (hb hby at_325)
  have V54 := AF.same Ar54 S54 H54 W54
  have N54 := Fr.snoc X54 N52 gb37
  have KK54 : Keep h0 h54 [] := KK52.wr W54 (Or.inr sz37)
  obtain ⟨L54, l54⟩ : ∃ z, z = L52 ++ [(⟨b37, ((8 : Int32) : Int32).toNatClampNeg⟩ : Loc)] := ⟨_, rfl⟩
  rw [← l54] at X54 N54
  have VW54_b3 := VW52_b3.other W54 ne_b3_b37
  have VW54_b15 := VW52_b15.other W54 ne_b15_b37
  obtain ⟨cl55, Ar55, S55, H55⟩ := id VW54_b15
  have hin55 := AF_in (j := (9 : Int32)) S55 (by decide) (by decide)
  have hat55 := AF_at (j := (9 : Int32)) (w := (.int (own_d v2 9))) H55 (by decide) (by decide) rfl
  obtain ⟨cl56, Ar56, S56, H56⟩ := V54
  have hin56 := AF_in (j := (9 : Int32)) S56 (by decide) (by decide)
  obtain ⟨T56, h56, X56, e56, W56, st56⟩ := stC X54 hx hZ e54 Ar56 (j := (9 : Int32)) hin56 (g := (mkF m 339 #[.val (.long q1), .second, .val (.int p2), .val (.int p3), .val (.int p4), .val (.int p5), .val (.long v2), .second, .val (.ref b3), .val (.ref b15), .val (.ref b37), .unset, .unset, .unset, .unset, .unset, .unset, .unset, .unset] [(.int (((48 : Int32) + (own_d v2 9)).toUInt32.toUInt16.toUInt32.toInt32)), (.int (9 : Int32)), (.ref b37)])) rfl rfl (hb hby at_339)
  have V56 := AF.same Ar56 S56 H56 W56
  have N56 := Fr.snoc X56 N54 gb37
  have KK56 : Keep h0 h56 [] := KK54.wr W56 (Or.inr sz37)
  obtain ⟨L56, l56⟩ : ∃ z, z = L54 ++ [(⟨b37, ((9 : Int32) : Int32).toNatClampNeg⟩ : Loc)] := ⟨_, rfl⟩
  rw [← l56] at X56 N56
  have VW56_b3 := VW54_b3.other W56 ne_b3_b37
  have VW56_b15 := VW54_b15.other W56 ne_b15_b37
  obtain ⟨cl57, Ar57, S57, H57⟩ := id VW56_b15
  have hin57 := AF_in (j := (10 : Int32)) S57 (by decide) (by decide)
  have hat57 := AF_at (j := (10 : Int32)) (w := (.int (own_d v2 10))) H57 (by decide) (by decide) rfl
  obtain ⟨cl58, Ar58, S58, H58⟩ := V56
  have hin58 := AF_in (j := (10 : Int32)) S58 (by decide) (by decide)
  obtain ⟨T58, h58, X58, e58, W58, st58⟩ := stC X56 hx hZ e56 Ar58 (j := (10 : Int32)) hin58 (g := (mkF m 353 #[.val (.long q1), .second, .val (.int p2), .val (.int p3), .val (.int p4), .val (.int p5), .val (.long v2), .second, .val (.ref b3), .val (.ref b15), .val (.ref b37), .unset, .unset, .unset, .unset, .unset, .unset, .unset, .unset] [(.int (((48 : Int32) + (own_d v2 10)).toUInt32.toUInt16.toUInt32.toInt32)), (.int (10 : Int32)), (.ref b37)])) rfl rfl (hb hby at_353)
  have V58 := AF.same Ar58 S58 H58 W58
  have N58 := Fr.snoc X58 N56 gb37
  have KK58 : Keep h0 h58 [] := KK56.wr W58 (Or.inr sz37)
  obtain ⟨L58, l58⟩ : ∃ z, z = L56 ++ [(⟨b37, ((10 : Int32) : Int32).toNatClampNeg⟩ : Loc)] := ⟨_, rfl⟩
  rw [← l58] at X58 N58
  have VW58_b3 := VW56_b3.other W58 ne_b3_b37
  have VW58_b15 := VW56_b15.other W58 ne_b15_b37
  obtain ⟨cl59, Ar59, S59, H59⟩ := V58
  have hin59 := AF_in (j := (11 : Int32)) S59 (by decide) (by decide)
  obtain ⟨T59, h59, X59, e59, W59, st59⟩ := stC X58 hx hZ e58 Ar59 (j := (11 : Int32)) hin59 (g := (mkF m 364 #[.val (.long q1), .second, .val (.int p2), .val (.int p3), .val (.int p4), .val (.int p5), .val (.long v2), .second, .val (.ref b3), .val (.ref b15), .val (.ref b37), .unset, .unset, .unset, .unset, .unset, .unset, .unset, .unset] [(.int ((p3 &&& (255 : Int32)).toUInt32.toUInt16.toUInt32.toInt32)), (.int (11 : Int32)), (.ref b37)])) rfl rfl (hb hby at_364)
  have V59 := AF.same Ar59 S59 H59 W59
  have N59 := Fr.snoc X59 N58 gb37
  have KK59 : Keep h0 h59 [] := KK58.wr W59 (Or.inr sz37)
  obtain ⟨L59, l59⟩ : ∃ z, z = L58 ++ [(⟨b37, ((11 : Int32) : Int32).toNatClampNeg⟩ : Loc)] := ⟨_, rfl⟩
  rw [← l59] at X59 N59
  have VW59_b3 := VW58_b3.other W59 ne_b3_b37
  have VW59_b15 := VW58_b15.other W59 ne_b15_b37
  obtain ⟨T60, h60, X60, e60, E60, A60, D60, -, st60⟩ := newO X59 hx hZ hown (hw _ (List.mem_of_getElem? (i := 16) rfl)) (hw _ (List.mem_of_getElem? (i := 17) rfl)) (hw _ (List.mem_of_getElem? (i := 18) rfl)) e59 (g := (mkF m 365 #[.val (.long q1), .second, .val (.int p2), .val (.int p3), .val (.int p4), .val (.int p5), .val (.long v2), .second, .val (.ref b3), .val (.ref b15), .val (.ref b37), .unset, .unset, .unset, .unset, .unset, .unset, .unset, .unset] [])) rfl (hb hby at_365) (by decide) (by decide)
  obtain ⟨b60, g60⟩ : ∃ z, z = h59.size := ⟨_, rfl⟩
  rw [← g60] at A60 D60 st60
  have Z60 : n0 ≤ h60.size := Nat.le_trans (Nat.le_trans Z0 KK59.1) E60.1
  have gb60 : n0 ≤ b60 := Nat.le_trans (Nat.le_trans Z0 KK59.1) (Nat.le_of_eq g60.symm)
  have ne_b3_b60 : b3 ≠ b60 := Nat.ne_of_lt (Nat.lt_of_lt_of_le VW59_b3.lt (Nat.le_of_eq g60.symm))
  have VX60_b3 := VW59_b3.ext E60
  have ne_b15_b60 : b15 ≠ b60 := Nat.ne_of_lt (Nat.lt_of_lt_of_le VW59_b15.lt (Nat.le_of_eq g60.symm))
  have VX60_b15 := VW59_b15.ext E60
  have ne_b37_b60 : b37 ≠ b60 := Nat.ne_of_lt (Nat.lt_of_lt_of_le V59.lt (Nat.le_of_eq g60.symm))
  have VX60_b37 := V59.ext E60
  have F_coder_b60 : Fld Z h60 b60 "java/lang/String" "coder" "B" (.int (0 : Int32)) := D60 (Or.inr (hw _ (List.mem_of_getElem? (i := 42) rfl))) (ty := .byte) (by decide)
  have F_value_b60 : Fld Z h60 b60 "java/lang/String" "value" "[B" .null := D60 (Or.inr (hw _ (List.mem_of_getElem? (i := 44) rfl))) (ty := (.array .byte)) (by decide)
  have sz60 : h0.size ≤ b60 := Nat.le_trans KK59.1 (Nat.le_of_eq g60.symm)
  have KK60 : Keep h0 h60 [] := KK59.ext E60
  replace X60 : Stand p l e room_1 s m #[(.long q1), (.int p2), (.int p3), (.int p4), (.int p5)] below meth c T60 L59 4 38 := X60
  obtain ⟨kc61, AV61⟩ := own_chars VX60_b37
  obtain ⟨_, _, ⟨T62, L62, k62, n62⟩, -, X62, ⟨Lc62, hQ62, l62, y62, z62⟩, st62⟩ := X60.specialBack hx (y := (⟨"java/lang/String", "<init>", "([C)V"⟩ : MethodName)) rfl hown (mvT hZ (hw _ (List.mem_of_getElem? (i := 19) rfl))) (mvT hZ (hw _ (List.mem_of_getElem? (i := 20) rfl))) (mvT hZ (hw _ (List.mem_of_getElem? (i := 21) rfl))) (by decide) (StrChars.Road.backV (W := 1) hZ hws (kI := 4) (hw _ (List.mem_of_getElem? (i := 17) rfl)) (cs := ([(nar .char ((p2 &&& (255 : Int32)).toUInt32.toUInt16.toUInt32.toInt32)), (nar .char (((48 : Int32) + (own_d v2 1)).toUInt32.toUInt16.toUInt32.toInt32)), (nar .char (((48 : Int32) + (own_d v2 2)).toUInt32.toUInt16.toUInt32.toInt32)), (nar .char (((48 : Int32) + (own_d v2 3)).toUInt32.toUInt16.toUInt32.toInt32)), (nar .char (((48 : Int32) + (own_d v2 4)).toUInt32.toUInt16.toUInt32.toInt32)), (nar .char (((48 : Int32) + (own_d v2 5)).toUInt32.toUInt16.toUInt32.toInt32)), (nar .char (((48 : Int32) + (own_d v2 6)).toUInt32.toUInt16.toUInt32.toInt32)), (nar .char (((48 : Int32) + (own_d v2 7)).toUInt32.toUInt16.toUInt32.toInt32)), (nar .char (((48 : Int32) + (own_d v2 8)).toUInt32.toUInt16.toUInt32.toInt32)), (nar .char (((48 : Int32) + (own_d v2 9)).toUInt32.toUInt16.toUInt32.toInt32)), (nar .char (((48 : Int32) + (own_d v2 10)).toUInt32.toUInt16.toUInt32.toInt32)), (nar .char ((p3 &&& (255 : Int32)).toUInt32.toUInt16.toUInt32.toInt32))] : List Int32)) (bs := (([(nar .char ((p2 &&& (255 : Int32)).toUInt32.toUInt16.toUInt32.toInt32)), (nar .char (((48 : Int32) + (own_d v2 1)).toUInt32.toUInt16.toUInt32.toInt32)), (nar .char (((48 : Int32) + (own_d v2 2)).toUInt32.toUInt16.toUInt32.toInt32)), (nar .char (((48 : Int32) + (own_d v2 3)).toUInt32.toUInt16.toUInt32.toInt32)), (nar .char (((48 : Int32) + (own_d v2 4)).toUInt32.toUInt16.toUInt32.toInt32)), (nar .char (((48 : Int32) + (own_d v2 5)).toUInt32.toUInt16.toUInt32.toInt32)), (nar .char (((48 : Int32) + (own_d v2 6)).toUInt32.toUInt16.toUInt32.toInt32)), (nar .char (((48 : Int32) + (own_d v2 7)).toUInt32.toUInt16.toUInt32.toInt32)), (nar .char (((48 : Int32) + (own_d v2 8)).toUInt32.toUInt16.toUInt32.toInt32)), (nar .char (((48 : Int32) + (own_d v2 9)).toUInt32.toUInt16.toUInt32.toInt32)), (nar .char (((48 : Int32) + (own_d v2 10)).toUInt32.toUInt16.toUInt32.toInt32)), (nar .char ((p3 &&& (255 : Int32)).toUInt32.toUInt16.toUInt32.toInt32))] : List Int32)).map (fun c => c.toInt8.toInt32)) (n := 12) gb60 Z60 A60 F_value_b60 F_coder_b60 AV61 (O2.ext (own_ext KK60)) P5 rfl rfl (by decide) (by decide) (own_hp p2 p3 _ (own_qn hv2)) rfl (by decide) (by decide)) (g := (mkF m 371 #[.val (.long q1), .second, .val (.int p2), .val (.int p3), .val (.int p4), .val (.int p5), .val (.long v2), .second, .val (.ref b3), .val (.ref b15), .val (.ref b37), .unset, .unset, .unset, .unset, .unset, .unset, .unset, .unset] [(.ref b37), (.ref b60), (.ref b60)])) rfl (by rw [hml]; rfl) (Steps.refl _) (a := b60) (argsL := [(.ref b37)]) (rest := [(.ref b60)]) (lenOf pd_0_str rfl) rfl (by show 2 * 0 + _ ≤ _; exact Nat.le_of_eq rfl) (hb hby at_371) (fun _ _ => ⟨rfl, e60, (by decide : 4 + 1 ≤ _), (by decide : 38 + 12 ≤ _)⟩)
  dsimp only [Pt.U, Pt.locs, Pt.cells, Pt.slots] at X62 l62 y62 z62 st62 hQ62
  subst l62 y62 z62
  obtain ⟨rfl, N62q, K62, Ex62, Fc62, t62, kb62, u62, v62, w62, Fv62, Av62⟩ := hQ62
  have N62 := Fr.app N59 N62q
  have KK62 : Keep h0 T62.heap [] := KK60.trans K62 (fun x hx => by cases List.mem_singleton.mp hx; exact Or.inr sz60)
  have Z62 : n0 ≤ T62.heap.size := Nat.le_trans Z60 K62.1
  replace X62 : Stand p l e room_1 s m #[(.long q1), (.int p2), (.int p3), (.int p4), (.int p5)] below meth c T62 (L59 ++ Lc62) 5 50 := X62
  have VK62_b3 := VX60_b3.keep K62 (ninS ne_b3_b60 nin0)
  have VK62_b15 := VX60_b15.keep K62 (ninS ne_b15_b60 nin0)
  have VK62_b37 := VX60_b37.keep K62 (ninS ne_b37_b60 nin0)
  have R63 : ∀ t, Steps p.tables e below (T62.setTop (mkF m 386 #[.val (.long q1), .second, .val (.int p2), .val (.int p3), .val (.int p4), .val (.int p5), .val (.long v2), .second, .val (.ref b3), .val (.ref b15), .val (.ref b37), .val (.ref b60), .unset, .unset, .unset, .unset, .unset, .unset, .unset] [(.int ((1 : Int32) + ((p4 &&& (2147483647 : Int32)) % (10 : Int32))))])) t → Steps p.tables e below (s₁.setTop (entryFrame m #[(.long q1), (.int p2), (.int p3), (.int p4), (.int p5)] maxLocals)) t := by
    intro t kt
    refine R1 _ ?_
    show Steps p.tables e below (s₁.setTop (mkF m 3 #[.val (.long q1), .second, .val (.int p2), .val (.int p3), .val (.int p4), .val (.int p5), .unset, .unset, .unset, .unset, .unset, .unset, .unset, .unset, .unset, .unset, .unset, .unset, .unset] [(.long v2)])) _
    refine XS.lstore X0.here hx rfl (hb hby at_3) rfl (l' := #[.val (.long q1), .second, .val (.int p2), .val (.int p3), .val (.int p4), .val (.int p5), .val (.long v2), .second, .unset, .unset, .unset, .unset, .unset, .unset, .unset, .unset, .unset, .unset, .unset]) rfl ?_
    show Steps p.tables e below (s₁.setTop (mkF m 5 #[.val (.long q1), .second, .val (.int p2), .val (.int p3), .val (.int p4), .val (.int p5), .val (.long v2), .second, .unset, .unset, .unset, .unset, .unset, .unset, .unset, .unset, .unset, .unset, .unset] [])) _
    refine XS.bipush X0.here hx rfl (hb hby at_5) ?_
    show Steps p.tables e below (s₁.setTop (mkF m 7 #[.val (.long q1), .second, .val (.int p2), .val (.int p3), .val (.int p4), .val (.int p5), .val (.long v2), .second, .unset, .unset, .unset, .unset, .unset, .unset, .unset, .unset, .unset, .unset, .unset] [(.int (10 : Int32))])) _
    refine st3 _ ?_
    show Steps p.tables e below (T3.setTop (mkF m 9 #[.val (.long q1), .second, .val (.int p2), .val (.int p3), .val (.int p4), .val (.int p5), .val (.long v2), .second, .unset, .unset, .unset, .unset, .unset, .unset, .unset, .unset, .unset, .unset, .unset] [(.ref b3)])) _
    refine XS.dup X3.here hx rfl (hb hby at_9) rfl rfl ?_
    show Steps p.tables e below (T3.setTop (mkF m 10 #[.val (.long q1), .second, .val (.int p2), .val (.int p3), .val (.int p4), .val (.int p5), .val (.long v2), .second, .unset, .unset, .unset, .unset, .unset, .unset, .unset, .unset, .unset, .unset, .unset] [(.ref b3), (.ref b3)])) _
    refine XS.iconst X3.here hx rfl (hb hby at_10) ?_
    show Steps p.tables e below (T3.setTop (mkF m 11 #[.val (.long q1), .second, .val (.int p2), .val (.int p3), .val (.int p4), .val (.int p5), .val (.long v2), .second, .unset, .unset, .unset, .unset, .unset, .unset, .unset, .unset, .unset, .unset, .unset] [(.int (0 : Int32)), (.ref b3), (.ref b3)])) _
    refine XS.lconst X3.here hx rfl (hb hby at_11) ?_
    show Steps p.tables e below (T3.setTop (mkF m 12 #[.val (.long q1), .second, .val (.int p2), .val (.int p3), .val (.int p4), .val (.int p5), .val (.long v2), .second, .unset, .unset, .unset, .unset, .unset, .unset, .unset, .unset, .unset, .unset, .unset] [(.long (1 : Int64)), (.int (0 : Int32)), (.ref b3), (.ref b3)])) _
    refine st4 _ ?_
    show Steps p.tables e below (T4.setTop (mkF m 13 #[.val (.long q1), .second, .val (.int p2), .val (.int p3), .val (.int p4), .val (.int p5), .val (.long v2), .second, .unset, .unset, .unset, .unset, .unset, .unset, .unset, .unset, .unset, .unset, .unset] [(.ref b3)])) _
    refine XS.dup X4.here hx rfl (hb hby at_13) rfl rfl ?_
    show Steps p.tables e below (T4.setTop (mkF m 14 #[.val (.long q1), .second, .val (.int p2), .val (.int p3), .val (.int p4), .val (.int p5), .val (.long v2), .second, .unset, .unset, .unset, .unset, .unset, .unset, .unset, .unset, .unset, .unset, .unset] [(.ref b3), (.ref b3)])) _
    refine XS.iconst X4.here hx rfl (hb hby at_14) ?_
    show Steps p.tables e below (T4.setTop (mkF m 15 #[.val (.long q1), .second, .val (.int p2), .val (.int p3), .val (.int p4), .val (.int p5), .val (.long v2), .second, .unset, .unset, .unset, .unset, .unset, .unset, .unset, .unset, .unset, .unset, .unset] [(.int (1 : Int32)), (.ref b3), (.ref b3)])) _
    refine X4.ldc2Long hx hown (mvT hZ (hw _ (List.mem_of_getElem? (i := 1) rfl))) (g := (mkF m 15 #[.val (.long q1), .second, .val (.int p2), .val (.int p3), .val (.int p4), .val (.int p5), .val (.long v2), .second, .unset, .unset, .unset, .unset, .unset, .unset, .unset, .unset, .unset, .unset, .unset] [(.int (1 : Int32)), (.ref b3), (.ref b3)])) rfl (hb hby at_15) _ ?_
    show Steps p.tables e below (T4.setTop (mkF m 18 #[.val (.long q1), .second, .val (.int p2), .val (.int p3), .val (.int p4), .val (.int p5), .val (.long v2), .second, .unset, .unset, .unset, .unset, .unset, .unset, .unset, .unset, .unset, .unset, .unset] [(.long (10 : Int64)), (.int (1 : Int32)), (.ref b3), (.ref b3)])) _
    refine st5 _ ?_
    show Steps p.tables e below (T5.setTop (mkF m 19 #[.val (.long q1), .second, .val (.int p2), .val (.int p3), .val (.int p4), .val (.int p5), .val (.long v2), .second, .unset, .unset, .unset, .unset, .unset, .unset, .unset, .unset, .unset, .unset, .unset] [(.ref b3)])) _
    refine XS.dup X5.here hx rfl (hb hby at_19) rfl rfl ?_
    show Steps p.tables e below (T5.setTop (mkF m 20 #[.val (.long q1), .second, .val (.int p2), .val (.int p3), .val (.int p4), .val (.int p5), .val (.long v2), .second, .unset, .unset, .unset, .unset, .unset, .unset, .unset, .unset, .unset, .unset, .unset] [(.ref b3), (.ref b3)])) _
    refine XS.iconst X5.here hx rfl (hb hby at_20) ?_
    show Steps p.tables e below (T5.setTop (mkF m 21 #[.val (.long q1), .second, .val (.int p2), .val (.int p3), .val (.int p4), .val (.int p5), .val (.long v2), .second, .unset, .unset, .unset, .unset, .unset, .unset, .unset, .unset, .unset, .unset, .unset] [(.int (2 : Int32)), (.ref b3), (.ref b3)])) _
    refine X5.ldc2Long hx hown (mvT hZ (hw _ (List.mem_of_getElem? (i := 2) rfl))) (g := (mkF m 21 #[.val (.long q1), .second, .val (.int p2), .val (.int p3), .val (.int p4), .val (.int p5), .val (.long v2), .second, .unset, .unset, .unset, .unset, .unset, .unset, .unset, .unset, .unset, .unset, .unset] [(.int (2 : Int32)), (.ref b3), (.ref b3)])) rfl (hb hby at_21) _ ?_
    show Steps p.tables e below (T5.setTop (mkF m 24 #[.val (.long q1), .second, .val (.int p2), .val (.int p3), .val (.int p4), .val (.int p5), .val (.long v2), .second, .unset, .unset, .unset, .unset, .unset, .unset, .unset, .unset, .unset, .unset, .unset] [(.long (100 : Int64)), (.int (2 : Int32)), (.ref b3), (.ref b3)])) _
    refine st6 _ ?_
    show Steps p.tables e below (T6.setTop (mkF m 25 #[.val (.long q1), .second, .val (.int p2), .val (.int p3), .val (.int p4), .val (.int p5), .val (.long v2), .second, .unset, .unset, .unset, .unset, .unset, .unset, .unset, .unset, .unset, .unset, .unset] [(.ref b3)])) _
    refine XS.dup X6.here hx rfl (hb hby at_25) rfl rfl ?_
    show Steps p.tables e below (T6.setTop (mkF m 26 #[.val (.long q1), .second, .val (.int p2), .val (.int p3), .val (.int p4), .val (.int p5), .val (.long v2), .second, .unset, .unset, .unset, .unset, .unset, .unset, .unset, .unset, .unset, .unset, .unset] [(.ref b3), (.ref b3)])) _
    refine XS.iconst X6.here hx rfl (hb hby at_26) ?_
    show Steps p.tables e below (T6.setTop (mkF m 27 #[.val (.long q1), .second, .val (.int p2), .val (.int p3), .val (.int p4), .val (.int p5), .val (.long v2), .second, .unset, .unset, .unset, .unset, .unset, .unset, .unset, .unset, .unset, .unset, .unset] [(.int (3 : Int32)), (.ref b3), (.ref b3)])) _
    refine X6.ldc2Long hx hown (mvT hZ (hw _ (List.mem_of_getElem? (i := 3) rfl))) (g := (mkF m 27 #[.val (.long q1), .second, .val (.int p2), .val (.int p3), .val (.int p4), .val (.int p5), .val (.long v2), .second, .unset, .unset, .unset, .unset, .unset, .unset, .unset, .unset, .unset, .unset, .unset] [(.int (3 : Int32)), (.ref b3), (.ref b3)])) rfl (hb hby at_27) _ ?_
    show Steps p.tables e below (T6.setTop (mkF m 30 #[.val (.long q1), .second, .val (.int p2), .val (.int p3), .val (.int p4), .val (.int p5), .val (.long v2), .second, .unset, .unset, .unset, .unset, .unset, .unset, .unset, .unset, .unset, .unset, .unset] [(.long (1000 : Int64)), (.int (3 : Int32)), (.ref b3), (.ref b3)])) _
    refine st7 _ ?_
    show Steps p.tables e below (T7.setTop (mkF m 31 #[.val (.long q1), .second, .val (.int p2), .val (.int p3), .val (.int p4), .val (.int p5), .val (.long v2), .second, .unset, .unset, .unset, .unset, .unset, .unset, .unset, .unset, .unset, .unset, .unset] [(.ref b3)])) _
    refine XS.dup X7.here hx rfl (hb hby at_31) rfl rfl ?_
    show Steps p.tables e below (T7.setTop (mkF m 32 #[.val (.long q1), .second, .val (.int p2), .val (.int p3), .val (.int p4), .val (.int p5), .val (.long v2), .second, .unset, .unset, .unset, .unset, .unset, .unset, .unset, .unset, .unset, .unset, .unset] [(.ref b3), (.ref b3)])) _
    refine XS.iconst X7.here hx rfl (hb hby at_32) ?_
    show Steps p.tables e below (T7.setTop (mkF m 33 #[.val (.long q1), .second, .val (.int p2), .val (.int p3), .val (.int p4), .val (.int p5), .val (.long v2), .second, .unset, .unset, .unset, .unset, .unset, .unset, .unset, .unset, .unset, .unset, .unset] [(.int (4 : Int32)), (.ref b3), (.ref b3)])) _
    refine X7.ldc2Long hx hown (mvT hZ (hw _ (List.mem_of_getElem? (i := 4) rfl))) (g := (mkF m 33 #[.val (.long q1), .second, .val (.int p2), .val (.int p3), .val (.int p4), .val (.int p5), .val (.long v2), .second, .unset, .unset, .unset, .unset, .unset, .unset, .unset, .unset, .unset, .unset, .unset] [(.int (4 : Int32)), (.ref b3), (.ref b3)])) rfl (hb hby at_33) _ ?_
    show Steps p.tables e below (T7.setTop (mkF m 36 #[.val (.long q1), .second, .val (.int p2), .val (.int p3), .val (.int p4), .val (.int p5), .val (.long v2), .second, .unset, .unset, .unset, .unset, .unset, .unset, .unset, .unset, .unset, .unset, .unset] [(.long (10000 : Int64)), (.int (4 : Int32)), (.ref b3), (.ref b3)])) _
    refine st8 _ ?_
    show Steps p.tables e below (T8.setTop (mkF m 37 #[.val (.long q1), .second, .val (.int p2), .val (.int p3), .val (.int p4), .val (.int p5), .val (.long v2), .second, .unset, .unset, .unset, .unset, .unset, .unset, .unset, .unset, .unset, .unset, .unset] [(.ref b3)])) _
    refine XS.dup X8.here hx rfl (hb hby at_37) rfl rfl ?_
    show Steps p.tables e below (T8.setTop (mkF m 38 #[.val (.long q1), .second, .val (.int p2), .val (.int p3), .val (.int p4), .val (.int p5), .val (.long v2), .second, .unset, .unset, .unset, .unset, .unset, .unset, .unset, .unset, .unset, .unset, .unset] [(.ref b3), (.ref b3)])) _
    refine XS.iconst X8.here hx rfl (hb hby at_38) ?_
    show Steps p.tables e below (T8.setTop (mkF m 39 #[.val (.long q1), .second, .val (.int p2), .val (.int p3), .val (.int p4), .val (.int p5), .val (.long v2), .second, .unset, .unset, .unset, .unset, .unset, .unset, .unset, .unset, .unset, .unset, .unset] [(.int (5 : Int32)), (.ref b3), (.ref b3)])) _
    refine X8.ldc2Long hx hown (mvT hZ (hw _ (List.mem_of_getElem? (i := 5) rfl))) (g := (mkF m 39 #[.val (.long q1), .second, .val (.int p2), .val (.int p3), .val (.int p4), .val (.int p5), .val (.long v2), .second, .unset, .unset, .unset, .unset, .unset, .unset, .unset, .unset, .unset, .unset, .unset] [(.int (5 : Int32)), (.ref b3), (.ref b3)])) rfl (hb hby at_39) _ ?_
    show Steps p.tables e below (T8.setTop (mkF m 42 #[.val (.long q1), .second, .val (.int p2), .val (.int p3), .val (.int p4), .val (.int p5), .val (.long v2), .second, .unset, .unset, .unset, .unset, .unset, .unset, .unset, .unset, .unset, .unset, .unset] [(.long (100000 : Int64)), (.int (5 : Int32)), (.ref b3), (.ref b3)])) _
    refine st9 _ ?_
    show Steps p.tables e below (T9.setTop (mkF m 43 #[.val (.long q1), .second, .val (.int p2), .val (.int p3), .val (.int p4), .val (.int p5), .val (.long v2), .second, .unset, .unset, .unset, .unset, .unset, .unset, .unset, .unset, .unset, .unset, .unset] [(.ref b3)])) _
    refine XS.dup X9.here hx rfl (hb hby at_43) rfl rfl ?_
    show Steps p.tables e below (T9.setTop (mkF m 44 #[.val (.long q1), .second, .val (.int p2), .val (.int p3), .val (.int p4), .val (.int p5), .val (.long v2), .second, .unset, .unset, .unset, .unset, .unset, .unset, .unset, .unset, .unset, .unset, .unset] [(.ref b3), (.ref b3)])) _
    refine XS.bipush X9.here hx rfl (hb hby at_44) ?_
    show Steps p.tables e below (T9.setTop (mkF m 46 #[.val (.long q1), .second, .val (.int p2), .val (.int p3), .val (.int p4), .val (.int p5), .val (.long v2), .second, .unset, .unset, .unset, .unset, .unset, .unset, .unset, .unset, .unset, .unset, .unset] [(.int (6 : Int32)), (.ref b3), (.ref b3)])) _
    refine X9.ldc2Long hx hown (mvT hZ (hw _ (List.mem_of_getElem? (i := 6) rfl))) (g := (mkF m 46 #[.val (.long q1), .second, .val (.int p2), .val (.int p3), .val (.int p4), .val (.int p5), .val (.long v2), .second, .unset, .unset, .unset, .unset, .unset, .unset, .unset, .unset, .unset, .unset, .unset] [(.int (6 : Int32)), (.ref b3), (.ref b3)])) rfl (hb hby at_46) _ ?_
    show Steps p.tables e below (T9.setTop (mkF m 49 #[.val (.long q1), .second, .val (.int p2), .val (.int p3), .val (.int p4), .val (.int p5), .val (.long v2), .second, .unset, .unset, .unset, .unset, .unset, .unset, .unset, .unset, .unset, .unset, .unset] [(.long (1000000 : Int64)), (.int (6 : Int32)), (.ref b3), (.ref b3)])) _
    refine st10 _ ?_
    show Steps p.tables e below (T10.setTop (mkF m 50 #[.val (.long q1), .second, .val (.int p2), .val (.int p3), .val (.int p4), .val (.int p5), .val (.long v2), .second, .unset, .unset, .unset, .unset, .unset, .unset, .unset, .unset, .unset, .unset, .unset] [(.ref b3)])) _
    refine XS.dup X10.here hx rfl (hb hby at_50) rfl rfl ?_
    show Steps p.tables e below (T10.setTop (mkF m 51 #[.val (.long q1), .second, .val (.int p2), .val (.int p3), .val (.int p4), .val (.int p5), .val (.long v2), .second, .unset, .unset, .unset, .unset, .unset, .unset, .unset, .unset, .unset, .unset, .unset] [(.ref b3), (.ref b3)])) _
    refine XS.bipush X10.here hx rfl (hb hby at_51) ?_
    show Steps p.tables e below (T10.setTop (mkF m 53 #[.val (.long q1), .second, .val (.int p2), .val (.int p3), .val (.int p4), .val (.int p5), .val (.long v2), .second, .unset, .unset, .unset, .unset, .unset, .unset, .unset, .unset, .unset, .unset, .unset] [(.int (7 : Int32)), (.ref b3), (.ref b3)])) _
    refine X10.ldc2Long hx hown (mvT hZ (hw _ (List.mem_of_getElem? (i := 7) rfl))) (g := (mkF m 53 #[.val (.long q1), .second, .val (.int p2), .val (.int p3), .val (.int p4), .val (.int p5), .val (.long v2), .second, .unset, .unset, .unset, .unset, .unset, .unset, .unset, .unset, .unset, .unset, .unset] [(.int (7 : Int32)), (.ref b3), (.ref b3)])) rfl (hb hby at_53) _ ?_
    show Steps p.tables e below (T10.setTop (mkF m 56 #[.val (.long q1), .second, .val (.int p2), .val (.int p3), .val (.int p4), .val (.int p5), .val (.long v2), .second, .unset, .unset, .unset, .unset, .unset, .unset, .unset, .unset, .unset, .unset, .unset] [(.long (10000000 : Int64)), (.int (7 : Int32)), (.ref b3), (.ref b3)])) _
    refine st11 _ ?_
    show Steps p.tables e below (T11.setTop (mkF m 57 #[.val (.long q1), .second, .val (.int p2), .val (.int p3), .val (.int p4), .val (.int p5), .val (.long v2), .second, .unset, .unset, .unset, .unset, .unset, .unset, .unset, .unset, .unset, .unset, .unset] [(.ref b3)])) _
    refine XS.dup X11.here hx rfl (hb hby at_57) rfl rfl ?_
    show Steps p.tables e below (T11.setTop (mkF m 58 #[.val (.long q1), .second, .val (.int p2), .val (.int p3), .val (.int p4), .val (.int p5), .val (.long v2), .second, .unset, .unset, .unset, .unset, .unset, .unset, .unset, .unset, .unset, .unset, .unset] [(.ref b3), (.ref b3)])) _
    refine XS.bipush X11.here hx rfl (hb hby at_58) ?_
    show Steps p.tables e below (T11.setTop (mkF m 60 #[.val (.long q1), .second, .val (.int p2), .val (.int p3), .val (.int p4), .val (.int p5), .val (.long v2), .second, .unset, .unset, .unset, .unset, .unset, .unset, .unset, .unset, .unset, .unset, .unset] [(.int (8 : Int32)), (.ref b3), (.ref b3)])) _
    refine X11.ldc2Long hx hown (mvT hZ (hw _ (List.mem_of_getElem? (i := 8) rfl))) (g := (mkF m 60 #[.val (.long q1), .second, .val (.int p2), .val (.int p3), .val (.int p4), .val (.int p5), .val (.long v2), .second, .unset, .unset, .unset, .unset, .unset, .unset, .unset, .unset, .unset, .unset, .unset] [(.int (8 : Int32)), (.ref b3), (.ref b3)])) rfl (hb hby at_60) _ ?_
    show Steps p.tables e below (T11.setTop (mkF m 63 #[.val (.long q1), .second, .val (.int p2), .val (.int p3), .val (.int p4), .val (.int p5), .val (.long v2), .second, .unset, .unset, .unset, .unset, .unset, .unset, .unset, .unset, .unset, .unset, .unset] [(.long (100000000 : Int64)), (.int (8 : Int32)), (.ref b3), (.ref b3)])) _
    refine st12 _ ?_
    show Steps p.tables e below (T12.setTop (mkF m 64 #[.val (.long q1), .second, .val (.int p2), .val (.int p3), .val (.int p4), .val (.int p5), .val (.long v2), .second, .unset, .unset, .unset, .unset, .unset, .unset, .unset, .unset, .unset, .unset, .unset] [(.ref b3)])) _
    refine XS.dup X12.here hx rfl (hb hby at_64) rfl rfl ?_
    show Steps p.tables e below (T12.setTop (mkF m 65 #[.val (.long q1), .second, .val (.int p2), .val (.int p3), .val (.int p4), .val (.int p5), .val (.long v2), .second, .unset, .unset, .unset, .unset, .unset, .unset, .unset, .unset, .unset, .unset, .unset] [(.ref b3), (.ref b3)])) _
    refine XS.bipush X12.here hx rfl (hb hby at_65) ?_
    show Steps p.tables e below (T12.setTop (mkF m 67 #[.val (.long q1), .second, .val (.int p2), .val (.int p3), .val (.int p4), .val (.int p5), .val (.long v2), .second, .unset, .unset, .unset, .unset, .unset, .unset, .unset, .unset, .unset, .unset, .unset] [(.int (9 : Int32)), (.ref b3), (.ref b3)])) _
    refine X12.ldc2Long hx hown (mvT hZ (hw _ (List.mem_of_getElem? (i := 9) rfl))) (g := (mkF m 67 #[.val (.long q1), .second, .val (.int p2), .val (.int p3), .val (.int p4), .val (.int p5), .val (.long v2), .second, .unset, .unset, .unset, .unset, .unset, .unset, .unset, .unset, .unset, .unset, .unset] [(.int (9 : Int32)), (.ref b3), (.ref b3)])) rfl (hb hby at_67) _ ?_
    show Steps p.tables e below (T12.setTop (mkF m 70 #[.val (.long q1), .second, .val (.int p2), .val (.int p3), .val (.int p4), .val (.int p5), .val (.long v2), .second, .unset, .unset, .unset, .unset, .unset, .unset, .unset, .unset, .unset, .unset, .unset] [(.long (1000000000 : Int64)), (.int (9 : Int32)), (.ref b3), (.ref b3)])) _
    refine st13 _ ?_
    show Steps p.tables e below (T13.setTop (mkF m 71 #[.val (.long q1), .second, .val (.int p2), .val (.int p3), .val (.int p4), .val (.int p5), .val (.long v2), .second, .unset, .unset, .unset, .unset, .unset, .unset, .unset, .unset, .unset, .unset, .unset] [(.ref b3)])) _
    refine XS.astore X13.here hx rfl (hb hby at_71) rfl rfl (l' := #[.val (.long q1), .second, .val (.int p2), .val (.int p3), .val (.int p4), .val (.int p5), .val (.long v2), .second, .val (.ref b3), .unset, .unset, .unset, .unset, .unset, .unset, .unset, .unset, .unset, .unset]) rfl ?_
    show Steps p.tables e below (T13.setTop (mkF m 73 #[.val (.long q1), .second, .val (.int p2), .val (.int p3), .val (.int p4), .val (.int p5), .val (.long v2), .second, .val (.ref b3), .unset, .unset, .unset, .unset, .unset, .unset, .unset, .unset, .unset, .unset] [])) _
    refine XS.bipush X13.here hx rfl (hb hby at_73) ?_
    show Steps p.tables e below (T13.setTop (mkF m 75 #[.val (.long q1), .second, .val (.int p2), .val (.int p3), .val (.int p4), .val (.int p5), .val (.long v2), .second, .val (.ref b3), .unset, .unset, .unset, .unset, .unset, .unset, .unset, .unset, .unset, .unset] [(.int (12 : Int32))])) _
    refine st15 _ ?_
    show Steps p.tables e below (T15.setTop (mkF m 77 #[.val (.long q1), .second, .val (.int p2), .val (.int p3), .val (.int p4), .val (.int p5), .val (.long v2), .second, .val (.ref b3), .unset, .unset, .unset, .unset, .unset, .unset, .unset, .unset, .unset, .unset] [(.ref b15)])) _
    refine XS.astore X15.here hx rfl (hb hby at_77) rfl rfl (l' := #[.val (.long q1), .second, .val (.int p2), .val (.int p3), .val (.int p4), .val (.int p5), .val (.long v2), .second, .val (.ref b3), .val (.ref b15), .unset, .unset, .unset, .unset, .unset, .unset, .unset, .unset, .unset]) rfl ?_
    show Steps p.tables e below (T15.setTop (mkF m 79 #[.val (.long q1), .second, .val (.int p2), .val (.int p3), .val (.int p4), .val (.int p5), .val (.long v2), .second, .val (.ref b3), .val (.ref b15), .unset, .unset, .unset, .unset, .unset, .unset, .unset, .unset, .unset] [])) _
    refine XS.aload X15.here hx rfl (hb hby at_79) rfl rfl ?_
    show Steps p.tables e below (T15.setTop (mkF m 81 #[.val (.long q1), .second, .val (.int p2), .val (.int p3), .val (.int p4), .val (.int p5), .val (.long v2), .second, .val (.ref b3), .val (.ref b15), .unset, .unset, .unset, .unset, .unset, .unset, .unset, .unset, .unset] [(.ref b15)])) _
    refine XS.iconst X15.here hx rfl (hb hby at_81) ?_
    show Steps p.tables e below (T15.setTop (mkF m 82 #[.val (.long q1), .second, .val (.int p2), .val (.int p3), .val (.int p4), .val (.int p5), .val (.long v2), .second, .val (.ref b3), .val (.ref b15), .unset, .unset, .unset, .unset, .unset, .unset, .unset, .unset, .unset] [(.int (1 : Int32)), (.ref b15)])) _
    refine XS.lload X15.here hx rfl (hb hby at_82) rfl ?_
    show Steps p.tables e below (T15.setTop (mkF m 84 #[.val (.long q1), .second, .val (.int p2), .val (.int p3), .val (.int p4), .val (.int p5), .val (.long v2), .second, .val (.ref b3), .val (.ref b15), .unset, .unset, .unset, .unset, .unset, .unset, .unset, .unset, .unset] [(.long v2), (.int (1 : Int32)), (.ref b15)])) _
    refine XS.aload X15.here hx rfl (hb hby at_84) rfl rfl ?_
    show Steps p.tables e below (T15.setTop (mkF m 86 #[.val (.long q1), .second, .val (.int p2), .val (.int p3), .val (.int p4), .val (.int p5), .val (.long v2), .second, .val (.ref b3), .val (.ref b15), .unset, .unset, .unset, .unset, .unset, .unset, .unset, .unset, .unset] [(.ref b3), (.long v2), (.int (1 : Int32)), (.ref b15)])) _
    refine XS.iconst X15.here hx rfl (hb hby at_86) ?_
    show Steps p.tables e below (T15.setTop (mkF m 87 #[.val (.long q1), .second, .val (.int p2), .val (.int p3), .val (.int p4), .val (.int p5), .val (.long v2), .second, .val (.ref b3), .val (.ref b15), .unset, .unset, .unset, .unset, .unset, .unset, .unset, .unset, .unset] [(.int (0 : Int32)), (.ref b3), (.long v2), (.int (1 : Int32)), (.ref b15)])) _
    refine st16 _ ?_
    show Steps p.tables e below (T16.setTop (mkF m 90 #[.val (.long q1), .second, .val (.int p2), .val (.int p3), .val (.int p4), .val (.int p5), .val (.long v2), .second, .val (.ref b3), .val (.ref b15), .unset, .unset, .unset, .unset, .unset, .unset, .unset, .unset, .unset] [(.int (F1 v2 (0 : Int32) own_pw)), (.int (1 : Int32)), (.ref b15)])) _
    refine st17 _ ?_
    show Steps p.tables e below (T17.setTop (mkF m 91 #[.val (.long q1), .second, .val (.int p2), .val (.int p3), .val (.int p4), .val (.int p5), .val (.long v2), .second, .val (.ref b3), .val (.ref b15), .unset, .unset, .unset, .unset, .unset, .unset, .unset, .unset, .unset] [])) _
    refine XS.aload X17.here hx rfl (hb hby at_91) rfl rfl ?_
    show Steps p.tables e below (T17.setTop (mkF m 93 #[.val (.long q1), .second, .val (.int p2), .val (.int p3), .val (.int p4), .val (.int p5), .val (.long v2), .second, .val (.ref b3), .val (.ref b15), .unset, .unset, .unset, .unset, .unset, .unset, .unset, .unset, .unset] [(.ref b15)])) _
    refine XS.iconst X17.here hx rfl (hb hby at_93) ?_
    show Steps p.tables e below (T17.setTop (mkF m 94 #[.val (.long q1), .second, .val (.int p2), .val (.int p3), .val (.int p4), .val (.int p5), .val (.long v2), .second, .val (.ref b3), .val (.ref b15), .unset, .unset, .unset, .unset, .unset, .unset, .unset, .unset, .unset] [(.int (2 : Int32)), (.ref b15)])) _
    refine XS.lload X17.here hx rfl (hb hby at_94) rfl ?_
    show Steps p.tables e below (T17.setTop (mkF m 96 #[.val (.long q1), .second, .val (.int p2), .val (.int p3), .val (.int p4), .val (.int p5), .val (.long v2), .second, .val (.ref b3), .val (.ref b15), .unset, .unset, .unset, .unset, .unset, .unset, .unset, .unset, .unset] [(.long v2), (.int (2 : Int32)), (.ref b15)])) _
    refine XS.aload X17.here hx rfl (hb hby at_96) rfl rfl ?_
    show Steps p.tables e below (T17.setTop (mkF m 98 #[.val (.long q1), .second, .val (.int p2), .val (.int p3), .val (.int p4), .val (.int p5), .val (.long v2), .second, .val (.ref b3), .val (.ref b15), .unset, .unset, .unset, .unset, .unset, .unset, .unset, .unset, .unset] [(.ref b3), (.long v2), (.int (2 : Int32)), (.ref b15)])) _
    refine XS.iconst X17.here hx rfl (hb hby at_98) ?_
    show Steps p.tables e below (T17.setTop (mkF m 99 #[.val (.long q1), .second, .val (.int p2), .val (.int p3), .val (.int p4), .val (.int p5), .val (.long v2), .second, .val (.ref b3), .val (.ref b15), .unset, .unset, .unset, .unset, .unset, .unset, .unset, .unset, .unset] [(.int (1 : Int32)), (.ref b3), (.long v2), (.int (2 : Int32)), (.ref b15)])) _
    refine st18 _ ?_
    show Steps p.tables e below (T18.setTop (mkF m 102 #[.val (.long q1), .second, .val (.int p2), .val (.int p3), .val (.int p4), .val (.int p5), .val (.long v2), .second, .val (.ref b3), .val (.ref b15), .unset, .unset, .unset, .unset, .unset, .unset, .unset, .unset, .unset] [(.int (F1 v2 (1 : Int32) own_pw)), (.int (2 : Int32)), (.ref b15)])) _
    refine st19 _ ?_
    show Steps p.tables e below (T19.setTop (mkF m 103 #[.val (.long q1), .second, .val (.int p2), .val (.int p3), .val (.int p4), .val (.int p5), .val (.long v2), .second, .val (.ref b3), .val (.ref b15), .unset, .unset, .unset, .unset, .unset, .unset, .unset, .unset, .unset] [])) _
    refine XS.aload X19.here hx rfl (hb hby at_103) rfl rfl ?_
    show Steps p.tables e below (T19.setTop (mkF m 105 #[.val (.long q1), .second, .val (.int p2), .val (.int p3), .val (.int p4), .val (.int p5), .val (.long v2), .second, .val (.ref b3), .val (.ref b15), .unset, .unset, .unset, .unset, .unset, .unset, .unset, .unset, .unset] [(.ref b15)])) _
    refine XS.iconst X19.here hx rfl (hb hby at_105) ?_
    show Steps p.tables e below (T19.setTop (mkF m 106 #[.val (.long q1), .second, .val (.int p2), .val (.int p3), .val (.int p4), .val (.int p5), .val (.long v2), .second, .val (.ref b3), .val (.ref b15), .unset, .unset, .unset, .unset, .unset, .unset, .unset, .unset, .unset] [(.int (3 : Int32)), (.ref b15)])) _
    refine XS.lload X19.here hx rfl (hb hby at_106) rfl ?_
    show Steps p.tables e below (T19.setTop (mkF m 108 #[.val (.long q1), .second, .val (.int p2), .val (.int p3), .val (.int p4), .val (.int p5), .val (.long v2), .second, .val (.ref b3), .val (.ref b15), .unset, .unset, .unset, .unset, .unset, .unset, .unset, .unset, .unset] [(.long v2), (.int (3 : Int32)), (.ref b15)])) _
    refine XS.aload X19.here hx rfl (hb hby at_108) rfl rfl ?_
    show Steps p.tables e below (T19.setTop (mkF m 110 #[.val (.long q1), .second, .val (.int p2), .val (.int p3), .val (.int p4), .val (.int p5), .val (.long v2), .second, .val (.ref b3), .val (.ref b15), .unset, .unset, .unset, .unset, .unset, .unset, .unset, .unset, .unset] [(.ref b3), (.long v2), (.int (3 : Int32)), (.ref b15)])) _
    refine XS.iconst X19.here hx rfl (hb hby at_110) ?_
    show Steps p.tables e below (T19.setTop (mkF m 111 #[.val (.long q1), .second, .val (.int p2), .val (.int p3), .val (.int p4), .val (.int p5), .val (.long v2), .second, .val (.ref b3), .val (.ref b15), .unset, .unset, .unset, .unset, .unset, .unset, .unset, .unset, .unset] [(.int (2 : Int32)), (.ref b3), (.long v2), (.int (3 : Int32)), (.ref b15)])) _
    refine st20 _ ?_
    show Steps p.tables e below (T20.setTop (mkF m 114 #[.val (.long q1), .second, .val (.int p2), .val (.int p3), .val (.int p4), .val (.int p5), .val (.long v2), .second, .val (.ref b3), .val (.ref b15), .unset, .unset, .unset, .unset, .unset, .unset, .unset, .unset, .unset] [(.int (F1 v2 (2 : Int32) own_pw)), (.int (3 : Int32)), (.ref b15)])) _
    refine st21 _ ?_
    show Steps p.tables e below (T21.setTop (mkF m 115 #[.val (.long q1), .second, .val (.int p2), .val (.int p3), .val (.int p4), .val (.int p5), .val (.long v2), .second, .val (.ref b3), .val (.ref b15), .unset, .unset, .unset, .unset, .unset, .unset, .unset, .unset, .unset] [])) _
    refine XS.aload X21.here hx rfl (hb hby at_115) rfl rfl ?_
    show Steps p.tables e below (T21.setTop (mkF m 117 #[.val (.long q1), .second, .val (.int p2), .val (.int p3), .val (.int p4), .val (.int p5), .val (.long v2), .second, .val (.ref b3), .val (.ref b15), .unset, .unset, .unset, .unset, .unset, .unset, .unset, .unset, .unset] [(.ref b15)])) _
    refine XS.iconst X21.here hx rfl (hb hby at_117) ?_
    show Steps p.tables e below (T21.setTop (mkF m 118 #[.val (.long q1), .second, .val (.int p2), .val (.int p3), .val (.int p4), .val (.int p5), .val (.long v2), .second, .val (.ref b3), .val (.ref b15), .unset, .unset, .unset, .unset, .unset, .unset, .unset, .unset, .unset] [(.int (4 : Int32)), (.ref b15)])) _
    refine XS.lload X21.here hx rfl (hb hby at_118) rfl ?_
    show Steps p.tables e below (T21.setTop (mkF m 120 #[.val (.long q1), .second, .val (.int p2), .val (.int p3), .val (.int p4), .val (.int p5), .val (.long v2), .second, .val (.ref b3), .val (.ref b15), .unset, .unset, .unset, .unset, .unset, .unset, .unset, .unset, .unset] [(.long v2), (.int (4 : Int32)), (.ref b15)])) _
    refine XS.aload X21.here hx rfl (hb hby at_120) rfl rfl ?_
    show Steps p.tables e below (T21.setTop (mkF m 122 #[.val (.long q1), .second, .val (.int p2), .val (.int p3), .val (.int p4), .val (.int p5), .val (.long v2), .second, .val (.ref b3), .val (.ref b15), .unset, .unset, .unset, .unset, .unset, .unset, .unset, .unset, .unset] [(.ref b3), (.long v2), (.int (4 : Int32)), (.ref b15)])) _
    refine XS.iconst X21.here hx rfl (hb hby at_122) ?_
    show Steps p.tables e below (T21.setTop (mkF m 123 #[.val (.long q1), .second, .val (.int p2), .val (.int p3), .val (.int p4), .val (.int p5), .val (.long v2), .second, .val (.ref b3), .val (.ref b15), .unset, .unset, .unset, .unset, .unset, .unset, .unset, .unset, .unset] [(.int (3 : Int32)), (.ref b3), (.long v2), (.int (4 : Int32)), (.ref b15)])) _
    refine st22 _ ?_
    show Steps p.tables e below (T22.setTop (mkF m 126 #[.val (.long q1), .second, .val (.int p2), .val (.int p3), .val (.int p4), .val (.int p5), .val (.long v2), .second, .val (.ref b3), .val (.ref b15), .unset, .unset, .unset, .unset, .unset, .unset, .unset, .unset, .unset] [(.int (F1 v2 (3 : Int32) own_pw)), (.int (4 : Int32)), (.ref b15)])) _
    refine st23 _ ?_
    show Steps p.tables e below (T23.setTop (mkF m 127 #[.val (.long q1), .second, .val (.int p2), .val (.int p3), .val (.int p4), .val (.int p5), .val (.long v2), .second, .val (.ref b3), .val (.ref b15), .unset, .unset, .unset, .unset, .unset, .unset, .unset, .unset, .unset] [])) _
    refine XS.aload X23.here hx rfl (hb hby at_127) rfl rfl ?_
    show Steps p.tables e below (T23.setTop (mkF m 129 #[.val (.long q1), .second, .val (.int p2), .val (.int p3), .val (.int p4), .val (.int p5), .val (.long v2), .second, .val (.ref b3), .val (.ref b15), .unset, .unset, .unset, .unset, .unset, .unset, .unset, .unset, .unset] [(.ref b15)])) _
    refine XS.iconst X23.here hx rfl (hb hby at_129) ?_
    show Steps p.tables e below (T23.setTop (mkF m 130 #[.val (.long q1), .second, .val (.int p2), .val (.int p3), .val (.int p4), .val (.int p5), .val (.long v2), .second, .val (.ref b3), .val (.ref b15), .unset, .unset, .unset, .unset, .unset, .unset, .unset, .unset, .unset] [(.int (5 : Int32)), (.ref b15)])) _
    refine XS.lload X23.here hx rfl (hb hby at_130) rfl ?_
    show Steps p.tables e below (T23.setTop (mkF m 132 #[.val (.long q1), .second, .val (.int p2), .val (.int p3), .val (.int p4), .val (.int p5), .val (.long v2), .second, .val (.ref b3), .val (.ref b15), .unset, .unset, .unset, .unset, .unset, .unset, .unset, .unset, .unset] [(.long v2), (.int (5 : Int32)), (.ref b15)])) _
    refine XS.aload X23.here hx rfl (hb hby at_132) rfl rfl ?_
    show Steps p.tables e below (T23.setTop (mkF m 134 #[.val (.long q1), .second, .val (.int p2), .val (.int p3), .val (.int p4), .val (.int p5), .val (.long v2), .second, .val (.ref b3), .val (.ref b15), .unset, .unset, .unset, .unset, .unset, .unset, .unset, .unset, .unset] [(.ref b3), (.long v2), (.int (5 : Int32)), (.ref b15)])) _
    refine XS.iconst X23.here hx rfl (hb hby at_134) ?_
    show Steps p.tables e below (T23.setTop (mkF m 135 #[.val (.long q1), .second, .val (.int p2), .val (.int p3), .val (.int p4), .val (.int p5), .val (.long v2), .second, .val (.ref b3), .val (.ref b15), .unset, .unset, .unset, .unset, .unset, .unset, .unset, .unset, .unset] [(.int (4 : Int32)), (.ref b3), (.long v2), (.int (5 : Int32)), (.ref b15)])) _
    refine st24 _ ?_
    show Steps p.tables e below (T24.setTop (mkF m 138 #[.val (.long q1), .second, .val (.int p2), .val (.int p3), .val (.int p4), .val (.int p5), .val (.long v2), .second, .val (.ref b3), .val (.ref b15), .unset, .unset, .unset, .unset, .unset, .unset, .unset, .unset, .unset] [(.int (F1 v2 (4 : Int32) own_pw)), (.int (5 : Int32)), (.ref b15)])) _
    refine st25 _ ?_
    show Steps p.tables e below (T25.setTop (mkF m 139 #[.val (.long q1), .second, .val (.int p2), .val (.int p3), .val (.int p4), .val (.int p5), .val (.long v2), .second, .val (.ref b3), .val (.ref b15), .unset, .unset, .unset, .unset, .unset, .unset, .unset, .unset, .unset] [])) _
    refine XS.aload X25.here hx rfl (hb hby at_139) rfl rfl ?_
    show Steps p.tables e below (T25.setTop (mkF m 141 #[.val (.long q1), .second, .val (.int p2), .val (.int p3), .val (.int p4), .val (.int p5), .val (.long v2), .second, .val (.ref b3), .val (.ref b15), .unset, .unset, .unset, .unset, .unset, .unset, .unset, .unset, .unset] [(.ref b15)])) _
    refine XS.bipush X25.here hx rfl (hb hby at_141) ?_
    show Steps p.tables e below (T25.setTop (mkF m 143 #[.val (.long q1), .second, .val (.int p2), .val (.int p3), .val (.int p4), .val (.int p5), .val (.long v2), .second, .val (.ref b3), .val (.ref b15), .unset, .unset, .unset, .unset, .unset, .unset, .unset, .unset, .unset] [(.int (6 : Int32)), (.ref b15)])) _
    refine XS.lload X25.here hx rfl (hb hby at_143) rfl ?_
    show Steps p.tables e below (T25.setTop (mkF m 145 #[.val (.long q1), .second, .val (.int p2), .val (.int p3), .val (.int p4), .val (.int p5), .val (.long v2), .second, .val (.ref b3), .val (.ref b15), .unset, .unset, .unset, .unset, .unset, .unset, .unset, .unset, .unset] [(.long v2), (.int (6 : Int32)), (.ref b15)])) _
    refine XS.aload X25.here hx rfl (hb hby at_145) rfl rfl ?_
    show Steps p.tables e below (T25.setTop (mkF m 147 #[.val (.long q1), .second, .val (.int p2), .val (.int p3), .val (.int p4), .val (.int p5), .val (.long v2), .second, .val (.ref b3), .val (.ref b15), .unset, .unset, .unset, .unset, .unset, .unset, .unset, .unset, .unset] [(.ref b3), (.long v2), (.int (6 : Int32)), (.ref b15)])) _
    refine XS.iconst X25.here hx rfl (hb hby at_147) ?_
    show Steps p.tables e below (T25.setTop (mkF m 148 #[.val (.long q1), .second, .val (.int p2), .val (.int p3), .val (.int p4), .val (.int p5), .val (.long v2), .second, .val (.ref b3), .val (.ref b15), .unset, .unset, .unset, .unset, .unset, .unset, .unset, .unset, .unset] [(.int (5 : Int32)), (.ref b3), (.long v2), (.int (6 : Int32)), (.ref b15)])) _
    refine st26 _ ?_
    show Steps p.tables e below (T26.setTop (mkF m 151 #[.val (.long q1), .second, .val (.int p2), .val (.int p3), .val (.int p4), .val (.int p5), .val (.long v2), .second, .val (.ref b3), .val (.ref b15), .unset, .unset, .unset, .unset, .unset, .unset, .unset, .unset, .unset] [(.int (F1 v2 (5 : Int32) own_pw)), (.int (6 : Int32)), (.ref b15)])) _
    refine st27 _ ?_
    show Steps p.tables e below (T27.setTop (mkF m 152 #[.val (.long q1), .second, .val (.int p2), .val (.int p3), .val (.int p4), .val (.int p5), .val (.long v2), .second, .val (.ref b3), .val (.ref b15), .unset, .unset, .unset, .unset, .unset, .unset, .unset, .unset, .unset] [])) _
    refine XS.aload X27.here hx rfl (hb hby at_152) rfl rfl ?_
    show Steps p.tables e below (T27.setTop (mkF m 154 #[.val (.long q1), .second, .val (.int p2), .val (.int p3), .val (.int p4), .val (.int p5), .val (.long v2), .second, .val (.ref b3), .val (.ref b15), .unset, .unset, .unset, .unset, .unset, .unset, .unset, .unset, .unset] [(.ref b15)])) _
    refine XS.bipush X27.here hx rfl (hb hby at_154) ?_
    show Steps p.tables e below (T27.setTop (mkF m 156 #[.val (.long q1), .second, .val (.int p2), .val (.int p3), .val (.int p4), .val (.int p5), .val (.long v2), .second, .val (.ref b3), .val (.ref b15), .unset, .unset, .unset, .unset, .unset, .unset, .unset, .unset, .unset] [(.int (7 : Int32)), (.ref b15)])) _
    refine XS.lload X27.here hx rfl (hb hby at_156) rfl ?_
    show Steps p.tables e below (T27.setTop (mkF m 158 #[.val (.long q1), .second, .val (.int p2), .val (.int p3), .val (.int p4), .val (.int p5), .val (.long v2), .second, .val (.ref b3), .val (.ref b15), .unset, .unset, .unset, .unset, .unset, .unset, .unset, .unset, .unset] [(.long v2), (.int (7 : Int32)), (.ref b15)])) _
    refine XS.aload X27.here hx rfl (hb hby at_158) rfl rfl ?_
    show Steps p.tables e below (T27.setTop (mkF m 160 #[.val (.long q1), .second, .val (.int p2), .val (.int p3), .val (.int p4), .val (.int p5), .val (.long v2), .second, .val (.ref b3), .val (.ref b15), .unset, .unset, .unset, .unset, .unset, .unset, .unset, .unset, .unset] [(.ref b3), (.long v2), (.int (7 : Int32)), (.ref b15)])) _
    refine XS.bipush X27.here hx rfl (hb hby at_160) ?_
    show Steps p.tables e below (T27.setTop (mkF m 162 #[.val (.long q1), .second, .val (.int p2), .val (.int p3), .val (.int p4), .val (.int p5), .val (.long v2), .second, .val (.ref b3), .val (.ref b15), .unset, .unset, .unset, .unset, .unset, .unset, .unset, .unset, .unset] [(.int (6 : Int32)), (.ref b3), (.long v2), (.int (7 : Int32)), (.ref b15)])) _
    refine st28 _ ?_
    show Steps p.tables e below (T28.setTop (mkF m 165 #[.val (.long q1), .second, .val (.int p2), .val (.int p3), .val (.int p4), .val (.int p5), .val (.long v2), .second, .val (.ref b3), .val (.ref b15), .unset, .unset, .unset, .unset, .unset, .unset, .unset, .unset, .unset] [(.int (F1 v2 (6 : Int32) own_pw)), (.int (7 : Int32)), (.ref b15)])) _
    refine st29 _ ?_
    show Steps p.tables e below (T29.setTop (mkF m 166 #[.val (.long q1), .second, .val (.int p2), .val (.int p3), .val (.int p4), .val (.int p5), .val (.long v2), .second, .val (.ref b3), .val (.ref b15), .unset, .unset, .unset, .unset, .unset, .unset, .unset, .unset, .unset] [])) _
    refine XS.aload X29.here hx rfl (hb hby at_166) rfl rfl ?_
    show Steps p.tables e below (T29.setTop (mkF m 168 #[.val (.long q1), .second, .val (.int p2), .val (.int p3), .val (.int p4), .val (.int p5), .val (.long v2), .second, .val (.ref b3), .val (.ref b15), .unset, .unset, .unset, .unset, .unset, .unset, .unset, .unset, .unset] [(.ref b15)])) _
    refine XS.bipush X29.here hx rfl (hb hby at_168) ?_
    show Steps p.tables e below (T29.setTop (mkF m 170 #[.val (.long q1), .second, .val (.int p2), .val (.int p3), .val (.int p4), .val (.int p5), .val (.long v2), .second, .val (.ref b3), .val (.ref b15), .unset, .unset, .unset, .unset, .unset, .unset, .unset, .unset, .unset] [(.int (8 : Int32)), (.ref b15)])) _
    refine XS.lload X29.here hx rfl (hb hby at_170) rfl ?_
    show Steps p.tables e below (T29.setTop (mkF m 172 #[.val (.long q1), .second, .val (.int p2), .val (.int p3), .val (.int p4), .val (.int p5), .val (.long v2), .second, .val (.ref b3), .val (.ref b15), .unset, .unset, .unset, .unset, .unset, .unset, .unset, .unset, .unset] [(.long v2), (.int (8 : Int32)), (.ref b15)])) _
    refine XS.aload X29.here hx rfl (hb hby at_172) rfl rfl ?_
    show Steps p.tables e below (T29.setTop (mkF m 174 #[.val (.long q1), .second, .val (.int p2), .val (.int p3), .val (.int p4), .val (.int p5), .val (.long v2), .second, .val (.ref b3), .val (.ref b15), .unset, .unset, .unset, .unset, .unset, .unset, .unset, .unset, .unset] [(.ref b3), (.long v2), (.int (8 : Int32)), (.ref b15)])) _
    refine XS.bipush X29.here hx rfl (hb hby at_174) ?_
    show Steps p.tables e below (T29.setTop (mkF m 176 #[.val (.long q1), .second, .val (.int p2), .val (.int p3), .val (.int p4), .val (.int p5), .val (.long v2), .second, .val (.ref b3), .val (.ref b15), .unset, .unset, .unset, .unset, .unset, .unset, .unset, .unset, .unset] [(.int (7 : Int32)), (.ref b3), (.long v2), (.int (8 : Int32)), (.ref b15)])) _
    refine st30 _ ?_
    show Steps p.tables e below (T30.setTop (mkF m 179 #[.val (.long q1), .second, .val (.int p2), .val (.int p3), .val (.int p4), .val (.int p5), .val (.long v2), .second, .val (.ref b3), .val (.ref b15), .unset, .unset, .unset, .unset, .unset, .unset, .unset, .unset, .unset] [(.int (F1 v2 (7 : Int32) own_pw)), (.int (8 : Int32)), (.ref b15)])) _
    refine st31 _ ?_
    show Steps p.tables e below (T31.setTop (mkF m 180 #[.val (.long q1), .second, .val (.int p2), .val (.int p3), .val (.int p4), .val (.int p5), .val (.long v2), .second, .val (.ref b3), .val (.ref b15), .unset, .unset, .unset, .unset, .unset, .unset, .unset, .unset, .unset] [])) _
    refine XS.aload X31.here hx rfl (hb hby at_180) rfl rfl ?_
    show Steps p.tables e below (T31.setTop (mkF m 182 #[.val (.long q1), .second, .val (.int p2), .val (.int p3), .val (.int p4), .val (.int p5), .val (.long v2), .second, .val (.ref b3), .val (.ref b15), .unset, .unset, .unset, .unset, .unset, .unset, .unset, .unset, .unset] [(.ref b15)])) _
    refine XS.bipush X31.here hx rfl (hb hby at_182) ?_
    show Steps p.tables e below (T31.setTop (mkF m 184 #[.val (.long q1), .second, .val (.int p2), .val (.int p3), .val (.int p4), .val (.int p5), .val (.long v2), .second, .val (.ref b3), .val (.ref b15), .unset, .unset, .unset, .unset, .unset, .unset, .unset, .unset, .unset] [(.int (9 : Int32)), (.ref b15)])) _
    refine XS.lload X31.here hx rfl (hb hby at_184) rfl ?_
    show Steps p.tables e below (T31.setTop (mkF m 186 #[.val (.long q1), .second, .val (.int p2), .val (.int p3), .val (.int p4), .val (.int p5), .val (.long v2), .second, .val (.ref b3), .val (.ref b15), .unset, .unset, .unset, .unset, .unset, .unset, .unset, .unset, .unset] [(.long v2), (.int (9 : Int32)), (.ref b15)])) _
    refine XS.aload X31.here hx rfl (hb hby at_186) rfl rfl ?_
    show Steps p.tables e below (T31.setTop (mkF m 188 #[.val (.long q1), .second, .val (.int p2), .val (.int p3), .val (.int p4), .val (.int p5), .val (.long v2), .second, .val (.ref b3), .val (.ref b15), .unset, .unset, .unset, .unset, .unset, .unset, .unset, .unset, .unset] [(.ref b3), (.long v2), (.int (9 : Int32)), (.ref b15)])) _
    refine XS.bipush X31.here hx rfl (hb hby at_188) ?_
    show Steps p.tables e below (T31.setTop (mkF m 190 #[.val (.long q1), .second, .val (.int p2), .val (.int p3), .val (.int p4), .val (.int p5), .val (.long v2), .second, .val (.ref b3), .val (.ref b15), .unset, .unset, .unset, .unset, .unset, .unset, .unset, .unset, .unset] [(.int (8 : Int32)), (.ref b3), (.long v2), (.int (9 : Int32)), (.ref b15)])) _
    refine st32 _ ?_
    show Steps p.tables e below (T32.setTop (mkF m 193 #[.val (.long q1), .second, .val (.int p2), .val (.int p3), .val (.int p4), .val (.int p5), .val (.long v2), .second, .val (.ref b3), .val (.ref b15), .unset, .unset, .unset, .unset, .unset, .unset, .unset, .unset, .unset] [(.int (F1 v2 (8 : Int32) own_pw)), (.int (9 : Int32)), (.ref b15)])) _
    refine st33 _ ?_
    show Steps p.tables e below (T33.setTop (mkF m 194 #[.val (.long q1), .second, .val (.int p2), .val (.int p3), .val (.int p4), .val (.int p5), .val (.long v2), .second, .val (.ref b3), .val (.ref b15), .unset, .unset, .unset, .unset, .unset, .unset, .unset, .unset, .unset] [])) _
    refine XS.aload X33.here hx rfl (hb hby at_194) rfl rfl ?_
    show Steps p.tables e below (T33.setTop (mkF m 196 #[.val (.long q1), .second, .val (.int p2), .val (.int p3), .val (.int p4), .val (.int p5), .val (.long v2), .second, .val (.ref b3), .val (.ref b15), .unset, .unset, .unset, .unset, .unset, .unset, .unset, .unset, .unset] [(.ref b15)])) _
    refine XS.bipush X33.here hx rfl (hb hby at_196) ?_
    show Steps p.tables e below (T33.setTop (mkF m 198 #[.val (.long q1), .second, .val (.int p2), .val (.int p3), .val (.int p4), .val (.int p5), .val (.long v2), .second, .val (.ref b3), .val (.ref b15), .unset, .unset, .unset, .unset, .unset, .unset, .unset, .unset, .unset] [(.int (10 : Int32)), (.ref b15)])) _
    refine XS.lload X33.here hx rfl (hb hby at_198) rfl ?_
    show Steps p.tables e below (T33.setTop (mkF m 200 #[.val (.long q1), .second, .val (.int p2), .val (.int p3), .val (.int p4), .val (.int p5), .val (.long v2), .second, .val (.ref b3), .val (.ref b15), .unset, .unset, .unset, .unset, .unset, .unset, .unset, .unset, .unset] [(.long v2), (.int (10 : Int32)), (.ref b15)])) _
    refine XS.aload X33.here hx rfl (hb hby at_200) rfl rfl ?_
    show Steps p.tables e below (T33.setTop (mkF m 202 #[.val (.long q1), .second, .val (.int p2), .val (.int p3), .val (.int p4), .val (.int p5), .val (.long v2), .second, .val (.ref b3), .val (.ref b15), .unset, .unset, .unset, .unset, .unset, .unset, .unset, .unset, .unset] [(.ref b3), (.long v2), (.int (10 : Int32)), (.ref b15)])) _
    refine XS.bipush X33.here hx rfl (hb hby at_202) ?_
    show Steps p.tables e below (T33.setTop (mkF m 204 #[.val (.long q1), .second, .val (.int p2), .val (.int p3), .val (.int p4), .val (.int p5), .val (.long v2), .second, .val (.ref b3), .val (.ref b15), .unset, .unset, .unset, .unset, .unset, .unset, .unset, .unset, .unset] [(.int (9 : Int32)), (.ref b3), (.long v2), (.int (10 : Int32)), (.ref b15)])) _
    refine st34 _ ?_
    show Steps p.tables e below (T34.setTop (mkF m 207 #[.val (.long q1), .second, .val (.int p2), .val (.int p3), .val (.int p4), .val (.int p5), .val (.long v2), .second, .val (.ref b3), .val (.ref b15), .unset, .unset, .unset, .unset, .unset, .unset, .unset, .unset, .unset] [(.int (F1 v2 (9 : Int32) own_pw)), (.int (10 : Int32)), (.ref b15)])) _
    refine st35 _ ?_
    show Steps p.tables e below (T35.setTop (mkF m 208 #[.val (.long q1), .second, .val (.int p2), .val (.int p3), .val (.int p4), .val (.int p5), .val (.long v2), .second, .val (.ref b3), .val (.ref b15), .unset, .unset, .unset, .unset, .unset, .unset, .unset, .unset, .unset] [])) _
    refine XS.bipush X35.here hx rfl (hb hby at_208) ?_
    show Steps p.tables e below (T35.setTop (mkF m 210 #[.val (.long q1), .second, .val (.int p2), .val (.int p3), .val (.int p4), .val (.int p5), .val (.long v2), .second, .val (.ref b3), .val (.ref b15), .unset, .unset, .unset, .unset, .unset, .unset, .unset, .unset, .unset] [(.int (12 : Int32))])) _
    refine st37 _ ?_
    show Steps p.tables e below (T37.setTop (mkF m 212 #[.val (.long q1), .second, .val (.int p2), .val (.int p3), .val (.int p4), .val (.int p5), .val (.long v2), .second, .val (.ref b3), .val (.ref b15), .unset, .unset, .unset, .unset, .unset, .unset, .unset, .unset, .unset] [(.ref b37)])) _
    refine XS.astore X37.here hx rfl (hb hby at_212) rfl rfl (l' := #[.val (.long q1), .second, .val (.int p2), .val (.int p3), .val (.int p4), .val (.int p5), .val (.long v2), .second, .val (.ref b3), .val (.ref b15), .val (.ref b37), .unset, .unset, .unset, .unset, .unset, .unset, .unset, .unset]) rfl ?_
    show Steps p.tables e below (T37.setTop (mkF m 214 #[.val (.long q1), .second, .val (.int p2), .val (.int p3), .val (.int p4), .val (.int p5), .val (.long v2), .second, .val (.ref b3), .val (.ref b15), .val (.ref b37), .unset, .unset, .unset, .unset, .unset, .unset, .unset, .unset] [])) _
    refine XS.aload X37.here hx rfl (hb hby at_214) rfl rfl ?_
    show Steps p.tables e below (T37.setTop (mkF m 216 #[.val (.long q1), .second, .val (.int p2), .val (.int p3), .val (.int p4), .val (.int p5), .val (.long v2), .second, .val (.ref b3), .val (.ref b15), .val (.ref b37), .unset, .unset, .unset, .unset, .unset, .unset, .unset, .unset] [(.ref b37)])) _
    refine XS.iconst X37.here hx rfl (hb hby at_216) ?_
    show Steps p.tables e below (T37.setTop (mkF m 217 #[.val (.long q1), .second, .val (.int p2), .val (.int p3), .val (.int p4), .val (.int p5), .val (.long v2), .second, .val (.ref b3), .val (.ref b15), .val (.ref b37), .unset, .unset, .unset, .unset, .unset, .unset, .unset, .unset] [(.int (0 : Int32)), (.ref b37)])) _
    refine XS.iloadN X37.here hx rfl (hb hby at_217) rfl ?_
    show Steps p.tables e below (T37.setTop (mkF m 218 #[.val (.long q1), .second, .val (.int p2), .val (.int p3), .val (.int p4), .val (.int p5), .val (.long v2), .second, .val (.ref b3), .val (.ref b15), .val (.ref b37), .unset, .unset, .unset, .unset, .unset, .unset, .unset, .unset] [(.int p2), (.int (0 : Int32)), (.ref b37)])) _
    refine XS.sipush X37.here hx rfl (hb hby at_218) ?_
    show Steps p.tables e below (T37.setTop (mkF m 221 #[.val (.long q1), .second, .val (.int p2), .val (.int p3), .val (.int p4), .val (.int p5), .val (.long v2), .second, .val (.ref b3), .val (.ref b15), .val (.ref b37), .unset, .unset, .unset, .unset, .unset, .unset, .unset, .unset] [(.int (255 : Int32)), (.int p2), (.int (0 : Int32)), (.ref b37)])) _
    refine XS.iand X37.here hx rfl (hb hby at_221) rfl ?_
    show Steps p.tables e below (T37.setTop (mkF m 222 #[.val (.long q1), .second, .val (.int p2), .val (.int p3), .val (.int p4), .val (.int p5), .val (.long v2), .second, .val (.ref b3), .val (.ref b15), .val (.ref b37), .unset, .unset, .unset, .unset, .unset, .unset, .unset, .unset] [(.int (p2 &&& (255 : Int32))), (.int (0 : Int32)), (.ref b37)])) _
    refine XS.i2c X37.here hx rfl (hb hby at_222) rfl ?_
    show Steps p.tables e below (T37.setTop (mkF m 223 #[.val (.long q1), .second, .val (.int p2), .val (.int p3), .val (.int p4), .val (.int p5), .val (.long v2), .second, .val (.ref b3), .val (.ref b15), .val (.ref b37), .unset, .unset, .unset, .unset, .unset, .unset, .unset, .unset] [(.int ((p2 &&& (255 : Int32)).toUInt32.toUInt16.toUInt32.toInt32)), (.int (0 : Int32)), (.ref b37)])) _
    refine st38 _ ?_
    show Steps p.tables e below (T38.setTop (mkF m 224 #[.val (.long q1), .second, .val (.int p2), .val (.int p3), .val (.int p4), .val (.int p5), .val (.long v2), .second, .val (.ref b3), .val (.ref b15), .val (.ref b37), .unset, .unset, .unset, .unset, .unset, .unset, .unset, .unset] [])) _
    refine XS.aload X38.here hx rfl (hb hby at_224) rfl rfl ?_
    show Steps p.tables e below (T38.setTop (mkF m 226 #[.val (.long q1), .second, .val (.int p2), .val (.int p3), .val (.int p4), .val (.int p5), .val (.long v2), .second, .val (.ref b3), .val (.ref b15), .val (.ref b37), .unset, .unset, .unset, .unset, .unset, .unset, .unset, .unset] [(.ref b37)])) _
    refine XS.iconst X38.here hx rfl (hb hby at_226) ?_
    show Steps p.tables e below (T38.setTop (mkF m 227 #[.val (.long q1), .second, .val (.int p2), .val (.int p3), .val (.int p4), .val (.int p5), .val (.long v2), .second, .val (.ref b3), .val (.ref b15), .val (.ref b37), .unset, .unset, .unset, .unset, .unset, .unset, .unset, .unset] [(.int (1 : Int32)), (.ref b37)])) _
    refine XS.bipush X38.here hx rfl (hb hby at_227) ?_
    show Steps p.tables e below (T38.setTop (mkF m 229 #[.val (.long q1), .second, .val (.int p2), .val (.int p3), .val (.int p4), .val (.int p5), .val (.long v2), .second, .val (.ref b3), .val (.ref b15), .val (.ref b37), .unset, .unset, .unset, .unset, .unset, .unset, .unset, .unset] [(.int (48 : Int32)), (.int (1 : Int32)), (.ref b37)])) _
    refine XS.aload X38.here hx rfl (hb hby at_229) rfl rfl ?_
    show Steps p.tables e below (T38.setTop (mkF m 231 #[.val (.long q1), .second, .val (.int p2), .val (.int p3), .val (.int p4), .val (.int p5), .val (.long v2), .second, .val (.ref b3), .val (.ref b15), .val (.ref b37), .unset, .unset, .unset, .unset, .unset, .unset, .unset, .unset] [(.ref b15), (.int (48 : Int32)), (.int (1 : Int32)), (.ref b37)])) _
    refine XS.iconst X38.here hx rfl (hb hby at_231) ?_
    show Steps p.tables e below (T38.setTop (mkF m 232 #[.val (.long q1), .second, .val (.int p2), .val (.int p3), .val (.int p4), .val (.int p5), .val (.long v2), .second, .val (.ref b3), .val (.ref b15), .val (.ref b37), .unset, .unset, .unset, .unset, .unset, .unset, .unset, .unset] [(.int (1 : Int32)), (.ref b15), (.int (48 : Int32)), (.int (1 : Int32)), (.ref b37)])) _
    refine X38.iaload hx (j := (1 : Int32)) (v := (.int (own_d v2 1))) (by rw [e38]; exact Ar39.1) (State.isArrayOf_alike hZ.alike Ar39.2.1) Ar39.2.2 hin39 hat39 (g := (mkF m 232 #[.val (.long q1), .second, .val (.int p2), .val (.int p3), .val (.int p4), .val (.int p5), .val (.long v2), .second, .val (.ref b3), .val (.ref b15), .val (.ref b37), .unset, .unset, .unset, .unset, .unset, .unset, .unset, .unset] [(.int (1 : Int32)), (.ref b15), (.int (48 : Int32)), (.int (1 : Int32)), (.ref b37)])) rfl rfl (hb hby at_232) _ ?_
    show Steps p.tables e below (T38.setTop (mkF m 233 #[.val (.long q1), .second, .val (.int p2), .val (.int p3), .val (.int p4), .val (.int p5), .val (.long v2), .second, .val (.ref b3), .val (.ref b15), .val (.ref b37), .unset, .unset, .unset, .unset, .unset, .unset, .unset, .unset] [(.int (own_d v2 1)), (.int (48 : Int32)), (.int (1 : Int32)), (.ref b37)])) _
    refine XS.iadd X38.here hx rfl (hb hby at_233) rfl ?_
    show Steps p.tables e below (T38.setTop (mkF m 234 #[.val (.long q1), .second, .val (.int p2), .val (.int p3), .val (.int p4), .val (.int p5), .val (.long v2), .second, .val (.ref b3), .val (.ref b15), .val (.ref b37), .unset, .unset, .unset, .unset, .unset, .unset, .unset, .unset] [(.int ((48 : Int32) + (own_d v2 1))), (.int (1 : Int32)), (.ref b37)])) _
    refine XS.i2c X38.here hx rfl (hb hby at_234) rfl ?_
    show Steps p.tables e below (T38.setTop (mkF m 235 #[.val (.long q1), .second, .val (.int p2), .val (.int p3), .val (.int p4), .val (.int p5), .val (.long v2), .second, .val (.ref b3), .val (.ref b15), .val (.ref b37), .unset, .unset, .unset, .unset, .unset, .unset, .unset, .unset] [(.int (((48 : Int32) + (own_d v2 1)).toUInt32.toUInt16.toUInt32.toInt32)), (.int (1 : Int32)), (.ref b37)])) _
    refine st40 _ ?_
    show Steps p.tables e below (T40.setTop (mkF m 236 #[.val (.long q1), .second, .val (.int p2), .val (.int p3), .val (.int p4), .val (.int p5), .val (.long v2), .second, .val (.ref b3), .val (.ref b15), .val (.ref b37), .unset, .unset, .unset, .unset, .unset, .unset, .unset, .unset] [])) _
    refine XS.aload X40.here hx rfl (hb hby at_236) rfl rfl ?_
    show Steps p.tables e below (T40.setTop (mkF m 238 #[.val (.long q1), .second, .val (.int p2), .val (.int p3), .val (.int p4), .val (.int p5), .val (.long v2), .second, .val (.ref b3), .val (.ref b15), .val (.ref b37), .unset, .unset, .unset, .unset, .unset, .unset, .unset, .unset] [(.ref b37)])) _
    refine XS.iconst X40.here hx rfl (hb hby at_238) ?_
    show Steps p.tables e below (T40.setTop (mkF m 239 #[.val (.long q1), .second, .val (.int p2), .val (.int p3), .val (.int p4), .val (.int p5), .val (.long v2), .second, .val (.ref b3), .val (.ref b15), .val (.ref b37), .unset, .unset, .unset, .unset, .unset, .unset, .unset, .unset] [(.int (2 : Int32)), (.ref b37)])) _
    refine XS.bipush X40.here hx rfl (hb hby at_239) ?_
    show Steps p.tables e below (T40.setTop (mkF m 241 #[.val (.long q1), .second, .val (.int p2), .val (.int p3), .val (.int p4), .val (.int p5), .val (.long v2), .second, .val (.ref b3), .val (.ref b15), .val (.ref b37), .unset, .unset, .unset, .unset, .unset, .unset, .unset, .unset] [(.int (48 : Int32)), (.int (2 : Int32)), (.ref b37)])) _
    refine XS.aload X40.here hx rfl (hb hby at_241) rfl rfl ?_
    show Steps p.tables e below (T40.setTop (mkF m 243 #[.val (.long q1), .second, .val (.int p2), .val (.int p3), .val (.int p4), .val (.int p5), .val (.long v2), .second, .val (.ref b3), .val (.ref b15), .val (.ref b37), .unset, .unset, .unset, .unset, .unset, .unset, .unset, .unset] [(.ref b15), (.int (48 : Int32)), (.int (2 : Int32)), (.ref b37)])) _
    refine XS.iconst X40.here hx rfl (hb hby at_243) ?_
    show Steps p.tables e below (T40.setTop (mkF m 244 #[.val (.long q1), .second, .val (.int p2), .val (.int p3), .val (.int p4), .val (.int p5), .val (.long v2), .second, .val (.ref b3), .val (.ref b15), .val (.ref b37), .unset, .unset, .unset, .unset, .unset, .unset, .unset, .unset] [(.int (2 : Int32)), (.ref b15), (.int (48 : Int32)), (.int (2 : Int32)), (.ref b37)])) _
    refine X40.iaload hx (j := (2 : Int32)) (v := (.int (own_d v2 2))) (by rw [e40]; exact Ar41.1) (State.isArrayOf_alike hZ.alike Ar41.2.1) Ar41.2.2 hin41 hat41 (g := (mkF m 244 #[.val (.long q1), .second, .val (.int p2), .val (.int p3), .val (.int p4), .val (.int p5), .val (.long v2), .second, .val (.ref b3), .val (.ref b15), .val (.ref b37), .unset, .unset, .unset, .unset, .unset, .unset, .unset, .unset] [(.int (2 : Int32)), (.ref b15), (.int (48 : Int32)), (.int (2 : Int32)), (.ref b37)])) rfl rfl (hb hby at_244) _ ?_
    show Steps p.tables e below (T40.setTop (mkF m 245 #[.val (.long q1), .second, .val (.int p2), .val (.int p3), .val (.int p4), .val (.int p5), .val (.long v2), .second, .val (.ref b3), .val (.ref b15), .val (.ref b37), .unset, .unset, .unset, .unset, .unset, .unset, .unset, .unset] [(.int (own_d v2 2)), (.int (48 : Int32)), (.int (2 : Int32)), (.ref b37)])) _
    refine XS.iadd X40.here hx rfl (hb hby at_245) rfl ?_
    show Steps p.tables e below (T40.setTop (mkF m 246 #[.val (.long q1), .second, .val (.int p2), .val (.int p3), .val (.int p4), .val (.int p5), .val (.long v2), .second, .val (.ref b3), .val (.ref b15), .val (.ref b37), .unset, .unset, .unset, .unset, .unset, .unset, .unset, .unset] [(.int ((48 : Int32) + (own_d v2 2))), (.int (2 : Int32)), (.ref b37)])) _
    refine XS.i2c X40.here hx rfl (hb hby at_246) rfl ?_
    show Steps p.tables e below (T40.setTop (mkF m 247 #[.val (.long q1), .second, .val (.int p2), .val (.int p3), .val (.int p4), .val (.int p5), .val (.long v2), .second, .val (.ref b3), .val (.ref b15), .val (.ref b37), .unset, .unset, .unset, .unset, .unset, .unset, .unset, .unset] [(.int (((48 : Int32) + (own_d v2 2)).toUInt32.toUInt16.toUInt32.toInt32)), (.int (2 : Int32)), (.ref b37)])) _
    refine st42 _ ?_
    show Steps p.tables e below (T42.setTop (mkF m 248 #[.val (.long q1), .second, .val (.int p2), .val (.int p3), .val (.int p4), .val (.int p5), .val (.long v2), .second, .val (.ref b3), .val (.ref b15), .val (.ref b37), .unset, .unset, .unset, .unset, .unset, .unset, .unset, .unset] [])) _
    refine XS.aload X42.here hx rfl (hb hby at_248) rfl rfl ?_
    show Steps p.tables e below (T42.setTop (mkF m 250 #[.val (.long q1), .second, .val (.int p2), .val (.int p3), .val (.int p4), .val (.int p5), .val (.long v2), .second, .val (.ref b3), .val (.ref b15), .val (.ref b37), .unset, .unset, .unset, .unset, .unset, .unset, .unset, .unset] [(.ref b37)])) _
    refine XS.iconst X42.here hx rfl (hb hby at_250) ?_
    show Steps p.tables e below (T42.setTop (mkF m 251 #[.val (.long q1), .second, .val (.int p2), .val (.int p3), .val (.int p4), .val (.int p5), .val (.long v2), .second, .val (.ref b3), .val (.ref b15), .val (.ref b37), .unset, .unset, .unset, .unset, .unset, .unset, .unset, .unset] [(.int (3 : Int32)), (.ref b37)])) _
    refine XS.bipush X42.here hx rfl (hb hby at_251) ?_
    show Steps p.tables e below (T42.setTop (mkF m 253 #[.val (.long q1), .second, .val (.int p2), .val (.int p3), .val (.int p4), .val (.int p5), .val (.long v2), .second, .val (.ref b3), .val (.ref b15), .val (.ref b37), .unset, .unset, .unset, .unset, .unset, .unset, .unset, .unset] [(.int (48 : Int32)), (.int (3 : Int32)), (.ref b37)])) _
    refine XS.aload X42.here hx rfl (hb hby at_253) rfl rfl ?_
    show Steps p.tables e below (T42.setTop (mkF m 255 #[.val (.long q1), .second, .val (.int p2), .val (.int p3), .val (.int p4), .val (.int p5), .val (.long v2), .second, .val (.ref b3), .val (.ref b15), .val (.ref b37), .unset, .unset, .unset, .unset, .unset, .unset, .unset, .unset] [(.ref b15), (.int (48 : Int32)), (.int (3 : Int32)), (.ref b37)])) _
    refine XS.iconst X42.here hx rfl (hb hby at_255) ?_
    show Steps p.tables e below (T42.setTop (mkF m 256 #[.val (.long q1), .second, .val (.int p2), .val (.int p3), .val (.int p4), .val (.int p5), .val (.long v2), .second, .val (.ref b3), .val (.ref b15), .val (.ref b37), .unset, .unset, .unset, .unset, .unset, .unset, .unset, .unset] [(.int (3 : Int32)), (.ref b15), (.int (48 : Int32)), (.int (3 : Int32)), (.ref b37)])) _
    refine X42.iaload hx (j := (3 : Int32)) (v := (.int (own_d v2 3))) (by rw [e42]; exact Ar43.1) (State.isArrayOf_alike hZ.alike Ar43.2.1) Ar43.2.2 hin43 hat43 (g := (mkF m 256 #[.val (.long q1), .second, .val (.int p2), .val (.int p3), .val (.int p4), .val (.int p5), .val (.long v2), .second, .val (.ref b3), .val (.ref b15), .val (.ref b37), .unset, .unset, .unset, .unset, .unset, .unset, .unset, .unset] [(.int (3 : Int32)), (.ref b15), (.int (48 : Int32)), (.int (3 : Int32)), (.ref b37)])) rfl rfl (hb hby at_256) _ ?_
    show Steps p.tables e below (T42.setTop (mkF m 257 #[.val (.long q1), .second, .val (.int p2), .val (.int p3), .val (.int p4), .val (.int p5), .val (.long v2), .second, .val (.ref b3), .val (.ref b15), .val (.ref b37), .unset, .unset, .unset, .unset, .unset, .unset, .unset, .unset] [(.int (own_d v2 3)), (.int (48 : Int32)), (.int (3 : Int32)), (.ref b37)])) _
    refine XS.iadd X42.here hx rfl (hb hby at_257) rfl ?_
    show Steps p.tables e below (T42.setTop (mkF m 258 #[.val (.long q1), .second, .val (.int p2), .val (.int p3), .val (.int p4), .val (.int p5), .val (.long v2), .second, .val (.ref b3), .val (.ref b15), .val (.ref b37), .unset, .unset, .unset, .unset, .unset, .unset, .unset, .unset] [(.int ((48 : Int32) + (own_d v2 3))), (.int (3 : Int32)), (.ref b37)])) _
    refine XS.i2c X42.here hx rfl (hb hby at_258) rfl ?_
    show Steps p.tables e below (T42.setTop (mkF m 259 #[.val (.long q1), .second, .val (.int p2), .val (.int p3), .val (.int p4), .val (.int p5), .val (.long v2), .second, .val (.ref b3), .val (.ref b15), .val (.ref b37), .unset, .unset, .unset, .unset, .unset, .unset, .unset, .unset] [(.int (((48 : Int32) + (own_d v2 3)).toUInt32.toUInt16.toUInt32.toInt32)), (.int (3 : Int32)), (.ref b37)])) _
    refine st44 _ ?_
    show Steps p.tables e below (T44.setTop (mkF m 260 #[.val (.long q1), .second, .val (.int p2), .val (.int p3), .val (.int p4), .val (.int p5), .val (.long v2), .second, .val (.ref b3), .val (.ref b15), .val (.ref b37), .unset, .unset, .unset, .unset, .unset, .unset, .unset, .unset] [])) _
    refine XS.aload X44.here hx rfl (hb hby at_260) rfl rfl ?_
    show Steps p.tables e below (T44.setTop (mkF m 262 #[.val (.long q1), .second, .val (.int p2), .val (.int p3), .val (.int p4), .val (.int p5), .val (.long v2), .second, .val (.ref b3), .val (.ref b15), .val (.ref b37), .unset, .unset, .unset, .unset, .unset, .unset, .unset, .unset] [(.ref b37)])) _
    refine XS.iconst X44.here hx rfl (hb hby at_262) ?_
    show Steps p.tables e below (T44.setTop (mkF m 263 #[.val (.long q1), .second, .val (.int p2), .val (.int p3), .val (.int p4), .val (.int p5), .val (.long v2), .second, .val (.ref b3), .val (.ref b15), .val (.ref b37), .unset, .unset, .unset, .unset, .unset, .unset, .unset, .unset] [(.int (4 : Int32)), (.ref b37)])) _
    refine XS.bipush X44.here hx rfl (hb hby at_263) ?_
    show Steps p.tables e below (T44.setTop (mkF m 265 #[.val (.long q1), .second, .val (.int p2), .val (.int p3), .val (.int p4), .val (.int p5), .val (.long v2), .second, .val (.ref b3), .val (.ref b15), .val (.ref b37), .unset, .unset, .unset, .unset, .unset, .unset, .unset, .unset] [(.int (48 : Int32)), (.int (4 : Int32)), (.ref b37)])) _
    refine XS.aload X44.here hx rfl (hb hby at_265) rfl rfl ?_
    show Steps p.tables e below (T44.setTop (mkF m 267 #[.val (.long q1), .second, .val (.int p2), .val (.int p3), .val (.int p4), .val (.int p5), .val (.long v2), .second, .val (.ref b3), .val (.ref b15), .val (.ref b37), .unset, .unset, .unset, .unset, .unset, .unset, .unset, .unset] [(.ref b15), (.int (48 : Int32)), (.int (4 : Int32)), (.ref b37)])) _
    refine XS.iconst X44.here hx rfl (hb hby at_267) ?_
    show Steps p.tables e below (T44.setTop (mkF m 268 #[.val (.long q1), .second, .val (.int p2), .val (.int p3), .val (.int p4), .val (.int p5), .val (.long v2), .second, .val (.ref b3), .val (.ref b15), .val (.ref b37), .unset, .unset, .unset, .unset, .unset, .unset, .unset, .unset] [(.int (4 : Int32)), (.ref b15), (.int (48 : Int32)), (.int (4 : Int32)), (.ref b37)])) _
    refine X44.iaload hx (j := (4 : Int32)) (v := (.int (own_d v2 4))) (by rw [e44]; exact Ar45.1) (State.isArrayOf_alike hZ.alike Ar45.2.1) Ar45.2.2 hin45 hat45 (g := (mkF m 268 #[.val (.long q1), .second, .val (.int p2), .val (.int p3), .val (.int p4), .val (.int p5), .val (.long v2), .second, .val (.ref b3), .val (.ref b15), .val (.ref b37), .unset, .unset, .unset, .unset, .unset, .unset, .unset, .unset] [(.int (4 : Int32)), (.ref b15), (.int (48 : Int32)), (.int (4 : Int32)), (.ref b37)])) rfl rfl (hb hby at_268) _ ?_
    show Steps p.tables e below (T44.setTop (mkF m 269 #[.val (.long q1), .second, .val (.int p2), .val (.int p3), .val (.int p4), .val (.int p5), .val (.long v2), .second, .val (.ref b3), .val (.ref b15), .val (.ref b37), .unset, .unset, .unset, .unset, .unset, .unset, .unset, .unset] [(.int (own_d v2 4)), (.int (48 : Int32)), (.int (4 : Int32)), (.ref b37)])) _
    refine XS.iadd X44.here hx rfl (hb hby at_269) rfl ?_
    show Steps p.tables e below (T44.setTop (mkF m 270 #[.val (.long q1), .second, .val (.int p2), .val (.int p3), .val (.int p4), .val (.int p5), .val (.long v2), .second, .val (.ref b3), .val (.ref b15), .val (.ref b37), .unset, .unset, .unset, .unset, .unset, .unset, .unset, .unset] [(.int ((48 : Int32) + (own_d v2 4))), (.int (4 : Int32)), (.ref b37)])) _
    refine XS.i2c X44.here hx rfl (hb hby at_270) rfl ?_
    show Steps p.tables e below (T44.setTop (mkF m 271 #[.val (.long q1), .second, .val (.int p2), .val (.int p3), .val (.int p4), .val (.int p5), .val (.long v2), .second, .val (.ref b3), .val (.ref b15), .val (.ref b37), .unset, .unset, .unset, .unset, .unset, .unset, .unset, .unset] [(.int (((48 : Int32) + (own_d v2 4)).toUInt32.toUInt16.toUInt32.toInt32)), (.int (4 : Int32)), (.ref b37)])) _
    refine st46 _ ?_
    show Steps p.tables e below (T46.setTop (mkF m 272 #[.val (.long q1), .second, .val (.int p2), .val (.int p3), .val (.int p4), .val (.int p5), .val (.long v2), .second, .val (.ref b3), .val (.ref b15), .val (.ref b37), .unset, .unset, .unset, .unset, .unset, .unset, .unset, .unset] [])) _
    refine XS.aload X46.here hx rfl (hb hby at_272) rfl rfl ?_
    show Steps p.tables e below (T46.setTop (mkF m 274 #[.val (.long q1), .second, .val (.int p2), .val (.int p3), .val (.int p4), .val (.int p5), .val (.long v2), .second, .val (.ref b3), .val (.ref b15), .val (.ref b37), .unset, .unset, .unset, .unset, .unset, .unset, .unset, .unset] [(.ref b37)])) _
    refine XS.iconst X46.here hx rfl (hb hby at_274) ?_
    show Steps p.tables e below (T46.setTop (mkF m 275 #[.val (.long q1), .second, .val (.int p2), .val (.int p3), .val (.int p4), .val (.int p5), .val (.long v2), .second, .val (.ref b3), .val (.ref b15), .val (.ref b37), .unset, .unset, .unset, .unset, .unset, .unset, .unset, .unset] [(.int (5 : Int32)), (.ref b37)])) _
    refine XS.bipush X46.here hx rfl (hb hby at_275) ?_
    show Steps p.tables e below (T46.setTop (mkF m 277 #[.val (.long q1), .second, .val (.int p2), .val (.int p3), .val (.int p4), .val (.int p5), .val (.long v2), .second, .val (.ref b3), .val (.ref b15), .val (.ref b37), .unset, .unset, .unset, .unset, .unset, .unset, .unset, .unset] [(.int (48 : Int32)), (.int (5 : Int32)), (.ref b37)])) _
    refine XS.aload X46.here hx rfl (hb hby at_277) rfl rfl ?_
    show Steps p.tables e below (T46.setTop (mkF m 279 #[.val (.long q1), .second, .val (.int p2), .val (.int p3), .val (.int p4), .val (.int p5), .val (.long v2), .second, .val (.ref b3), .val (.ref b15), .val (.ref b37), .unset, .unset, .unset, .unset, .unset, .unset, .unset, .unset] [(.ref b15), (.int (48 : Int32)), (.int (5 : Int32)), (.ref b37)])) _
    refine XS.iconst X46.here hx rfl (hb hby at_279) ?_
    show Steps p.tables e below (T46.setTop (mkF m 280 #[.val (.long q1), .second, .val (.int p2), .val (.int p3), .val (.int p4), .val (.int p5), .val (.long v2), .second, .val (.ref b3), .val (.ref b15), .val (.ref b37), .unset, .unset, .unset, .unset, .unset, .unset, .unset, .unset] [(.int (5 : Int32)), (.ref b15), (.int (48 : Int32)), (.int (5 : Int32)), (.ref b37)])) _
    refine X46.iaload hx (j := (5 : Int32)) (v := (.int (own_d v2 5))) (by rw [e46]; exact Ar47.1) (State.isArrayOf_alike hZ.alike Ar47.2.1) Ar47.2.2 hin47 hat47 (g := (mkF m 280 #[.val (.long q1), .second, .val (.int p2), .val (.int p3), .val (.int p4), .val (.int p5), .val (.long v2), .second, .val (.ref b3), .val (.ref b15), .val (.ref b37), .unset, .unset, .unset, .unset, .unset, .unset, .unset, .unset] [(.int (5 : Int32)), (.ref b15), (.int (48 : Int32)), (.int (5 : Int32)), (.ref b37)])) rfl rfl (hb hby at_280) _ ?_
    show Steps p.tables e below (T46.setTop (mkF m 281 #[.val (.long q1), .second, .val (.int p2), .val (.int p3), .val (.int p4), .val (.int p5), .val (.long v2), .second, .val (.ref b3), .val (.ref b15), .val (.ref b37), .unset, .unset, .unset, .unset, .unset, .unset, .unset, .unset] [(.int (own_d v2 5)), (.int (48 : Int32)), (.int (5 : Int32)), (.ref b37)])) _
    refine XS.iadd X46.here hx rfl (hb hby at_281) rfl ?_
    show Steps p.tables e below (T46.setTop (mkF m 282 #[.val (.long q1), .second, .val (.int p2), .val (.int p3), .val (.int p4), .val (.int p5), .val (.long v2), .second, .val (.ref b3), .val (.ref b15), .val (.ref b37), .unset, .unset, .unset, .unset, .unset, .unset, .unset, .unset] [(.int ((48 : Int32) + (own_d v2 5))), (.int (5 : Int32)), (.ref b37)])) _
    refine XS.i2c X46.here hx rfl (hb hby at_282) rfl ?_
    show Steps p.tables e below (T46.setTop (mkF m 283 #[.val (.long q1), .second, .val (.int p2), .val (.int p3), .val (.int p4), .val (.int p5), .val (.long v2), .second, .val (.ref b3), .val (.ref b15), .val (.ref b37), .unset, .unset, .unset, .unset, .unset, .unset, .unset, .unset] [(.int (((48 : Int32) + (own_d v2 5)).toUInt32.toUInt16.toUInt32.toInt32)), (.int (5 : Int32)), (.ref b37)])) _
    refine st48 _ ?_
    show Steps p.tables e below (T48.setTop (mkF m 284 #[.val (.long q1), .second, .val (.int p2), .val (.int p3), .val (.int p4), .val (.int p5), .val (.long v2), .second, .val (.ref b3), .val (.ref b15), .val (.ref b37), .unset, .unset, .unset, .unset, .unset, .unset, .unset, .unset] [])) _
    refine XS.aload X48.here hx rfl (hb hby at_284) rfl rfl ?_
    show Steps p.tables e below (T48.setTop (mkF m 286 #[.val (.long q1), .second, .val (.int p2), .val (.int p3), .val (.int p4), .val (.int p5), .val (.long v2), .second, .val (.ref b3), .val (.ref b15), .val (.ref b37), .unset, .unset, .unset, .unset, .unset, .unset, .unset, .unset] [(.ref b37)])) _
    refine XS.bipush X48.here hx rfl (hb hby at_286) ?_
    show Steps p.tables e below (T48.setTop (mkF m 288 #[.val (.long q1), .second, .val (.int p2), .val (.int p3), .val (.int p4), .val (.int p5), .val (.long v2), .second, .val (.ref b3), .val (.ref b15), .val (.ref b37), .unset, .unset, .unset, .unset, .unset, .unset, .unset, .unset] [(.int (6 : Int32)), (.ref b37)])) _
    refine XS.bipush X48.here hx rfl (hb hby at_288) ?_
    show Steps p.tables e below (T48.setTop (mkF m 290 #[.val (.long q1), .second, .val (.int p2), .val (.int p3), .val (.int p4), .val (.int p5), .val (.long v2), .second, .val (.ref b3), .val (.ref b15), .val (.ref b37), .unset, .unset, .unset, .unset, .unset, .unset, .unset, .unset] [(.int (48 : Int32)), (.int (6 : Int32)), (.ref b37)])) _
    refine XS.aload X48.here hx rfl (hb hby at_290) rfl rfl ?_
    show Steps p.tables e below (T48.setTop (mkF m 292 #[.val (.long q1), .second, .val (.int p2), .val (.int p3), .val (.int p4), .val (.int p5), .val (.long v2), .second, .val (.ref b3), .val (.ref b15), .val (.ref b37), .unset, .unset, .unset, .unset, .unset, .unset, .unset, .unset] [(.ref b15), (.int (48 : Int32)), (.int (6 : Int32)), (.ref b37)])) _
    refine XS.bipush X48.here hx rfl (hb hby at_292) ?_
    show Steps p.tables e below (T48.setTop (mkF m 294 #[.val (.long q1), .second, .val (.int p2), .val (.int p3), .val (.int p4), .val (.int p5), .val (.long v2), .second, .val (.ref b3), .val (.ref b15), .val (.ref b37), .unset, .unset, .unset, .unset, .unset, .unset, .unset, .unset] [(.int (6 : Int32)), (.ref b15), (.int (48 : Int32)), (.int (6 : Int32)), (.ref b37)])) _
    refine X48.iaload hx (j := (6 : Int32)) (v := (.int (own_d v2 6))) (by rw [e48]; exact Ar49.1) (State.isArrayOf_alike hZ.alike Ar49.2.1) Ar49.2.2 hin49 hat49 (g := (mkF m 294 #[.val (.long q1), .second, .val (.int p2), .val (.int p3), .val (.int p4), .val (.int p5), .val (.long v2), .second, .val (.ref b3), .val (.ref b15), .val (.ref b37), .unset, .unset, .unset, .unset, .unset, .unset, .unset, .unset] [(.int (6 : Int32)), (.ref b15), (.int (48 : Int32)), (.int (6 : Int32)), (.ref b37)])) rfl rfl (hb hby at_294) _ ?_
    show Steps p.tables e below (T48.setTop (mkF m 295 #[.val (.long q1), .second, .val (.int p2), .val (.int p3), .val (.int p4), .val (.int p5), .val (.long v2), .second, .val (.ref b3), .val (.ref b15), .val (.ref b37), .unset, .unset, .unset, .unset, .unset, .unset, .unset, .unset] [(.int (own_d v2 6)), (.int (48 : Int32)), (.int (6 : Int32)), (.ref b37)])) _
    refine XS.iadd X48.here hx rfl (hb hby at_295) rfl ?_
    show Steps p.tables e below (T48.setTop (mkF m 296 #[.val (.long q1), .second, .val (.int p2), .val (.int p3), .val (.int p4), .val (.int p5), .val (.long v2), .second, .val (.ref b3), .val (.ref b15), .val (.ref b37), .unset, .unset, .unset, .unset, .unset, .unset, .unset, .unset] [(.int ((48 : Int32) + (own_d v2 6))), (.int (6 : Int32)), (.ref b37)])) _
    refine XS.i2c X48.here hx rfl (hb hby at_296) rfl ?_
    show Steps p.tables e below (T48.setTop (mkF m 297 #[.val (.long q1), .second, .val (.int p2), .val (.int p3), .val (.int p4), .val (.int p5), .val (.long v2), .second, .val (.ref b3), .val (.ref b15), .val (.ref b37), .unset, .unset, .unset, .unset, .unset, .unset, .unset, .unset] [(.int (((48 : Int32) + (own_d v2 6)).toUInt32.toUInt16.toUInt32.toInt32)), (.int (6 : Int32)), (.ref b37)])) _
    refine st50 _ ?_
    show Steps p.tables e below (T50.setTop (mkF m 298 #[.val (.long q1), .second, .val (.int p2), .val (.int p3), .val (.int p4), .val (.int p5), .val (.long v2), .second, .val (.ref b3), .val (.ref b15), .val (.ref b37), .unset, .unset, .unset, .unset, .unset, .unset, .unset, .unset] [])) _
    refine XS.aload X50.here hx rfl (hb hby at_298) rfl rfl ?_
    show Steps p.tables e below (T50.setTop (mkF m 300 #[.val (.long q1), .second, .val (.int p2), .val (.int p3), .val (.int p4), .val (.int p5), .val (.long v2), .second, .val (.ref b3), .val (.ref b15), .val (.ref b37), .unset, .unset, .unset, .unset, .unset, .unset, .unset, .unset] [(.ref b37)])) _
    refine XS.bipush X50.here hx rfl (hb hby at_300) ?_
    show Steps p.tables e below (T50.setTop (mkF m 302 #[.val (.long q1), .second, .val (.int p2), .val (.int p3), .val (.int p4), .val (.int p5), .val (.long v2), .second, .val (.ref b3), .val (.ref b15), .val (.ref b37), .unset, .unset, .unset, .unset, .unset, .unset, .unset, .unset] [(.int (7 : Int32)), (.ref b37)])) _
    refine XS.bipush X50.here hx rfl (hb hby at_302) ?_
    show Steps p.tables e below (T50.setTop (mkF m 304 #[.val (.long q1), .second, .val (.int p2), .val (.int p3), .val (.int p4), .val (.int p5), .val (.long v2), .second, .val (.ref b3), .val (.ref b15), .val (.ref b37), .unset, .unset, .unset, .unset, .unset, .unset, .unset, .unset] [(.int (48 : Int32)), (.int (7 : Int32)), (.ref b37)])) _
    refine XS.aload X50.here hx rfl (hb hby at_304) rfl rfl ?_
    show Steps p.tables e below (T50.setTop (mkF m 306 #[.val (.long q1), .second, .val (.int p2), .val (.int p3), .val (.int p4), .val (.int p5), .val (.long v2), .second, .val (.ref b3), .val (.ref b15), .val (.ref b37), .unset, .unset, .unset, .unset, .unset, .unset, .unset, .unset] [(.ref b15), (.int (48 : Int32)), (.int (7 : Int32)), (.ref b37)])) _
    refine XS.bipush X50.here hx rfl (hb hby at_306) ?_
    show Steps p.tables e below (T50.setTop (mkF m 308 #[.val (.long q1), .second, .val (.int p2), .val (.int p3), .val (.int p4), .val (.int p5), .val (.long v2), .second, .val (.ref b3), .val (.ref b15), .val (.ref b37), .unset, .unset, .unset, .unset, .unset, .unset, .unset, .unset] [(.int (7 : Int32)), (.ref b15), (.int (48 : Int32)), (.int (7 : Int32)), (.ref b37)])) _
    refine X50.iaload hx (j := (7 : Int32)) (v := (.int (own_d v2 7))) (by rw [e50]; exact Ar51.1) (State.isArrayOf_alike hZ.alike Ar51.2.1) Ar51.2.2 hin51 hat51 (g := (mkF m 308 #[.val (.long q1), .second, .val (.int p2), .val (.int p3), .val (.int p4), .val (.int p5), .val (.long v2), .second, .val (.ref b3), .val (.ref b15), .val (.ref b37), .unset, .unset, .unset, .unset, .unset, .unset, .unset, .unset] [(.int (7 : Int32)), (.ref b15), (.int (48 : Int32)), (.int (7 : Int32)), (.ref b37)])) rfl rfl (hb hby at_308) _ ?_
    show Steps p.tables e below (T50.setTop (mkF m 309 #[.val (.long q1), .second, .val (.int p2), .val (.int p3), .val (.int p4), .val (.int p5), .val (.long v2), .second, .val (.ref b3), .val (.ref b15), .val (.ref b37), .unset, .unset, .unset, .unset, .unset, .unset, .unset, .unset] [(.int (own_d v2 7)), (.int (48 : Int32)), (.int (7 : Int32)), (.ref b37)])) _
    refine XS.iadd X50.here hx rfl (hb hby at_309) rfl ?_
    show Steps p.tables e below (T50.setTop (mkF m 310 #[.val (.long q1), .second, .val (.int p2), .val (.int p3), .val (.int p4), .val (.int p5), .val (.long v2), .second, .val (.ref b3), .val (.ref b15), .val (.ref b37), .unset, .unset, .unset, .unset, .unset, .unset, .unset, .unset] [(.int ((48 : Int32) + (own_d v2 7))), (.int (7 : Int32)), (.ref b37)])) _
    refine XS.i2c X50.here hx rfl (hb hby at_310) rfl ?_
    show Steps p.tables e below (T50.setTop (mkF m 311 #[.val (.long q1), .second, .val (.int p2), .val (.int p3), .val (.int p4), .val (.int p5), .val (.long v2), .second, .val (.ref b3), .val (.ref b15), .val (.ref b37), .unset, .unset, .unset, .unset, .unset, .unset, .unset, .unset] [(.int (((48 : Int32) + (own_d v2 7)).toUInt32.toUInt16.toUInt32.toInt32)), (.int (7 : Int32)), (.ref b37)])) _
    refine st52 _ ?_
    show Steps p.tables e below (T52.setTop (mkF m 312 #[.val (.long q1), .second, .val (.int p2), .val (.int p3), .val (.int p4), .val (.int p5), .val (.long v2), .second, .val (.ref b3), .val (.ref b15), .val (.ref b37), .unset, .unset, .unset, .unset, .unset, .unset, .unset, .unset] [])) _
    refine XS.aload X52.here hx rfl (hb hby at_312) rfl rfl ?_
    show Steps p.tables e below (T52.setTop (mkF m 314 #[.val (.long q1), .second, .val (.int p2), .val (.int p3), .val (.int p4), .val (.int p5), .val (.long v2), .second, .val (.ref b3), .val (.ref b15), .val (.ref b37), .unset, .unset, .unset, .unset, .unset, .unset, .unset, .unset] [(.ref b37)])) _
    refine XS.bipush X52.here hx rfl (hb hby at_314) ?_
    show Steps p.tables e below (T52.setTop (mkF m 316 #[.val (.long q1), .second, .val (.int p2), .val (.int p3), .val (.int p4), .val (.int p5), .val (.long v2), .second, .val (.ref b3), .val (.ref b15), .val (.ref b37), .unset, .unset, .unset, .unset, .unset, .unset, .unset, .unset] [(.int (8 : Int32)), (.ref b37)])) _
    refine XS.bipush X52.here hx rfl (hb hby at_316) ?_
    show Steps p.tables e below (T52.setTop (mkF m 318 #[.val (.long q1), .second, .val (.int p2), .val (.int p3), .val (.int p4), .val (.int p5), .val (.long v2), .second, .val (.ref b3), .val (.ref b15), .val (.ref b37), .unset, .unset, .unset, .unset, .unset, .unset, .unset, .unset] [(.int (48 : Int32)), (.int (8 : Int32)), (.ref b37)])) _
    refine XS.aload X52.here hx rfl (hb hby at_318) rfl rfl ?_
    show Steps p.tables e below (T52.setTop (mkF m 320 #[.val (.long q1), .second, .val (.int p2), .val (.int p3), .val (.int p4), .val (.int p5), .val (.long v2), .second, .val (.ref b3), .val (.ref b15), .val (.ref b37), .unset, .unset, .unset, .unset, .unset, .unset, .unset, .unset] [(.ref b15), (.int (48 : Int32)), (.int (8 : Int32)), (.ref b37)])) _
    refine XS.bipush X52.here hx rfl (hb hby at_320) ?_
    show Steps p.tables e below (T52.setTop (mkF m 322 #[.val (.long q1), .second, .val (.int p2), .val (.int p3), .val (.int p4), .val (.int p5), .val (.long v2), .second, .val (.ref b3), .val (.ref b15), .val (.ref b37), .unset, .unset, .unset, .unset, .unset, .unset, .unset, .unset] [(.int (8 : Int32)), (.ref b15), (.int (48 : Int32)), (.int (8 : Int32)), (.ref b37)])) _
    refine X52.iaload hx (j := (8 : Int32)) (v := (.int (own_d v2 8))) (by rw [e52]; exact Ar53.1) (State.isArrayOf_alike hZ.alike Ar53.2.1) Ar53.2.2 hin53 hat53 (g := (mkF m 322 #[.val (.long q1), .second, .val (.int p2), .val (.int p3), .val (.int p4), .val (.int p5), .val (.long v2), .second, .val (.ref b3), .val (.ref b15), .val (.ref b37), .unset, .unset, .unset, .unset, .unset, .unset, .unset, .unset] [(.int (8 : Int32)), (.ref b15), (.int (48 : Int32)), (.int (8 : Int32)), (.ref b37)])) rfl rfl (hb hby at_322) _ ?_
    show Steps p.tables e below (T52.setTop (mkF m 323 #[.val (.long q1), .second, .val (.int p2), .val (.int p3), .val (.int p4), .val (.int p5), .val (.long v2), .second, .val (.ref b3), .val (.ref b15), .val (.ref b37), .unset, .unset, .unset, .unset, .unset, .unset, .unset, .unset] [(.int (own_d v2 8)), (.int (48 : Int32)), (.int (8 : Int32)), (.ref b37)])) _
    refine XS.iadd X52.here hx rfl (hb hby at_323) rfl ?_
    show Steps p.tables e below (T52.setTop (mkF m 324 #[.val (.long q1), .second, .val (.int p2), .val (.int p3), .val (.int p4), .val (.int p5), .val (.long v2), .second, .val (.ref b3), .val (.ref b15), .val (.ref b37), .unset, .unset, .unset, .unset, .unset, .unset, .unset, .unset] [(.int ((48 : Int32) + (own_d v2 8))), (.int (8 : Int32)), (.ref b37)])) _
    refine XS.i2c X52.here hx rfl (hb hby at_324) rfl ?_
    show Steps p.tables e below (T52.setTop (mkF m 325 #[.val (.long q1), .second, .val (.int p2), .val (.int p3), .val (.int p4), .val (.int p5), .val (.long v2), .second, .val (.ref b3), .val (.ref b15), .val (.ref b37), .unset, .unset, .unset, .unset, .unset, .unset, .unset, .unset] [(.int (((48 : Int32) + (own_d v2 8)).toUInt32.toUInt16.toUInt32.toInt32)), (.int (8 : Int32)), (.ref b37)])) _
    refine st54 _ ?_
    show Steps p.tables e below (T54.setTop (mkF m 326 #[.val (.long q1), .second, .val (.int p2), .val (.int p3), .val (.int p4), .val (.int p5), .val (.long v2), .second, .val (.ref b3), .val (.ref b15), .val (.ref b37), .unset, .unset, .unset, .unset, .unset, .unset, .unset, .unset] [])) _
    refine XS.aload X54.here hx rfl (hb hby at_326) rfl rfl ?_
    show Steps p.tables e below (T54.setTop (mkF m 328 #[.val (.long q1), .second, .val (.int p2), .val (.int p3), .val (.int p4), .val (.int p5), .val (.long v2), .second, .val (.ref b3), .val (.ref b15), .val (.ref b37), .unset, .unset, .unset, .unset, .unset, .unset, .unset, .unset] [(.ref b37)])) _
    refine XS.bipush X54.here hx rfl (hb hby at_328) ?_
    show Steps p.tables e below (T54.setTop (mkF m 330 #[.val (.long q1), .second, .val (.int p2), .val (.int p3), .val (.int p4), .val (.int p5), .val (.long v2), .second, .val (.ref b3), .val (.ref b15), .val (.ref b37), .unset, .unset, .unset, .unset, .unset, .unset, .unset, .unset] [(.int (9 : Int32)), (.ref b37)])) _
    refine XS.bipush X54.here hx rfl (hb hby at_330) ?_
    show Steps p.tables e below (T54.setTop (mkF m 332 #[.val (.long q1), .second, .val (.int p2), .val (.int p3), .val (.int p4), .val (.int p5), .val (.long v2), .second, .val (.ref b3), .val (.ref b15), .val (.ref b37), .unset, .unset, .unset, .unset, .unset, .unset, .unset, .unset] [(.int (48 : Int32)), (.int (9 : Int32)), (.ref b37)])) _
    refine XS.aload X54.here hx rfl (hb hby at_332) rfl rfl ?_
    show Steps p.tables e below (T54.setTop (mkF m 334 #[.val (.long q1), .second, .val (.int p2), .val (.int p3), .val (.int p4), .val (.int p5), .val (.long v2), .second, .val (.ref b3), .val (.ref b15), .val (.ref b37), .unset, .unset, .unset, .unset, .unset, .unset, .unset, .unset] [(.ref b15), (.int (48 : Int32)), (.int (9 : Int32)), (.ref b37)])) _
    refine XS.bipush X54.here hx rfl (hb hby at_334) ?_
    show Steps p.tables e below (T54.setTop (mkF m 336 #[.val (.long q1), .second, .val (.int p2), .val (.int p3), .val (.int p4), .val (.int p5), .val (.long v2), .second, .val (.ref b3), .val (.ref b15), .val (.ref b37), .unset, .unset, .unset, .unset, .unset, .unset, .unset, .unset] [(.int (9 : Int32)), (.ref b15), (.int (48 : Int32)), (.int (9 : Int32)), (.ref b37)])) _
    refine X54.iaload hx (j := (9 : Int32)) (v := (.int (own_d v2 9))) (by rw [e54]; exact Ar55.1) (State.isArrayOf_alike hZ.alike Ar55.2.1) Ar55.2.2 hin55 hat55 (g := (mkF m 336 #[.val (.long q1), .second, .val (.int p2), .val (.int p3), .val (.int p4), .val (.int p5), .val (.long v2), .second, .val (.ref b3), .val (.ref b15), .val (.ref b37), .unset, .unset, .unset, .unset, .unset, .unset, .unset, .unset] [(.int (9 : Int32)), (.ref b15), (.int (48 : Int32)), (.int (9 : Int32)), (.ref b37)])) rfl rfl (hb hby at_336) _ ?_
    show Steps p.tables e below (T54.setTop (mkF m 337 #[.val (.long q1), .second, .val (.int p2), .val (.int p3), .val (.int p4), .val (.int p5), .val (.long v2), .second, .val (.ref b3), .val (.ref b15), .val (.ref b37), .unset, .unset, .unset, .unset, .unset, .unset, .unset, .unset] [(.int (own_d v2 9)), (.int (48 : Int32)), (.int (9 : Int32)), (.ref b37)])) _
    refine XS.iadd X54.here hx rfl (hb hby at_337) rfl ?_
    show Steps p.tables e below (T54.setTop (mkF m 338 #[.val (.long q1), .second, .val (.int p2), .val (.int p3), .val (.int p4), .val (.int p5), .val (.long v2), .second, .val (.ref b3), .val (.ref b15), .val (.ref b37), .unset, .unset, .unset, .unset, .unset, .unset, .unset, .unset] [(.int ((48 : Int32) + (own_d v2 9))), (.int (9 : Int32)), (.ref b37)])) _
    refine XS.i2c X54.here hx rfl (hb hby at_338) rfl ?_
    show Steps p.tables e below (T54.setTop (mkF m 339 #[.val (.long q1), .second, .val (.int p2), .val (.int p3), .val (.int p4), .val (.int p5), .val (.long v2), .second, .val (.ref b3), .val (.ref b15), .val (.ref b37), .unset, .unset, .unset, .unset, .unset, .unset, .unset, .unset] [(.int (((48 : Int32) + (own_d v2 9)).toUInt32.toUInt16.toUInt32.toInt32)), (.int (9 : Int32)), (.ref b37)])) _
    refine st56 _ ?_
    show Steps p.tables e below (T56.setTop (mkF m 340 #[.val (.long q1), .second, .val (.int p2), .val (.int p3), .val (.int p4), .val (.int p5), .val (.long v2), .second, .val (.ref b3), .val (.ref b15), .val (.ref b37), .unset, .unset, .unset, .unset, .unset, .unset, .unset, .unset] [])) _
    refine XS.aload X56.here hx rfl (hb hby at_340) rfl rfl ?_
    show Steps p.tables e below (T56.setTop (mkF m 342 #[.val (.long q1), .second, .val (.int p2), .val (.int p3), .val (.int p4), .val (.int p5), .val (.long v2), .second, .val (.ref b3), .val (.ref b15), .val (.ref b37), .unset, .unset, .unset, .unset, .unset, .unset, .unset, .unset] [(.ref b37)])) _
    refine XS.bipush X56.here hx rfl (hb hby at_342) ?_
    show Steps p.tables e below (T56.setTop (mkF m 344 #[.val (.long q1), .second, .val (.int p2), .val (.int p3), .val (.int p4), .val (.int p5), .val (.long v2), .second, .val (.ref b3), .val (.ref b15), .val (.ref b37), .unset, .unset, .unset, .unset, .unset, .unset, .unset, .unset] [(.int (10 : Int32)), (.ref b37)])) _
    refine XS.bipush X56.here hx rfl (hb hby at_344) ?_
    show Steps p.tables e below (T56.setTop (mkF m 346 #[.val (.long q1), .second, .val (.int p2), .val (.int p3), .val (.int p4), .val (.int p5), .val (.long v2), .second, .val (.ref b3), .val (.ref b15), .val (.ref b37), .unset, .unset, .unset, .unset, .unset, .unset, .unset, .unset] [(.int (48 : Int32)), (.int (10 : Int32)), (.ref b37)])) _
    refine XS.aload X56.here hx rfl (hb hby at_346) rfl rfl ?_
    show Steps p.tables e below (T56.setTop (mkF m 348 #[.val (.long q1), .second, .val (.int p2), .val (.int p3), .val (.int p4), .val (.int p5), .val (.long v2), .second, .val (.ref b3), .val (.ref b15), .val (.ref b37), .unset, .unset, .unset, .unset, .unset, .unset, .unset, .unset] [(.ref b15), (.int (48 : Int32)), (.int (10 : Int32)), (.ref b37)])) _
    refine XS.bipush X56.here hx rfl (hb hby at_348) ?_
    show Steps p.tables e below (T56.setTop (mkF m 350 #[.val (.long q1), .second, .val (.int p2), .val (.int p3), .val (.int p4), .val (.int p5), .val (.long v2), .second, .val (.ref b3), .val (.ref b15), .val (.ref b37), .unset, .unset, .unset, .unset, .unset, .unset, .unset, .unset] [(.int (10 : Int32)), (.ref b15), (.int (48 : Int32)), (.int (10 : Int32)), (.ref b37)])) _
    refine X56.iaload hx (j := (10 : Int32)) (v := (.int (own_d v2 10))) (by rw [e56]; exact Ar57.1) (State.isArrayOf_alike hZ.alike Ar57.2.1) Ar57.2.2 hin57 hat57 (g := (mkF m 350 #[.val (.long q1), .second, .val (.int p2), .val (.int p3), .val (.int p4), .val (.int p5), .val (.long v2), .second, .val (.ref b3), .val (.ref b15), .val (.ref b37), .unset, .unset, .unset, .unset, .unset, .unset, .unset, .unset] [(.int (10 : Int32)), (.ref b15), (.int (48 : Int32)), (.int (10 : Int32)), (.ref b37)])) rfl rfl (hb hby at_350) _ ?_
    show Steps p.tables e below (T56.setTop (mkF m 351 #[.val (.long q1), .second, .val (.int p2), .val (.int p3), .val (.int p4), .val (.int p5), .val (.long v2), .second, .val (.ref b3), .val (.ref b15), .val (.ref b37), .unset, .unset, .unset, .unset, .unset, .unset, .unset, .unset] [(.int (own_d v2 10)), (.int (48 : Int32)), (.int (10 : Int32)), (.ref b37)])) _
    refine XS.iadd X56.here hx rfl (hb hby at_351) rfl ?_
    show Steps p.tables e below (T56.setTop (mkF m 352 #[.val (.long q1), .second, .val (.int p2), .val (.int p3), .val (.int p4), .val (.int p5), .val (.long v2), .second, .val (.ref b3), .val (.ref b15), .val (.ref b37), .unset, .unset, .unset, .unset, .unset, .unset, .unset, .unset] [(.int ((48 : Int32) + (own_d v2 10))), (.int (10 : Int32)), (.ref b37)])) _
    refine XS.i2c X56.here hx rfl (hb hby at_352) rfl ?_
    show Steps p.tables e below (T56.setTop (mkF m 353 #[.val (.long q1), .second, .val (.int p2), .val (.int p3), .val (.int p4), .val (.int p5), .val (.long v2), .second, .val (.ref b3), .val (.ref b15), .val (.ref b37), .unset, .unset, .unset, .unset, .unset, .unset, .unset, .unset] [(.int (((48 : Int32) + (own_d v2 10)).toUInt32.toUInt16.toUInt32.toInt32)), (.int (10 : Int32)), (.ref b37)])) _
    refine st58 _ ?_
    show Steps p.tables e below (T58.setTop (mkF m 354 #[.val (.long q1), .second, .val (.int p2), .val (.int p3), .val (.int p4), .val (.int p5), .val (.long v2), .second, .val (.ref b3), .val (.ref b15), .val (.ref b37), .unset, .unset, .unset, .unset, .unset, .unset, .unset, .unset] [])) _
    refine XS.aload X58.here hx rfl (hb hby at_354) rfl rfl ?_
    show Steps p.tables e below (T58.setTop (mkF m 356 #[.val (.long q1), .second, .val (.int p2), .val (.int p3), .val (.int p4), .val (.int p5), .val (.long v2), .second, .val (.ref b3), .val (.ref b15), .val (.ref b37), .unset, .unset, .unset, .unset, .unset, .unset, .unset, .unset] [(.ref b37)])) _
    refine XS.bipush X58.here hx rfl (hb hby at_356) ?_
    show Steps p.tables e below (T58.setTop (mkF m 358 #[.val (.long q1), .second, .val (.int p2), .val (.int p3), .val (.int p4), .val (.int p5), .val (.long v2), .second, .val (.ref b3), .val (.ref b15), .val (.ref b37), .unset, .unset, .unset, .unset, .unset, .unset, .unset, .unset] [(.int (11 : Int32)), (.ref b37)])) _
    refine XS.iloadN X58.here hx rfl (hb hby at_358) rfl ?_
    show Steps p.tables e below (T58.setTop (mkF m 359 #[.val (.long q1), .second, .val (.int p2), .val (.int p3), .val (.int p4), .val (.int p5), .val (.long v2), .second, .val (.ref b3), .val (.ref b15), .val (.ref b37), .unset, .unset, .unset, .unset, .unset, .unset, .unset, .unset] [(.int p3), (.int (11 : Int32)), (.ref b37)])) _
    refine XS.sipush X58.here hx rfl (hb hby at_359) ?_
    show Steps p.tables e below (T58.setTop (mkF m 362 #[.val (.long q1), .second, .val (.int p2), .val (.int p3), .val (.int p4), .val (.int p5), .val (.long v2), .second, .val (.ref b3), .val (.ref b15), .val (.ref b37), .unset, .unset, .unset, .unset, .unset, .unset, .unset, .unset] [(.int (255 : Int32)), (.int p3), (.int (11 : Int32)), (.ref b37)])) _
    refine XS.iand X58.here hx rfl (hb hby at_362) rfl ?_
    show Steps p.tables e below (T58.setTop (mkF m 363 #[.val (.long q1), .second, .val (.int p2), .val (.int p3), .val (.int p4), .val (.int p5), .val (.long v2), .second, .val (.ref b3), .val (.ref b15), .val (.ref b37), .unset, .unset, .unset, .unset, .unset, .unset, .unset, .unset] [(.int (p3 &&& (255 : Int32))), (.int (11 : Int32)), (.ref b37)])) _
    refine XS.i2c X58.here hx rfl (hb hby at_363) rfl ?_
    show Steps p.tables e below (T58.setTop (mkF m 364 #[.val (.long q1), .second, .val (.int p2), .val (.int p3), .val (.int p4), .val (.int p5), .val (.long v2), .second, .val (.ref b3), .val (.ref b15), .val (.ref b37), .unset, .unset, .unset, .unset, .unset, .unset, .unset, .unset] [(.int ((p3 &&& (255 : Int32)).toUInt32.toUInt16.toUInt32.toInt32)), (.int (11 : Int32)), (.ref b37)])) _
    refine st59 _ ?_
    show Steps p.tables e below (T59.setTop (mkF m 365 #[.val (.long q1), .second, .val (.int p2), .val (.int p3), .val (.int p4), .val (.int p5), .val (.long v2), .second, .val (.ref b3), .val (.ref b15), .val (.ref b37), .unset, .unset, .unset, .unset, .unset, .unset, .unset, .unset] [])) _
    refine st60 _ ?_
    show Steps p.tables e below (T60.setTop (mkF m 368 #[.val (.long q1), .second, .val (.int p2), .val (.int p3), .val (.int p4), .val (.int p5), .val (.long v2), .second, .val (.ref b3), .val (.ref b15), .val (.ref b37), .unset, .unset, .unset, .unset, .unset, .unset, .unset, .unset] [(.ref b60)])) _
    refine XS.dup X60.here hx rfl (hb hby at_368) rfl rfl ?_
    show Steps p.tables e below (T60.setTop (mkF m 369 #[.val (.long q1), .second, .val (.int p2), .val (.int p3), .val (.int p4), .val (.int p5), .val (.long v2), .second, .val (.ref b3), .val (.ref b15), .val (.ref b37), .unset, .unset, .unset, .unset, .unset, .unset, .unset, .unset] [(.ref b60), (.ref b60)])) _
    refine XS.aload X60.here hx rfl (hb hby at_369) rfl rfl ?_
    show Steps p.tables e below (T60.setTop (mkF m 371 #[.val (.long q1), .second, .val (.int p2), .val (.int p3), .val (.int p4), .val (.int p5), .val (.long v2), .second, .val (.ref b3), .val (.ref b15), .val (.ref b37), .unset, .unset, .unset, .unset, .unset, .unset, .unset, .unset] [(.ref b37), (.ref b60), (.ref b60)])) _
    refine st62.trans ?_
    show Steps p.tables e below (T62.setTop (mkF m 374 #[.val (.long q1), .second, .val (.int p2), .val (.int p3), .val (.int p4), .val (.int p5), .val (.long v2), .second, .val (.ref b3), .val (.ref b15), .val (.ref b37), .unset, .unset, .unset, .unset, .unset, .unset, .unset, .unset] [(.ref b60)])) _
    refine XS.astore X62.here hx rfl (hb hby at_374) rfl rfl (l' := #[.val (.long q1), .second, .val (.int p2), .val (.int p3), .val (.int p4), .val (.int p5), .val (.long v2), .second, .val (.ref b3), .val (.ref b15), .val (.ref b37), .val (.ref b60), .unset, .unset, .unset, .unset, .unset, .unset, .unset]) rfl ?_
    show Steps p.tables e below (T62.setTop (mkF m 376 #[.val (.long q1), .second, .val (.int p2), .val (.int p3), .val (.int p4), .val (.int p5), .val (.long v2), .second, .val (.ref b3), .val (.ref b15), .val (.ref b37), .val (.ref b60), .unset, .unset, .unset, .unset, .unset, .unset, .unset] [])) _
    refine XS.iconst X62.here hx rfl (hb hby at_376) ?_
    show Steps p.tables e below (T62.setTop (mkF m 377 #[.val (.long q1), .second, .val (.int p2), .val (.int p3), .val (.int p4), .val (.int p5), .val (.long v2), .second, .val (.ref b3), .val (.ref b15), .val (.ref b37), .val (.ref b60), .unset, .unset, .unset, .unset, .unset, .unset, .unset] [(.int (1 : Int32))])) _
    refine XS.iload X62.here hx rfl (hb hby at_377) rfl ?_
    show Steps p.tables e below (T62.setTop (mkF m 379 #[.val (.long q1), .second, .val (.int p2), .val (.int p3), .val (.int p4), .val (.int p5), .val (.long v2), .second, .val (.ref b3), .val (.ref b15), .val (.ref b37), .val (.ref b60), .unset, .unset, .unset, .unset, .unset, .unset, .unset] [(.int p4), (.int (1 : Int32))])) _
    refine X62.ldcInt hx hown (mvT hZ (hw _ (List.mem_of_getElem? (i := 45) rfl))) (g := (mkF m 379 #[.val (.long q1), .second, .val (.int p2), .val (.int p3), .val (.int p4), .val (.int p5), .val (.long v2), .second, .val (.ref b3), .val (.ref b15), .val (.ref b37), .val (.ref b60), .unset, .unset, .unset, .unset, .unset, .unset, .unset] [(.int p4), (.int (1 : Int32))])) rfl (hb hby at_379) _ ?_
    show Steps p.tables e below (T62.setTop (mkF m 381 #[.val (.long q1), .second, .val (.int p2), .val (.int p3), .val (.int p4), .val (.int p5), .val (.long v2), .second, .val (.ref b3), .val (.ref b15), .val (.ref b37), .val (.ref b60), .unset, .unset, .unset, .unset, .unset, .unset, .unset] [(.int (2147483647 : Int32)), (.int p4), (.int (1 : Int32))])) _
    refine XS.iand X62.here hx rfl (hb hby at_381) rfl ?_
    show Steps p.tables e below (T62.setTop (mkF m 382 #[.val (.long q1), .second, .val (.int p2), .val (.int p3), .val (.int p4), .val (.int p5), .val (.long v2), .second, .val (.ref b3), .val (.ref b15), .val (.ref b37), .val (.ref b60), .unset, .unset, .unset, .unset, .unset, .unset, .unset] [(.int (p4 &&& (2147483647 : Int32))), (.int (1 : Int32))])) _
    refine XS.bipush X62.here hx rfl (hb hby at_382) ?_
    show Steps p.tables e below (T62.setTop (mkF m 384 #[.val (.long q1), .second, .val (.int p2), .val (.int p3), .val (.int p4), .val (.int p5), .val (.long v2), .second, .val (.ref b3), .val (.ref b15), .val (.ref b37), .val (.ref b60), .unset, .unset, .unset, .unset, .unset, .unset, .unset] [(.int (10 : Int32)), (.int (p4 &&& (2147483647 : Int32))), (.int (1 : Int32))])) _
    refine iremM X62 hx rfl (hb hby at_384) rfl (by decide) ?_
    show Steps p.tables e below (T62.setTop (mkF m 385 #[.val (.long q1), .second, .val (.int p2), .val (.int p3), .val (.int p4), .val (.int p5), .val (.long v2), .second, .val (.ref b3), .val (.ref b15), .val (.ref b37), .val (.ref b60), .unset, .unset, .unset, .unset, .unset, .unset, .unset] [(.int ((p4 &&& (2147483647 : Int32)) % (10 : Int32))), (.int (1 : Int32))])) _
    refine XS.iadd X62.here hx rfl (hb hby at_385) rfl ?_
    exact kt
  obtain ⟨v64, hv64⟩ : ∃ zz9 : Int32, zz9 = ((1 : Int32) + ((p4 &&& (2147483647 : Int32)) % (10 : Int32))) := ⟨_, rfl⟩
  rw [← hv64] at R63
  obtain ⟨_, _, ⟨T65, L65, k65, n65⟩, -, X65, ⟨Lc65, hQ65, l65, y65, z65⟩, st65⟩ := Jvm.LawKit.callS X62 hx (y := (⟨"java/lang/Math", "min", "(II)I"⟩ : MethodName)) hown (mvT hZ (hw _ (List.mem_of_getElem? (i := 46) rfl))) (mvT hZ (hw _ (List.mem_of_getElem? (i := 47) rfl))) (mvT hZ (hw _ (List.mem_of_getElem? (i := 48) rfl))) (mvT hZ (hw _ (List.mem_of_getElem? (i := 49) rfl))) (by decide) (backOf (W := 0) (rm8 l Z a0 hw [] ((p5 &&& (2147483647 : Int32)) % (10 : Int32)) ((11 : Int32) - v64) T62.heap n0 Z62) hZ (hw _ (List.mem_of_getElem? (i := 49) rfl)) (hw _ (List.mem_of_getElem? (i := 48) rfl)) (by decide) (by decide)) (g := (mkF m 401 #[.val (.long q1), .second, .val (.int p2), .val (.int p3), .val (.int p4), .val (.int p5), .val (.long v2), .second, .val (.ref b3), .val (.ref b15), .val (.ref b37), .val (.ref b60), .val (.int v64), .unset, .unset, .unset, .unset, .unset, .unset] [(.int ((11 : Int32) - v64)), (.int ((p5 &&& (2147483647 : Int32)) % (10 : Int32)))])) rfl (by rw [hml]; rfl) (argsL := [(.int ((p5 &&& (2147483647 : Int32)) % (10 : Int32))), (.int ((11 : Int32) - v64))]) (rest := []) (lenOf pd_0_8 rfl) rfl (by show 2 * 0 + _ ≤ _; exact Nat.le_of_eq rfl) (hb hby at_401) (fun _ _ => ⟨rfl, rfl, (by decide : 5 + 0 ≤ _), (by decide : 50 + 0 ≤ _)⟩)
  dsimp only [Pt.U, Pt.locs, Pt.cells, Pt.slots] at X65 l65 y65 z65 st65 hQ65
  subst l65 y65 z65
  obtain ⟨rfl, rfl, e65⟩ := hQ65
  rw [List.append_nil] at X65
  replace X65 : Stand p l e room_1 s m #[(.long q1), (.int p2), (.int p3), (.int p4), (.int p5)] below meth c T65 (L59 ++ Lc62) 5 50 := X65
  have R66 : ∀ t, Steps p.tables e below (T65.setTop (mkF m 404 #[.val (.long q1), .second, .val (.int p2), .val (.int p3), .val (.int p4), .val (.int p5), .val (.long v2), .second, .val (.ref b3), .val (.ref b15), .val (.ref b37), .val (.ref b60), .val (.int v64), .unset, .unset, .unset, .unset, .unset, .unset] [(.int (F8 ((p5 &&& (2147483647 : Int32)) % (10 : Int32)) ((11 : Int32) - v64)))])) t → Steps p.tables e below (s₁.setTop (entryFrame m #[(.long q1), (.int p2), (.int p3), (.int p4), (.int p5)] maxLocals)) t := by
    intro t kt
    refine R63 _ ?_
    show Steps p.tables e below (T62.setTop (mkF m 386 #[.val (.long q1), .second, .val (.int p2), .val (.int p3), .val (.int p4), .val (.int p5), .val (.long v2), .second, .val (.ref b3), .val (.ref b15), .val (.ref b37), .val (.ref b60), .unset, .unset, .unset, .unset, .unset, .unset, .unset] [(.int v64)])) _
    refine XS.istore X62.here hx rfl (hb hby at_386) rfl (l' := #[.val (.long q1), .second, .val (.int p2), .val (.int p3), .val (.int p4), .val (.int p5), .val (.long v2), .second, .val (.ref b3), .val (.ref b15), .val (.ref b37), .val (.ref b60), .val (.int v64), .unset, .unset, .unset, .unset, .unset, .unset]) rfl ?_
    show Steps p.tables e below (T62.setTop (mkF m 388 #[.val (.long q1), .second, .val (.int p2), .val (.int p3), .val (.int p4), .val (.int p5), .val (.long v2), .second, .val (.ref b3), .val (.ref b15), .val (.ref b37), .val (.ref b60), .val (.int v64), .unset, .unset, .unset, .unset, .unset, .unset] [])) _
    refine XS.iload X62.here hx rfl (hb hby at_388) rfl ?_
    show Steps p.tables e below (T62.setTop (mkF m 390 #[.val (.long q1), .second, .val (.int p2), .val (.int p3), .val (.int p4), .val (.int p5), .val (.long v2), .second, .val (.ref b3), .val (.ref b15), .val (.ref b37), .val (.ref b60), .val (.int v64), .unset, .unset, .unset, .unset, .unset, .unset] [(.int p5)])) _
    refine X62.ldcInt hx hown (mvT hZ (hw _ (List.mem_of_getElem? (i := 45) rfl))) (g := (mkF m 390 #[.val (.long q1), .second, .val (.int p2), .val (.int p3), .val (.int p4), .val (.int p5), .val (.long v2), .second, .val (.ref b3), .val (.ref b15), .val (.ref b37), .val (.ref b60), .val (.int v64), .unset, .unset, .unset, .unset, .unset, .unset] [(.int p5)])) rfl (hb hby at_390) _ ?_
    show Steps p.tables e below (T62.setTop (mkF m 392 #[.val (.long q1), .second, .val (.int p2), .val (.int p3), .val (.int p4), .val (.int p5), .val (.long v2), .second, .val (.ref b3), .val (.ref b15), .val (.ref b37), .val (.ref b60), .val (.int v64), .unset, .unset, .unset, .unset, .unset, .unset] [(.int (2147483647 : Int32)), (.int p5)])) _
    refine XS.iand X62.here hx rfl (hb hby at_392) rfl ?_
    show Steps p.tables e below (T62.setTop (mkF m 393 #[.val (.long q1), .second, .val (.int p2), .val (.int p3), .val (.int p4), .val (.int p5), .val (.long v2), .second, .val (.ref b3), .val (.ref b15), .val (.ref b37), .val (.ref b60), .val (.int v64), .unset, .unset, .unset, .unset, .unset, .unset] [(.int (p5 &&& (2147483647 : Int32)))])) _
    refine XS.bipush X62.here hx rfl (hb hby at_393) ?_
    show Steps p.tables e below (T62.setTop (mkF m 395 #[.val (.long q1), .second, .val (.int p2), .val (.int p3), .val (.int p4), .val (.int p5), .val (.long v2), .second, .val (.ref b3), .val (.ref b15), .val (.ref b37), .val (.ref b60), .val (.int v64), .unset, .unset, .unset, .unset, .unset, .unset] [(.int (10 : Int32)), (.int (p5 &&& (2147483647 : Int32)))])) _
    refine iremM X62 hx rfl (hb hby at_395) rfl (by decide) ?_
    show Steps p.tables e below (T62.setTop (mkF m 396 #[.val (.long q1), .second, .val (.int p2), .val (.int p3), .val (.int p4), .val (.int p5), .val (.long v2), .second, .val (.ref b3), .val (.ref b15), .val (.ref b37), .val (.ref b60), .val (.int v64), .unset, .unset, .unset, .unset, .unset, .unset] [(.int ((p5 &&& (2147483647 : Int32)) % (10 : Int32)))])) _
    refine XS.bipush X62.here hx rfl (hb hby at_396) ?_
    show Steps p.tables e below (T62.setTop (mkF m 398 #[.val (.long q1), .second, .val (.int p2), .val (.int p3), .val (.int p4), .val (.int p5), .val (.long v2), .second, .val (.ref b3), .val (.ref b15), .val (.ref b37), .val (.ref b60), .val (.int v64), .unset, .unset, .unset, .unset, .unset, .unset] [(.int (11 : Int32)), (.int ((p5 &&& (2147483647 : Int32)) % (10 : Int32)))])) _
    refine XS.iload X62.here hx rfl (hb hby at_398) rfl ?_
    show Steps p.tables e below (T62.setTop (mkF m 400 #[.val (.long q1), .second, .val (.int p2), .val (.int p3), .val (.int p4), .val (.int p5), .val (.long v2), .second, .val (.ref b3), .val (.ref b15), .val (.ref b37), .val (.ref b60), .val (.int v64), .unset, .unset, .unset, .unset, .unset, .unset] [(.int v64), (.int (11 : Int32)), (.int ((p5 &&& (2147483647 : Int32)) % (10 : Int32)))])) _
    refine XS.isub X62.here hx rfl (hb hby at_400) rfl ?_
    show Steps p.tables e below (T62.setTop (mkF m 401 #[.val (.long q1), .second, .val (.int p2), .val (.int p3), .val (.int p4), .val (.int p5), .val (.long v2), .second, .val (.ref b3), .val (.ref b15), .val (.ref b37), .val (.ref b60), .val (.int v64), .unset, .unset, .unset, .unset, .unset, .unset] [(.int ((11 : Int32) - v64)), (.int ((p5 &&& (2147483647 : Int32)) % (10 : Int32)))])) _
    refine st65 _ ?_
    exact kt
  obtain ⟨v67, hv67⟩ : ∃ zz9 : Int32, zz9 = (F8 ((p5 &&& (2147483647 : Int32)) % (10 : Int32)) ((11 : Int32) - v64)) := ⟨_, rfl⟩
  rw [← hv67] at R66
  have R68 : ∀ t, Steps p.tables e below (T65.setTop (mkF m 411 #[.val (.long q1), .second, .val (.int p2), .val (.int p3), .val (.int p4), .val (.int p5), .val (.long v2), .second, .val (.ref b3), .val (.ref b15), .val (.ref b37), .val (.ref b60), .val (.int v64), .val (.int v67), .unset, .unset, .unset, .unset, .unset] [(.int (v64 + v67))])) t → Steps p.tables e below (s₁.setTop (entryFrame m #[(.long q1), (.int p2), (.int p3), (.int p4), (.int p5)] maxLocals)) t := by
    intro t kt
    refine R66 _ ?_
    show Steps p.tables e below (T65.setTop (mkF m 404 #[.val (.long q1), .second, .val (.int p2), .val (.int p3), .val (.int p4), .val (.int p5), .val (.long v2), .second, .val (.ref b3), .val (.ref b15), .val (.ref b37), .val (.ref b60), .val (.int v64), .unset, .unset, .unset, .unset, .unset, .unset] [(.int v67)])) _
    refine XS.istore X65.here hx rfl (hb hby at_404) rfl (l' := #[.val (.long q1), .second, .val (.int p2), .val (.int p3), .val (.int p4), .val (.int p5), .val (.long v2), .second, .val (.ref b3), .val (.ref b15), .val (.ref b37), .val (.ref b60), .val (.int v64), .val (.int v67), .unset, .unset, .unset, .unset, .unset]) rfl ?_
    show Steps p.tables e below (T65.setTop (mkF m 406 #[.val (.long q1), .second, .val (.int p2), .val (.int p3), .val (.int p4), .val (.int p5), .val (.long v2), .second, .val (.ref b3), .val (.ref b15), .val (.ref b37), .val (.ref b60), .val (.int v64), .val (.int v67), .unset, .unset, .unset, .unset, .unset] [])) _
    refine XS.iload X65.here hx rfl (hb hby at_406) rfl ?_
    show Steps p.tables e below (T65.setTop (mkF m 408 #[.val (.long q1), .second, .val (.int p2), .val (.int p3), .val (.int p4), .val (.int p5), .val (.long v2), .second, .val (.ref b3), .val (.ref b15), .val (.ref b37), .val (.ref b60), .val (.int v64), .val (.int v67), .unset, .unset, .unset, .unset, .unset] [(.int v64)])) _
    refine XS.iload X65.here hx rfl (hb hby at_408) rfl ?_
    show Steps p.tables e below (T65.setTop (mkF m 410 #[.val (.long q1), .second, .val (.int p2), .val (.int p3), .val (.int p4), .val (.int p5), .val (.long v2), .second, .val (.ref b3), .val (.ref b15), .val (.ref b37), .val (.ref b60), .val (.int v64), .val (.int v67), .unset, .unset, .unset, .unset, .unset] [(.int v67), (.int v64)])) _
    refine XS.iadd X65.here hx rfl (hb hby at_410) rfl ?_
    exact kt
  obtain ⟨v69, hv69⟩ : ∃ zz9 : Int32, zz9 = (v64 + v67) := ⟨_, rfl⟩
  rw [← hv69] at R68
  obtain ⟨_, _, ⟨T70, L70, k70, n70⟩, -, X70, ⟨Lc70, hQ70, l70, y70, z70⟩, st70⟩ := Jvm.LawKit.callS X65 hx (y := (⟨"com/example/lookback/lookback/PlainDecimalsValueOfPinLaw", "term", "([I[JIII)J"⟩ : MethodName)) hown (mvT hZ (hw _ (List.mem_of_getElem? (i := 50) rfl))) (mvT hZ (hw _ (List.mem_of_getElem? (i := 51) rfl))) (mvT hZ (hw _ (List.mem_of_getElem? (i := 13) rfl))) (mvT hZ (hw _ (List.mem_of_getElem? (i := 52) rfl))) (by decide) (backOf (W := 0) (rm9 l Z a0 hw [] b15 b3 (1 : Int32) v64 v69 (own_d v2) own_pw T62.heap n0 Z62 VK62_b15 VK62_b3 (by decide) (own_tix (by decide) (own_se hv64 hv67 hv69))) hZ (hw _ (List.mem_of_getElem? (i := 52) rfl)) (hw _ (List.mem_of_getElem? (i := 13) rfl)) (by decide) (by decide)) (g := (mkF m 422 #[.val (.long q1), .second, .val (.int p2), .val (.int p3), .val (.int p4), .val (.int p5), .val (.long v2), .second, .val (.ref b3), .val (.ref b15), .val (.ref b37), .val (.ref b60), .val (.int v64), .val (.int v67), .val (.int v69), .unset, .unset, .unset, .unset] [(.int v69), (.int v64), (.int (1 : Int32)), (.ref b3), (.ref b15)])) rfl (by rw [hml]; rfl) (argsL := [(.ref b15), (.ref b3), (.int (1 : Int32)), (.int v64), (.int v69)]) (rest := []) (lenOf pd_0_9 rfl) rfl (by show 2 * 0 + _ ≤ _; exact Nat.le_of_eq rfl) (hb hby at_422) (fun _ _ => ⟨rfl, e65, (by decide : 5 + 0 ≤ _), (by decide : 50 + 0 ≤ _)⟩)
  dsimp only [Pt.U, Pt.locs, Pt.cells, Pt.slots] at X70 l70 y70 z70 st70 hQ70
  subst l70 y70 z70
  obtain ⟨rfl, rfl, e70⟩ := hQ70
  rw [List.append_nil] at X70
  replace X70 : Stand p l e room_1 s m #[(.long q1), (.int p2), (.int p3), (.int p4), (.int p5)] below meth c T70 (L59 ++ Lc62) 5 50 := X70
  obtain ⟨_, _, ⟨T71, L71, k71, n71⟩, -, X71, ⟨Lc71, hQ71, l71, y71, z71⟩, st71⟩ := Jvm.LawKit.callS X70 hx (y := (⟨"com/example/lookback/lookback/PlainDecimalsValueOfPinLaw", "term", "([I[JIII)J"⟩ : MethodName)) hown (mvT hZ (hw _ (List.mem_of_getElem? (i := 50) rfl))) (mvT hZ (hw _ (List.mem_of_getElem? (i := 51) rfl))) (mvT hZ (hw _ (List.mem_of_getElem? (i := 13) rfl))) (mvT hZ (hw _ (List.mem_of_getElem? (i := 52) rfl))) (by decide) (backOf (W := 2) (rm9 l Z a0 hw [] b15 b3 (2 : Int32) v64 v69 (own_d v2) own_pw T62.heap n0 Z62 VK62_b15 VK62_b3 (by decide) (own_tix (by decide) (own_se hv64 hv67 hv69))) hZ (hw _ (List.mem_of_getElem? (i := 52) rfl)) (hw _ (List.mem_of_getElem? (i := 13) rfl)) (by decide) (by decide)) (g := (mkF m 434 #[.val (.long q1), .second, .val (.int p2), .val (.int p3), .val (.int p4), .val (.int p5), .val (.long v2), .second, .val (.ref b3), .val (.ref b15), .val (.ref b37), .val (.ref b60), .val (.int v64), .val (.int v67), .val (.int v69), .unset, .unset, .unset, .unset] [(.int v69), (.int v64), (.int (2 : Int32)), (.ref b3), (.ref b15), (.long (F9 (1 : Int32) v64 v69 (own_d v2) own_pw))])) rfl (by rw [hml]; rfl) (argsL := [(.ref b15), (.ref b3), (.int (2 : Int32)), (.int v64), (.int v69)]) (rest := [(.long (F9 (1 : Int32) v64 v69 (own_d v2) own_pw))]) (lenOf pd_0_9 rfl) rfl (by show 2 * 0 + _ ≤ _; exact Nat.le_of_eq rfl) (hb hby at_434) (fun _ _ => ⟨rfl, e70, (by decide : 5 + 0 ≤ _), (by decide : 50 + 0 ≤ _)⟩)
  dsimp only [Pt.U, Pt.locs, Pt.cells, Pt.slots] at X71 l71 y71 z71 st71 hQ71
  subst l71 y71 z71
  obtain ⟨rfl, rfl, e71⟩ := hQ71
  rw [List.append_nil] at X71
  replace X71 : Stand p l e room_1 s m #[(.long q1), (.int p2), (.int p3), (.int p4), (.int p5)] below meth c T71 (L59 ++ Lc62) 5 50 := X71
  obtain ⟨_, _, ⟨T72, L72, k72, n72⟩, -, X72, ⟨Lc72, hQ72, l72, y72, z72⟩, st72⟩ := Jvm.LawKit.callS X71 hx (y := (⟨"com/example/lookback/lookback/PlainDecimalsValueOfPinLaw", "term", "([I[JIII)J"⟩ : MethodName)) hown (mvT hZ (hw _ (List.mem_of_getElem? (i := 50) rfl))) (mvT hZ (hw _ (List.mem_of_getElem? (i := 51) rfl))) (mvT hZ (hw _ (List.mem_of_getElem? (i := 13) rfl))) (mvT hZ (hw _ (List.mem_of_getElem? (i := 52) rfl))) (by decide) (backOf (W := 2) (rm9 l Z a0 hw [] b15 b3 (3 : Int32) v64 v69 (own_d v2) own_pw T62.heap n0 Z62 VK62_b15 VK62_b3 (by decide) (own_tix (by decide) (own_se hv64 hv67 hv69))) hZ (hw _ (List.mem_of_getElem? (i := 52) rfl)) (hw _ (List.mem_of_getElem? (i := 13) rfl)) (by decide) (by decide)) (g := (mkF m 447 #[.val (.long q1), .second, .val (.int p2), .val (.int p3), .val (.int p4), .val (.int p5), .val (.long v2), .second, .val (.ref b3), .val (.ref b15), .val (.ref b37), .val (.ref b60), .val (.int v64), .val (.int v67), .val (.int v69), .unset, .unset, .unset, .unset] [(.int v69), (.int v64), (.int (3 : Int32)), (.ref b3), (.ref b15), (.long ((F9 (1 : Int32) v64 v69 (own_d v2) own_pw) + (F9 (2 : Int32) v64 v69 (own_d v2) own_pw)))])) rfl (by rw [hml]; rfl) (argsL := [(.ref b15), (.ref b3), (.int (3 : Int32)), (.int v64), (.int v69)]) (rest := [(.long ((F9 (1 : Int32) v64 v69 (own_d v2) own_pw) + (F9 (2 : Int32) v64 v69 (own_d v2) own_pw)))]) (lenOf pd_0_9 rfl) rfl (by show 2 * 0 + _ ≤ _; exact Nat.le_of_eq rfl) (hb hby at_447) (fun _ _ => ⟨rfl, e71, (by decide : 5 + 0 ≤ _), (by decide : 50 + 0 ≤ _)⟩)
  dsimp only [Pt.U, Pt.locs, Pt.cells, Pt.slots] at X72 l72 y72 z72 st72 hQ72
  subst l72 y72 z72
  obtain ⟨rfl, rfl, e72⟩ := hQ72
  rw [List.append_nil] at X72
  replace X72 : Stand p l e room_1 s m #[(.long q1), (.int p2), (.int p3), (.int p4), (.int p5)] below meth c T72 (L59 ++ Lc62) 5 50 := X72
  obtain ⟨_, _, ⟨T73, L73, k73, n73⟩, -, X73, ⟨Lc73, hQ73, l73, y73, z73⟩, st73⟩ := Jvm.LawKit.callS X72 hx (y := (⟨"com/example/lookback/lookback/PlainDecimalsValueOfPinLaw", "term", "([I[JIII)J"⟩ : MethodName)) hown (mvT hZ (hw _ (List.mem_of_getElem? (i := 50) rfl))) (mvT hZ (hw _ (List.mem_of_getElem? (i := 51) rfl))) (mvT hZ (hw _ (List.mem_of_getElem? (i := 13) rfl))) (mvT hZ (hw _ (List.mem_of_getElem? (i := 52) rfl))) (by decide) (backOf (W := 2) (rm9 l Z a0 hw [] b15 b3 (4 : Int32) v64 v69 (own_d v2) own_pw T62.heap n0 Z62 VK62_b15 VK62_b3 (by decide) (own_tix (by decide) (own_se hv64 hv67 hv69))) hZ (hw _ (List.mem_of_getElem? (i := 52) rfl)) (hw _ (List.mem_of_getElem? (i := 13) rfl)) (by decide) (by decide)) (g := (mkF m 460 #[.val (.long q1), .second, .val (.int p2), .val (.int p3), .val (.int p4), .val (.int p5), .val (.long v2), .second, .val (.ref b3), .val (.ref b15), .val (.ref b37), .val (.ref b60), .val (.int v64), .val (.int v67), .val (.int v69), .unset, .unset, .unset, .unset] [(.int v69), (.int v64), (.int (4 : Int32)), (.ref b3), (.ref b15), (.long (((F9 (1 : Int32) v64 v69 (own_d v2) own_pw) + (F9 (2 : Int32) v64 v69 (own_d v2) own_pw)) + (F9 (3 : Int32) v64 v69 (own_d v2) own_pw)))])) rfl (by rw [hml]; rfl) (argsL := [(.ref b15), (.ref b3), (.int (4 : Int32)), (.int v64), (.int v69)]) (rest := [(.long (((F9 (1 : Int32) v64 v69 (own_d v2) own_pw) + (F9 (2 : Int32) v64 v69 (own_d v2) own_pw)) + (F9 (3 : Int32) v64 v69 (own_d v2) own_pw)))]) (lenOf pd_0_9 rfl) rfl (by show 2 * 0 + _ ≤ _; exact Nat.le_of_eq rfl) (hb hby at_460) (fun _ _ => ⟨rfl, e72, (by decide : 5 + 0 ≤ _), (by decide : 50 + 0 ≤ _)⟩)
  dsimp only [Pt.U, Pt.locs, Pt.cells, Pt.slots] at X73 l73 y73 z73 st73 hQ73
  subst l73 y73 z73
  obtain ⟨rfl, rfl, e73⟩ := hQ73
  rw [List.append_nil] at X73
  replace X73 : Stand p l e room_1 s m #[(.long q1), (.int p2), (.int p3), (.int p4), (.int p5)] below meth c T73 (L59 ++ Lc62) 5 50 := X73
  obtain ⟨_, _, ⟨T74, L74, k74, n74⟩, -, X74, ⟨Lc74, hQ74, l74, y74, z74⟩, st74⟩ := Jvm.LawKit.callS X73 hx (y := (⟨"com/example/lookback/lookback/PlainDecimalsValueOfPinLaw", "term", "([I[JIII)J"⟩ : MethodName)) hown (mvT hZ (hw _ (List.mem_of_getElem? (i := 50) rfl))) (mvT hZ (hw _ (List.mem_of_getElem? (i := 51) rfl))) (mvT hZ (hw _ (List.mem_of_getElem? (i := 13) rfl))) (mvT hZ (hw _ (List.mem_of_getElem? (i := 52) rfl))) (by decide) (backOf (W := 2) (rm9 l Z a0 hw [] b15 b3 (5 : Int32) v64 v69 (own_d v2) own_pw T62.heap n0 Z62 VK62_b15 VK62_b3 (by decide) (own_tix (by decide) (own_se hv64 hv67 hv69))) hZ (hw _ (List.mem_of_getElem? (i := 52) rfl)) (hw _ (List.mem_of_getElem? (i := 13) rfl)) (by decide) (by decide)) (g := (mkF m 473 #[.val (.long q1), .second, .val (.int p2), .val (.int p3), .val (.int p4), .val (.int p5), .val (.long v2), .second, .val (.ref b3), .val (.ref b15), .val (.ref b37), .val (.ref b60), .val (.int v64), .val (.int v67), .val (.int v69), .unset, .unset, .unset, .unset] [(.int v69), (.int v64), (.int (5 : Int32)), (.ref b3), (.ref b15), (.long ((((F9 (1 : Int32) v64 v69 (own_d v2) own_pw) + (F9 (2 : Int32) v64 v69 (own_d v2) own_pw)) + (F9 (3 : Int32) v64 v69 (own_d v2) own_pw)) + (F9 (4 : Int32) v64 v69 (own_d v2) own_pw)))])) rfl (by rw [hml]; rfl) (argsL := [(.ref b15), (.ref b3), (.int (5 : Int32)), (.int v64), (.int v69)]) (rest := [(.long ((((F9 (1 : Int32) v64 v69 (own_d v2) own_pw) + (F9 (2 : Int32) v64 v69 (own_d v2) own_pw)) + (F9 (3 : Int32) v64 v69 (own_d v2) own_pw)) + (F9 (4 : Int32) v64 v69 (own_d v2) own_pw)))]) (lenOf pd_0_9 rfl) rfl (by show 2 * 0 + _ ≤ _; exact Nat.le_of_eq rfl) (hb hby at_473) (fun _ _ => ⟨rfl, e73, (by decide : 5 + 0 ≤ _), (by decide : 50 + 0 ≤ _)⟩)
  dsimp only [Pt.U, Pt.locs, Pt.cells, Pt.slots] at X74 l74 y74 z74 st74 hQ74
  subst l74 y74 z74
  obtain ⟨rfl, rfl, e74⟩ := hQ74
  rw [List.append_nil] at X74
  replace X74 : Stand p l e room_1 s m #[(.long q1), (.int p2), (.int p3), (.int p4), (.int p5)] below meth c T74 (L59 ++ Lc62) 5 50 := X74
  obtain ⟨_, _, ⟨T75, L75, k75, n75⟩, -, X75, ⟨Lc75, hQ75, l75, y75, z75⟩, st75⟩ := Jvm.LawKit.callS X74 hx (y := (⟨"com/example/lookback/lookback/PlainDecimalsValueOfPinLaw", "term", "([I[JIII)J"⟩ : MethodName)) hown (mvT hZ (hw _ (List.mem_of_getElem? (i := 50) rfl))) (mvT hZ (hw _ (List.mem_of_getElem? (i := 51) rfl))) (mvT hZ (hw _ (List.mem_of_getElem? (i := 13) rfl))) (mvT hZ (hw _ (List.mem_of_getElem? (i := 52) rfl))) (by decide) (backOf (W := 2) (rm9 l Z a0 hw [] b15 b3 (6 : Int32) v64 v69 (own_d v2) own_pw T62.heap n0 Z62 VK62_b15 VK62_b3 (by decide) (own_tix (by decide) (own_se hv64 hv67 hv69))) hZ (hw _ (List.mem_of_getElem? (i := 52) rfl)) (hw _ (List.mem_of_getElem? (i := 13) rfl)) (by decide) (by decide)) (g := (mkF m 487 #[.val (.long q1), .second, .val (.int p2), .val (.int p3), .val (.int p4), .val (.int p5), .val (.long v2), .second, .val (.ref b3), .val (.ref b15), .val (.ref b37), .val (.ref b60), .val (.int v64), .val (.int v67), .val (.int v69), .unset, .unset, .unset, .unset] [(.int v69), (.int v64), (.int (6 : Int32)), (.ref b3), (.ref b15), (.long (((((F9 (1 : Int32) v64 v69 (own_d v2) own_pw) + (F9 (2 : Int32) v64 v69 (own_d v2) own_pw)) + (F9 (3 : Int32) v64 v69 (own_d v2) own_pw)) + (F9 (4 : Int32) v64 v69 (own_d v2) own_pw)) + (F9 (5 : Int32) v64 v69 (own_d v2) own_pw)))])) rfl (by rw [hml]; rfl) (argsL := [(.ref b15), (.ref b3), (.int (6 : Int32)), (.int v64), (.int v69)]) (rest := [(.long (((((F9 (1 : Int32) v64 v69 (own_d v2) own_pw) + (F9 (2 : Int32) v64 v69 (own_d v2) own_pw)) + (F9 (3 : Int32) v64 v69 (own_d v2) own_pw)) + (F9 (4 : Int32) v64 v69 (own_d v2) own_pw)) + (F9 (5 : Int32) v64 v69 (own_d v2) own_pw)))]) (lenOf pd_0_9 rfl) rfl (by show 2 * 0 + _ ≤ _; exact Nat.le_of_eq rfl) (hb hby at_487) (fun _ _ => ⟨rfl, e74, (by decide : 5 + 0 ≤ _), (by decide : 50 + 0 ≤ _)⟩)
  dsimp only [Pt.U, Pt.locs, Pt.cells, Pt.slots] at X75 l75 y75 z75 st75 hQ75
  subst l75 y75 z75
  obtain ⟨rfl, rfl, e75⟩ := hQ75
  rw [List.append_nil] at X75
  replace X75 : Stand p l e room_1 s m #[(.long q1), (.int p2), (.int p3), (.int p4), (.int p5)] below meth c T75 (L59 ++ Lc62) 5 50 := X75
  obtain ⟨_, _, ⟨T76, L76, k76, n76⟩, -, X76, ⟨Lc76, hQ76, l76, y76, z76⟩, st76⟩ := Jvm.LawKit.callS X75 hx (y := (⟨"com/example/lookback/lookback/PlainDecimalsValueOfPinLaw", "term", "([I[JIII)J"⟩ : MethodName)) hown (mvT hZ (hw _ (List.mem_of_getElem? (i := 50) rfl))) (mvT hZ (hw _ (List.mem_of_getElem? (i := 51) rfl))) (mvT hZ (hw _ (List.mem_of_getElem? (i := 13) rfl))) (mvT hZ (hw _ (List.mem_of_getElem? (i := 52) rfl))) (by decide) (backOf (W := 2) (rm9 l Z a0 hw [] b15 b3 (7 : Int32) v64 v69 (own_d v2) own_pw T62.heap n0 Z62 VK62_b15 VK62_b3 (by decide) (own_tix (by decide) (own_se hv64 hv67 hv69))) hZ (hw _ (List.mem_of_getElem? (i := 52) rfl)) (hw _ (List.mem_of_getElem? (i := 13) rfl)) (by decide) (by decide)) (g := (mkF m 501 #[.val (.long q1), .second, .val (.int p2), .val (.int p3), .val (.int p4), .val (.int p5), .val (.long v2), .second, .val (.ref b3), .val (.ref b15), .val (.ref b37), .val (.ref b60), .val (.int v64), .val (.int v67), .val (.int v69), .unset, .unset, .unset, .unset] [(.int v69), (.int v64), (.int (7 : Int32)), (.ref b3), (.ref b15), (.long ((((((F9 (1 : Int32) v64 v69 (own_d v2) own_pw) + (F9 (2 : Int32) v64 v69 (own_d v2) own_pw)) + (F9 (3 : Int32) v64 v69 (own_d v2) own_pw)) + (F9 (4 : Int32) v64 v69 (own_d v2) own_pw)) + (F9 (5 : Int32) v64 v69 (own_d v2) own_pw)) + (F9 (6 : Int32) v64 v69 (own_d v2) own_pw)))])) rfl (by rw [hml]; rfl) (argsL := [(.ref b15), (.ref b3), (.int (7 : Int32)), (.int v64), (.int v69)]) (rest := [(.long ((((((F9 (1 : Int32) v64 v69 (own_d v2) own_pw) + (F9 (2 : Int32) v64 v69 (own_d v2) own_pw)) + (F9 (3 : Int32) v64 v69 (own_d v2) own_pw)) + (F9 (4 : Int32) v64 v69 (own_d v2) own_pw)) + (F9 (5 : Int32) v64 v69 (own_d v2) own_pw)) + (F9 (6 : Int32) v64 v69 (own_d v2) own_pw)))]) (lenOf pd_0_9 rfl) rfl (by show 2 * 0 + _ ≤ _; exact Nat.le_of_eq rfl) (hb hby at_501) (fun _ _ => ⟨rfl, e75, (by decide : 5 + 0 ≤ _), (by decide : 50 + 0 ≤ _)⟩)
  dsimp only [Pt.U, Pt.locs, Pt.cells, Pt.slots] at X76 l76 y76 z76 st76 hQ76
  subst l76 y76 z76
  obtain ⟨rfl, rfl, e76⟩ := hQ76
  rw [List.append_nil] at X76
  replace X76 : Stand p l e room_1 s m #[(.long q1), (.int p2), (.int p3), (.int p4), (.int p5)] below meth c T76 (L59 ++ Lc62) 5 50 := X76
  obtain ⟨_, _, ⟨T77, L77, k77, n77⟩, -, X77, ⟨Lc77, hQ77, l77, y77, z77⟩, st77⟩ := Jvm.LawKit.callS X76 hx (y := (⟨"com/example/lookback/lookback/PlainDecimalsValueOfPinLaw", "term", "([I[JIII)J"⟩ : MethodName)) hown (mvT hZ (hw _ (List.mem_of_getElem? (i := 50) rfl))) (mvT hZ (hw _ (List.mem_of_getElem? (i := 51) rfl))) (mvT hZ (hw _ (List.mem_of_getElem? (i := 13) rfl))) (mvT hZ (hw _ (List.mem_of_getElem? (i := 52) rfl))) (by decide) (backOf (W := 2) (rm9 l Z a0 hw [] b15 b3 (8 : Int32) v64 v69 (own_d v2) own_pw T62.heap n0 Z62 VK62_b15 VK62_b3 (by decide) (own_tix (by decide) (own_se hv64 hv67 hv69))) hZ (hw _ (List.mem_of_getElem? (i := 52) rfl)) (hw _ (List.mem_of_getElem? (i := 13) rfl)) (by decide) (by decide)) (g := (mkF m 515 #[.val (.long q1), .second, .val (.int p2), .val (.int p3), .val (.int p4), .val (.int p5), .val (.long v2), .second, .val (.ref b3), .val (.ref b15), .val (.ref b37), .val (.ref b60), .val (.int v64), .val (.int v67), .val (.int v69), .unset, .unset, .unset, .unset] [(.int v69), (.int v64), (.int (8 : Int32)), (.ref b3), (.ref b15), (.long (((((((F9 (1 : Int32) v64 v69 (own_d v2) own_pw) + (F9 (2 : Int32) v64 v69 (own_d v2) own_pw)) + (F9 (3 : Int32) v64 v69 (own_d v2) own_pw)) + (F9 (4 : Int32) v64 v69 (own_d v2) own_pw)) + (F9 (5 : Int32) v64 v69 (own_d v2) own_pw)) + (F9 (6 : Int32) v64 v69 (own_d v2) own_pw)) + (F9 (7 : Int32) v64 v69 (own_d v2) own_pw)))])) rfl (by rw [hml]; rfl) (argsL := [(.ref b15), (.ref b3), (.int (8 : Int32)), (.int v64), (.int v69)]) (rest := [(.long (((((((F9 (1 : Int32) v64 v69 (own_d v2) own_pw) + (F9 (2 : Int32) v64 v69 (own_d v2) own_pw)) + (F9 (3 : Int32) v64 v69 (own_d v2) own_pw)) + (F9 (4 : Int32) v64 v69 (own_d v2) own_pw)) + (F9 (5 : Int32) v64 v69 (own_d v2) own_pw)) + (F9 (6 : Int32) v64 v69 (own_d v2) own_pw)) + (F9 (7 : Int32) v64 v69 (own_d v2) own_pw)))]) (lenOf pd_0_9 rfl) rfl (by show 2 * 0 + _ ≤ _; exact Nat.le_of_eq rfl) (hb hby at_515) (fun _ _ => ⟨rfl, e76, (by decide : 5 + 0 ≤ _), (by decide : 50 + 0 ≤ _)⟩)
  dsimp only [Pt.U, Pt.locs, Pt.cells, Pt.slots] at X77 l77 y77 z77 st77 hQ77
  subst l77 y77 z77
  obtain ⟨rfl, rfl, e77⟩ := hQ77
  rw [List.append_nil] at X77
  replace X77 : Stand p l e room_1 s m #[(.long q1), (.int p2), (.int p3), (.int p4), (.int p5)] below meth c T77 (L59 ++ Lc62) 5 50 := X77
  obtain ⟨_, _, ⟨T78, L78, k78, n78⟩, -, X78, ⟨Lc78, hQ78, l78, y78, z78⟩, st78⟩ := Jvm.LawKit.callS X77 hx (y := (⟨"com/example/lookback/lookback/PlainDecimalsValueOfPinLaw", "term", "([I[JIII)J"⟩ : MethodName)) hown (mvT hZ (hw _ (List.mem_of_getElem? (i := 50) rfl))) (mvT hZ (hw _ (List.mem_of_getElem? (i := 51) rfl))) (mvT hZ (hw _ (List.mem_of_getElem? (i := 13) rfl))) (mvT hZ (hw _ (List.mem_of_getElem? (i := 52) rfl))) (by decide) (backOf (W := 2) (rm9 l Z a0 hw [] b15 b3 (9 : Int32) v64 v69 (own_d v2) own_pw T62.heap n0 Z62 VK62_b15 VK62_b3 (by decide) (own_tix (by decide) (own_se hv64 hv67 hv69))) hZ (hw _ (List.mem_of_getElem? (i := 52) rfl)) (hw _ (List.mem_of_getElem? (i := 13) rfl)) (by decide) (by decide)) (g := (mkF m 529 #[.val (.long q1), .second, .val (.int p2), .val (.int p3), .val (.int p4), .val (.int p5), .val (.long v2), .second, .val (.ref b3), .val (.ref b15), .val (.ref b37), .val (.ref b60), .val (.int v64), .val (.int v67), .val (.int v69), .unset, .unset, .unset, .unset] [(.int v69), (.int v64), (.int (9 : Int32)), (.ref b3), (.ref b15), (.long ((((((((F9 (1 : Int32) v64 v69 (own_d v2) own_pw) + (F9 (2 : Int32) v64 v69 (own_d v2) own_pw)) + (F9 (3 : Int32) v64 v69 (own_d v2) own_pw)) + (F9 (4 : Int32) v64 v69 (own_d v2) own_pw)) + (F9 (5 : Int32) v64 v69 (own_d v2) own_pw)) + (F9 (6 : Int32) v64 v69 (own_d v2) own_pw)) + (F9 (7 : Int32) v64 v69 (own_d v2) own_pw)) + (F9 (8 : Int32) v64 v69 (own_d v2) own_pw)))])) rfl (by rw [hml]; rfl) (argsL := [(.ref b15), (.ref b3), (.int (9 : Int32)), (.int v64), (.int v69)]) (rest := [(.long ((((((((F9 (1 : Int32) v64 v69 (own_d v2) own_pw) + (F9 (2 : Int32) v64 v69 (own_d v2) own_pw)) + (F9 (3 : Int32) v64 v69 (own_d v2) own_pw)) + (F9 (4 : Int32) v64 v69 (own_d v2) own_pw)) + (F9 (5 : Int32) v64 v69 (own_d v2) own_pw)) + (F9 (6 : Int32) v64 v69 (own_d v2) own_pw)) + (F9 (7 : Int32) v64 v69 (own_d v2) own_pw)) + (F9 (8 : Int32) v64 v69 (own_d v2) own_pw)))]) (lenOf pd_0_9 rfl) rfl (by show 2 * 0 + _ ≤ _; exact Nat.le_of_eq rfl) (hb hby at_529) (fun _ _ => ⟨rfl, e77, (by decide : 5 + 0 ≤ _), (by decide : 50 + 0 ≤ _)⟩)
  dsimp only [Pt.U, Pt.locs, Pt.cells, Pt.slots] at X78 l78 y78 z78 st78 hQ78
  subst l78 y78 z78
  obtain ⟨rfl, rfl, e78⟩ := hQ78
  rw [List.append_nil] at X78
  replace X78 : Stand p l e room_1 s m #[(.long q1), (.int p2), (.int p3), (.int p4), (.int p5)] below meth c T78 (L59 ++ Lc62) 5 50 := X78
  obtain ⟨_, _, ⟨T79, L79, k79, n79⟩, -, X79, ⟨Lc79, hQ79, l79, y79, z79⟩, st79⟩ := Jvm.LawKit.callS X78 hx (y := (⟨"com/example/lookback/lookback/PlainDecimalsValueOfPinLaw", "term", "([I[JIII)J"⟩ : MethodName)) hown (mvT hZ (hw _ (List.mem_of_getElem? (i := 50) rfl))) (mvT hZ (hw _ (List.mem_of_getElem? (i := 51) rfl))) (mvT hZ (hw _ (List.mem_of_getElem? (i := 13) rfl))) (mvT hZ (hw _ (List.mem_of_getElem? (i := 52) rfl))) (by decide) (backOf (W := 2) (rm9 l Z a0 hw [] b15 b3 (10 : Int32) v64 v69 (own_d v2) own_pw T62.heap n0 Z62 VK62_b15 VK62_b3 (by decide) (own_tix (by decide) (own_se hv64 hv67 hv69))) hZ (hw _ (List.mem_of_getElem? (i := 52) rfl)) (hw _ (List.mem_of_getElem? (i := 13) rfl)) (by decide) (by decide)) (g := (mkF m 543 #[.val (.long q1), .second, .val (.int p2), .val (.int p3), .val (.int p4), .val (.int p5), .val (.long v2), .second, .val (.ref b3), .val (.ref b15), .val (.ref b37), .val (.ref b60), .val (.int v64), .val (.int v67), .val (.int v69), .unset, .unset, .unset, .unset] [(.int v69), (.int v64), (.int (10 : Int32)), (.ref b3), (.ref b15), (.long (((((((((F9 (1 : Int32) v64 v69 (own_d v2) own_pw) + (F9 (2 : Int32) v64 v69 (own_d v2) own_pw)) + (F9 (3 : Int32) v64 v69 (own_d v2) own_pw)) + (F9 (4 : Int32) v64 v69 (own_d v2) own_pw)) + (F9 (5 : Int32) v64 v69 (own_d v2) own_pw)) + (F9 (6 : Int32) v64 v69 (own_d v2) own_pw)) + (F9 (7 : Int32) v64 v69 (own_d v2) own_pw)) + (F9 (8 : Int32) v64 v69 (own_d v2) own_pw)) + (F9 (9 : Int32) v64 v69 (own_d v2) own_pw)))])) rfl (by rw [hml]; rfl) (argsL := [(.ref b15), (.ref b3), (.int (10 : Int32)), (.int v64), (.int v69)]) (rest := [(.long (((((((((F9 (1 : Int32) v64 v69 (own_d v2) own_pw) + (F9 (2 : Int32) v64 v69 (own_d v2) own_pw)) + (F9 (3 : Int32) v64 v69 (own_d v2) own_pw)) + (F9 (4 : Int32) v64 v69 (own_d v2) own_pw)) + (F9 (5 : Int32) v64 v69 (own_d v2) own_pw)) + (F9 (6 : Int32) v64 v69 (own_d v2) own_pw)) + (F9 (7 : Int32) v64 v69 (own_d v2) own_pw)) + (F9 (8 : Int32) v64 v69 (own_d v2) own_pw)) + (F9 (9 : Int32) v64 v69 (own_d v2) own_pw)))]) (lenOf pd_0_9 rfl) rfl (by show 2 * 0 + _ ≤ _; exact Nat.le_of_eq rfl) (hb hby at_543) (fun _ _ => ⟨rfl, e78, (by decide : 5 + 0 ≤ _), (by decide : 50 + 0 ≤ _)⟩)
  dsimp only [Pt.U, Pt.locs, Pt.cells, Pt.slots] at X79 l79 y79 z79 st79 hQ79
  subst l79 y79 z79
  obtain ⟨rfl, rfl, e79⟩ := hQ79
  rw [List.append_nil] at X79
  replace X79 : Stand p l e room_1 s m #[(.long q1), (.int p2), (.int p3), (.int p4), (.int p5)] below meth c T79 (L59 ++ Lc62) 5 50 := X79
  have R80 : ∀ t, Steps p.tables e below (T79.setTop (mkF m 547 #[.val (.long q1), .second, .val (.int p2), .val (.int p3), .val (.int p4), .val (.int p5), .val (.long v2), .second, .val (.ref b3), .val (.ref b15), .val (.ref b37), .val (.ref b60), .val (.int v64), .val (.int v67), .val (.int v69), .unset, .unset, .unset, .unset] [(.long ((((((((((F9 (1 : Int32) v64 v69 (own_d v2) own_pw) + (F9 (2 : Int32) v64 v69 (own_d v2) own_pw)) + (F9 (3 : Int32) v64 v69 (own_d v2) own_pw)) + (F9 (4 : Int32) v64 v69 (own_d v2) own_pw)) + (F9 (5 : Int32) v64 v69 (own_d v2) own_pw)) + (F9 (6 : Int32) v64 v69 (own_d v2) own_pw)) + (F9 (7 : Int32) v64 v69 (own_d v2) own_pw)) + (F9 (8 : Int32) v64 v69 (own_d v2) own_pw)) + (F9 (9 : Int32) v64 v69 (own_d v2) own_pw)) + (F9 (10 : Int32) v64 v69 (own_d v2) own_pw)))])) t → Steps p.tables e below (s₁.setTop (entryFrame m #[(.long q1), (.int p2), (.int p3), (.int p4), (.int p5)] maxLocals)) t := by
    intro t kt
    refine R68 _ ?_
    show Steps p.tables e below (T65.setTop (mkF m 411 #[.val (.long q1), .second, .val (.int p2), .val (.int p3), .val (.int p4), .val (.int p5), .val (.long v2), .second, .val (.ref b3), .val (.ref b15), .val (.ref b37), .val (.ref b60), .val (.int v64), .val (.int v67), .unset, .unset, .unset, .unset, .unset] [(.int v69)])) _
    refine XS.istore X65.here hx rfl (hb hby at_411) rfl (l' := #[.val (.long q1), .second, .val (.int p2), .val (.int p3), .val (.int p4), .val (.int p5), .val (.long v2), .second, .val (.ref b3), .val (.ref b15), .val (.ref b37), .val (.ref b60), .val (.int v64), .val (.int v67), .val (.int v69), .unset, .unset, .unset, .unset]) rfl ?_
    show Steps p.tables e below (T65.setTop (mkF m 413 #[.val (.long q1), .second, .val (.int p2), .val (.int p3), .val (.int p4), .val (.int p5), .val (.long v2), .second, .val (.ref b3), .val (.ref b15), .val (.ref b37), .val (.ref b60), .val (.int v64), .val (.int v67), .val (.int v69), .unset, .unset, .unset, .unset] [])) _
    refine XS.aload X65.here hx rfl (hb hby at_413) rfl rfl ?_
    show Steps p.tables e below (T65.setTop (mkF m 415 #[.val (.long q1), .second, .val (.int p2), .val (.int p3), .val (.int p4), .val (.int p5), .val (.long v2), .second, .val (.ref b3), .val (.ref b15), .val (.ref b37), .val (.ref b60), .val (.int v64), .val (.int v67), .val (.int v69), .unset, .unset, .unset, .unset] [(.ref b15)])) _
    refine XS.aload X65.here hx rfl (hb hby at_415) rfl rfl ?_
    show Steps p.tables e below (T65.setTop (mkF m 417 #[.val (.long q1), .second, .val (.int p2), .val (.int p3), .val (.int p4), .val (.int p5), .val (.long v2), .second, .val (.ref b3), .val (.ref b15), .val (.ref b37), .val (.ref b60), .val (.int v64), .val (.int v67), .val (.int v69), .unset, .unset, .unset, .unset] [(.ref b3), (.ref b15)])) _
    refine XS.iconst X65.here hx rfl (hb hby at_417) ?_
    show Steps p.tables e below (T65.setTop (mkF m 418 #[.val (.long q1), .second, .val (.int p2), .val (.int p3), .val (.int p4), .val (.int p5), .val (.long v2), .second, .val (.ref b3), .val (.ref b15), .val (.ref b37), .val (.ref b60), .val (.int v64), .val (.int v67), .val (.int v69), .unset, .unset, .unset, .unset] [(.int (1 : Int32)), (.ref b3), (.ref b15)])) _
    refine XS.iload X65.here hx rfl (hb hby at_418) rfl ?_
    show Steps p.tables e below (T65.setTop (mkF m 420 #[.val (.long q1), .second, .val (.int p2), .val (.int p3), .val (.int p4), .val (.int p5), .val (.long v2), .second, .val (.ref b3), .val (.ref b15), .val (.ref b37), .val (.ref b60), .val (.int v64), .val (.int v67), .val (.int v69), .unset, .unset, .unset, .unset] [(.int v64), (.int (1 : Int32)), (.ref b3), (.ref b15)])) _
    refine XS.iload X65.here hx rfl (hb hby at_420) rfl ?_
    show Steps p.tables e below (T65.setTop (mkF m 422 #[.val (.long q1), .second, .val (.int p2), .val (.int p3), .val (.int p4), .val (.int p5), .val (.long v2), .second, .val (.ref b3), .val (.ref b15), .val (.ref b37), .val (.ref b60), .val (.int v64), .val (.int v67), .val (.int v69), .unset, .unset, .unset, .unset] [(.int v69), (.int v64), (.int (1 : Int32)), (.ref b3), (.ref b15)])) _
    refine st70 _ ?_
    show Steps p.tables e below (T70.setTop (mkF m 425 #[.val (.long q1), .second, .val (.int p2), .val (.int p3), .val (.int p4), .val (.int p5), .val (.long v2), .second, .val (.ref b3), .val (.ref b15), .val (.ref b37), .val (.ref b60), .val (.int v64), .val (.int v67), .val (.int v69), .unset, .unset, .unset, .unset] [(.long (F9 (1 : Int32) v64 v69 (own_d v2) own_pw))])) _
    refine XS.aload X70.here hx rfl (hb hby at_425) rfl rfl ?_
    show Steps p.tables e below (T70.setTop (mkF m 427 #[.val (.long q1), .second, .val (.int p2), .val (.int p3), .val (.int p4), .val (.int p5), .val (.long v2), .second, .val (.ref b3), .val (.ref b15), .val (.ref b37), .val (.ref b60), .val (.int v64), .val (.int v67), .val (.int v69), .unset, .unset, .unset, .unset] [(.ref b15), (.long (F9 (1 : Int32) v64 v69 (own_d v2) own_pw))])) _
    refine XS.aload X70.here hx rfl (hb hby at_427) rfl rfl ?_
    show Steps p.tables e below (T70.setTop (mkF m 429 #[.val (.long q1), .second, .val (.int p2), .val (.int p3), .val (.int p4), .val (.int p5), .val (.long v2), .second, .val (.ref b3), .val (.ref b15), .val (.ref b37), .val (.ref b60), .val (.int v64), .val (.int v67), .val (.int v69), .unset, .unset, .unset, .unset] [(.ref b3), (.ref b15), (.long (F9 (1 : Int32) v64 v69 (own_d v2) own_pw))])) _
    refine XS.iconst X70.here hx rfl (hb hby at_429) ?_
    show Steps p.tables e below (T70.setTop (mkF m 430 #[.val (.long q1), .second, .val (.int p2), .val (.int p3), .val (.int p4), .val (.int p5), .val (.long v2), .second, .val (.ref b3), .val (.ref b15), .val (.ref b37), .val (.ref b60), .val (.int v64), .val (.int v67), .val (.int v69), .unset, .unset, .unset, .unset] [(.int (2 : Int32)), (.ref b3), (.ref b15), (.long (F9 (1 : Int32) v64 v69 (own_d v2) own_pw))])) _
    refine XS.iload X70.here hx rfl (hb hby at_430) rfl ?_
    show Steps p.tables e below (T70.setTop (mkF m 432 #[.val (.long q1), .second, .val (.int p2), .val (.int p3), .val (.int p4), .val (.int p5), .val (.long v2), .second, .val (.ref b3), .val (.ref b15), .val (.ref b37), .val (.ref b60), .val (.int v64), .val (.int v67), .val (.int v69), .unset, .unset, .unset, .unset] [(.int v64), (.int (2 : Int32)), (.ref b3), (.ref b15), (.long (F9 (1 : Int32) v64 v69 (own_d v2) own_pw))])) _
    refine XS.iload X70.here hx rfl (hb hby at_432) rfl ?_
    show Steps p.tables e below (T70.setTop (mkF m 434 #[.val (.long q1), .second, .val (.int p2), .val (.int p3), .val (.int p4), .val (.int p5), .val (.long v2), .second, .val (.ref b3), .val (.ref b15), .val (.ref b37), .val (.ref b60), .val (.int v64), .val (.int v67), .val (.int v69), .unset, .unset, .unset, .unset] [(.int v69), (.int v64), (.int (2 : Int32)), (.ref b3), (.ref b15), (.long (F9 (1 : Int32) v64 v69 (own_d v2) own_pw))])) _
    refine st71 _ ?_
    show Steps p.tables e below (T71.setTop (mkF m 437 #[.val (.long q1), .second, .val (.int p2), .val (.int p3), .val (.int p4), .val (.int p5), .val (.long v2), .second, .val (.ref b3), .val (.ref b15), .val (.ref b37), .val (.ref b60), .val (.int v64), .val (.int v67), .val (.int v69), .unset, .unset, .unset, .unset] [(.long (F9 (2 : Int32) v64 v69 (own_d v2) own_pw)), (.long (F9 (1 : Int32) v64 v69 (own_d v2) own_pw))])) _
    refine XS.ladd X71.here hx rfl (hb hby at_437) rfl ?_
    show Steps p.tables e below (T71.setTop (mkF m 438 #[.val (.long q1), .second, .val (.int p2), .val (.int p3), .val (.int p4), .val (.int p5), .val (.long v2), .second, .val (.ref b3), .val (.ref b15), .val (.ref b37), .val (.ref b60), .val (.int v64), .val (.int v67), .val (.int v69), .unset, .unset, .unset, .unset] [(.long ((F9 (1 : Int32) v64 v69 (own_d v2) own_pw) + (F9 (2 : Int32) v64 v69 (own_d v2) own_pw)))])) _
    refine XS.aload X71.here hx rfl (hb hby at_438) rfl rfl ?_
    show Steps p.tables e below (T71.setTop (mkF m 440 #[.val (.long q1), .second, .val (.int p2), .val (.int p3), .val (.int p4), .val (.int p5), .val (.long v2), .second, .val (.ref b3), .val (.ref b15), .val (.ref b37), .val (.ref b60), .val (.int v64), .val (.int v67), .val (.int v69), .unset, .unset, .unset, .unset] [(.ref b15), (.long ((F9 (1 : Int32) v64 v69 (own_d v2) own_pw) + (F9 (2 : Int32) v64 v69 (own_d v2) own_pw)))])) _
    refine XS.aload X71.here hx rfl (hb hby at_440) rfl rfl ?_
    show Steps p.tables e below (T71.setTop (mkF m 442 #[.val (.long q1), .second, .val (.int p2), .val (.int p3), .val (.int p4), .val (.int p5), .val (.long v2), .second, .val (.ref b3), .val (.ref b15), .val (.ref b37), .val (.ref b60), .val (.int v64), .val (.int v67), .val (.int v69), .unset, .unset, .unset, .unset] [(.ref b3), (.ref b15), (.long ((F9 (1 : Int32) v64 v69 (own_d v2) own_pw) + (F9 (2 : Int32) v64 v69 (own_d v2) own_pw)))])) _
    refine XS.iconst X71.here hx rfl (hb hby at_442) ?_
    show Steps p.tables e below (T71.setTop (mkF m 443 #[.val (.long q1), .second, .val (.int p2), .val (.int p3), .val (.int p4), .val (.int p5), .val (.long v2), .second, .val (.ref b3), .val (.ref b15), .val (.ref b37), .val (.ref b60), .val (.int v64), .val (.int v67), .val (.int v69), .unset, .unset, .unset, .unset] [(.int (3 : Int32)), (.ref b3), (.ref b15), (.long ((F9 (1 : Int32) v64 v69 (own_d v2) own_pw) + (F9 (2 : Int32) v64 v69 (own_d v2) own_pw)))])) _
    refine XS.iload X71.here hx rfl (hb hby at_443) rfl ?_
    show Steps p.tables e below (T71.setTop (mkF m 445 #[.val (.long q1), .second, .val (.int p2), .val (.int p3), .val (.int p4), .val (.int p5), .val (.long v2), .second, .val (.ref b3), .val (.ref b15), .val (.ref b37), .val (.ref b60), .val (.int v64), .val (.int v67), .val (.int v69), .unset, .unset, .unset, .unset] [(.int v64), (.int (3 : Int32)), (.ref b3), (.ref b15), (.long ((F9 (1 : Int32) v64 v69 (own_d v2) own_pw) + (F9 (2 : Int32) v64 v69 (own_d v2) own_pw)))])) _
    refine XS.iload X71.here hx rfl (hb hby at_445) rfl ?_
    show Steps p.tables e below (T71.setTop (mkF m 447 #[.val (.long q1), .second, .val (.int p2), .val (.int p3), .val (.int p4), .val (.int p5), .val (.long v2), .second, .val (.ref b3), .val (.ref b15), .val (.ref b37), .val (.ref b60), .val (.int v64), .val (.int v67), .val (.int v69), .unset, .unset, .unset, .unset] [(.int v69), (.int v64), (.int (3 : Int32)), (.ref b3), (.ref b15), (.long ((F9 (1 : Int32) v64 v69 (own_d v2) own_pw) + (F9 (2 : Int32) v64 v69 (own_d v2) own_pw)))])) _
    refine st72 _ ?_
    show Steps p.tables e below (T72.setTop (mkF m 450 #[.val (.long q1), .second, .val (.int p2), .val (.int p3), .val (.int p4), .val (.int p5), .val (.long v2), .second, .val (.ref b3), .val (.ref b15), .val (.ref b37), .val (.ref b60), .val (.int v64), .val (.int v67), .val (.int v69), .unset, .unset, .unset, .unset] [(.long (F9 (3 : Int32) v64 v69 (own_d v2) own_pw)), (.long ((F9 (1 : Int32) v64 v69 (own_d v2) own_pw) + (F9 (2 : Int32) v64 v69 (own_d v2) own_pw)))])) _
    refine XS.ladd X72.here hx rfl (hb hby at_450) rfl ?_
    show Steps p.tables e below (T72.setTop (mkF m 451 #[.val (.long q1), .second, .val (.int p2), .val (.int p3), .val (.int p4), .val (.int p5), .val (.long v2), .second, .val (.ref b3), .val (.ref b15), .val (.ref b37), .val (.ref b60), .val (.int v64), .val (.int v67), .val (.int v69), .unset, .unset, .unset, .unset] [(.long (((F9 (1 : Int32) v64 v69 (own_d v2) own_pw) + (F9 (2 : Int32) v64 v69 (own_d v2) own_pw)) + (F9 (3 : Int32) v64 v69 (own_d v2) own_pw)))])) _
    refine XS.aload X72.here hx rfl (hb hby at_451) rfl rfl ?_
    show Steps p.tables e below (T72.setTop (mkF m 453 #[.val (.long q1), .second, .val (.int p2), .val (.int p3), .val (.int p4), .val (.int p5), .val (.long v2), .second, .val (.ref b3), .val (.ref b15), .val (.ref b37), .val (.ref b60), .val (.int v64), .val (.int v67), .val (.int v69), .unset, .unset, .unset, .unset] [(.ref b15), (.long (((F9 (1 : Int32) v64 v69 (own_d v2) own_pw) + (F9 (2 : Int32) v64 v69 (own_d v2) own_pw)) + (F9 (3 : Int32) v64 v69 (own_d v2) own_pw)))])) _
    refine XS.aload X72.here hx rfl (hb hby at_453) rfl rfl ?_
    show Steps p.tables e below (T72.setTop (mkF m 455 #[.val (.long q1), .second, .val (.int p2), .val (.int p3), .val (.int p4), .val (.int p5), .val (.long v2), .second, .val (.ref b3), .val (.ref b15), .val (.ref b37), .val (.ref b60), .val (.int v64), .val (.int v67), .val (.int v69), .unset, .unset, .unset, .unset] [(.ref b3), (.ref b15), (.long (((F9 (1 : Int32) v64 v69 (own_d v2) own_pw) + (F9 (2 : Int32) v64 v69 (own_d v2) own_pw)) + (F9 (3 : Int32) v64 v69 (own_d v2) own_pw)))])) _
    refine XS.iconst X72.here hx rfl (hb hby at_455) ?_
    show Steps p.tables e below (T72.setTop (mkF m 456 #[.val (.long q1), .second, .val (.int p2), .val (.int p3), .val (.int p4), .val (.int p5), .val (.long v2), .second, .val (.ref b3), .val (.ref b15), .val (.ref b37), .val (.ref b60), .val (.int v64), .val (.int v67), .val (.int v69), .unset, .unset, .unset, .unset] [(.int (4 : Int32)), (.ref b3), (.ref b15), (.long (((F9 (1 : Int32) v64 v69 (own_d v2) own_pw) + (F9 (2 : Int32) v64 v69 (own_d v2) own_pw)) + (F9 (3 : Int32) v64 v69 (own_d v2) own_pw)))])) _
    refine XS.iload X72.here hx rfl (hb hby at_456) rfl ?_
    show Steps p.tables e below (T72.setTop (mkF m 458 #[.val (.long q1), .second, .val (.int p2), .val (.int p3), .val (.int p4), .val (.int p5), .val (.long v2), .second, .val (.ref b3), .val (.ref b15), .val (.ref b37), .val (.ref b60), .val (.int v64), .val (.int v67), .val (.int v69), .unset, .unset, .unset, .unset] [(.int v64), (.int (4 : Int32)), (.ref b3), (.ref b15), (.long (((F9 (1 : Int32) v64 v69 (own_d v2) own_pw) + (F9 (2 : Int32) v64 v69 (own_d v2) own_pw)) + (F9 (3 : Int32) v64 v69 (own_d v2) own_pw)))])) _
    refine XS.iload X72.here hx rfl (hb hby at_458) rfl ?_
    show Steps p.tables e below (T72.setTop (mkF m 460 #[.val (.long q1), .second, .val (.int p2), .val (.int p3), .val (.int p4), .val (.int p5), .val (.long v2), .second, .val (.ref b3), .val (.ref b15), .val (.ref b37), .val (.ref b60), .val (.int v64), .val (.int v67), .val (.int v69), .unset, .unset, .unset, .unset] [(.int v69), (.int v64), (.int (4 : Int32)), (.ref b3), (.ref b15), (.long (((F9 (1 : Int32) v64 v69 (own_d v2) own_pw) + (F9 (2 : Int32) v64 v69 (own_d v2) own_pw)) + (F9 (3 : Int32) v64 v69 (own_d v2) own_pw)))])) _
    refine st73 _ ?_
    show Steps p.tables e below (T73.setTop (mkF m 463 #[.val (.long q1), .second, .val (.int p2), .val (.int p3), .val (.int p4), .val (.int p5), .val (.long v2), .second, .val (.ref b3), .val (.ref b15), .val (.ref b37), .val (.ref b60), .val (.int v64), .val (.int v67), .val (.int v69), .unset, .unset, .unset, .unset] [(.long (F9 (4 : Int32) v64 v69 (own_d v2) own_pw)), (.long (((F9 (1 : Int32) v64 v69 (own_d v2) own_pw) + (F9 (2 : Int32) v64 v69 (own_d v2) own_pw)) + (F9 (3 : Int32) v64 v69 (own_d v2) own_pw)))])) _
    refine XS.ladd X73.here hx rfl (hb hby at_463) rfl ?_
    show Steps p.tables e below (T73.setTop (mkF m 464 #[.val (.long q1), .second, .val (.int p2), .val (.int p3), .val (.int p4), .val (.int p5), .val (.long v2), .second, .val (.ref b3), .val (.ref b15), .val (.ref b37), .val (.ref b60), .val (.int v64), .val (.int v67), .val (.int v69), .unset, .unset, .unset, .unset] [(.long ((((F9 (1 : Int32) v64 v69 (own_d v2) own_pw) + (F9 (2 : Int32) v64 v69 (own_d v2) own_pw)) + (F9 (3 : Int32) v64 v69 (own_d v2) own_pw)) + (F9 (4 : Int32) v64 v69 (own_d v2) own_pw)))])) _
    refine XS.aload X73.here hx rfl (hb hby at_464) rfl rfl ?_
    show Steps p.tables e below (T73.setTop (mkF m 466 #[.val (.long q1), .second, .val (.int p2), .val (.int p3), .val (.int p4), .val (.int p5), .val (.long v2), .second, .val (.ref b3), .val (.ref b15), .val (.ref b37), .val (.ref b60), .val (.int v64), .val (.int v67), .val (.int v69), .unset, .unset, .unset, .unset] [(.ref b15), (.long ((((F9 (1 : Int32) v64 v69 (own_d v2) own_pw) + (F9 (2 : Int32) v64 v69 (own_d v2) own_pw)) + (F9 (3 : Int32) v64 v69 (own_d v2) own_pw)) + (F9 (4 : Int32) v64 v69 (own_d v2) own_pw)))])) _
    refine XS.aload X73.here hx rfl (hb hby at_466) rfl rfl ?_
    show Steps p.tables e below (T73.setTop (mkF m 468 #[.val (.long q1), .second, .val (.int p2), .val (.int p3), .val (.int p4), .val (.int p5), .val (.long v2), .second, .val (.ref b3), .val (.ref b15), .val (.ref b37), .val (.ref b60), .val (.int v64), .val (.int v67), .val (.int v69), .unset, .unset, .unset, .unset] [(.ref b3), (.ref b15), (.long ((((F9 (1 : Int32) v64 v69 (own_d v2) own_pw) + (F9 (2 : Int32) v64 v69 (own_d v2) own_pw)) + (F9 (3 : Int32) v64 v69 (own_d v2) own_pw)) + (F9 (4 : Int32) v64 v69 (own_d v2) own_pw)))])) _
    refine XS.iconst X73.here hx rfl (hb hby at_468) ?_
    show Steps p.tables e below (T73.setTop (mkF m 469 #[.val (.long q1), .second, .val (.int p2), .val (.int p3), .val (.int p4), .val (.int p5), .val (.long v2), .second, .val (.ref b3), .val (.ref b15), .val (.ref b37), .val (.ref b60), .val (.int v64), .val (.int v67), .val (.int v69), .unset, .unset, .unset, .unset] [(.int (5 : Int32)), (.ref b3), (.ref b15), (.long ((((F9 (1 : Int32) v64 v69 (own_d v2) own_pw) + (F9 (2 : Int32) v64 v69 (own_d v2) own_pw)) + (F9 (3 : Int32) v64 v69 (own_d v2) own_pw)) + (F9 (4 : Int32) v64 v69 (own_d v2) own_pw)))])) _
    refine XS.iload X73.here hx rfl (hb hby at_469) rfl ?_
    show Steps p.tables e below (T73.setTop (mkF m 471 #[.val (.long q1), .second, .val (.int p2), .val (.int p3), .val (.int p4), .val (.int p5), .val (.long v2), .second, .val (.ref b3), .val (.ref b15), .val (.ref b37), .val (.ref b60), .val (.int v64), .val (.int v67), .val (.int v69), .unset, .unset, .unset, .unset] [(.int v64), (.int (5 : Int32)), (.ref b3), (.ref b15), (.long ((((F9 (1 : Int32) v64 v69 (own_d v2) own_pw) + (F9 (2 : Int32) v64 v69 (own_d v2) own_pw)) + (F9 (3 : Int32) v64 v69 (own_d v2) own_pw)) + (F9 (4 : Int32) v64 v69 (own_d v2) own_pw)))])) _
    refine XS.iload X73.here hx rfl (hb hby at_471) rfl ?_
    show Steps p.tables e below (T73.setTop (mkF m 473 #[.val (.long q1), .second, .val (.int p2), .val (.int p3), .val (.int p4), .val (.int p5), .val (.long v2), .second, .val (.ref b3), .val (.ref b15), .val (.ref b37), .val (.ref b60), .val (.int v64), .val (.int v67), .val (.int v69), .unset, .unset, .unset, .unset] [(.int v69), (.int v64), (.int (5 : Int32)), (.ref b3), (.ref b15), (.long ((((F9 (1 : Int32) v64 v69 (own_d v2) own_pw) + (F9 (2 : Int32) v64 v69 (own_d v2) own_pw)) + (F9 (3 : Int32) v64 v69 (own_d v2) own_pw)) + (F9 (4 : Int32) v64 v69 (own_d v2) own_pw)))])) _
    refine st74 _ ?_
    show Steps p.tables e below (T74.setTop (mkF m 476 #[.val (.long q1), .second, .val (.int p2), .val (.int p3), .val (.int p4), .val (.int p5), .val (.long v2), .second, .val (.ref b3), .val (.ref b15), .val (.ref b37), .val (.ref b60), .val (.int v64), .val (.int v67), .val (.int v69), .unset, .unset, .unset, .unset] [(.long (F9 (5 : Int32) v64 v69 (own_d v2) own_pw)), (.long ((((F9 (1 : Int32) v64 v69 (own_d v2) own_pw) + (F9 (2 : Int32) v64 v69 (own_d v2) own_pw)) + (F9 (3 : Int32) v64 v69 (own_d v2) own_pw)) + (F9 (4 : Int32) v64 v69 (own_d v2) own_pw)))])) _
    refine XS.ladd X74.here hx rfl (hb hby at_476) rfl ?_
    show Steps p.tables e below (T74.setTop (mkF m 477 #[.val (.long q1), .second, .val (.int p2), .val (.int p3), .val (.int p4), .val (.int p5), .val (.long v2), .second, .val (.ref b3), .val (.ref b15), .val (.ref b37), .val (.ref b60), .val (.int v64), .val (.int v67), .val (.int v69), .unset, .unset, .unset, .unset] [(.long (((((F9 (1 : Int32) v64 v69 (own_d v2) own_pw) + (F9 (2 : Int32) v64 v69 (own_d v2) own_pw)) + (F9 (3 : Int32) v64 v69 (own_d v2) own_pw)) + (F9 (4 : Int32) v64 v69 (own_d v2) own_pw)) + (F9 (5 : Int32) v64 v69 (own_d v2) own_pw)))])) _
    refine XS.aload X74.here hx rfl (hb hby at_477) rfl rfl ?_
    show Steps p.tables e below (T74.setTop (mkF m 479 #[.val (.long q1), .second, .val (.int p2), .val (.int p3), .val (.int p4), .val (.int p5), .val (.long v2), .second, .val (.ref b3), .val (.ref b15), .val (.ref b37), .val (.ref b60), .val (.int v64), .val (.int v67), .val (.int v69), .unset, .unset, .unset, .unset] [(.ref b15), (.long (((((F9 (1 : Int32) v64 v69 (own_d v2) own_pw) + (F9 (2 : Int32) v64 v69 (own_d v2) own_pw)) + (F9 (3 : Int32) v64 v69 (own_d v2) own_pw)) + (F9 (4 : Int32) v64 v69 (own_d v2) own_pw)) + (F9 (5 : Int32) v64 v69 (own_d v2) own_pw)))])) _
    refine XS.aload X74.here hx rfl (hb hby at_479) rfl rfl ?_
    show Steps p.tables e below (T74.setTop (mkF m 481 #[.val (.long q1), .second, .val (.int p2), .val (.int p3), .val (.int p4), .val (.int p5), .val (.long v2), .second, .val (.ref b3), .val (.ref b15), .val (.ref b37), .val (.ref b60), .val (.int v64), .val (.int v67), .val (.int v69), .unset, .unset, .unset, .unset] [(.ref b3), (.ref b15), (.long (((((F9 (1 : Int32) v64 v69 (own_d v2) own_pw) + (F9 (2 : Int32) v64 v69 (own_d v2) own_pw)) + (F9 (3 : Int32) v64 v69 (own_d v2) own_pw)) + (F9 (4 : Int32) v64 v69 (own_d v2) own_pw)) + (F9 (5 : Int32) v64 v69 (own_d v2) own_pw)))])) _
    refine XS.bipush X74.here hx rfl (hb hby at_481) ?_
    show Steps p.tables e below (T74.setTop (mkF m 483 #[.val (.long q1), .second, .val (.int p2), .val (.int p3), .val (.int p4), .val (.int p5), .val (.long v2), .second, .val (.ref b3), .val (.ref b15), .val (.ref b37), .val (.ref b60), .val (.int v64), .val (.int v67), .val (.int v69), .unset, .unset, .unset, .unset] [(.int (6 : Int32)), (.ref b3), (.ref b15), (.long (((((F9 (1 : Int32) v64 v69 (own_d v2) own_pw) + (F9 (2 : Int32) v64 v69 (own_d v2) own_pw)) + (F9 (3 : Int32) v64 v69 (own_d v2) own_pw)) + (F9 (4 : Int32) v64 v69 (own_d v2) own_pw)) + (F9 (5 : Int32) v64 v69 (own_d v2) own_pw)))])) _
    refine XS.iload X74.here hx rfl (hb hby at_483) rfl ?_
    show Steps p.tables e below (T74.setTop (mkF m 485 #[.val (.long q1), .second, .val (.int p2), .val (.int p3), .val (.int p4), .val (.int p5), .val (.long v2), .second, .val (.ref b3), .val (.ref b15), .val (.ref b37), .val (.ref b60), .val (.int v64), .val (.int v67), .val (.int v69), .unset, .unset, .unset, .unset] [(.int v64), (.int (6 : Int32)), (.ref b3), (.ref b15), (.long (((((F9 (1 : Int32) v64 v69 (own_d v2) own_pw) + (F9 (2 : Int32) v64 v69 (own_d v2) own_pw)) + (F9 (3 : Int32) v64 v69 (own_d v2) own_pw)) + (F9 (4 : Int32) v64 v69 (own_d v2) own_pw)) + (F9 (5 : Int32) v64 v69 (own_d v2) own_pw)))])) _
    refine XS.iload X74.here hx rfl (hb hby at_485) rfl ?_
    show Steps p.tables e below (T74.setTop (mkF m 487 #[.val (.long q1), .second, .val (.int p2), .val (.int p3), .val (.int p4), .val (.int p5), .val (.long v2), .second, .val (.ref b3), .val (.ref b15), .val (.ref b37), .val (.ref b60), .val (.int v64), .val (.int v67), .val (.int v69), .unset, .unset, .unset, .unset] [(.int v69), (.int v64), (.int (6 : Int32)), (.ref b3), (.ref b15), (.long (((((F9 (1 : Int32) v64 v69 (own_d v2) own_pw) + (F9 (2 : Int32) v64 v69 (own_d v2) own_pw)) + (F9 (3 : Int32) v64 v69 (own_d v2) own_pw)) + (F9 (4 : Int32) v64 v69 (own_d v2) own_pw)) + (F9 (5 : Int32) v64 v69 (own_d v2) own_pw)))])) _
    refine st75 _ ?_
    show Steps p.tables e below (T75.setTop (mkF m 490 #[.val (.long q1), .second, .val (.int p2), .val (.int p3), .val (.int p4), .val (.int p5), .val (.long v2), .second, .val (.ref b3), .val (.ref b15), .val (.ref b37), .val (.ref b60), .val (.int v64), .val (.int v67), .val (.int v69), .unset, .unset, .unset, .unset] [(.long (F9 (6 : Int32) v64 v69 (own_d v2) own_pw)), (.long (((((F9 (1 : Int32) v64 v69 (own_d v2) own_pw) + (F9 (2 : Int32) v64 v69 (own_d v2) own_pw)) + (F9 (3 : Int32) v64 v69 (own_d v2) own_pw)) + (F9 (4 : Int32) v64 v69 (own_d v2) own_pw)) + (F9 (5 : Int32) v64 v69 (own_d v2) own_pw)))])) _
    refine XS.ladd X75.here hx rfl (hb hby at_490) rfl ?_
    show Steps p.tables e below (T75.setTop (mkF m 491 #[.val (.long q1), .second, .val (.int p2), .val (.int p3), .val (.int p4), .val (.int p5), .val (.long v2), .second, .val (.ref b3), .val (.ref b15), .val (.ref b37), .val (.ref b60), .val (.int v64), .val (.int v67), .val (.int v69), .unset, .unset, .unset, .unset] [(.long ((((((F9 (1 : Int32) v64 v69 (own_d v2) own_pw) + (F9 (2 : Int32) v64 v69 (own_d v2) own_pw)) + (F9 (3 : Int32) v64 v69 (own_d v2) own_pw)) + (F9 (4 : Int32) v64 v69 (own_d v2) own_pw)) + (F9 (5 : Int32) v64 v69 (own_d v2) own_pw)) + (F9 (6 : Int32) v64 v69 (own_d v2) own_pw)))])) _
    refine XS.aload X75.here hx rfl (hb hby at_491) rfl rfl ?_
    show Steps p.tables e below (T75.setTop (mkF m 493 #[.val (.long q1), .second, .val (.int p2), .val (.int p3), .val (.int p4), .val (.int p5), .val (.long v2), .second, .val (.ref b3), .val (.ref b15), .val (.ref b37), .val (.ref b60), .val (.int v64), .val (.int v67), .val (.int v69), .unset, .unset, .unset, .unset] [(.ref b15), (.long ((((((F9 (1 : Int32) v64 v69 (own_d v2) own_pw) + (F9 (2 : Int32) v64 v69 (own_d v2) own_pw)) + (F9 (3 : Int32) v64 v69 (own_d v2) own_pw)) + (F9 (4 : Int32) v64 v69 (own_d v2) own_pw)) + (F9 (5 : Int32) v64 v69 (own_d v2) own_pw)) + (F9 (6 : Int32) v64 v69 (own_d v2) own_pw)))])) _
    refine XS.aload X75.here hx rfl (hb hby at_493) rfl rfl ?_
    show Steps p.tables e below (T75.setTop (mkF m 495 #[.val (.long q1), .second, .val (.int p2), .val (.int p3), .val (.int p4), .val (.int p5), .val (.long v2), .second, .val (.ref b3), .val (.ref b15), .val (.ref b37), .val (.ref b60), .val (.int v64), .val (.int v67), .val (.int v69), .unset, .unset, .unset, .unset] [(.ref b3), (.ref b15), (.long ((((((F9 (1 : Int32) v64 v69 (own_d v2) own_pw) + (F9 (2 : Int32) v64 v69 (own_d v2) own_pw)) + (F9 (3 : Int32) v64 v69 (own_d v2) own_pw)) + (F9 (4 : Int32) v64 v69 (own_d v2) own_pw)) + (F9 (5 : Int32) v64 v69 (own_d v2) own_pw)) + (F9 (6 : Int32) v64 v69 (own_d v2) own_pw)))])) _
    refine XS.bipush X75.here hx rfl (hb hby at_495) ?_
    show Steps p.tables e below (T75.setTop (mkF m 497 #[.val (.long q1), .second, .val (.int p2), .val (.int p3), .val (.int p4), .val (.int p5), .val (.long v2), .second, .val (.ref b3), .val (.ref b15), .val (.ref b37), .val (.ref b60), .val (.int v64), .val (.int v67), .val (.int v69), .unset, .unset, .unset, .unset] [(.int (7 : Int32)), (.ref b3), (.ref b15), (.long ((((((F9 (1 : Int32) v64 v69 (own_d v2) own_pw) + (F9 (2 : Int32) v64 v69 (own_d v2) own_pw)) + (F9 (3 : Int32) v64 v69 (own_d v2) own_pw)) + (F9 (4 : Int32) v64 v69 (own_d v2) own_pw)) + (F9 (5 : Int32) v64 v69 (own_d v2) own_pw)) + (F9 (6 : Int32) v64 v69 (own_d v2) own_pw)))])) _
    refine XS.iload X75.here hx rfl (hb hby at_497) rfl ?_
    show Steps p.tables e below (T75.setTop (mkF m 499 #[.val (.long q1), .second, .val (.int p2), .val (.int p3), .val (.int p4), .val (.int p5), .val (.long v2), .second, .val (.ref b3), .val (.ref b15), .val (.ref b37), .val (.ref b60), .val (.int v64), .val (.int v67), .val (.int v69), .unset, .unset, .unset, .unset] [(.int v64), (.int (7 : Int32)), (.ref b3), (.ref b15), (.long ((((((F9 (1 : Int32) v64 v69 (own_d v2) own_pw) + (F9 (2 : Int32) v64 v69 (own_d v2) own_pw)) + (F9 (3 : Int32) v64 v69 (own_d v2) own_pw)) + (F9 (4 : Int32) v64 v69 (own_d v2) own_pw)) + (F9 (5 : Int32) v64 v69 (own_d v2) own_pw)) + (F9 (6 : Int32) v64 v69 (own_d v2) own_pw)))])) _
    refine XS.iload X75.here hx rfl (hb hby at_499) rfl ?_
    show Steps p.tables e below (T75.setTop (mkF m 501 #[.val (.long q1), .second, .val (.int p2), .val (.int p3), .val (.int p4), .val (.int p5), .val (.long v2), .second, .val (.ref b3), .val (.ref b15), .val (.ref b37), .val (.ref b60), .val (.int v64), .val (.int v67), .val (.int v69), .unset, .unset, .unset, .unset] [(.int v69), (.int v64), (.int (7 : Int32)), (.ref b3), (.ref b15), (.long ((((((F9 (1 : Int32) v64 v69 (own_d v2) own_pw) + (F9 (2 : Int32) v64 v69 (own_d v2) own_pw)) + (F9 (3 : Int32) v64 v69 (own_d v2) own_pw)) + (F9 (4 : Int32) v64 v69 (own_d v2) own_pw)) + (F9 (5 : Int32) v64 v69 (own_d v2) own_pw)) + (F9 (6 : Int32) v64 v69 (own_d v2) own_pw)))])) _
    refine st76 _ ?_
    show Steps p.tables e below (T76.setTop (mkF m 504 #[.val (.long q1), .second, .val (.int p2), .val (.int p3), .val (.int p4), .val (.int p5), .val (.long v2), .second, .val (.ref b3), .val (.ref b15), .val (.ref b37), .val (.ref b60), .val (.int v64), .val (.int v67), .val (.int v69), .unset, .unset, .unset, .unset] [(.long (F9 (7 : Int32) v64 v69 (own_d v2) own_pw)), (.long ((((((F9 (1 : Int32) v64 v69 (own_d v2) own_pw) + (F9 (2 : Int32) v64 v69 (own_d v2) own_pw)) + (F9 (3 : Int32) v64 v69 (own_d v2) own_pw)) + (F9 (4 : Int32) v64 v69 (own_d v2) own_pw)) + (F9 (5 : Int32) v64 v69 (own_d v2) own_pw)) + (F9 (6 : Int32) v64 v69 (own_d v2) own_pw)))])) _
    refine XS.ladd X76.here hx rfl (hb hby at_504) rfl ?_
    show Steps p.tables e below (T76.setTop (mkF m 505 #[.val (.long q1), .second, .val (.int p2), .val (.int p3), .val (.int p4), .val (.int p5), .val (.long v2), .second, .val (.ref b3), .val (.ref b15), .val (.ref b37), .val (.ref b60), .val (.int v64), .val (.int v67), .val (.int v69), .unset, .unset, .unset, .unset] [(.long (((((((F9 (1 : Int32) v64 v69 (own_d v2) own_pw) + (F9 (2 : Int32) v64 v69 (own_d v2) own_pw)) + (F9 (3 : Int32) v64 v69 (own_d v2) own_pw)) + (F9 (4 : Int32) v64 v69 (own_d v2) own_pw)) + (F9 (5 : Int32) v64 v69 (own_d v2) own_pw)) + (F9 (6 : Int32) v64 v69 (own_d v2) own_pw)) + (F9 (7 : Int32) v64 v69 (own_d v2) own_pw)))])) _
    refine XS.aload X76.here hx rfl (hb hby at_505) rfl rfl ?_
    show Steps p.tables e below (T76.setTop (mkF m 507 #[.val (.long q1), .second, .val (.int p2), .val (.int p3), .val (.int p4), .val (.int p5), .val (.long v2), .second, .val (.ref b3), .val (.ref b15), .val (.ref b37), .val (.ref b60), .val (.int v64), .val (.int v67), .val (.int v69), .unset, .unset, .unset, .unset] [(.ref b15), (.long (((((((F9 (1 : Int32) v64 v69 (own_d v2) own_pw) + (F9 (2 : Int32) v64 v69 (own_d v2) own_pw)) + (F9 (3 : Int32) v64 v69 (own_d v2) own_pw)) + (F9 (4 : Int32) v64 v69 (own_d v2) own_pw)) + (F9 (5 : Int32) v64 v69 (own_d v2) own_pw)) + (F9 (6 : Int32) v64 v69 (own_d v2) own_pw)) + (F9 (7 : Int32) v64 v69 (own_d v2) own_pw)))])) _
    refine XS.aload X76.here hx rfl (hb hby at_507) rfl rfl ?_
    show Steps p.tables e below (T76.setTop (mkF m 509 #[.val (.long q1), .second, .val (.int p2), .val (.int p3), .val (.int p4), .val (.int p5), .val (.long v2), .second, .val (.ref b3), .val (.ref b15), .val (.ref b37), .val (.ref b60), .val (.int v64), .val (.int v67), .val (.int v69), .unset, .unset, .unset, .unset] [(.ref b3), (.ref b15), (.long (((((((F9 (1 : Int32) v64 v69 (own_d v2) own_pw) + (F9 (2 : Int32) v64 v69 (own_d v2) own_pw)) + (F9 (3 : Int32) v64 v69 (own_d v2) own_pw)) + (F9 (4 : Int32) v64 v69 (own_d v2) own_pw)) + (F9 (5 : Int32) v64 v69 (own_d v2) own_pw)) + (F9 (6 : Int32) v64 v69 (own_d v2) own_pw)) + (F9 (7 : Int32) v64 v69 (own_d v2) own_pw)))])) _
    refine XS.bipush X76.here hx rfl (hb hby at_509) ?_
    show Steps p.tables e below (T76.setTop (mkF m 511 #[.val (.long q1), .second, .val (.int p2), .val (.int p3), .val (.int p4), .val (.int p5), .val (.long v2), .second, .val (.ref b3), .val (.ref b15), .val (.ref b37), .val (.ref b60), .val (.int v64), .val (.int v67), .val (.int v69), .unset, .unset, .unset, .unset] [(.int (8 : Int32)), (.ref b3), (.ref b15), (.long (((((((F9 (1 : Int32) v64 v69 (own_d v2) own_pw) + (F9 (2 : Int32) v64 v69 (own_d v2) own_pw)) + (F9 (3 : Int32) v64 v69 (own_d v2) own_pw)) + (F9 (4 : Int32) v64 v69 (own_d v2) own_pw)) + (F9 (5 : Int32) v64 v69 (own_d v2) own_pw)) + (F9 (6 : Int32) v64 v69 (own_d v2) own_pw)) + (F9 (7 : Int32) v64 v69 (own_d v2) own_pw)))])) _
    refine XS.iload X76.here hx rfl (hb hby at_511) rfl ?_
    show Steps p.tables e below (T76.setTop (mkF m 513 #[.val (.long q1), .second, .val (.int p2), .val (.int p3), .val (.int p4), .val (.int p5), .val (.long v2), .second, .val (.ref b3), .val (.ref b15), .val (.ref b37), .val (.ref b60), .val (.int v64), .val (.int v67), .val (.int v69), .unset, .unset, .unset, .unset] [(.int v64), (.int (8 : Int32)), (.ref b3), (.ref b15), (.long (((((((F9 (1 : Int32) v64 v69 (own_d v2) own_pw) + (F9 (2 : Int32) v64 v69 (own_d v2) own_pw)) + (F9 (3 : Int32) v64 v69 (own_d v2) own_pw)) + (F9 (4 : Int32) v64 v69 (own_d v2) own_pw)) + (F9 (5 : Int32) v64 v69 (own_d v2) own_pw)) + (F9 (6 : Int32) v64 v69 (own_d v2) own_pw)) + (F9 (7 : Int32) v64 v69 (own_d v2) own_pw)))])) _
    refine XS.iload X76.here hx rfl (hb hby at_513) rfl ?_
    show Steps p.tables e below (T76.setTop (mkF m 515 #[.val (.long q1), .second, .val (.int p2), .val (.int p3), .val (.int p4), .val (.int p5), .val (.long v2), .second, .val (.ref b3), .val (.ref b15), .val (.ref b37), .val (.ref b60), .val (.int v64), .val (.int v67), .val (.int v69), .unset, .unset, .unset, .unset] [(.int v69), (.int v64), (.int (8 : Int32)), (.ref b3), (.ref b15), (.long (((((((F9 (1 : Int32) v64 v69 (own_d v2) own_pw) + (F9 (2 : Int32) v64 v69 (own_d v2) own_pw)) + (F9 (3 : Int32) v64 v69 (own_d v2) own_pw)) + (F9 (4 : Int32) v64 v69 (own_d v2) own_pw)) + (F9 (5 : Int32) v64 v69 (own_d v2) own_pw)) + (F9 (6 : Int32) v64 v69 (own_d v2) own_pw)) + (F9 (7 : Int32) v64 v69 (own_d v2) own_pw)))])) _
    refine st77 _ ?_
    show Steps p.tables e below (T77.setTop (mkF m 518 #[.val (.long q1), .second, .val (.int p2), .val (.int p3), .val (.int p4), .val (.int p5), .val (.long v2), .second, .val (.ref b3), .val (.ref b15), .val (.ref b37), .val (.ref b60), .val (.int v64), .val (.int v67), .val (.int v69), .unset, .unset, .unset, .unset] [(.long (F9 (8 : Int32) v64 v69 (own_d v2) own_pw)), (.long (((((((F9 (1 : Int32) v64 v69 (own_d v2) own_pw) + (F9 (2 : Int32) v64 v69 (own_d v2) own_pw)) + (F9 (3 : Int32) v64 v69 (own_d v2) own_pw)) + (F9 (4 : Int32) v64 v69 (own_d v2) own_pw)) + (F9 (5 : Int32) v64 v69 (own_d v2) own_pw)) + (F9 (6 : Int32) v64 v69 (own_d v2) own_pw)) + (F9 (7 : Int32) v64 v69 (own_d v2) own_pw)))])) _
    refine XS.ladd X77.here hx rfl (hb hby at_518) rfl ?_
    show Steps p.tables e below (T77.setTop (mkF m 519 #[.val (.long q1), .second, .val (.int p2), .val (.int p3), .val (.int p4), .val (.int p5), .val (.long v2), .second, .val (.ref b3), .val (.ref b15), .val (.ref b37), .val (.ref b60), .val (.int v64), .val (.int v67), .val (.int v69), .unset, .unset, .unset, .unset] [(.long ((((((((F9 (1 : Int32) v64 v69 (own_d v2) own_pw) + (F9 (2 : Int32) v64 v69 (own_d v2) own_pw)) + (F9 (3 : Int32) v64 v69 (own_d v2) own_pw)) + (F9 (4 : Int32) v64 v69 (own_d v2) own_pw)) + (F9 (5 : Int32) v64 v69 (own_d v2) own_pw)) + (F9 (6 : Int32) v64 v69 (own_d v2) own_pw)) + (F9 (7 : Int32) v64 v69 (own_d v2) own_pw)) + (F9 (8 : Int32) v64 v69 (own_d v2) own_pw)))])) _
    refine XS.aload X77.here hx rfl (hb hby at_519) rfl rfl ?_
    show Steps p.tables e below (T77.setTop (mkF m 521 #[.val (.long q1), .second, .val (.int p2), .val (.int p3), .val (.int p4), .val (.int p5), .val (.long v2), .second, .val (.ref b3), .val (.ref b15), .val (.ref b37), .val (.ref b60), .val (.int v64), .val (.int v67), .val (.int v69), .unset, .unset, .unset, .unset] [(.ref b15), (.long ((((((((F9 (1 : Int32) v64 v69 (own_d v2) own_pw) + (F9 (2 : Int32) v64 v69 (own_d v2) own_pw)) + (F9 (3 : Int32) v64 v69 (own_d v2) own_pw)) + (F9 (4 : Int32) v64 v69 (own_d v2) own_pw)) + (F9 (5 : Int32) v64 v69 (own_d v2) own_pw)) + (F9 (6 : Int32) v64 v69 (own_d v2) own_pw)) + (F9 (7 : Int32) v64 v69 (own_d v2) own_pw)) + (F9 (8 : Int32) v64 v69 (own_d v2) own_pw)))])) _
    refine XS.aload X77.here hx rfl (hb hby at_521) rfl rfl ?_
    show Steps p.tables e below (T77.setTop (mkF m 523 #[.val (.long q1), .second, .val (.int p2), .val (.int p3), .val (.int p4), .val (.int p5), .val (.long v2), .second, .val (.ref b3), .val (.ref b15), .val (.ref b37), .val (.ref b60), .val (.int v64), .val (.int v67), .val (.int v69), .unset, .unset, .unset, .unset] [(.ref b3), (.ref b15), (.long ((((((((F9 (1 : Int32) v64 v69 (own_d v2) own_pw) + (F9 (2 : Int32) v64 v69 (own_d v2) own_pw)) + (F9 (3 : Int32) v64 v69 (own_d v2) own_pw)) + (F9 (4 : Int32) v64 v69 (own_d v2) own_pw)) + (F9 (5 : Int32) v64 v69 (own_d v2) own_pw)) + (F9 (6 : Int32) v64 v69 (own_d v2) own_pw)) + (F9 (7 : Int32) v64 v69 (own_d v2) own_pw)) + (F9 (8 : Int32) v64 v69 (own_d v2) own_pw)))])) _
    refine XS.bipush X77.here hx rfl (hb hby at_523) ?_
    show Steps p.tables e below (T77.setTop (mkF m 525 #[.val (.long q1), .second, .val (.int p2), .val (.int p3), .val (.int p4), .val (.int p5), .val (.long v2), .second, .val (.ref b3), .val (.ref b15), .val (.ref b37), .val (.ref b60), .val (.int v64), .val (.int v67), .val (.int v69), .unset, .unset, .unset, .unset] [(.int (9 : Int32)), (.ref b3), (.ref b15), (.long ((((((((F9 (1 : Int32) v64 v69 (own_d v2) own_pw) + (F9 (2 : Int32) v64 v69 (own_d v2) own_pw)) + (F9 (3 : Int32) v64 v69 (own_d v2) own_pw)) + (F9 (4 : Int32) v64 v69 (own_d v2) own_pw)) + (F9 (5 : Int32) v64 v69 (own_d v2) own_pw)) + (F9 (6 : Int32) v64 v69 (own_d v2) own_pw)) + (F9 (7 : Int32) v64 v69 (own_d v2) own_pw)) + (F9 (8 : Int32) v64 v69 (own_d v2) own_pw)))])) _
    refine XS.iload X77.here hx rfl (hb hby at_525) rfl ?_
    show Steps p.tables e below (T77.setTop (mkF m 527 #[.val (.long q1), .second, .val (.int p2), .val (.int p3), .val (.int p4), .val (.int p5), .val (.long v2), .second, .val (.ref b3), .val (.ref b15), .val (.ref b37), .val (.ref b60), .val (.int v64), .val (.int v67), .val (.int v69), .unset, .unset, .unset, .unset] [(.int v64), (.int (9 : Int32)), (.ref b3), (.ref b15), (.long ((((((((F9 (1 : Int32) v64 v69 (own_d v2) own_pw) + (F9 (2 : Int32) v64 v69 (own_d v2) own_pw)) + (F9 (3 : Int32) v64 v69 (own_d v2) own_pw)) + (F9 (4 : Int32) v64 v69 (own_d v2) own_pw)) + (F9 (5 : Int32) v64 v69 (own_d v2) own_pw)) + (F9 (6 : Int32) v64 v69 (own_d v2) own_pw)) + (F9 (7 : Int32) v64 v69 (own_d v2) own_pw)) + (F9 (8 : Int32) v64 v69 (own_d v2) own_pw)))])) _
    refine XS.iload X77.here hx rfl (hb hby at_527) rfl ?_
    show Steps p.tables e below (T77.setTop (mkF m 529 #[.val (.long q1), .second, .val (.int p2), .val (.int p3), .val (.int p4), .val (.int p5), .val (.long v2), .second, .val (.ref b3), .val (.ref b15), .val (.ref b37), .val (.ref b60), .val (.int v64), .val (.int v67), .val (.int v69), .unset, .unset, .unset, .unset] [(.int v69), (.int v64), (.int (9 : Int32)), (.ref b3), (.ref b15), (.long ((((((((F9 (1 : Int32) v64 v69 (own_d v2) own_pw) + (F9 (2 : Int32) v64 v69 (own_d v2) own_pw)) + (F9 (3 : Int32) v64 v69 (own_d v2) own_pw)) + (F9 (4 : Int32) v64 v69 (own_d v2) own_pw)) + (F9 (5 : Int32) v64 v69 (own_d v2) own_pw)) + (F9 (6 : Int32) v64 v69 (own_d v2) own_pw)) + (F9 (7 : Int32) v64 v69 (own_d v2) own_pw)) + (F9 (8 : Int32) v64 v69 (own_d v2) own_pw)))])) _
    refine st78 _ ?_
    show Steps p.tables e below (T78.setTop (mkF m 532 #[.val (.long q1), .second, .val (.int p2), .val (.int p3), .val (.int p4), .val (.int p5), .val (.long v2), .second, .val (.ref b3), .val (.ref b15), .val (.ref b37), .val (.ref b60), .val (.int v64), .val (.int v67), .val (.int v69), .unset, .unset, .unset, .unset] [(.long (F9 (9 : Int32) v64 v69 (own_d v2) own_pw)), (.long ((((((((F9 (1 : Int32) v64 v69 (own_d v2) own_pw) + (F9 (2 : Int32) v64 v69 (own_d v2) own_pw)) + (F9 (3 : Int32) v64 v69 (own_d v2) own_pw)) + (F9 (4 : Int32) v64 v69 (own_d v2) own_pw)) + (F9 (5 : Int32) v64 v69 (own_d v2) own_pw)) + (F9 (6 : Int32) v64 v69 (own_d v2) own_pw)) + (F9 (7 : Int32) v64 v69 (own_d v2) own_pw)) + (F9 (8 : Int32) v64 v69 (own_d v2) own_pw)))])) _
    refine XS.ladd X78.here hx rfl (hb hby at_532) rfl ?_
    show Steps p.tables e below (T78.setTop (mkF m 533 #[.val (.long q1), .second, .val (.int p2), .val (.int p3), .val (.int p4), .val (.int p5), .val (.long v2), .second, .val (.ref b3), .val (.ref b15), .val (.ref b37), .val (.ref b60), .val (.int v64), .val (.int v67), .val (.int v69), .unset, .unset, .unset, .unset] [(.long (((((((((F9 (1 : Int32) v64 v69 (own_d v2) own_pw) + (F9 (2 : Int32) v64 v69 (own_d v2) own_pw)) + (F9 (3 : Int32) v64 v69 (own_d v2) own_pw)) + (F9 (4 : Int32) v64 v69 (own_d v2) own_pw)) + (F9 (5 : Int32) v64 v69 (own_d v2) own_pw)) + (F9 (6 : Int32) v64 v69 (own_d v2) own_pw)) + (F9 (7 : Int32) v64 v69 (own_d v2) own_pw)) + (F9 (8 : Int32) v64 v69 (own_d v2) own_pw)) + (F9 (9 : Int32) v64 v69 (own_d v2) own_pw)))])) _
    refine XS.aload X78.here hx rfl (hb hby at_533) rfl rfl ?_
    show Steps p.tables e below (T78.setTop (mkF m 535 #[.val (.long q1), .second, .val (.int p2), .val (.int p3), .val (.int p4), .val (.int p5), .val (.long v2), .second, .val (.ref b3), .val (.ref b15), .val (.ref b37), .val (.ref b60), .val (.int v64), .val (.int v67), .val (.int v69), .unset, .unset, .unset, .unset] [(.ref b15), (.long (((((((((F9 (1 : Int32) v64 v69 (own_d v2) own_pw) + (F9 (2 : Int32) v64 v69 (own_d v2) own_pw)) + (F9 (3 : Int32) v64 v69 (own_d v2) own_pw)) + (F9 (4 : Int32) v64 v69 (own_d v2) own_pw)) + (F9 (5 : Int32) v64 v69 (own_d v2) own_pw)) + (F9 (6 : Int32) v64 v69 (own_d v2) own_pw)) + (F9 (7 : Int32) v64 v69 (own_d v2) own_pw)) + (F9 (8 : Int32) v64 v69 (own_d v2) own_pw)) + (F9 (9 : Int32) v64 v69 (own_d v2) own_pw)))])) _
    refine XS.aload X78.here hx rfl (hb hby at_535) rfl rfl ?_
    show Steps p.tables e below (T78.setTop (mkF m 537 #[.val (.long q1), .second, .val (.int p2), .val (.int p3), .val (.int p4), .val (.int p5), .val (.long v2), .second, .val (.ref b3), .val (.ref b15), .val (.ref b37), .val (.ref b60), .val (.int v64), .val (.int v67), .val (.int v69), .unset, .unset, .unset, .unset] [(.ref b3), (.ref b15), (.long (((((((((F9 (1 : Int32) v64 v69 (own_d v2) own_pw) + (F9 (2 : Int32) v64 v69 (own_d v2) own_pw)) + (F9 (3 : Int32) v64 v69 (own_d v2) own_pw)) + (F9 (4 : Int32) v64 v69 (own_d v2) own_pw)) + (F9 (5 : Int32) v64 v69 (own_d v2) own_pw)) + (F9 (6 : Int32) v64 v69 (own_d v2) own_pw)) + (F9 (7 : Int32) v64 v69 (own_d v2) own_pw)) + (F9 (8 : Int32) v64 v69 (own_d v2) own_pw)) + (F9 (9 : Int32) v64 v69 (own_d v2) own_pw)))])) _
    refine XS.bipush X78.here hx rfl (hb hby at_537) ?_
    show Steps p.tables e below (T78.setTop (mkF m 539 #[.val (.long q1), .second, .val (.int p2), .val (.int p3), .val (.int p4), .val (.int p5), .val (.long v2), .second, .val (.ref b3), .val (.ref b15), .val (.ref b37), .val (.ref b60), .val (.int v64), .val (.int v67), .val (.int v69), .unset, .unset, .unset, .unset] [(.int (10 : Int32)), (.ref b3), (.ref b15), (.long (((((((((F9 (1 : Int32) v64 v69 (own_d v2) own_pw) + (F9 (2 : Int32) v64 v69 (own_d v2) own_pw)) + (F9 (3 : Int32) v64 v69 (own_d v2) own_pw)) + (F9 (4 : Int32) v64 v69 (own_d v2) own_pw)) + (F9 (5 : Int32) v64 v69 (own_d v2) own_pw)) + (F9 (6 : Int32) v64 v69 (own_d v2) own_pw)) + (F9 (7 : Int32) v64 v69 (own_d v2) own_pw)) + (F9 (8 : Int32) v64 v69 (own_d v2) own_pw)) + (F9 (9 : Int32) v64 v69 (own_d v2) own_pw)))])) _
    refine XS.iload X78.here hx rfl (hb hby at_539) rfl ?_
    show Steps p.tables e below (T78.setTop (mkF m 541 #[.val (.long q1), .second, .val (.int p2), .val (.int p3), .val (.int p4), .val (.int p5), .val (.long v2), .second, .val (.ref b3), .val (.ref b15), .val (.ref b37), .val (.ref b60), .val (.int v64), .val (.int v67), .val (.int v69), .unset, .unset, .unset, .unset] [(.int v64), (.int (10 : Int32)), (.ref b3), (.ref b15), (.long (((((((((F9 (1 : Int32) v64 v69 (own_d v2) own_pw) + (F9 (2 : Int32) v64 v69 (own_d v2) own_pw)) + (F9 (3 : Int32) v64 v69 (own_d v2) own_pw)) + (F9 (4 : Int32) v64 v69 (own_d v2) own_pw)) + (F9 (5 : Int32) v64 v69 (own_d v2) own_pw)) + (F9 (6 : Int32) v64 v69 (own_d v2) own_pw)) + (F9 (7 : Int32) v64 v69 (own_d v2) own_pw)) + (F9 (8 : Int32) v64 v69 (own_d v2) own_pw)) + (F9 (9 : Int32) v64 v69 (own_d v2) own_pw)))])) _
    refine XS.iload X78.here hx rfl (hb hby at_541) rfl ?_
    show Steps p.tables e below (T78.setTop (mkF m 543 #[.val (.long q1), .second, .val (.int p2), .val (.int p3), .val (.int p4), .val (.int p5), .val (.long v2), .second, .val (.ref b3), .val (.ref b15), .val (.ref b37), .val (.ref b60), .val (.int v64), .val (.int v67), .val (.int v69), .unset, .unset, .unset, .unset] [(.int v69), (.int v64), (.int (10 : Int32)), (.ref b3), (.ref b15), (.long (((((((((F9 (1 : Int32) v64 v69 (own_d v2) own_pw) + (F9 (2 : Int32) v64 v69 (own_d v2) own_pw)) + (F9 (3 : Int32) v64 v69 (own_d v2) own_pw)) + (F9 (4 : Int32) v64 v69 (own_d v2) own_pw)) + (F9 (5 : Int32) v64 v69 (own_d v2) own_pw)) + (F9 (6 : Int32) v64 v69 (own_d v2) own_pw)) + (F9 (7 : Int32) v64 v69 (own_d v2) own_pw)) + (F9 (8 : Int32) v64 v69 (own_d v2) own_pw)) + (F9 (9 : Int32) v64 v69 (own_d v2) own_pw)))])) _
    refine st79 _ ?_
    show Steps p.tables e below (T79.setTop (mkF m 546 #[.val (.long q1), .second, .val (.int p2), .val (.int p3), .val (.int p4), .val (.int p5), .val (.long v2), .second, .val (.ref b3), .val (.ref b15), .val (.ref b37), .val (.ref b60), .val (.int v64), .val (.int v67), .val (.int v69), .unset, .unset, .unset, .unset] [(.long (F9 (10 : Int32) v64 v69 (own_d v2) own_pw)), (.long (((((((((F9 (1 : Int32) v64 v69 (own_d v2) own_pw) + (F9 (2 : Int32) v64 v69 (own_d v2) own_pw)) + (F9 (3 : Int32) v64 v69 (own_d v2) own_pw)) + (F9 (4 : Int32) v64 v69 (own_d v2) own_pw)) + (F9 (5 : Int32) v64 v69 (own_d v2) own_pw)) + (F9 (6 : Int32) v64 v69 (own_d v2) own_pw)) + (F9 (7 : Int32) v64 v69 (own_d v2) own_pw)) + (F9 (8 : Int32) v64 v69 (own_d v2) own_pw)) + (F9 (9 : Int32) v64 v69 (own_d v2) own_pw)))])) _
    refine XS.ladd X79.here hx rfl (hb hby at_546) rfl ?_
    exact kt
  obtain ⟨v81, hv81⟩ : ∃ zz9 : Int64, zz9 = ((((((((((F9 (1 : Int32) v64 v69 (own_d v2) own_pw) + (F9 (2 : Int32) v64 v69 (own_d v2) own_pw)) + (F9 (3 : Int32) v64 v69 (own_d v2) own_pw)) + (F9 (4 : Int32) v64 v69 (own_d v2) own_pw)) + (F9 (5 : Int32) v64 v69 (own_d v2) own_pw)) + (F9 (6 : Int32) v64 v69 (own_d v2) own_pw)) + (F9 (7 : Int32) v64 v69 (own_d v2) own_pw)) + (F9 (8 : Int32) v64 v69 (own_d v2) own_pw)) + (F9 (9 : Int32) v64 v69 (own_d v2) own_pw)) + (F9 (10 : Int32) v64 v69 (own_d v2) own_pw)) := ⟨_, rfl⟩
  rw [← hv81] at R80
  obtain ⟨_, _, ⟨T82, L82, k82, n82⟩, -, X82, ⟨Lc82, hQ82, l82, y82, z82⟩, st82⟩ := Jvm.LawKit.callS X79 hx (y := (⟨"com/example/lookback/lookback/PlainDecimals", "valueOf", "(Ljava/lang/String;II)I"⟩ : MethodName)) hown (mvT hZ (hw _ (List.mem_of_getElem? (i := 53) rfl))) (mvT hZ (hw _ (List.mem_of_getElem? (i := 54) rfl))) (mvT hZ (hw _ (List.mem_of_getElem? (i := 55) rfl))) (mvT hZ (hw _ (List.mem_of_getElem? (i := 56) rfl))) (by decide) (backOf (W := 0) (rm10 l Z a0 hw [] b60 v64 v69 t62 (12 : Int32) (own_u p2 p3 v2) G1 G3 T62.heap n0 Z62 Ex62 Fc62 Fv62 (own_V Av62) (by decide) (O2.ext (own_ext KK62)) P5 (O4.ext (own_ext KK62)) rG3 (own_vp (own_se hv64 hv67 hv69))) hZ (hw _ (List.mem_of_getElem? (i := 56) rfl)) (hw _ (List.mem_of_getElem? (i := 55) rfl)) (by decide) (by decide)) (g := (mkF m 555 #[.val (.long q1), .second, .val (.int p2), .val (.int p3), .val (.int p4), .val (.int p5), .val (.long v2), .second, .val (.ref b3), .val (.ref b15), .val (.ref b37), .val (.ref b60), .val (.int v64), .val (.int v67), .val (.int v69), .val (.long v81), .second, .unset, .unset] [(.int v69), (.int v64), (.ref b60)])) rfl (by rw [hml]; rfl) (argsL := [(.ref b60), (.int v64), (.int v69)]) (rest := []) (lenOf pd_0_10 rfl) rfl (by show 2 * 0 + _ ≤ _; exact Nat.le_of_eq rfl) (hb hby at_555) (fun _ _ => ⟨rfl, e79, (by decide : 5 + 0 ≤ _), (by decide : 50 + 0 ≤ _)⟩)
  dsimp only [Pt.U, Pt.locs, Pt.cells, Pt.slots] at X82 l82 y82 z82 st82 hQ82
  subst l82 y82 z82
  obtain ⟨rfl, rfl, e82⟩ := hQ82
  rw [List.append_nil] at X82
  replace X82 : Stand p l e room_1 s m #[(.long q1), (.int p2), (.int p3), (.int p4), (.int p5)] below meth c T82 (L59 ++ Lc62) 5 50 := X82
  have R83 : ∀ t, Steps p.tables e below (T82.setTop (mkF m 559 #[.val (.long q1), .second, .val (.int p2), .val (.int p3), .val (.int p4), .val (.int p5), .val (.long v2), .second, .val (.ref b3), .val (.ref b15), .val (.ref b37), .val (.ref b60), .val (.int v64), .val (.int v67), .val (.int v69), .val (.long v81), .second, .unset, .unset] [(.long ((F10 v64 v69 (own_u p2 p3 v2)).toInt64))])) t → Steps p.tables e below (s₁.setTop (entryFrame m #[(.long q1), (.int p2), (.int p3), (.int p4), (.int p5)] maxLocals)) t := by
    intro t kt
    refine R80 _ ?_
    show Steps p.tables e below (T79.setTop (mkF m 547 #[.val (.long q1), .second, .val (.int p2), .val (.int p3), .val (.int p4), .val (.int p5), .val (.long v2), .second, .val (.ref b3), .val (.ref b15), .val (.ref b37), .val (.ref b60), .val (.int v64), .val (.int v67), .val (.int v69), .unset, .unset, .unset, .unset] [(.long v81)])) _
    refine XS.lstore X79.here hx rfl (hb hby at_547) rfl (l' := #[.val (.long q1), .second, .val (.int p2), .val (.int p3), .val (.int p4), .val (.int p5), .val (.long v2), .second, .val (.ref b3), .val (.ref b15), .val (.ref b37), .val (.ref b60), .val (.int v64), .val (.int v67), .val (.int v69), .val (.long v81), .second, .unset, .unset]) rfl ?_
    show Steps p.tables e below (T79.setTop (mkF m 549 #[.val (.long q1), .second, .val (.int p2), .val (.int p3), .val (.int p4), .val (.int p5), .val (.long v2), .second, .val (.ref b3), .val (.ref b15), .val (.ref b37), .val (.ref b60), .val (.int v64), .val (.int v67), .val (.int v69), .val (.long v81), .second, .unset, .unset] [])) _
    refine XS.aload X79.here hx rfl (hb hby at_549) rfl rfl ?_
    show Steps p.tables e below (T79.setTop (mkF m 551 #[.val (.long q1), .second, .val (.int p2), .val (.int p3), .val (.int p4), .val (.int p5), .val (.long v2), .second, .val (.ref b3), .val (.ref b15), .val (.ref b37), .val (.ref b60), .val (.int v64), .val (.int v67), .val (.int v69), .val (.long v81), .second, .unset, .unset] [(.ref b60)])) _
    refine XS.iload X79.here hx rfl (hb hby at_551) rfl ?_
    show Steps p.tables e below (T79.setTop (mkF m 553 #[.val (.long q1), .second, .val (.int p2), .val (.int p3), .val (.int p4), .val (.int p5), .val (.long v2), .second, .val (.ref b3), .val (.ref b15), .val (.ref b37), .val (.ref b60), .val (.int v64), .val (.int v67), .val (.int v69), .val (.long v81), .second, .unset, .unset] [(.int v64), (.ref b60)])) _
    refine XS.iload X79.here hx rfl (hb hby at_553) rfl ?_
    show Steps p.tables e below (T79.setTop (mkF m 555 #[.val (.long q1), .second, .val (.int p2), .val (.int p3), .val (.int p4), .val (.int p5), .val (.long v2), .second, .val (.ref b3), .val (.ref b15), .val (.ref b37), .val (.ref b60), .val (.int v64), .val (.int v67), .val (.int v69), .val (.long v81), .second, .unset, .unset] [(.int v69), (.int v64), (.ref b60)])) _
    refine st82 _ ?_
    show Steps p.tables e below (T82.setTop (mkF m 558 #[.val (.long q1), .second, .val (.int p2), .val (.int p3), .val (.int p4), .val (.int p5), .val (.long v2), .second, .val (.ref b3), .val (.ref b15), .val (.ref b37), .val (.ref b60), .val (.int v64), .val (.int v67), .val (.int v69), .val (.long v81), .second, .unset, .unset] [(.int (F10 v64 v69 (own_u p2 p3 v2)))])) _
    refine XS.i2l X82.here hx rfl (hb hby at_558) rfl ?_
    exact kt
  obtain ⟨v84, hv84⟩ : ∃ zz9 : Int64, zz9 = ((F10 v64 v69 (own_u p2 p3 v2)).toInt64) := ⟨_, rfl⟩
  rw [← hv84] at R83
  have R86 : ∀ t, Steps p.tables e below (T82.setTop (mkF m 566 #[.val (.long q1), .second, .val (.int p2), .val (.int p3), .val (.int p4), .val (.int p5), .val (.long v2), .second, .val (.ref b3), .val (.ref b15), .val (.ref b37), .val (.ref b60), .val (.int v64), .val (.int v67), .val (.int v69), .val (.long v81), .second, .val (.long v84), .second] [(.int (lcmpW v84 v81))])) t → Steps p.tables e below (s₁.setTop (entryFrame m #[(.long q1), (.int p2), (.int p3), (.int p4), (.int p5)] maxLocals)) t := by
    intro t kt
    refine R83 _ ?_
    show Steps p.tables e below (T82.setTop (mkF m 559 #[.val (.long q1), .second, .val (.int p2), .val (.int p3), .val (.int p4), .val (.int p5), .val (.long v2), .second, .val (.ref b3), .val (.ref b15), .val (.ref b37), .val (.ref b60), .val (.int v64), .val (.int v67), .val (.int v69), .val (.long v81), .second, .unset, .unset] [(.long v84)])) _
    refine XS.lstore X82.here hx rfl (hb hby at_559) rfl (l' := #[.val (.long q1), .second, .val (.int p2), .val (.int p3), .val (.int p4), .val (.int p5), .val (.long v2), .second, .val (.ref b3), .val (.ref b15), .val (.ref b37), .val (.ref b60), .val (.int v64), .val (.int v67), .val (.int v69), .val (.long v81), .second, .val (.long v84), .second]) rfl ?_
    show Steps p.tables e below (T82.setTop (mkF m 561 #[.val (.long q1), .second, .val (.int p2), .val (.int p3), .val (.int p4), .val (.int p5), .val (.long v2), .second, .val (.ref b3), .val (.ref b15), .val (.ref b37), .val (.ref b60), .val (.int v64), .val (.int v67), .val (.int v69), .val (.long v81), .second, .val (.long v84), .second] [])) _
    refine XS.lload X82.here hx rfl (hb hby at_561) rfl ?_
    show Steps p.tables e below (T82.setTop (mkF m 563 #[.val (.long q1), .second, .val (.int p2), .val (.int p3), .val (.int p4), .val (.int p5), .val (.long v2), .second, .val (.ref b3), .val (.ref b15), .val (.ref b37), .val (.ref b60), .val (.int v64), .val (.int v67), .val (.int v69), .val (.long v81), .second, .val (.long v84), .second] [(.long v84)])) _
    refine XS.lload X82.here hx rfl (hb hby at_563) rfl ?_
    show Steps p.tables e below (T82.setTop (mkF m 565 #[.val (.long q1), .second, .val (.int p2), .val (.int p3), .val (.int p4), .val (.int p5), .val (.long v2), .second, .val (.ref b3), .val (.ref b15), .val (.ref b37), .val (.ref b60), .val (.int v64), .val (.int v67), .val (.int v69), .val (.long v81), .second, .val (.long v84), .second] [(.long v81), (.long v84)])) _
    refine XS.lcmp X82.here hx rfl (hb hby at_565) rfl ?_
    exact kt
  have J91 : ∃ (v89 : Int32), v89 = (if v84 = v81 then (1 : Int32) else (0 : Int32)) ∧ ∀ t, Steps p.tables e below (T82.setTop (mkF m 574 #[.val (.long q1), .second, .val (.int p2), .val (.int p3), .val (.int p4), .val (.int p5), .val (.long v2), .second, .val (.ref b3), .val (.ref b15), .val (.ref b37), .val (.ref b60), .val (.int v64), .val (.int v67), .val (.int v69), .val (.long v81), .second, .val (.long v84), .second] [(.int v89)])) t → Steps p.tables e below (s₁.setTop (entryFrame m #[(.long q1), (.int p2), (.int p3), (.int p4), (.int p5)] maxLocals)) t := by
    by_cases hc85 : v84 = v81
    · have R87 : ∀ t, Steps p.tables e below (T82.setTop (mkF m 574 #[.val (.long q1), .second, .val (.int p2), .val (.int p3), .val (.int p4), .val (.int p5), .val (.long v2), .second, .val (.ref b3), .val (.ref b15), .val (.ref b37), .val (.ref b60), .val (.int v64), .val (.int v67), .val (.int v69), .val (.long v81), .second, .val (.long v84), .second] [(.int (1 : Int32))])) t → Steps p.tables e below (s₁.setTop (entryFrame m #[(.long q1), (.int p2), (.int p3), (.int p4), (.int p5)] maxLocals)) t := by
        intro t kt
        refine R86 _ ?_
        show Steps p.tables e below (T82.setTop (mkF m 566 #[.val (.long q1), .second, .val (.int p2), .val (.int p3), .val (.int p4), .val (.int p5), .val (.long v2), .second, .val (.ref b3), .val (.ref b15), .val (.ref b37), .val (.ref b60), .val (.int v64), .val (.int v67), .val (.int v69), .val (.long v81), .second, .val (.long v84), .second] [(.int (lcmpW v84 v81))])) _
        refine XS.ifNo X82.here hx rfl (hb hby at_566) rfl ((if0 _ _).trans (teq ((lw_eq _ _).mpr hc85)).2) ?_
        show Steps p.tables e below (T82.setTop (mkF m 569 #[.val (.long q1), .second, .val (.int p2), .val (.int p3), .val (.int p4), .val (.int p5), .val (.long v2), .second, .val (.ref b3), .val (.ref b15), .val (.ref b37), .val (.ref b60), .val (.int v64), .val (.int v67), .val (.int v69), .val (.long v81), .second, .val (.long v84), .second] [])) _
        refine XS.iconst X82.here hx rfl (hb hby at_569) ?_
        show Steps p.tables e below (T82.setTop (mkF m 570 #[.val (.long q1), .second, .val (.int p2), .val (.int p3), .val (.int p4), .val (.int p5), .val (.long v2), .second, .val (.ref b3), .val (.ref b15), .val (.ref b37), .val (.ref b60), .val (.int v64), .val (.int v67), .val (.int v69), .val (.long v81), .second, .val (.long v84), .second] [(.int (1 : Int32))])) _
        refine XS.goto X82.here hx rfl (pc0 := 570) (pc' := 574) rfl (hb hby at_570) (by decide) (by decide) ?_
        exact kt
      exact ⟨(1 : Int32), (by rw [if_pos hc85]), R87⟩
    · have R88 : ∀ t, Steps p.tables e below (T82.setTop (mkF m 574 #[.val (.long q1), .second, .val (.int p2), .val (.int p3), .val (.int p4), .val (.int p5), .val (.long v2), .second, .val (.ref b3), .val (.ref b15), .val (.ref b37), .val (.ref b60), .val (.int v64), .val (.int v67), .val (.int v69), .val (.long v81), .second, .val (.long v84), .second] [(.int (0 : Int32))])) t → Steps p.tables e below (s₁.setTop (entryFrame m #[(.long q1), (.int p2), (.int p3), (.int p4), (.int p5)] maxLocals)) t := by
        intro t kt
        refine R86 _ ?_
        show Steps p.tables e below (T82.setTop (mkF m 566 #[.val (.long q1), .second, .val (.int p2), .val (.int p3), .val (.int p4), .val (.int p5), .val (.long v2), .second, .val (.ref b3), .val (.ref b15), .val (.ref b37), .val (.ref b60), .val (.int v64), .val (.int v67), .val (.int v69), .val (.long v81), .second, .val (.long v84), .second] [(.int (lcmpW v84 v81))])) _
        refine XS.ifYes X82.here hx rfl (pc0 := 566) (pc' := 573) rfl (hb hby at_566) rfl ((if0 _ _).trans (feq (fun q => hc85 ((lw_eq _ _).mp q))).2) (by decide) (by decide) ?_
        show Steps p.tables e below (T82.setTop (mkF m 573 #[.val (.long q1), .second, .val (.int p2), .val (.int p3), .val (.int p4), .val (.int p5), .val (.long v2), .second, .val (.ref b3), .val (.ref b15), .val (.ref b37), .val (.ref b60), .val (.int v64), .val (.int v67), .val (.int v69), .val (.long v81), .second, .val (.long v84), .second] [])) _
        refine XS.iconst X82.here hx rfl (hb hby at_573) ?_
        exact kt
      exact ⟨(0 : Int32), (by rw [if_neg hc85]), R88⟩
  obtain ⟨v89, hv89, R90⟩ := J91
  obtain ⟨fs, hr, hrun, hended, hW, hsame⟩ := X82.leave (v := some (.int (nar .boolean v89))) (fun h => by rw [Bd.returns] at h; cases h)
  refine ⟨_, _, R90 _ ?_, hrun, hended, _, _, rfl, ?_, ⟨_, rfl⟩, hW, hsame.mono (by decide) (by decide)⟩
  · show Steps p.tables e below (T82.setTop (mkF m 574 #[.val (.long q1), .second, .val (.int p2), .val (.int p3), .val (.int p4), .val (.int p5), .val (.long v2), .second, .val (.ref b3), .val (.ref b15), .val (.ref b37), .val (.ref b60), .val (.int v64), .val (.int v67), .val (.int v69), .val (.long v81), .second, .val (.long v84), .second] [(.int v89)])) _
    exact retN X82 hx (t := .boolean) Bd.returns (by simp) (hb hby at_574) hr
  · show Q0 Z q1 p2 p3 p4 p5 G1 G3 h0 n0 _ T82.heap _
    rw [e82]
    refine ⟨?_, N62⟩
    subst hv2 hv64 hv67 hv69 hv81 hv84 hv89; rfl
/-- the value of k digits from place i on, as a number -/
def own_P (D : Nat → Int) (i : Nat) : Nat → Int
  | 0 => 0
  | k + 1 => 10 * own_P D i k + D (i + k)
theorem own_Pb (D : Nat → Int) (i : Nat) : ∀ k, (∀ j, i ≤ j → j < i + k → 0 ≤ D j ∧ D j ≤ 9) → 0 ≤ own_P D i k ∧ own_P D i k < 10 ^ k
  | 0, _ => by simp [own_P]
  | k + 1, h => by
    have ih := own_Pb D i k (fun j a b => h j a (by omega))
    have d := h (i + k) (by omega) (by omega)
    have e : (10 : Int) ^ (k + 1) = 10 ^ k * 10 := Int.pow_succ 10 k
    show 0 ≤ 10 * own_P D i k + D (i + k) ∧ 10 * own_P D i k + D (i + k) < 10 ^ (k + 1)
    rw [e]; omega
def own_t (D : Nat → Int) (i S E : Nat) : Int := if i < S then 0 else if i < E then D i * 10 ^ (E - 1 - i) else 0
theorem own_t0 (D : Nat → Int) (i S : Nat) : own_t D i S S = 0 := by
  unfold own_t
  by_cases h : i < S
  · rw [if_pos h]
  · rw [if_neg h, if_neg h]
theorem own_t1 (D : Nat → Int) (i S E : Nat) (h : S ≤ E) : own_t D i S (E + 1) = 10 * own_t D i S E + (if i = E then D E else 0) := by
  unfold own_t
  by_cases h1 : i < S
  · rw [if_pos h1, if_pos h1, if_neg (by omega)]; rfl
  · rw [if_neg h1, if_neg h1]
    by_cases h2 : i < E
    · rw [if_pos (by omega), if_pos h2, if_neg (by omega), show E + 1 - 1 - i = (E - 1 - i) + 1 by omega, Int.pow_succ, Int.add_zero, ← Int.mul_assoc, Int.mul_comm]
    · rw [if_neg h2]
      by_cases h3 : i = E
      · subst h3
        rw [if_pos (by omega), if_pos rfl, show i + 1 - 1 - i = 0 by omega]; simp
      · rw [if_neg (by omega), if_neg h3]; rfl
def own_r (D : Nat → Int) (S E : Nat) : Int := own_t D 1 S E + own_t D 2 S E + own_t D 3 S E + own_t D 4 S E + own_t D 5 S E + own_t D 6 S E + own_t D 7 S E + own_t D 8 S E + own_t D 9 S E + own_t D 10 S E
theorem own_one (x : Int) (E : Nat) (h1 : 1 ≤ E) (h2 : E ≤ 10) : (if 1 = E then x else 0) + (if 2 = E then x else 0) + (if 3 = E then x else 0) + (if 4 = E then x else 0) + (if 5 = E then x else 0) + (if 6 = E then x else 0) + (if 7 = E then x else 0) + (if 8 = E then x else 0) + (if 9 = E then x else 0) + (if 10 = E then x else 0) = x := by
  match E, h1, h2 with
  | 1, _, _ => simp
  | 2, _, _ => simp
  | 3, _, _ => simp
  | 4, _, _ => simp
  | 5, _, _ => simp
  | 6, _, _ => simp
  | 7, _, _ => simp
  | 8, _, _ => simp
  | 9, _, _ => simp
  | 10, _, _ => simp
theorem own_rP (D : Nat → Int) (S : Nat) (h1 : 1 ≤ S) : ∀ k, S + k ≤ 11 → own_r D S (S + k) = own_P D S k
  | 0, _ => by
    show own_r D S S = 0
    simp only [own_r, own_t0]; rfl
  | k + 1, h => by
    have ih := own_rP D S h1 k (by omega)
    have o := own_one (D (S + k)) (S + k) (by omega) (by omega)
    show own_r D S (S + k + 1) = 10 * own_P D S k + D (S + k)
    rw [← ih]
    simp only [own_r, own_t1 D _ S (S + k) (by omega)]
    omega
theorem own_pwI (j : Nat) (h : j < 10) : (own_pw j).toInt = 10 ^ j ∧ (10 : Int) ^ j ≤ 1000000000 := by
  match j, h with
  | 0, _ => exact ⟨by decide, by decide⟩
  | 1, _ => exact ⟨by decide, by decide⟩
  | 2, _ => exact ⟨by decide, by decide⟩
  | 3, _ => exact ⟨by decide, by decide⟩
  | 4, _ => exact ⟨by decide, by decide⟩
  | 5, _ => exact ⟨by decide, by decide⟩
  | 6, _ => exact ⟨by decide, by decide⟩
  | 7, _ => exact ⟨by decide, by decide⟩
  | 8, _ => exact ⟨by decide, by decide⟩
  | 9, _ => exact ⟨by decide, by decide⟩
theorem own_term (i s e : Int32) (u : Nat → Int32) (I : Nat) (hI : i.toInt = I) (hi : 1 ≤ i.toInt ∧ i.toInt ≤ 10) (hu : 0 ≤ (u I).toInt ∧ (u I).toInt ≤ 9) (h : 1 ≤ s.toInt ∧ s.toInt ≤ 10 ∧ s.toInt ≤ e.toInt ∧ e.toInt ≤ 11 ∧ e.toInt - s.toInt ≤ 9) :
    (F9 i s e u own_pw).toInt = own_t (fun j => (u j).toInt) I s.toNatClampNeg e.toNatClampNeg ∧ 0 ≤ (F9 i s e u own_pw).toInt ∧ (F9 i s e u own_pw).toInt ≤ 9000000000 := by
  have eS : (s.toNatClampNeg : Int) = s.toInt := by simp only [Int32.toNatClampNeg]; omega
  have eE : (e.toNatClampNeg : Int) = e.toInt := by simp only [Int32.toNatClampNeg]; omega
  have eI : i.toNatClampNeg = I := by simp only [Int32.toNatClampNeg]; omega
  by_cases q1 : i < s
  · have z : F9 i s e u own_pw = 0 := by unfold F9; rw [if_pos q1]
    rw [Int32.lt_iff_toInt_lt] at q1
    rw [z]
    unfold own_t
    rw [if_pos (by omega)]
    decide
  · by_cases q2 : i < e
    · have k := own_tix hi h q1 q2
      have z : F9 i s e u own_pw = ((u i.toNatClampNeg).toInt64) * (own_pw ((e - (1 : Int32)) - i).toNatClampNeg) := by unfold F9; rw [if_neg q1, if_pos q2]
      rw [Int32.lt_iff_toInt_lt] at q1 q2
      have a := c_isub e 1
      have ra := rng32 (e - 1)
      rw [show (1 : Int32).toInt = 1 from rfl] at a
      have a2 : (e - 1).toInt = e.toInt - 1 := by omega
      have b := c_isub (e - 1) i
      have rb := rng32 ((e - 1) - i)
      have b2 : ((e - 1) - i).toInt = e.toInt - 1 - i.toInt := by omega
      have nx : ((e - (1 : Int32)) - i).toNatClampNeg = e.toNatClampNeg - 1 - I := by simp only [Int32.toNatClampNeg, b2] at *; omega
      rw [z, nx, eI]
      have w := own_pwI (e.toNatClampNeg - 1 - I) (by omega)
      have c := c_lmul ((u I).toInt64) (own_pw (e.toNatClampNeg - 1 - I))
      have rc := rng64 (((u I).toInt64) * (own_pw (e.toNatClampNeg - 1 - I)))
      rw [c_i2l, w.1] at c
      have pos : (0 : Int) ≤ 10 ^ (e.toNatClampNeg - 1 - I) := Int.le_of_lt (Int.pow_pos (by decide))
      have m1 : 0 ≤ (u I).toInt * 10 ^ (e.toNatClampNeg - 1 - I) := Int.mul_nonneg hu.1 pos
      have m2 : (u I).toInt * 10 ^ (e.toNatClampNeg - 1 - I) ≤ 9 * 1000000000 := Int.mul_le_mul hu.2 w.2 pos (by decide)
      have fin : (((u I).toInt64) * (own_pw (e.toNatClampNeg - 1 - I))).toInt = (u I).toInt * 10 ^ (e.toNatClampNeg - 1 - I) := by
        generalize (u I).toInt * 10 ^ (e.toNatClampNeg - 1 - I) = M at *
        omega
      rw [fin]
      refine ⟨?_, m1, by omega⟩
      unfold own_t
      rw [if_neg (by omega), if_pos (by omega)]
    · have z : F9 i s e u own_pw = 0 := by unfold F9; rw [if_neg q1, if_neg q2]
      rw [Int32.lt_iff_toInt_lt] at q1 q2
      rw [z]
      unfold own_t
      rw [if_neg (by omega), if_neg (by omega)]
      decide
theorem own_add (x y : Int64) (A B : Int) (hx : x.toInt = A) (hy : y.toInt = B) (h1 : 0 ≤ A) (h2 : 0 ≤ B) (h3 : A + B < 1000000000000) : (x + y).toInt = A + B := by
  have a := c_ladd x y
  have r := rng64 (x + y)
  rw [hx, hy] at a
  omega
theorem own_cd (d : Int32) (h : 0 ≤ d.toInt ∧ d.toInt ≤ 9) : (nar .char (nar .char (((((nar .char (((48 : Int32) + d).toUInt32.toUInt16.toUInt32.toInt32)).toInt8.toInt32) &&& (255 : Int32))).toUInt32.toUInt16.toUInt32.toInt32))) - (48 : Int32) = d := by
  obtain ⟨k, rfl⟩ := own_enum d 0 10 (by omega) (by omega)
  clear h; revert k; decide +kernel
theorem own_cu (x y : Int32) (q : Int64) (hq : 0 ≤ q.toInt) (j : Nat) (h1 : 1 ≤ j) (h2 : j ≤ 10) : own_c (own_u x y q) j - (48 : Int32) = own_d q j := by
  match j, h1, h2 with
  | 1, _, _ => exact own_cd _ (own_dr q hq 1 (by decide) (by decide))
  | 2, _, _ => exact own_cd _ (own_dr q hq 2 (by decide) (by decide))
  | 3, _, _ => exact own_cd _ (own_dr q hq 3 (by decide) (by decide))
  | 4, _, _ => exact own_cd _ (own_dr q hq 4 (by decide) (by decide))
  | 5, _, _ => exact own_cd _ (own_dr q hq 5 (by decide) (by decide))
  | 6, _, _ => exact own_cd _ (own_dr q hq 6 (by decide) (by decide))
  | 7, _, _ => exact own_cd _ (own_dr q hq 7 (by decide) (by decide))
  | 8, _, _ => exact own_cd _ (own_dr q hq 8 (by decide) (by decide))
  | 9, _, _ => exact own_cd _ (own_dr q hq 9 (by decide) (by decide))
  | 10, _, _ => exact own_cd _ (own_dr q hq 10 (by decide) (by decide))
theorem own_valI (x y : Int32) (q : Int64) (hq : 0 ≤ q.toInt) (i : Nat) (hi : 1 ≤ i) : ∀ k, i + k ≤ 11 → k ≤ 9 → (own_val (own_u x y q) i k).toInt = own_P (fun j => (own_d q j).toInt) i k
  | 0, _, _ => rfl
  | k + 1, h, h9 => by
    have ih := own_valI x y q hq i hi k (by omega) (by omega)
    have e : own_val (own_u x y q) i (k + 1) = (((10 : Int32) * own_val (own_u x y q) i k) + (own_c (own_u x y q) (i + k) - (48 : Int32))) := rfl
    rw [e, own_cu x y q hq (i + k) (by omega) (by omega)]
    have b := own_Pb (fun j => (own_d q j).toInt) i k (fun j a b => own_dr q hq j (by omega) (by omega))
    have d := own_dr q hq (i + k) (by omega) (by omega)
    have p : (10 : Int) ^ k ≤ 100000000 := by
      match k, (show k ≤ 8 by omega) with
      | 0, _ => decide
      | 1, _ => decide
      | 2, _ => decide
      | 3, _ => decide
      | 4, _ => decide
      | 5, _ => decide
      | 6, _ => decide
      | 7, _ => decide
      | 8, _ => decide
    have m := c_imul 10 (own_val (own_u x y q) i k)
    have rm := rng32 ((10 : Int32) * own_val (own_u x y q) i k)
    rw [show (10 : Int32).toInt = 10 from rfl, ih] at m
    show _ = 10 * own_P (fun j => (own_d q j).toInt) i k + (own_d q (i + k)).toInt
    generalize own_P (fun j => (own_d q j).toInt) i k = PP at *
    generalize (10 : Int) ^ k = T at *
    have m2 : ((10 : Int32) * own_val (own_u x y q) i k).toInt = 10 * PP := by omega
    have a := c_iadd ((10 : Int32) * own_val (own_u x y q) i k) (own_d q (i + k))
    have ra := rng32 (((10 : Int32) * own_val (own_u x y q) i k) + (own_d q (i + k)))
    rw [m2] at a
    clear m rm
    omega
theorem own_sum (x y s e : Int32) (q : Int64) (hq : 0 ≤ q.toInt) (h : 1 ≤ s.toInt ∧ s.toInt ≤ 10 ∧ s.toInt ≤ e.toInt ∧ e.toInt ≤ 11 ∧ e.toInt - s.toInt ≤ 9) :
    ((F10 s e (own_u x y q)).toInt64) = ((((((((((F9 (1 : Int32) s e (own_d q) own_pw) + (F9 (2 : Int32) s e (own_d q) own_pw)) + (F9 (3 : Int32) s e (own_d q) own_pw)) + (F9 (4 : Int32) s e (own_d q) own_pw)) + (F9 (5 : Int32) s e (own_d q) own_pw)) + (F9 (6 : Int32) s e (own_d q) own_pw)) + (F9 (7 : Int32) s e (own_d q) own_pw)) + (F9 (8 : Int32) s e (own_d q) own_pw)) + (F9 (9 : Int32) s e (own_d q) own_pw)) + (F9 (10 : Int32) s e (own_d q) own_pw)) := by
  apply Int64.toInt_inj.mp
  have t1 := own_term (1 : Int32) s e (own_d q) 1 rfl (by decide) (own_dr q hq 1 (by decide) (by decide)) h
  have t2 := own_term (2 : Int32) s e (own_d q) 2 rfl (by decide) (own_dr q hq 2 (by decide) (by decide)) h
  have t3 := own_term (3 : Int32) s e (own_d q) 3 rfl (by decide) (own_dr q hq 3 (by decide) (by decide)) h
  have t4 := own_term (4 : Int32) s e (own_d q) 4 rfl (by decide) (own_dr q hq 4 (by decide) (by decide)) h
  have t5 := own_term (5 : Int32) s e (own_d q) 5 rfl (by decide) (own_dr q hq 5 (by decide) (by decide)) h
  have t6 := own_term (6 : Int32) s e (own_d q) 6 rfl (by decide) (own_dr q hq 6 (by decide) (by decide)) h
  have t7 := own_term (7 : Int32) s e (own_d q) 7 rfl (by decide) (own_dr q hq 7 (by decide) (by decide)) h
  have t8 := own_term (8 : Int32) s e (own_d q) 8 rfl (by decide) (own_dr q hq 8 (by decide) (by decide)) h
  have t9 := own_term (9 : Int32) s e (own_d q) 9 rfl (by decide) (own_dr q hq 9 (by decide) (by decide)) h
  have t10 := own_term (10 : Int32) s e (own_d q) 10 rfl (by decide) (own_dr q hq 10 (by decide) (by decide)) h
  have a2 := own_add _ _ _ _ t1.1 t2.1 (by rw [← t1.1]; omega) (by rw [← t2.1]; omega) (by rw [← t1.1, ← t2.1]; omega)
  have a3 := own_add _ _ _ _ a2 t3.1 (by rw [← t1.1, ← t2.1]; omega) (by rw [← t3.1]; omega) (by rw [← t1.1, ← t2.1, ← t3.1]; omega)
  have a4 := own_add _ _ _ _ a3 t4.1 (by rw [← t1.1, ← t2.1, ← t3.1]; omega) (by rw [← t4.1]; omega) (by rw [← t1.1, ← t2.1, ← t3.1, ← t4.1]; omega)
  have a5 := own_add _ _ _ _ a4 t5.1 (by rw [← t1.1, ← t2.1, ← t3.1, ← t4.1]; omega) (by rw [← t5.1]; omega) (by rw [← t1.1, ← t2.1, ← t3.1, ← t4.1, ← t5.1]; omega)
  have a6 := own_add _ _ _ _ a5 t6.1 (by rw [← t1.1, ← t2.1, ← t3.1, ← t4.1, ← t5.1]; omega) (by rw [← t6.1]; omega) (by rw [← t1.1, ← t2.1, ← t3.1, ← t4.1, ← t5.1, ← t6.1]; omega)
  have a7 := own_add _ _ _ _ a6 t7.1 (by rw [← t1.1, ← t2.1, ← t3.1, ← t4.1, ← t5.1, ← t6.1]; omega) (by rw [← t7.1]; omega) (by rw [← t1.1, ← t2.1, ← t3.1, ← t4.1, ← t5.1, ← t6.1, ← t7.1]; omega)
  have a8 := own_add _ _ _ _ a7 t8.1 (by rw [← t1.1, ← t2.1, ← t3.1, ← t4.1, ← t5.1, ← t6.1, ← t7.1]; omega) (by rw [← t8.1]; omega) (by rw [← t1.1, ← t2.1, ← t3.1, ← t4.1, ← t5.1, ← t6.1, ← t7.1, ← t8.1]; omega)
  have a9 := own_add _ _ _ _ a8 t9.1 (by rw [← t1.1, ← t2.1, ← t3.1, ← t4.1, ← t5.1, ← t6.1, ← t7.1, ← t8.1]; omega) (by rw [← t9.1]; omega) (by rw [← t1.1, ← t2.1, ← t3.1, ← t4.1, ← t5.1, ← t6.1, ← t7.1, ← t8.1, ← t9.1]; omega)
  have a10 := own_add _ _ _ _ a9 t10.1 (by rw [← t1.1, ← t2.1, ← t3.1, ← t4.1, ← t5.1, ← t6.1, ← t7.1, ← t8.1, ← t9.1]; omega) (by rw [← t10.1]; omega) (by rw [← t1.1, ← t2.1, ← t3.1, ← t4.1, ← t5.1, ← t6.1, ← t7.1, ← t8.1, ← t9.1, ← t10.1]; omega)
  rw [a10, c_i2l]
  have eS : (s.toNatClampNeg : Int) = s.toInt := by simp only [Int32.toNatClampNeg]; omega
  have eE : (e.toNatClampNeg : Int) = e.toInt := by simp only [Int32.toNatClampNeg]; omega
  have f : (F10 s e (own_u x y q)).toInt = own_P (fun j => (own_d q j).toInt) s.toNatClampNeg (e.toNatClampNeg - s.toNatClampNeg) := own_valI x y q hq s.toNatClampNeg (by omega) (e.toNatClampNeg - s.toNatClampNeg) (by omega) (by omega)
  have g := own_rP (fun j => (own_d q j).toInt) s.toNatClampNeg (by omega) (e.toNatClampNeg - s.toNatClampNeg) (by omega)
  rw [show s.toNatClampNeg + (e.toNatClampNeg - s.toNatClampNeg) = e.toNatClampNeg by omega] at g
  rw [f, ← g]
  rfl
theorem own_core (a b : Int64) (h : a = b) : nar .boolean (if a = b then (1 : Int32) else (0 : Int32)) = 1 := by rw [if_pos h]; rfl
theorem own_plain (q1 : Int64) (p2 p3 p4 p5 : Int32) : F0 q1 p2 p3 p4 p5 = 1 :=
  own_core _ _ (own_sum p2 p3 _ _ _ (own_qn rfl) (own_se (p4 := p4) (p5 := p5) rfl rfl rfl))
theorem own_fin {Z : State} (q1 : Int64) (p2 : Int32) (p3 : Int32) (p4 : Int32) (p5 : Int32) (G1 : Int32) (G3 : Value) (h0 : Heap) (n0 : Nat) (h : Heap) (L : List Loc) {v : Option Value} (q : Q0 Z q1 p2 p3 p4 p5 G1 G3 h0 n0 v h L) : v = some (.int (1 : Int32)) ∧ Fr n0 L := by
  obtain ⟨rfl, N⟩ := q
  exact ⟨by rw [own_plain], N⟩
set_option maxRecDepth 65536 in
set_option maxHeartbeats 40000000 in
theorem comes_1 {Post : Tables → Env → Array Value → State → Outcome → State → Prop} (hpost : ∀ tb e args s v u, (limb_1_1.after args s (.returned v) u = true ∧ limb_1_2.after args s (.returned v) u = true ∧ True) → FrameEnd s (.returned v) u (Jvm.fieldLocs frame_1_writes args s ++ Jvm.arrayLocs frame_1_arrays args s ++ Jvm.staticLocs frame_1_statics s) 24 192 → Post tb e args s (.returned v) u) :
    ArmFor flags0 classFile x code maxLocals ret World_1 tables_1 room_1 Calls_1 rest_1 Pre_1 Post := by
  intro l hfl _ _ p e ha hc hk s m args below hf hA hF happ hP
  obtain ⟨hcalls, hrest, hpre⟩ := hP
  obtain ⟨-, -, -, hnamed, -, -, -, hat⟩ := (Spec.applies_iff hf).mp happ
  obtain ⟨hg, hn⟩ := and_e (Cond.before_iff.mp (show (Jvm.Cond.and given_1 narrow_1).before args s = true from hpre))
  obtain ⟨ga0, gb0⟩ := and_e hg
  obtain ⟨ga1, gb1⟩ := and_e gb0
  obtain ⟨ga2, gb2⟩ := and_e gb1
  obtain ⟨ga3, gb3⟩ := and_e gb2
  obtain ⟨ga4, gb4⟩ := and_e gb3
  obtain ⟨w0, w1, w2, w3, w4, rfl⟩ : ∃ w0 w1 w2 w3 w4 : Value, args = #[w0, w1, w2, w3, w4] := by
    have hs : args.size = 5 := by simpa [Cond.value, given_1] using ga0
    obtain ⟨L⟩ := args
    match L, hs with
    | [w0, w1, w2, w3, w4], _ => exact ⟨w0, w1, w2, w3, w4, rfl⟩
  have hw := fun d (hd : d ∈ tables_1) => atoms_spec (ws := Jvm.Cond.code x code maxLocals ret :: tables_1) hat d (List.mem_cons_of_mem _ hd)
  have hfit : Fit s := fun {y c} hc i hi => by
    obtain ⟨ha, rfl⟩ := Array.getElem?_eq_some_iff.mp hc
    have q := List.all_eq_true.mp ((Array.all_eq_true_iff_forall_mem.mp hF) _ (Array.getElem_mem ha)) i (List.mem_range.mpr hi)
    simpa [Array.getElem?_eq_getElem hi] using q
  obtain ⟨i0, ei0⟩ := isL_v ga1
  obtain rfl : w0 = (.long i0) := Option.some.inj ei0
  obtain ⟨i1, ei1⟩ := is_v ga2
  obtain rfl : w1 = (.int i1) := Option.some.inj ei1
  obtain ⟨i2, ei2⟩ := is_v ga3
  obtain rfl : w2 = (.int i2) := Option.some.inj ei2
  obtain ⟨i3, ei3⟩ := is_v ga4
  obtain rfl : w3 = (.int i3) := Option.some.inj ei3
  obtain ⟨i4, ei4⟩ := is_v gb4
  obtain rfl : w4 = (.int i4) := Option.some.inj ei4
  obtain ⟨hsets, hown0⟩ := atoms_of _ (rest_1_c_eq ▸ (show rest_1_c.before _ s = true from hrest))
  have n3 := not_v (Cond.before_iff.mp (hsets _ (List.mem_of_getElem? (i := 2) rfl)))
  obtain ⟨iG, eG⟩ := is_v (Cond.before_iff.mp (hsets _ (List.mem_of_getElem? (i := 1) rfl)))
  have SG : Sta s s.heap "java/lang/String" "COMPACT_STRINGS" "Z" (.int iG) := Sta.start eG (Or.inl (hsets _ (List.mem_of_getElem? (i := 0) rfl)))
  obtain ⟨vF, eF, rF⟩ := isR_v (Cond.before_iff.mp (hsets _ (List.mem_of_getElem? (i := 8) rfl)))
  have SF : Sta s s.heap "jdk/internal/util/Preconditions" "SIOOBE_FORMATTER" "Ljava/util/function/BiFunction;" vF := Sta.start eF (Or.inl (hsets _ (List.mem_of_getElem? (i := 7) rfl)))
  have cG : ¬ (iG = (0 : Int32)) := gotF (Cond.eq_ints eG (Term.int_eval (0))) n3
  obtain ⟨n, o, h1, h2, h3, v, L, rfl, hQ, hq⟩ := rm0 l s _ hw tables_1 i0 i1 i2 i3 i4 iG vF s.heap s.heap.size (Nat.le_refl _) SG cG SF rF p e ha hc hk s m _ below hf ((Spec.applies_iff_loose hf).mp happ).1 ⟨rfl, State.Warmed39.refl s, rfl⟩ trivial
  obtain ⟨rfl, N⟩ := own_fin i0 i1 i2 i3 i4 iG vF _ _ _ _ hQ
  refine ⟨n, _, h1, h2, h3, hpost _ _ _ _ _ _ ⟨Cond.after_iff.mpr rfl, Cond.after_iff.mpr (eq_i res_at (Term.int_eval (1)) rfl), trivial⟩ ⟨hq.1, hq.2.1, (hq.2.2.sift fun y hy => Or.inr (N y hy)).mono (by decide) (by decide)⟩⟩
theorem main_1_1 : Claimed_1_1 := comes_1 fun _ _ _ _ _ _ h hF => ⟨h.1, hF⟩
theorem main_1_2 : Claimed_1_2 := comes_1 fun _ _ _ _ _ _ h hF => ⟨h.2.1, hF⟩
end Jvm.Pilot.@@N@@
namespace Jvm.Pilot.@@N@@
open Jvm Jvm.ClassFile Sem Op Lib Jvm.Free Jvm.Stand Jvm.Pilot.@@N@@.Jvm.D
/-! MADE BY PROGRAM (witnessworld.py) out of the Statement's table words and the real class files: 23 classes; the members and pool entries that the words name. The judged class is class 1, her method 1. -/
namespace start1
open Jvm.ClassFile
def u (s : String) : CpInfo := .utf8 (stringToUtf16 s)
/-- a pool by its gaps: so many unusable entries, then the entry; so many at the end -/
def gap : Nat → List CpInfo → List CpInfo
  | 0, r => r
  | n + 1, r => .unusable :: gap n r
def poolList (es : List (Nat × CpInfo)) (last : Nat) : List CpInfo := es.foldr (fun e r => gap e.1 (e.2 :: r)) (gap last [])
def pool (es : List (Nat × CpInfo)) (last : Nat) : Array CpInfo := ⟨poolList es last⟩
def fileOf (pool : Array CpInfo) (this : Nat) (attrs : Array Attribute := #[]) (ms : Array MethodInfo := #[]) (fl : Nat := 33) (sup : Nat := 0) (ifs : Array Nat := #[]) (fds : Array FieldInfo := #[]) : ClassFile where
  minorVersion := 0
  majorVersion := 65
  constantPool := pool
  accessFlags := fl
  thisClass := this
  superClass := sup
  interfaces := ifs
  fields := fds
  methods := ms
  attributes := attrs
def plain (name : String) (sup : Option ClassId) : Class where
  name := name
  kind := .ordinary
  loader := none
  accessFlags := 33
  super := sup
  interfaces := #[]
  cf := none
  fields := #[]
  methods := #[]
  instanceTypes := #[]
  staticTypes := #[]
  resolved := #[]
  callSites := []
  init := .initialized
  statics := none
  mirror := none

def pool0 : Array CpInfo := pool [(5, u "<init>"), (0, u "()V"), (1, .class_ 10), (1, u "java/lang/Object")] 113

def k0c0 : Code := { maxStack := 0, maxLocals := 1, code := object_method_1_code, exceptionTable := #[], attributes := #[] }
def k0m0 : Method := { name := "<init>", desc := "()V", sig := { parameters := [], returnType := none }, accessFlags := 1, code := some k0c0 }
/-- java/lang/Object -/
def k0 : Class := { plain "java/lang/Object" none with
  accessFlags := 33
  interfaces := #[]
  cf := some (fileOf pool0 8 #[] #[{ accessFlags := 1, nameIndex := 5, descriptorIndex := 6, attributes := #[] }] 33 0 #[] #[])
  fields := #[]
  methods := #[k0m0]
  instanceTypes := #[]
  staticTypes := #[]
  resolved := Array.replicate 124 none
  statics := none }

def pool1 : Array CpInfo := pool [(2, .class_ 4), (1, u "java/lang/Object"), (0, u "<init>"), (0, u "()V"), (0, .long 10), (1, .long 100), (1, .long 1000), (1, .long 10000), (1, .long 100000), (1, .long 1000000), (1, .long 10000000), (1, .long 100000000), (1, .long 1000000000), (1, .methodref 26 27), (0, .class_ 28), (0, .nameAndType 29 30), (0, u "com/example/lookback/lookback/PlainDecimalsValueOfPinLaw"), (0, u "digit"), (0, u "(J[JI)I"), (0, .class_ 32), (0, u "java/lang/String"), (0, .methodref 31 34), (0, .nameAndType 5 35), (0, u "([C)V"), (0, .integer 2147483647), (0, .methodref 38 39), (0, .class_ 40), (0, .nameAndType 41 42), (0, u "java/lang/Math"), (0, u "min"), (0, u "(II)I"), (0, .methodref 26 44), (0, .nameAndType 45 46), (0, u "term"), (0, u "([I[JIII)J"), (0, .methodref 48 49), (0, .class_ 50), (0, .nameAndType 51 52), (0, u "com/example/lookback/lookback/PlainDecimals"), (0, u "valueOf"), (0, u "(Ljava/lang/String;II)I"), (2, u "law"), (0, u "(JIIII)Z")] 9

def k1m0 : Method := { name := "<init>", desc := "()V", sig := { parameters := [], returnType := none }, accessFlags := 1, code := none }
def k1c1 : Code := { maxStack := 7, maxLocals := 19, code := code, exceptionTable := #[], attributes := #[] }
def k1m1 : Method := { name := "law", desc := "(JIIII)Z", sig := { parameters := [.long, .int, .int, .int, .int], returnType := some .boolean }, accessFlags := 9, code := some k1c1 }
def k1c2 : Code := { maxStack := 4, maxLocals := 4, code := method_3_code, exceptionTable := #[], attributes := #[] }
def k1m2 : Method := { name := "digit", desc := "(J[JI)I", sig := { parameters := [.long, (.array .long), .int], returnType := some .int }, accessFlags := 10, code := some k1c2 }
def k1c3 : Code := { maxStack := 5, maxLocals := 5, code := method_4_code, exceptionTable := #[], attributes := #[] }
def k1m3 : Method := { name := "term", desc := "([I[JIII)J", sig := { parameters := [(.array .int), (.array .long), .int, .int, .int], returnType := some .long }, accessFlags := 10, code := some k1c3 }
/-- com/example/lookback/lookback/PlainDecimalsValueOfPinLaw -/
def k1 : Class := { plain "com/example/lookback/lookback/PlainDecimalsValueOfPinLaw" (some 0) with
  accessFlags := 49
  interfaces := #[]
  cf := some (fileOf pool1 26 #[] #[{ accessFlags := 1, nameIndex := 5, descriptorIndex := 6, attributes := #[] }, { accessFlags := 9, nameIndex := 55, descriptorIndex := 56, attributes := #[] }, { accessFlags := 10, nameIndex := 29, descriptorIndex := 30, attributes := #[] }, { accessFlags := 10, nameIndex := 45, descriptorIndex := 46, attributes := #[] }] 49 2 #[] #[])
  fields := #[]
  methods := #[k1m0, k1m1, k1m2, k1m3]
  instanceTypes := #[]
  staticTypes := #[]
  resolved := Array.replicate 66 none
  statics := none }

def pool2 : Array CpInfo := pool [(1, .class_ 2), (0, u "java/io/Serializable"), (0, .class_ 4), (0, u "java/lang/Object")] 2

/-- java/io/Serializable -/
def k2 : Class := { plain "java/io/Serializable" (some 0) with
  accessFlags := 1537
  interfaces := #[]
  cf := some (fileOf pool2 1 #[] #[] 1537 3 #[] #[])
  fields := #[]
  methods := #[]
  instanceTypes := #[]
  staticTypes := #[]
  resolved := Array.replicate 7 none
  statics := none }

def pool3 : Array CpInfo := pool [(1, .class_ 2), (0, u "java/lang/Comparable"), (0, .class_ 4), (0, u "java/lang/Object")] 7

/-- java/lang/Comparable -/
def k3 : Class := { plain "java/lang/Comparable" (some 0) with
  accessFlags := 1537
  interfaces := #[]
  cf := some (fileOf pool3 1 #[] #[] 1537 3 #[] #[])
  fields := #[]
  methods := #[]
  instanceTypes := #[]
  staticTypes := #[]
  resolved := Array.replicate 12 none
  statics := none }

def pool4 : Array CpInfo := pool [(2, .class_ 4), (1, u "java/lang/CharSequence"), (42, .class_ 48), (0, u "java/lang/CharSequence$1CodePointIterator"), (10, .class_ 60), (0, u "java/lang/CharSequence$1CharIterator"), (5, .class_ 67), (0, u "java/lang/Object")] 63

/-- java/lang/CharSequence -/
def k4 : Class := { plain "java/lang/CharSequence" (some 0) with
  accessFlags := 1537
  interfaces := #[]
  cf := some (fileOf pool4 2 #[.nestMembers #[47, 59]] #[] 1537 66 #[] #[])
  fields := #[]
  methods := #[]
  instanceTypes := #[]
  staticTypes := #[]
  resolved := Array.replicate 131 none
  statics := none }

def pool5 : Array CpInfo := pool [(1, .class_ 2), (0, u "java/lang/constant/Constable"), (0, .class_ 4), (0, u "java/lang/Object")] 6

/-- java/lang/constant/Constable -/
def k5 : Class := { plain "java/lang/constant/Constable" (some 0) with
  accessFlags := 1537
  interfaces := #[]
  cf := some (fileOf pool5 1 #[] #[] 1537 3 #[] #[])
  fields := #[]
  methods := #[]
  instanceTypes := #[]
  staticTypes := #[]
  resolved := Array.replicate 11 none
  statics := none }

def pool6 : Array CpInfo := pool [(1, .class_ 2), (0, u "java/lang/constant/ConstantDesc"), (0, .class_ 4), (0, u "java/lang/Object")] 32

/-- java/lang/constant/ConstantDesc -/
def k6 : Class := { plain "java/lang/constant/ConstantDesc" (some 0) with
  accessFlags := 1537
  interfaces := #[]
  cf := some (fileOf pool6 1 #[] #[] 1537 3 #[] #[])
  fields := #[]
  methods := #[]
  instanceTypes := #[]
  staticTypes := #[]
  resolved := Array.replicate 37 none
  statics := none }

def pool7 : Array CpInfo := pool [(1, .methodref 2 3), (0, .class_ 4), (0, .nameAndType 5 6), (0, u "java/lang/Object"), (0, u "<init>"), (0, u "()V"), (2, .fieldref 10 11), (0, .class_ 12), (0, .nameAndType 13 14), (0, u "java/lang/String"), (0, u "value"), (0, u "[B"), (0, .fieldref 10 16), (0, .nameAndType 17 18), (0, u "coder"), (0, u "B"), (2, u "hash"), (0, u "I"), (2, u "hashIsZero"), (0, u "Z"), (0, .methodref 10 28), (0, .nameAndType 5 29), (0, u "([CIILjava/lang/Void;)V"), (8, .fieldref 10 39), (0, .nameAndType 40 26), (0, u "COMPACT_STRINGS"), (1, .class_ 44), (1, u "java/lang/StringUTF16"), (0, u "compress"), (1, .methodref 42 48), (0, .nameAndType 49 50), (0, u "coderFromArrayLen"), (0, u "([BI)B"), (56, .class_ 109), (1, u "java/lang/StringLatin1"), (32, u "()Z"), (34, .methodref 42 178), (0, .nameAndType 45 179), (0, u "([CII)[B"), (183, u "([BI)C"), (27, u "(II)V"), (35, u "(I)C"), (64, .methodref 10 493), (0, .nameAndType 494 142), (0, u "isLatin1"), (0, .methodref 107 496), (0, .nameAndType 497 363), (0, u "charAt"), (3, u "checkIndex"), (73, .class_ 576), (0, u "java/lang/CharSequence"), (22, u "CASE_INSENSITIVE_ORDER"), (0, u "Ljava/util/Comparator;"), (409, u "([C)V"), (42, .fieldref 1054 1055), (0, .class_ 1056), (0, .nameAndType 1057 1058), (0, u "jdk/internal/util/Preconditions"), (0, u "SIOOBE_FORMATTER"), (0, u "Ljava/util/function/BiFunction;"), (0, .methodref 1054 1060), (0, .nameAndType 501 1061), (0, u "(IILjava/util/function/BiFunction;)I"), (39, u "serialPersistentFields"), (0, u "[Ljava/io/ObjectStreamField;"), (0, .class_ 1104), (0, u "java/lang/String$CaseInsensitiveComparator"), (1, .class_ 1107), (0, u "java/io/Serializable"), (0, .class_ 1109), (0, u "java/lang/Comparable"), (0, .class_ 1111), (0, u "java/lang/constant/Constable"), (0, .class_ 1113), (0, u "java/lang/constant/ConstantDesc"), (2, u "serialVersionUID"), (0, u "J"), (3, u "REPL"), (0, u "C"), (2, u "LATIN1"), (1, u "UTF16")] 323

def k7m0 : Method := { name := "<init>", desc := "()V", sig := { parameters := [], returnType := none }, accessFlags := 1, code := none }
def k7c1 : Code := { maxStack := 5, maxLocals := 2, code := jdk_42_method_3_code, exceptionTable := #[], attributes := #[] }
def k7m1 : Method := { name := "<init>", desc := "([C)V", sig := { parameters := [(.array .char)], returnType := none }, accessFlags := 1, code := some k7c1 }
def k7c2 : Code := { maxStack := 2, maxLocals := 2, code := jdk_42_method_56_code, exceptionTable := #[], attributes := #[] }
def k7m2 : Method := { name := "charAt", desc := "(I)C", sig := { parameters := [.int], returnType := some .char }, accessFlags := 1, code := some k7c2 }
def k7c3 : Code := { maxStack := 4, maxLocals := 6, code := jdk_42_method_149_code, exceptionTable := #[], attributes := #[] }
def k7m3 : Method := { name := "<init>", desc := "([CIILjava/lang/Void;)V", sig := { parameters := [(.array .char), .int, .int, (.object "java/lang/Void")], returnType := none }, accessFlags := 2, code := some k7c3 }
def k7c4 : Code := { maxStack := 1, maxLocals := 1, code := jdk_42_method_154_code, exceptionTable := #[], attributes := #[] }
def k7m4 : Method := { name := "isLatin1", desc := "()Z", sig := { parameters := [], returnType := some .boolean }, accessFlags := 0, code := some k7c4 }
def k7c5 : Code := { maxStack := 3, maxLocals := 2, code := jdk_42_method_155_code, exceptionTable := #[], attributes := #[] }
def k7m5 : Method := { name := "checkIndex", desc := "(II)V", sig := { parameters := [.int, .int], returnType := none }, accessFlags := 8, code := some k7c5 }
/-- java/lang/String -/
def k7 : Class := { plain "java/lang/String" (some 0) with
  accessFlags := 49
  interfaces := #[2, 3, 4, 5, 6]
  cf := some (fileOf pool7 10 #[.nestMembers #[1103]] #[{ accessFlags := 1, nameIndex := 5, descriptorIndex := 6, attributes := #[] }, { accessFlags := 1, nameIndex := 5, descriptorIndex := 1010, attributes := #[] }, { accessFlags := 1, nameIndex := 497, descriptorIndex := 427, attributes := #[] }, { accessFlags := 2, nameIndex := 5, descriptorIndex := 29, attributes := #[] }, { accessFlags := 0, nameIndex := 494, descriptorIndex := 142, attributes := #[] }, { accessFlags := 8, nameIndex := 501, descriptorIndex := 391, attributes := #[] }] 49 2 #[1106, 1108, 575, 1110, 1112] #[{ accessFlags := 18, nameIndex := 13, descriptorIndex := 14, attributes := #[] }, { accessFlags := 18, nameIndex := 17, descriptorIndex := 18, attributes := #[] }, { accessFlags := 2, nameIndex := 21, descriptorIndex := 22, attributes := #[] }, { accessFlags := 2, nameIndex := 25, descriptorIndex := 26, attributes := #[] }, { accessFlags := 26, nameIndex := 1116, descriptorIndex := 1117, attributes := #[] }, { accessFlags := 24, nameIndex := 40, descriptorIndex := 26, attributes := #[] }, { accessFlags := 26, nameIndex := 1101, descriptorIndex := 1102, attributes := #[] }, { accessFlags := 26, nameIndex := 1121, descriptorIndex := 1122, attributes := #[] }, { accessFlags := 25, nameIndex := 599, descriptorIndex := 600, attributes := #[] }, { accessFlags := 24, nameIndex := 1125, descriptorIndex := 18, attributes := #[] }, { accessFlags := 24, nameIndex := 1127, descriptorIndex := 18, attributes := #[] }])
  fields := #[{ name := "value", type := (.array .byte), accessFlags := 18, slot := 0, constantValue := 0 }, { name := "coder", type := .byte, accessFlags := 18, slot := 1, constantValue := 0 }, { name := "hash", type := .int, accessFlags := 2, slot := 2, constantValue := 0 }, { name := "hashIsZero", type := .boolean, accessFlags := 2, slot := 3, constantValue := 0 }, { name := "serialVersionUID", type := .long, accessFlags := 26, slot := 0, constantValue := 0 }, { name := "COMPACT_STRINGS", type := .boolean, accessFlags := 24, slot := 1, constantValue := 0 }, { name := "serialPersistentFields", type := (.array (.object "java/io/ObjectStreamField")), accessFlags := 26, slot := 2, constantValue := 0 }, { name := "REPL", type := .char, accessFlags := 26, slot := 3, constantValue := 0 }, { name := "CASE_INSENSITIVE_ORDER", type := (.object "java/util/Comparator"), accessFlags := 25, slot := 4, constantValue := 0 }, { name := "LATIN1", type := .byte, accessFlags := 24, slot := 5, constantValue := 0 }, { name := "UTF16", type := .byte, accessFlags := 24, slot := 6, constantValue := 0 }]
  methods := #[k7m0, k7m1, k7m2, k7m3, k7m4, k7m5]
  instanceTypes := #[(.array .byte), .byte, .int, .boolean]
  staticTypes := #[.long, .boolean, (.array (.object "java/io/ObjectStreamField")), .char, (.object "java/util/Comparator"), .byte, .byte]
  resolved := Array.replicate 1451 none
  statics := some 0 }

def pool8 : Array CpInfo := pool [(6, .class_ 8), (1, u "java/lang/Object"), (0, u "<init>"), (0, u "()V"), (1, .class_ 14), (1, u "java/lang/StringUTF16"), (31, u "$assertionsDisabled"), (0, u "Z"), (13, u "HI_BYTE_SHIFT"), (0, u "I"), (2, u "LO_BYTE_SHIFT"), (49, .methodref 12 116), (0, .nameAndType 117 118), (0, u "compress"), (0, u "([CI[BII)I"), (3, u "([CII)[B"), (138, u "coderFromArrayLen"), (0, u "([BI)B"), (106, .class_ 371), (1, u "java/lang/StringUTF16$LinesSpliterator"), (58, u "MAX_LENGTH"), (196, .class_ 628), (0, u "java/lang/StringUTF16$CodePointsSpliterator"), (0, .class_ 630), (0, u "java/lang/StringUTF16$CharsSpliterator")] 4

def k8m0 : Method := { name := "<init>", desc := "()V", sig := { parameters := [], returnType := none }, accessFlags := 0, code := none }
def k8c1 : Code := { maxStack := 2, maxLocals := 2, code := jdk_52_method_15_code, exceptionTable := #[], attributes := #[] }
def k8m1 : Method := { name := "coderFromArrayLen", desc := "([BI)B", sig := { parameters := [(.array .byte), .int], returnType := some .byte }, accessFlags := 8, code := some k8c1 }
def k8c2 : Code := { maxStack := 5, maxLocals := 6, code := jdk_52_method_16_code, exceptionTable := #[], attributes := #[] }
def k8m2 : Method := { name := "compress", desc := "([CII)[B", sig := { parameters := [(.array .char), .int, .int], returnType := some (.array .byte) }, accessFlags := 9, code := some k8c2 }
def k8c3 : Code := { maxStack := 3, maxLocals := 7, code := jdk_52_method_21_code, exceptionTable := #[], attributes := #[] }
def k8m3 : Method := { name := "compress", desc := "([CI[BII)I", sig := { parameters := [(.array .char), .int, (.array .byte), .int, .int], returnType := some .int }, accessFlags := 9, code := some k8c3 }
/-- java/lang/StringUTF16 -/
def k8 : Class := { plain "java/lang/StringUTF16" (some 0) with
  accessFlags := 48
  interfaces := #[]
  cf := some (fileOf pool8 12 #[.nestMembers #[627, 629, 369]] #[{ accessFlags := 0, nameIndex := 9, descriptorIndex := 10, attributes := #[] }, { accessFlags := 8, nameIndex := 261, descriptorIndex := 262, attributes := #[] }, { accessFlags := 9, nameIndex := 117, descriptorIndex := 122, attributes := #[] }, { accessFlags := 9, nameIndex := 117, descriptorIndex := 118, attributes := #[] }] 48 6 #[] #[{ accessFlags := 26, nameIndex := 61, descriptorIndex := 62, attributes := #[] }, { accessFlags := 26, nameIndex := 65, descriptorIndex := 62, attributes := #[] }, { accessFlags := 24, nameIndex := 430, descriptorIndex := 62, attributes := #[] }, { accessFlags := 4120, nameIndex := 46, descriptorIndex := 47, attributes := #[] }])
  fields := #[{ name := "HI_BYTE_SHIFT", type := .int, accessFlags := 26, slot := 0, constantValue := 0 }, { name := "LO_BYTE_SHIFT", type := .int, accessFlags := 26, slot := 1, constantValue := 0 }, { name := "MAX_LENGTH", type := .int, accessFlags := 24, slot := 2, constantValue := 0 }, { name := "$assertionsDisabled", type := .boolean, accessFlags := 4120, slot := 3, constantValue := 0 }]
  methods := #[k8m0, k8m1, k8m2, k8m3]
  instanceTypes := #[]
  staticTypes := #[.int, .int, .int, .boolean]
  resolved := Array.replicate 635 none
  statics := none }

def pool9 : Array CpInfo := pool [(1, .class_ 2), (0, u "java/lang/Math"), (1, .class_ 6), (1, u "java/lang/Object"), (0, u "<init>"), (0, u "()V"), (89, .class_ 100), (1, u "java/lang/Math$RandomNumberGeneratorHolder"), (71, u "negativeZeroFloatBits"), (0, u "J"), (2, u "negativeZeroDoubleBits"), (24, u "min"), (43, u "$assertionsDisabled"), (0, u "Z"), (88, u "(II)I"), (2, u "twoToTheDoubleScaleDown"), (0, u "D"), (4, u "twoToTheDoubleScaleUp"), (9, u "E"), (3, u "PI"), (2, u "TAU"), (2, u "DEGREES_TO_RADIANS"), (0, u "RADIANS_TO_DEGREES")] 94

def k9m0 : Method := { name := "<init>", desc := "()V", sig := { parameters := [], returnType := none }, accessFlags := 2, code := none }
def k9c1 : Code := { maxStack := 2, maxLocals := 2, code := jdk_29_method_69_code, exceptionTable := #[], attributes := #[] }
def k9m1 : Method := { name := "min", desc := "(II)I", sig := { parameters := [.int, .int], returnType := some .int }, accessFlags := 9, code := some k9c1 }
/-- java/lang/Math -/
def k9 : Class := { plain "java/lang/Math" (some 0) with
  accessFlags := 49
  interfaces := #[]
  cf := some (fileOf pool9 1 #[.nestMembers #[98]] #[{ accessFlags := 2, nameIndex := 7, descriptorIndex := 8, attributes := #[] }, { accessFlags := 9, nameIndex := 201, descriptorIndex := 335, attributes := #[] }] 49 4 #[] #[{ accessFlags := 25, nameIndex := 354, descriptorIndex := 339, attributes := #[] }, { accessFlags := 25, nameIndex := 358, descriptorIndex := 339, attributes := #[] }, { accessFlags := 25, nameIndex := 361, descriptorIndex := 339, attributes := #[] }, { accessFlags := 26, nameIndex := 364, descriptorIndex := 339, attributes := #[] }, { accessFlags := 26, nameIndex := 365, descriptorIndex := 339, attributes := #[] }, { accessFlags := 26, nameIndex := 172, descriptorIndex := 173, attributes := #[] }, { accessFlags := 26, nameIndex := 176, descriptorIndex := 173, attributes := #[] }, { accessFlags := 8, nameIndex := 344, descriptorIndex := 339, attributes := #[] }, { accessFlags := 8, nameIndex := 338, descriptorIndex := 339, attributes := #[] }, { accessFlags := 4120, nameIndex := 245, descriptorIndex := 246, attributes := #[] }])
  fields := #[{ name := "E", type := .double, accessFlags := 25, slot := 0, constantValue := 0 }, { name := "PI", type := .double, accessFlags := 25, slot := 1, constantValue := 0 }, { name := "TAU", type := .double, accessFlags := 25, slot := 2, constantValue := 0 }, { name := "DEGREES_TO_RADIANS", type := .double, accessFlags := 26, slot := 3, constantValue := 0 }, { name := "RADIANS_TO_DEGREES", type := .double, accessFlags := 26, slot := 4, constantValue := 0 }, { name := "negativeZeroFloatBits", type := .long, accessFlags := 26, slot := 5, constantValue := 0 }, { name := "negativeZeroDoubleBits", type := .long, accessFlags := 26, slot := 6, constantValue := 0 }, { name := "twoToTheDoubleScaleUp", type := .double, accessFlags := 8, slot := 7, constantValue := 0 }, { name := "twoToTheDoubleScaleDown", type := .double, accessFlags := 8, slot := 8, constantValue := 0 }, { name := "$assertionsDisabled", type := .boolean, accessFlags := 4120, slot := 9, constantValue := 0 }]
  methods := #[k9m0, k9m1]
  instanceTypes := #[]
  staticTypes := #[.double, .double, .double, .double, .double, .long, .long, .double, .double, .boolean]
  resolved := Array.replicate 460 none
  statics := none }

def pool10 : Array CpInfo := pool [(3, .class_ 4), (0, u "com/example/lookback/lookback/PlainDecimals"), (1, .class_ 8), (1, u "java/lang/Object"), (0, u "<init>"), (0, u "()V"), (8, .class_ 21), (1, u "java/lang/String"), (2, .methodref 19 25), (0, .nameAndType 26 27), (0, u "charAt"), (0, u "(I)C"), (24, u "valueOf"), (9, u "(Ljava/lang/String;II)I"), (18, u "POWERS_OF_TEN"), (0, u "[J"), (69, u "NOT_IN_UNITS"), (0, u "J"), (1, u "POINT"), (0, u "C"), (1, u "MINUS"), (0, u "Ljava/lang/String;"), (0, u "MOST_WHOLE_DIGITS"), (0, u "I"), (1, u "MOST_LONG_DIGITS"), (1, u "MOST_DIGITS")] 30

def k10m0 : Method := { name := "<init>", desc := "()V", sig := { parameters := [], returnType := none }, accessFlags := 2, code := none }
def k10c1 : Code := { maxStack := 3, maxLocals := 5, code := prog_50_method_5_code, exceptionTable := #[], attributes := #[] }
def k10m1 : Method := { name := "valueOf", desc := "(Ljava/lang/String;II)I", sig := { parameters := [(.object "java/lang/String"), .int, .int], returnType := some .int }, accessFlags := 8, code := some k10c1 }
/-- com/example/lookback/lookback/PlainDecimals -/
def k10 : Class := { plain "com/example/lookback/lookback/PlainDecimals" (some 0) with
  accessFlags := 32
  interfaces := #[]
  cf := some (fileOf pool10 3 #[] #[{ accessFlags := 2, nameIndex := 9, descriptorIndex := 10, attributes := #[] }, { accessFlags := 8, nameIndex := 52, descriptorIndex := 62, attributes := #[] }] 32 6 #[] #[{ accessFlags := 24, nameIndex := 152, descriptorIndex := 153, attributes := #[] }, { accessFlags := 26, nameIndex := 155, descriptorIndex := 156, attributes := #[] }, { accessFlags := 26, nameIndex := 158, descriptorIndex := 159, attributes := #[] }, { accessFlags := 26, nameIndex := 160, descriptorIndex := 161, attributes := #[] }, { accessFlags := 26, nameIndex := 163, descriptorIndex := 161, attributes := #[] }, { accessFlags := 26, nameIndex := 81, descriptorIndex := 82, attributes := #[] }, { accessFlags := 24, nameIndex := 165, descriptorIndex := 161, attributes := #[] }])
  fields := #[{ name := "NOT_IN_UNITS", type := .long, accessFlags := 24, slot := 0, constantValue := 0 }, { name := "POINT", type := .char, accessFlags := 26, slot := 1, constantValue := 0 }, { name := "MINUS", type := (.object "java/lang/String"), accessFlags := 26, slot := 2, constantValue := 0 }, { name := "MOST_WHOLE_DIGITS", type := .int, accessFlags := 26, slot := 3, constantValue := 0 }, { name := "MOST_LONG_DIGITS", type := .int, accessFlags := 26, slot := 4, constantValue := 0 }, { name := "POWERS_OF_TEN", type := (.array .long), accessFlags := 26, slot := 5, constantValue := 0 }, { name := "MOST_DIGITS", type := .int, accessFlags := 24, slot := 6, constantValue := 0 }]
  methods := #[k10m0, k10m1]
  instanceTypes := #[]
  staticTypes := #[.long, .char, (.object "java/lang/String"), .int, .int, (.array .long), .int]
  resolved := Array.replicate 196 none
  statics := none }

def pool11 : Array CpInfo := pool [(1, .class_ 2), (0, u "java/lang/String"), (1, .class_ 6), (1, u "java/lang/Object"), (0, u "<init>"), (0, u "()V"), (0, .methodref 1 10), (0, .nameAndType 11 12), (0, u "checkIndex"), (0, u "(II)V"), (1, .class_ 16), (1, u "java/lang/StringLatin1"), (36, u "([BI)C"), (67, u "$assertionsDisabled"), (0, u "Z"), (98, .class_ 223), (1, u "java/lang/StringLatin1$LinesSpliterator"), (28, u "charAt"), (137, .class_ 391), (0, u "java/lang/StringLatin1$CharsSpliterator")] 3

def k11m0 : Method := { name := "<init>", desc := "()V", sig := { parameters := [], returnType := none }, accessFlags := 0, code := none }
def k11c1 : Code := { maxStack := 2, maxLocals := 2, code := jdk_43_method_2_code, exceptionTable := #[], attributes := #[] }
def k11m1 : Method := { name := "charAt", desc := "([BI)C", sig := { parameters := [(.array .byte), .int], returnType := some .char }, accessFlags := 9, code := some k11c1 }
/-- java/lang/StringLatin1 -/
def k11 : Class := { plain "java/lang/StringLatin1" (some 0) with
  accessFlags := 48
  interfaces := #[]
  cf := some (fileOf pool11 14 #[.nestMembers #[390, 221]] #[{ accessFlags := 0, nameIndex := 7, descriptorIndex := 8, attributes := #[] }, { accessFlags := 9, nameIndex := 252, descriptorIndex := 53, attributes := #[] }] 48 4 #[] #[{ accessFlags := 4120, nameIndex := 121, descriptorIndex := 122, attributes := #[] }])
  fields := #[{ name := "$assertionsDisabled", type := .boolean, accessFlags := 4120, slot := 0, constantValue := 0 }]
  methods := #[k11m0, k11m1]
  instanceTypes := #[]
  staticTypes := #[.boolean]
  resolved := Array.replicate 395 none
  statics := none }

def pool12 : Array CpInfo := pool [(2, .class_ 4), (1, u "java/lang/Object"), (0, u "<init>"), (0, u "()V"), (17, .class_ 26), (1, u "jdk/internal/util/Preconditions"), (6, u "checkIndex"), (21, .class_ 56), (0, u "jdk/internal/util/Preconditions$4"), (57, .class_ 115), (0, u "jdk/internal/util/Preconditions$1"), (7, u "SIOOBE_FORMATTER"), (0, u "Ljava/util/function/BiFunction;"), (0, .class_ 126), (0, u "jdk/internal/util/Preconditions$2"), (3, u "AIOOBE_FORMATTER"), (0, .class_ 132), (0, u "jdk/internal/util/Preconditions$3"), (3, u "IOOBE_FORMATTER"), (41, u "(IILjava/util/function/BiFunction;)I")] 15

def k12m0 : Method := { name := "<init>", desc := "()V", sig := { parameters := [], returnType := none }, accessFlags := 1, code := none }
def k12c1 : Code := { maxStack := 3, maxLocals := 3, code := jdk_41_method_11_code, exceptionTable := #[], attributes := #[] }
def k12m1 : Method := { name := "checkIndex", desc := "(IILjava/util/function/BiFunction;)I", sig := { parameters := [.int, .int, (.object "java/util/function/BiFunction")], returnType := some .int }, accessFlags := 9, code := some k12c1 }
/-- jdk/internal/util/Preconditions -/
def k12 : Class := { plain "jdk/internal/util/Preconditions" (some 0) with
  accessFlags := 33
  interfaces := #[]
  cf := some (fileOf pool12 24 #[.nestMembers #[55, 131, 125, 114]] #[{ accessFlags := 1, nameIndex := 5, descriptorIndex := 6, attributes := #[] }, { accessFlags := 9, nameIndex := 33, descriptorIndex := 178, attributes := #[] }] 33 2 #[] #[{ accessFlags := 25, nameIndex := 123, descriptorIndex := 124, attributes := #[] }, { accessFlags := 25, nameIndex := 130, descriptorIndex := 124, attributes := #[] }, { accessFlags := 25, nameIndex := 136, descriptorIndex := 124, attributes := #[] }])
  fields := #[{ name := "SIOOBE_FORMATTER", type := (.object "java/util/function/BiFunction"), accessFlags := 25, slot := 0, constantValue := 0 }, { name := "AIOOBE_FORMATTER", type := (.object "java/util/function/BiFunction"), accessFlags := 25, slot := 1, constantValue := 0 }, { name := "IOOBE_FORMATTER", type := (.object "java/util/function/BiFunction"), accessFlags := 25, slot := 2, constantValue := 0 }]
  methods := #[k12m0, k12m1]
  instanceTypes := #[]
  staticTypes := #[(.object "java/util/function/BiFunction"), (.object "java/util/function/BiFunction"), (.object "java/util/function/BiFunction")]
  resolved := Array.replicate 194 none
  statics := some 1 }

def pool13 : Array CpInfo := pool [(9, u "<init>"), (6, .class_ 18), (1, u "java/lang/Object"), (0, u "()V"), (1, .class_ 23), (1, u "jdk/internal/util/ArraysSupport"), (0, u "LOG2_ARRAY_LONG_INDEX_SCALE"), (0, u "I"), (2, u "U"), (0, u "Ljdk/internal/misc/Unsafe;"), (8, u "BIG_ENDIAN"), (0, u "Z"), (8, u "LOG2_BYTE_BIT_SIZE"), (4, u "LOG2_ARRAY_INT_INDEX_SCALE"), (54, u "JLA"), (0, u "Ljdk/internal/access/JavaLangAccess;"), (11, u "LOG2_ARRAY_BOOLEAN_INDEX_SCALE"), (9, u "LOG2_ARRAY_BYTE_INDEX_SCALE"), (5, u "LOG2_ARRAY_CHAR_INDEX_SCALE"), (5, u "LOG2_ARRAY_SHORT_INDEX_SCALE"), (18, u "LOG2_ARRAY_FLOAT_INDEX_SCALE"), (24, u "LOG2_ARRAY_DOUBLE_INDEX_SCALE"), (89, u "T_BOOLEAN"), (2, u "T_CHAR"), (1, u "T_FLOAT"), (1, u "T_DOUBLE"), (1, u "T_BYTE"), (1, u "T_SHORT"), (1, u "T_INT"), (1, u "T_LONG"), (1, u "SOFT_MAX_ARRAY_LENGTH")] 83

def k13m0 : Method := { name := "<init>", desc := "()V", sig := { parameters := [], returnType := none }, accessFlags := 2, code := none }
/-- jdk/internal/util/ArraysSupport -/
def k13 : Class := { plain "jdk/internal/util/ArraysSupport" (some 0) with
  accessFlags := 33
  interfaces := #[]
  cf := some (fileOf pool13 21 #[] #[{ accessFlags := 2, nameIndex := 9, descriptorIndex := 19, attributes := #[] }] 33 16 #[] #[{ accessFlags := 24, nameIndex := 28, descriptorIndex := 29, attributes := #[] }, { accessFlags := 26, nameIndex := 38, descriptorIndex := 39, attributes := #[] }, { accessFlags := 25, nameIndex := 121, descriptorIndex := 25, attributes := #[] }, { accessFlags := 25, nameIndex := 131, descriptorIndex := 25, attributes := #[] }, { accessFlags := 25, nameIndex := 137, descriptorIndex := 25, attributes := #[] }, { accessFlags := 25, nameIndex := 143, descriptorIndex := 25, attributes := #[] }, { accessFlags := 25, nameIndex := 53, descriptorIndex := 25, attributes := #[] }, { accessFlags := 25, nameIndex := 24, descriptorIndex := 25, attributes := #[] }, { accessFlags := 25, nameIndex := 162, descriptorIndex := 25, attributes := #[] }, { accessFlags := 25, nameIndex := 187, descriptorIndex := 25, attributes := #[] }, { accessFlags := 26, nameIndex := 48, descriptorIndex := 25, attributes := #[] }, { accessFlags := 25, nameIndex := 277, descriptorIndex := 25, attributes := #[] }, { accessFlags := 25, nameIndex := 280, descriptorIndex := 25, attributes := #[] }, { accessFlags := 25, nameIndex := 282, descriptorIndex := 25, attributes := #[] }, { accessFlags := 25, nameIndex := 284, descriptorIndex := 25, attributes := #[] }, { accessFlags := 25, nameIndex := 286, descriptorIndex := 25, attributes := #[] }, { accessFlags := 25, nameIndex := 288, descriptorIndex := 25, attributes := #[] }, { accessFlags := 25, nameIndex := 290, descriptorIndex := 25, attributes := #[] }, { accessFlags := 25, nameIndex := 292, descriptorIndex := 25, attributes := #[] }, { accessFlags := 26, nameIndex := 108, descriptorIndex := 109, attributes := #[] }, { accessFlags := 25, nameIndex := 294, descriptorIndex := 25, attributes := #[] }])
  fields := #[{ name := "U", type := (.object "jdk/internal/misc/Unsafe"), accessFlags := 24, slot := 0, constantValue := 0 }, { name := "BIG_ENDIAN", type := .boolean, accessFlags := 26, slot := 1, constantValue := 0 }, { name := "LOG2_ARRAY_BOOLEAN_INDEX_SCALE", type := .int, accessFlags := 25, slot := 2, constantValue := 0 }, { name := "LOG2_ARRAY_BYTE_INDEX_SCALE", type := .int, accessFlags := 25, slot := 3, constantValue := 0 }, { name := "LOG2_ARRAY_CHAR_INDEX_SCALE", type := .int, accessFlags := 25, slot := 4, constantValue := 0 }, { name := "LOG2_ARRAY_SHORT_INDEX_SCALE", type := .int, accessFlags := 25, slot := 5, constantValue := 0 }, { name := "LOG2_ARRAY_INT_INDEX_SCALE", type := .int, accessFlags := 25, slot := 6, constantValue := 0 }, { name := "LOG2_ARRAY_LONG_INDEX_SCALE", type := .int, accessFlags := 25, slot := 7, constantValue := 0 }, { name := "LOG2_ARRAY_FLOAT_INDEX_SCALE", type := .int, accessFlags := 25, slot := 8, constantValue := 0 }, { name := "LOG2_ARRAY_DOUBLE_INDEX_SCALE", type := .int, accessFlags := 25, slot := 9, constantValue := 0 }, { name := "LOG2_BYTE_BIT_SIZE", type := .int, accessFlags := 26, slot := 10, constantValue := 0 }, { name := "T_BOOLEAN", type := .int, accessFlags := 25, slot := 11, constantValue := 0 }, { name := "T_CHAR", type := .int, accessFlags := 25, slot := 12, constantValue := 0 }, { name := "T_FLOAT", type := .int, accessFlags := 25, slot := 13, constantValue := 0 }, { name := "T_DOUBLE", type := .int, accessFlags := 25, slot := 14, constantValue := 0 }, { name := "T_BYTE", type := .int, accessFlags := 25, slot := 15, constantValue := 0 }, { name := "T_SHORT", type := .int, accessFlags := 25, slot := 16, constantValue := 0 }, { name := "T_INT", type := .int, accessFlags := 25, slot := 17, constantValue := 0 }, { name := "T_LONG", type := .int, accessFlags := 25, slot := 18, constantValue := 0 }, { name := "JLA", type := (.object "jdk/internal/access/JavaLangAccess"), accessFlags := 26, slot := 19, constantValue := 0 }, { name := "SOFT_MAX_ARRAY_LENGTH", type := .int, accessFlags := 25, slot := 20, constantValue := 0 }]
  methods := #[k13m0]
  instanceTypes := #[]
  staticTypes := #[(.object "jdk/internal/misc/Unsafe"), .boolean, .int, .int, .int, .int, .int, .int, .int, .int, .int, .int, .int, .int, .int, .int, .int, .int, .int, (.object "jdk/internal/access/JavaLangAccess"), .int]
  resolved := Array.replicate 378 none
  statics := none }

def pool14 : Array CpInfo := pool [(1, u "java/lang/Cloneable"), (0, .class_ 1), (0, u "java/lang/Object"), (0, .class_ 3)] 3

/-- java/lang/Cloneable -/
def k14 : Class := { plain "java/lang/Cloneable" (some 0) with
  accessFlags := 1537
  interfaces := #[]
  cf := some (fileOf pool14 2 #[] #[] 1537 4 #[] #[])
  fields := #[]
  methods := #[]
  instanceTypes := #[]
  staticTypes := #[]
  resolved := Array.replicate 8 none
  statics := none }

/-- the primitive byte -/
def k15 : Class := { plain "byte" none with kind := .primitive 'B', accessFlags := 0x411 }
/-- [B -/
def k16 : Class := { plain "[B" (some 0) with kind := .array 15 .byte, interfaces := #[14, 2], accessFlags := 1041 }

/-- the primitive char -/
def k17 : Class := { plain "char" none with kind := .primitive 'C', accessFlags := 0x411 }
/-- [C -/
def k18 : Class := { plain "[C" (some 0) with kind := .array 17 .char, interfaces := #[14, 2], accessFlags := 1041 }

/-- the primitive int -/
def k19 : Class := { plain "int" none with kind := .primitive 'I', accessFlags := 0x411 }
/-- [I -/
def k20 : Class := { plain "[I" (some 0) with kind := .array 19 .int, interfaces := #[14, 2], accessFlags := 1041 }

/-- the primitive long -/
def k21 : Class := { plain "long" none with kind := .primitive 'J', accessFlags := 0x411 }
/-- [J -/
def k22 : Class := { plain "[J" (some 0) with kind := .array 21 .long, interfaces := #[14, 2], accessFlags := 1041 }

def heap : Heap := #[{ cls := 7, slots := #[.long 0, .int 1, .null, .int 0, .null, .int 0, .int 0], vm := .statics 7 },
  { cls := 12, slots := #[.null, .null, .null], vm := .statics 12 }]
def classes : Array Class := #[k0, k1, k2, k3, k4, k5, k6, k7, k8, k9, k10, k11, k12, k13, k14, k15, k16, k17, k18, k19, k20, k21, k22]
def interned : List (Array UInt16 × Addr) := []
def slotsUsed : Nat := 10
def theMethod : MethodId := ⟨1, 1⟩
def args0 : Array Value := #[.long 50, .int 50, .int 50, .int 3, .int 4]
def aboutOver (below : List Frame) : State where
  vm := { classes := classes, interned := interned.toArray }
  heap := heap
  slotsUsed := slotsUsed
  threads := #[{ frames := .invoking theMethod args0 :: below }]
def below0 : List Frame := [.native { method := ⟨0, 0⟩, args := #[] }]
def about1 : State := aboutOver below0
def p0 : Program := .bare "" "" ""
def e0 : Env := launch0.env 0 0 0
theorem w_frames : about1.frames = Frame.invoking theMethod args0 :: below0 := rfl
set_option maxRecDepth 65536 in
theorem w_args : argsFit about1.vm theMethod args0 = true := by decide +kernel
set_option maxRecDepth 65536 in
theorem w_heap : heapFits about1 = true := by decide +kernel
set_option maxRecDepth 65536 in
theorem w_runnable : about1.curStatus? = some .runnable := by decide +kernel
set_option maxRecDepth 65536 in
theorem w_alone : about1.alone = true := by decide +kernel
set_option maxRecDepth 65536 in
theorem w_named : about1.methodNamed? x = some theMethod := by decide +kernel
set_option maxRecDepth 65536 in
theorem w_hears : about1.hears theMethod below0 = true := by decide +kernel
set_option maxRecDepth 65536 in
theorem w_ripe : about1.ripe theMethod args0 below0 = true := by decide +kernel
theorem w_running : about1.status = .running := rfl
set_option maxRecDepth 65536 in
theorem w_room : about1.hasRoom e0.platform room_1 = true :=
  launch0.hasRoom_least _ room_1 (by decide +kernel) (by decide +kernel) (by decide +kernel) (by decide +kernel) (by decide +kernel) (by decide +kernel)
theorem allAtoms_all (ts : List Jvm.Cond) (a : Array Jvm.Value) (st : Jvm.State) : (allAtoms ts).before a st = ts.all (fun c => c.before a st) := by
  induction ts with
  | nil => rfl
  | cons c t ih =>
    show (Jvm.Cond.and c (allAtoms t)).before a st = _
    rw [Jvm.Cond.before_and, ih, List.all_cons]
def words1 : List Jvm.Cond := Jvm.Cond.code x code maxLocals ret :: tables_1
/-- a 'code' word, met by the world's own term for the bytes: nothing is compared byte by byte -/
theorem code_word {y : MethodName} {bytes : ByteArray} {mx : Nat} {rt : Option FieldType} {a : Array Value} {s : State} {m : MethodId} {meth : Method} {c : Code} (h1 : s.methodNamed? y = some m) (h2 : s.vm.method? m = some meth) (h3 : meth.code = some c) (h4 : c.code = bytes)
    (h5 : (c.maxLocals == mx && c.exceptionTable.isEmpty && decide (c.maxStack ≤ mostOperands) && decide (meth.sig.returnType = rt) && !meth.locks && decide (parseMethodDescriptor y.desc = some meth.sig)) = true) : (Jvm.Cond.code y bytes mx rt).before a s = true := by
  simp only [Bool.and_eq_true, beq_iff_eq, Bool.not_eq_true', decide_eq_true_eq] at h5
  obtain ⟨⟨⟨⟨⟨g1, g2⟩, g3⟩, g4⟩, g5⟩, g6⟩ := h5
  simp [Cond.before, Cond.holds, Cond.value, h1, h2, h3, h4, g1, g2, g3, g4, g5, g6]
def isCode : Jvm.Cond → Bool
  | .code _ _ _ _ => true
  | _ => false
theorem all_split {L : List Jvm.Cond} {P : Jvm.Cond → Bool} (h1 : L.all (fun c => isCode c || P c) = true) (h2 : ∀ c ∈ L.filter isCode, P c = true) : L.all P = true := by
  refine List.all_eq_true.mpr fun c hc => ?_
  have h := List.all_eq_true.mp h1 c hc
  rcases Bool.eq_false_or_eq_true (isCode c) with hi | hi
  · exact h2 c (List.mem_filter.mpr ⟨hc, hi⟩)
  · simpa [hi] using h
set_option maxRecDepth 65536 in
theorem w_c0 : (Jvm.Cond.code x code maxLocals ret).before args0 about1 = true := code_word (m := ⟨1, 1⟩) (meth := k1m1) (c := k1c1) (by decide +kernel) rfl rfl rfl (by decide +kernel)
set_option maxRecDepth 65536 in
theorem w_c1 : (Jvm.Cond.code ({ cls := "com/example/lookback/lookback/PlainDecimalsValueOfPinLaw", name := "digit", desc := "(J[JI)I" } : Jvm.MethodName) method_3_code (4 : Nat) (Option.some Jvm.ClassFile.FieldType.int)).before args0 about1 = true := code_word (m := ⟨1, 2⟩) (meth := k1m2) (c := k1c2) (by decide +kernel) rfl rfl rfl (by decide +kernel)
set_option maxRecDepth 65536 in
theorem w_c2 : (Jvm.Cond.code ({ cls := "java/lang/String", name := "<init>", desc := "([C)V" } : Jvm.MethodName) jdk_42_method_3_code (2 : Nat) (Option.none : Option Jvm.ClassFile.FieldType)).before args0 about1 = true := code_word (m := ⟨7, 1⟩) (meth := k7m1) (c := k7c1) (by decide +kernel) rfl rfl rfl (by decide +kernel)
set_option maxRecDepth 65536 in
theorem w_c3 : (Jvm.Cond.code ({ cls := "java/lang/String", name := "<init>", desc := "([CIILjava/lang/Void;)V" } : Jvm.MethodName) jdk_42_method_149_code (6 : Nat) (Option.none : Option Jvm.ClassFile.FieldType)).before args0 about1 = true := code_word (m := ⟨7, 3⟩) (meth := k7m3) (c := k7c3) (by decide +kernel) rfl rfl rfl (by decide +kernel)
set_option maxRecDepth 65536 in
theorem w_c4 : (Jvm.Cond.code ({ cls := "java/lang/Object", name := "<init>", desc := "()V" } : Jvm.MethodName) object_method_1_code (1 : Nat) (Option.none : Option Jvm.ClassFile.FieldType)).before args0 about1 = true := code_word (m := ⟨0, 0⟩) (meth := k0m0) (c := k0c0) (by decide +kernel) rfl rfl rfl (by decide +kernel)
set_option maxRecDepth 65536 in
theorem w_c5 : (Jvm.Cond.code ({ cls := "java/lang/StringUTF16", name := "compress", desc := "([CII)[B" } : Jvm.MethodName) jdk_52_method_16_code (6 : Nat) (Option.some (Jvm.ClassFile.FieldType.array Jvm.ClassFile.FieldType.byte))).before args0 about1 = true := code_word (m := ⟨8, 2⟩) (meth := k8m2) (c := k8c2) (by decide +kernel) rfl rfl rfl (by decide +kernel)
set_option maxRecDepth 65536 in
theorem w_c6 : (Jvm.Cond.code ({ cls := "java/lang/StringUTF16", name := "compress", desc := "([CI[BII)I" } : Jvm.MethodName) jdk_52_method_21_code (7 : Nat) (Option.some Jvm.ClassFile.FieldType.int)).before args0 about1 = true := code_word (m := ⟨8, 3⟩) (meth := k8m3) (c := k8c3) (by decide +kernel) rfl rfl rfl (by decide +kernel)
set_option maxRecDepth 65536 in
theorem w_c7 : (Jvm.Cond.code ({ cls := "java/lang/StringUTF16", name := "coderFromArrayLen", desc := "([BI)B" } : Jvm.MethodName) jdk_52_method_15_code (2 : Nat) (Option.some Jvm.ClassFile.FieldType.byte)).before args0 about1 = true := code_word (m := ⟨8, 1⟩) (meth := k8m1) (c := k8c1) (by decide +kernel) rfl rfl rfl (by decide +kernel)
set_option maxRecDepth 65536 in
theorem w_c8 : (Jvm.Cond.code ({ cls := "java/lang/Math", name := "min", desc := "(II)I" } : Jvm.MethodName) jdk_29_method_69_code (2 : Nat) (Option.some Jvm.ClassFile.FieldType.int)).before args0 about1 = true := code_word (m := ⟨9, 1⟩) (meth := k9m1) (c := k9c1) (by decide +kernel) rfl rfl rfl (by decide +kernel)
set_option maxRecDepth 65536 in
theorem w_c9 : (Jvm.Cond.code ({ cls := "com/example/lookback/lookback/PlainDecimalsValueOfPinLaw", name := "term", desc := "([I[JIII)J" } : Jvm.MethodName) method_4_code (5 : Nat) (Option.some Jvm.ClassFile.FieldType.long)).before args0 about1 = true := code_word (m := ⟨1, 3⟩) (meth := k1m3) (c := k1c3) (by decide +kernel) rfl rfl rfl (by decide +kernel)
set_option maxRecDepth 65536 in
theorem w_c10 : (Jvm.Cond.code ({ cls := "com/example/lookback/lookback/PlainDecimals", name := "valueOf", desc := "(Ljava/lang/String;II)I" } : Jvm.MethodName) prog_50_method_5_code (5 : Nat) (Option.some Jvm.ClassFile.FieldType.int)).before args0 about1 = true := code_word (m := ⟨10, 1⟩) (meth := k10m1) (c := k10c1) (by decide +kernel) rfl rfl rfl (by decide +kernel)
set_option maxRecDepth 65536 in
theorem w_c11 : (Jvm.Cond.code ({ cls := "java/lang/String", name := "charAt", desc := "(I)C" } : Jvm.MethodName) jdk_42_method_56_code (2 : Nat) (Option.some Jvm.ClassFile.FieldType.char)).before args0 about1 = true := code_word (m := ⟨7, 2⟩) (meth := k7m2) (c := k7c2) (by decide +kernel) rfl rfl rfl (by decide +kernel)
set_option maxRecDepth 65536 in
theorem w_c12 : (Jvm.Cond.code ({ cls := "java/lang/String", name := "isLatin1", desc := "()Z" } : Jvm.MethodName) jdk_42_method_154_code (1 : Nat) (Option.some Jvm.ClassFile.FieldType.boolean)).before args0 about1 = true := code_word (m := ⟨7, 4⟩) (meth := k7m4) (c := k7c4) (by decide +kernel) rfl rfl rfl (by decide +kernel)
set_option maxRecDepth 65536 in
theorem w_c13 : (Jvm.Cond.code ({ cls := "java/lang/StringLatin1", name := "charAt", desc := "([BI)C" } : Jvm.MethodName) jdk_43_method_2_code (2 : Nat) (Option.some Jvm.ClassFile.FieldType.char)).before args0 about1 = true := code_word (m := ⟨11, 1⟩) (meth := k11m1) (c := k11c1) (by decide +kernel) rfl rfl rfl (by decide +kernel)
set_option maxRecDepth 65536 in
theorem w_c14 : (Jvm.Cond.code ({ cls := "java/lang/String", name := "checkIndex", desc := "(II)V" } : Jvm.MethodName) jdk_42_method_155_code (2 : Nat) (Option.none : Option Jvm.ClassFile.FieldType)).before args0 about1 = true := code_word (m := ⟨7, 5⟩) (meth := k7m5) (c := k7c5) (by decide +kernel) rfl rfl rfl (by decide +kernel)
set_option maxRecDepth 65536 in
theorem w_c15 : (Jvm.Cond.code ({ cls := "jdk/internal/util/Preconditions", name := "checkIndex", desc := "(IILjava/util/function/BiFunction;)I" } : Jvm.MethodName) jdk_41_method_11_code (3 : Nat) (Option.some Jvm.ClassFile.FieldType.int)).before args0 about1 = true := code_word (m := ⟨12, 1⟩) (meth := k12m1) (c := k12c1) (by decide +kernel) rfl rfl rfl (by decide +kernel)
def codes1 : List Jvm.Cond := [Jvm.Cond.code x code maxLocals ret, Jvm.Cond.code ({ cls := "com/example/lookback/lookback/PlainDecimalsValueOfPinLaw", name := "digit", desc := "(J[JI)I" } : Jvm.MethodName) method_3_code (4 : Nat) (Option.some Jvm.ClassFile.FieldType.int), Jvm.Cond.code ({ cls := "java/lang/String", name := "<init>", desc := "([C)V" } : Jvm.MethodName) jdk_42_method_3_code (2 : Nat) (Option.none : Option Jvm.ClassFile.FieldType), Jvm.Cond.code ({ cls := "java/lang/String", name := "<init>", desc := "([CIILjava/lang/Void;)V" } : Jvm.MethodName) jdk_42_method_149_code (6 : Nat) (Option.none : Option Jvm.ClassFile.FieldType), Jvm.Cond.code ({ cls := "java/lang/Object", name := "<init>", desc := "()V" } : Jvm.MethodName) object_method_1_code (1 : Nat) (Option.none : Option Jvm.ClassFile.FieldType), Jvm.Cond.code ({ cls := "java/lang/StringUTF16", name := "compress", desc := "([CII)[B" } : Jvm.MethodName) jdk_52_method_16_code (6 : Nat) (Option.some (Jvm.ClassFile.FieldType.array Jvm.ClassFile.FieldType.byte)), Jvm.Cond.code ({ cls := "java/lang/StringUTF16", name := "compress", desc := "([CI[BII)I" } : Jvm.MethodName) jdk_52_method_21_code (7 : Nat) (Option.some Jvm.ClassFile.FieldType.int), Jvm.Cond.code ({ cls := "java/lang/StringUTF16", name := "coderFromArrayLen", desc := "([BI)B" } : Jvm.MethodName) jdk_52_method_15_code (2 : Nat) (Option.some Jvm.ClassFile.FieldType.byte), Jvm.Cond.code ({ cls := "java/lang/Math", name := "min", desc := "(II)I" } : Jvm.MethodName) jdk_29_method_69_code (2 : Nat) (Option.some Jvm.ClassFile.FieldType.int), Jvm.Cond.code ({ cls := "com/example/lookback/lookback/PlainDecimalsValueOfPinLaw", name := "term", desc := "([I[JIII)J" } : Jvm.MethodName) method_4_code (5 : Nat) (Option.some Jvm.ClassFile.FieldType.long), Jvm.Cond.code ({ cls := "com/example/lookback/lookback/PlainDecimals", name := "valueOf", desc := "(Ljava/lang/String;II)I" } : Jvm.MethodName) prog_50_method_5_code (5 : Nat) (Option.some Jvm.ClassFile.FieldType.int), Jvm.Cond.code ({ cls := "java/lang/String", name := "charAt", desc := "(I)C" } : Jvm.MethodName) jdk_42_method_56_code (2 : Nat) (Option.some Jvm.ClassFile.FieldType.char), Jvm.Cond.code ({ cls := "java/lang/String", name := "isLatin1", desc := "()Z" } : Jvm.MethodName) jdk_42_method_154_code (1 : Nat) (Option.some Jvm.ClassFile.FieldType.boolean), Jvm.Cond.code ({ cls := "java/lang/StringLatin1", name := "charAt", desc := "([BI)C" } : Jvm.MethodName) jdk_43_method_2_code (2 : Nat) (Option.some Jvm.ClassFile.FieldType.char), Jvm.Cond.code ({ cls := "java/lang/String", name := "checkIndex", desc := "(II)V" } : Jvm.MethodName) jdk_42_method_155_code (2 : Nat) (Option.none : Option Jvm.ClassFile.FieldType), Jvm.Cond.code ({ cls := "jdk/internal/util/Preconditions", name := "checkIndex", desc := "(IILjava/util/function/BiFunction;)I" } : Jvm.MethodName) jdk_41_method_11_code (3 : Nat) (Option.some Jvm.ClassFile.FieldType.int)]
set_option maxRecDepth 65536 in
theorem codes_eq : words1.filter isCode = codes1 := rfl
theorem w_codes : ∀ c ∈ words1.filter isCode, c.before args0 about1 = true := by
  rw [codes_eq]
  intro c hc
  simp only [codes1, List.mem_cons, List.not_mem_nil, or_false] at hc
  rcases hc with rfl | rfl | rfl | rfl | rfl | rfl | rfl | rfl | rfl | rfl | rfl | rfl | rfl | rfl | rfl | rfl
  · exact w_c0
  · exact w_c1
  · exact w_c2
  · exact w_c3
  · exact w_c4
  · exact w_c5
  · exact w_c6
  · exact w_c7
  · exact w_c8
  · exact w_c9
  · exact w_c10
  · exact w_c11
  · exact w_c12
  · exact w_c13
  · exact w_c14
  · exact w_c15
set_option maxRecDepth 65536 in
theorem w_t1 : (words1.take 24).all (fun c => isCode c || c.before args0 about1) = true := by decide +kernel
set_option maxRecDepth 65536 in
theorem w_t2 : ((words1.drop 24).take 24).all (fun c => isCode c || c.before args0 about1) = true := by decide +kernel
set_option maxRecDepth 65536 in
theorem w_t3 : (((words1.drop 24).drop 24).take 24).all (fun c => isCode c || c.before args0 about1) = true := by decide +kernel
set_option maxRecDepth 65536 in
theorem w_t4 : (((words1.drop 24).drop 24).drop 24).all (fun c => isCode c || c.before args0 about1) = true := by decide +kernel
theorem w_tables : (allAtoms (Jvm.Cond.code x code maxLocals ret :: tables_1)).before args0 about1 = true := by
  rw [allAtoms_all]
  show words1.all (fun c => c.before args0 about1) = true
  refine all_split ?_ w_codes
  rw [← List.take_append_drop 24 words1, List.all_append, w_t1, ← List.take_append_drop 24 (words1.drop 24), List.all_append, w_t2, ← List.take_append_drop 24 ((words1.drop 24).drop 24), List.all_append, w_t3, w_t4]
  rfl
set_option maxRecDepth 65536 in
theorem w_rest : rest_1_c.before args0 about1 = true := by decide +kernel
set_option maxRecDepth 65536 in
theorem w_case : (Jvm.Cond.and given_1 narrow_1).before args0 about1 = true := by decide +kernel
theorem w_applies : (headSpec (Jvm.Cond.code x code maxLocals ret :: tables_1) room_1).applies x e0.platform about1 = true :=
  (Spec.applies_iff w_frames).mpr ⟨w_running, w_runnable, w_alone, w_named, w_hears, w_ripe, w_room, w_tables⟩
theorem atStart : AtStart classFile x code maxLocals ret World_1 tables_1 room_1 Calls_1 rest_1 Pre_1 launch0 p0 e0 about1 theMethod args0 below0 :=
  ⟨lists_1, trivial, launch0.admits_env _ _ _, launch0.least_env, fairChoices_fair.cas, fairChoices_fair.clock, w_frames, w_args, w_heap, w_applies, trivial, w_rest, w_case⟩
end start1
theorem witness_1 : WitnessClaimed_1 := ⟨start1.p0, start1.e0, start1.about1, start1.theMethod, start1.args0, start1.below0, start1.atStart⟩
end Jvm.Pilot.@@N@@
