import JvmDerived
import JvmDerived.Pilot.@@N@@Statement
import JvmDerived.Pilot.@@N@@Code
set_option linter.unusedVariables false
set_option linter.unusedSimpArgs false
/- laws to paste: Road.backArv, Road.codOf, pair_says, shr0, lo8_mask, Road.wide_lo, Road.wide_hi, Road.low_at (cut by pick.py; bodies as the Statement names them) -/
namespace Jvm.Pilot.@@N@@
namespace StrChars
open Jvm Sem ClassFile Op Lib Jvm.Stand Jvm.Free.XT Jvm.Free.ALB Jvm.Free.JM Jvm.Free
open Jvm.Lib.Cold (StaticIs)
/-- a char array whose places are chars -/
def Ch (a : Addr) (A : Cell) (U : State) : Prop := Arr .char a A U ∧ Typed .char A
theorem Ch.mv {a : Addr} {A : Cell} {U U' : State} (h : Ch a A U) (hal : U.vm.Alike U'.vm) (hh : U'.heap = U.heap) : Ch a A U' := ⟨h.1.mv hal hh, h.2⟩
theorem Ch.keep {a : Addr} {A : Cell} {U U' : State} (h : Ch a A U) (hal : U.vm.Alike U'.vm) (hk : U'.heap[a]? = some A) : Ch a A U' := ⟨h.1.keep hal hk, h.2⟩
/-- what place i of a char[]'s cell holds -/
def cv (A : Cell) (i : Nat) : Int32 := match A.slots[i]? with | some (.int x) => x | _ => 0
theorem Ch.get {a : Addr} {A : Cell} {U : State} (h : Ch a A U) {i : Nat} (hi : i < A.slots.size) : A.slots[i]? = some (.int (cv A i)) := by
  have e := Array.getElem?_eq_getElem hi
  have f := h.2 i _ e
  unfold cv; rw [e]
  generalize A.slots[i] = v at f
  cases v <;> simp [fits] at f ⊢
/-- the byte that i2b leaves of a char -/
def lo8 (x : Int32) : Int32 := x.toInt8.toInt32
theorem fits_lo8 (y : Int32) : fits .byte (.int (lo8 y)) = true := by
  have h1 := y.toInt8.le_toInt
  have h2 := y.toInt8.toInt_lt
  simp only [lo8, fits, Bool.and_eq_true, decide_eq_true_eq, Int32.le_iff_toInt_le, Int8.toInt_toInt32, show (-128 : Int32).toInt = -128 from by decide, show (127 : Int32).toInt = 127 from by decide]
  omega
/-- A' is A but that each place j of lo .. hi - 1 holds f j -/
def Laid (A A' : Cell) (lo hi : Nat) (f : Nat → Value) : Prop := A'.cls = A.cls ∧ A'.vm = A.vm ∧ A'.slots.size = A.slots.size ∧ ∀ i, A'.slots[i]? = if lo ≤ i ∧ i < hi then some (f i) else A.slots[i]?
theorem Laid.zero (A : Cell) (lo : Nat) (f : Nat → Value) : Laid A A lo (lo + 0) f := ⟨rfl, rfl, rfl, fun i => by rw [if_neg (by omega)]⟩
theorem Laid.step {A Ak : Cell} {lo k : Nat} {f : Nat → Value} {v : Value} (h : Laid A Ak lo k f) (hlo : lo ≤ k) (hk : k < Ak.slots.size) (hv : v = f k) : Laid A (Ak.setSlot k v) lo (k + 1) f := by
  refine ⟨h.1, h.2.1, by simpa [Cell.setSlot] using h.2.2.1, fun i => ?_⟩
  by_cases e : k = i
  · subst e; rw [Cell.slots_setSlot_self v hk, if_pos (by omega), hv]
  · rw [Cell.slots_setSlot_ne v e, h.2.2.2 i]
    by_cases q : lo ≤ i ∧ i < k
    · rw [if_pos q, if_pos (by omega)]
    · rw [if_neg q, if_neg (by omega)]
def U16 : String := "java/lang/StringUTF16"
namespace Cmp5
def yN : MethodName := ⟨"java/lang/StringUTF16", "compress", "([CI[BII)I"⟩
abbrev yB : ByteArray := jdk_52_method_21_code
theorem d0 : decode yB 0 = .ok (.iconst 0, 1) := by decide +kernel
theorem d1 : decode yB 1 = .ok (.istore 5, 2) := by decide +kernel
theorem d3 : decode yB 3 = .ok (.iload 5, 2) := by decide +kernel
theorem d5 : decode yB 5 = .ok (.iload 4, 2) := by decide +kernel
theorem d7 : decode yB 7 = .ok (.if_icmp (.ge) 37, 3) := by decide +kernel
theorem d10 : decode yB 10 = .ok (.aload_n 0, 1) := by decide +kernel
theorem d11 : decode yB 11 = .ok (.iload_n 1, 1) := by decide +kernel
theorem d12 : decode yB 12 = .ok (.caload, 1) := by decide +kernel
theorem d13 : decode yB 13 = .ok (.istore 6, 2) := by decide +kernel
theorem d15 : decode yB 15 = .ok (.iload 6, 2) := by decide +kernel
theorem d17 : decode yB 17 = .ok (.sipush 255, 3) := by decide +kernel
theorem d20 : decode yB 20 = .ok (.if_icmp (.le) 6, 3) := by decide +kernel
theorem d26 : decode yB 26 = .ok (.aload_n 2, 1) := by decide +kernel
theorem d27 : decode yB 27 = .ok (.iload_n 3, 1) := by decide +kernel
theorem d28 : decode yB 28 = .ok (.iload 6, 2) := by decide +kernel
theorem d30 : decode yB 30 = .ok (.i2b, 1) := by decide +kernel
theorem d31 : decode yB 31 = .ok (.bastore, 1) := by decide +kernel
theorem d32 : decode yB 32 = .ok (.iinc 1 1, 3) := by decide +kernel
theorem d35 : decode yB 35 = .ok (.iinc 3 1, 3) := by decide +kernel
theorem d38 : decode yB 38 = .ok (.iinc 5 1, 3) := by decide +kernel
theorem d41 : decode yB 41 = .ok (.goto (-38), 3) := by decide +kernel
theorem d44 : decode yB 44 = .ok (.iload 4, 2) := by decide +kernel
theorem d46 : decode yB 46 = .ok (.ireturn, 1) := by decide +kernel
def site : List Cond := []
def tab : Cond := tabOf yN yB 7 (some .int) site
def P (b : Addr) (A : Cell) (d : Addr) (B : Cell) (o q len : Nat) (args : Array Value) (s : State) : Prop := args = #[.ref b, .int (Int32.ofNat o), .ref d, .int (Int32.ofNat q), .int (Int32.ofNat len)] ∧ Ch b A s ∧ Arr .byte d B s ∧ b ≠ d ∧ o + len ≤ A.slots.size ∧ q + len ≤ B.slots.size ∧ ∀ i, i < len → ¬ 255 < cv A (o + i)
def E (b : Addr) (A : Cell) (d : Addr) (B : Cell) (o q len : Nat) (r : Option Value) (s u : State) : Prop := r = some (.int (Int32.ofNat len)) ∧ ∃ B', Put d B' s u ∧ Laid B B' q (q + len) (fun j => Value.int (lo8 (cv A (o + (j - q)))))
/-- no char of the range above 255: len; the places written hold each char's low byte -/
theorem law (l : Launch) (b : Addr) (A : Cell) (d : Addr) (B : Cell) (o q len : Nat) : Law l yN 5 5 0 0 yB 7 (some .int) site (P b A d B o q len) (E b A d B o q len) (copyLocs d q len) 0 0 := by
  refine Law.of_walk (plainFor_of_name (by decide +kernel)) (by decide +kernel) (by decide +kernel) (by decide) (fun _ _ h => by rw [h.1]; rfl) (fun _ U U' hal hh h => ⟨h.1, h.2.1.mv hal hh, h.2.2.1.mv hal hh, h.2.2.2⟩) (fun r U U' V V' h1 hal h2 h => ⟨h.1, h.2.elim fun B' q => ⟨B', q.1.mv h1 h2, q.2⟩⟩) ?_
  intro p e s m args below meth c s₁ X0 hexec hbytes hml hret hlk hnm hown hh0 W hP
  obtain ⟨rfl, hA, hB, hne, l1, l2, hp⟩ := hP
  have c1 : Steps p.tables e below (s₁.setTop (entryFrame m #[.ref b, .int (Int32.ofNat o), .ref d, .int (Int32.ofNat q), .int (Int32.ofNat len)] 7)) (s₁.setTop (mkF m 0 #[.val (.ref b), .val (.int (Int32.ofNat o)), .val (.ref d), .val (.int (Int32.ofNat q)), .val (.int (Int32.ofNat len)), .unset, .unset] [])) := entry rfl
  have hA0 := hA.1.mv X0.warmed.alike hh0
  have hB0 := hB.mv X0.warmed.alike hh0
  have a31 := hA.1.2.2.2
  have c2 : Steps p.tables e below (s₁.setTop (entryFrame m #[.ref b, .int (Int32.ofNat o), .ref d, .int (Int32.ofNat q), .int (Int32.ofNat len)] 7)) (s₁.setTop (mkF m 3 #[.val (.ref b), .val (.int (Int32.ofNat o)), .val (.ref d), .val (.int (Int32.ofNat q)), .val (.int (Int32.ofNat len)), .val (.int 0), .unset] [])) := c1.trans (by
    refine iconstV X0.here hexec rfl 0 (hb hbytes d0) (by decide) ?_
    refine XS.istore X0.here hexec rfl (hb hbytes d1) rfl rfl ?_
    exact Steps.refl _)
  have loop : ∀ (r i : Nat), i + r = len → ∀ (z : Slot), (z = .unset ∨ ∃ w, z = .val w ∧ w.category = 1) → ∀ (Tl : State) (Bk : Cell), Stand p l e { frames := 0, locals := 0, cells := 0, slots := 0 } s m #[.ref b, .int (Int32.ofNat o), .ref d, .int (Int32.ofNat q), .int (Int32.ofNat len)] below meth c Tl ([] ++ copyLocs d q i) 0 0 → Put d Bk s₁ Tl → Laid B Bk q (q + i) (fun j => Value.int (lo8 (cv A (o + (j - q))))) →
      Steps p.tables e below (s₁.setTop (entryFrame m #[.ref b, .int (Int32.ofNat o), .ref d, .int (Int32.ofNat q), .int (Int32.ofNat len)] 7)) (Tl.setTop (mkF m 3 #[.val (.ref b), .val (.int (Int32.ofNat (o + i))), .val (.ref d), .val (.int (Int32.ofNat (q + i))), .val (.int (Int32.ofNat len)), .val (.int (Int32.ofNat i)), z] [])) → ∃ (T' : State) (B' : Cell) (z' : Slot), Stand p l e { frames := 0, locals := 0, cells := 0, slots := 0 } s m #[.ref b, .int (Int32.ofNat o), .ref d, .int (Int32.ofNat q), .int (Int32.ofNat len)] below meth c T' ([] ++ copyLocs d q len) 0 0 ∧ Put d B' s₁ T' ∧ Laid B B' q (q + len) (fun j => Value.int (lo8 (cv A (o + (j - q))))) ∧
      Steps p.tables e below (s₁.setTop (entryFrame m #[.ref b, .int (Int32.ofNat o), .ref d, .int (Int32.ofNat q), .int (Int32.ofNat len)] 7)) (T'.setTop (mkF m 3 #[.val (.ref b), .val (.int (Int32.ofNat (o + len))), .val (.ref d), .val (.int (Int32.ofNat (q + len))), .val (.int (Int32.ofNat len)), .val (.int (Int32.ofNat len)), z'] [])) := by
    intro r
    induction r with
    | zero =>
      intro i hi z hz Tl Bk Xl pl fl cl
      have hil : i = len := by omega
      rw [hil] at Xl fl cl
      exact ⟨Tl, Bk, z, Xl, pl, fl, cl⟩
    | succ r ih =>
      intro i hi z hz Tl Bk Xl pl fl cl
      have all := X0.warmed.alike.symm.trans Xl.warmed.alike
      have hAl := hA0.keep all (pl.other hne hA0.1)
      have hBk := hB0.like all pl.1 fl.1 fl.2.1 fl.2.2.1
      have hlt : q + i < Bk.slots.size := by rw [fl.2.2.1]; omega
      have c3 : Steps p.tables e below (s₁.setTop (entryFrame m #[.ref b, .int (Int32.ofNat o), .ref d, .int (Int32.ofNat q), .int (Int32.ofNat len)] 7)) (Tl.setTop (mkF m 12 #[.val (.ref b), .val (.int (Int32.ofNat (o + i))), .val (.ref d), .val (.int (Int32.ofNat (q + i))), .val (.int (Int32.ofNat len)), .val (.int (Int32.ofNat i)), z] [.int (Int32.ofNat (o + i)), .ref b])) := cl.trans (by
        refine XS.iload Xl.here hexec rfl (hb hbytes d3) rfl ?_
        refine XS.iload Xl.here hexec rfl (hb hbytes d5) rfl ?_
        refine XS.icmpNo Xl.here hexec rfl (hb hbytes d7) rfl (ii_ge_f (lt32 (by omega) (by omega))) ?_
        refine XS.aloadN Xl.here hexec rfl (hb hbytes d10) rfl rfl ?_
        refine XS.iloadN Xl.here hexec rfl (hb hbytes d11) rfl ?_
        exact Steps.refl _)
      have c4 : Steps p.tables e below (s₁.setTop (entryFrame m #[.ref b, .int (Int32.ofNat o), .ref d, .int (Int32.ofNat q), .int (Int32.ofNat len)] 7)) (Tl.setTop (mkF m 13 #[.val (.ref b), .val (.int (Int32.ofNat (o + i))), .val (.ref d), .val (.int (Int32.ofNat (q + i))), .val (.int (Int32.ofNat len)), .val (.int (Int32.ofNat i)), z] [.int (cv A (o + i))])) := c3.trans (by
        refine Xl.aget hexec hAl rfl (hA.get (i := o + i) (by omega)) rfl rfl (hb hbytes d12) ?_
        exact Steps.refl _)
      have c5 : Steps p.tables e below (s₁.setTop (entryFrame m #[.ref b, .int (Int32.ofNat o), .ref d, .int (Int32.ofNat q), .int (Int32.ofNat len)] 7)) (Tl.setTop (mkF m 15 #[.val (.ref b), .val (.int (Int32.ofNat (o + i))), .val (.ref d), .val (.int (Int32.ofNat (q + i))), .val (.int (Int32.ofNat len)), .val (.int (Int32.ofNat i)), .val (.int (cv A (o + i)))] [])) := c4.trans (by
        refine XS.istoreS Xl.here hexec rfl (hb hbytes d13) rfl rfl hz ?_
        exact Steps.refl _)
      have c6 : Steps p.tables e below (s₁.setTop (entryFrame m #[.ref b, .int (Int32.ofNat o), .ref d, .int (Int32.ofNat q), .int (Int32.ofNat len)] 7)) (Tl.setTop (mkF m 31 #[.val (.ref b), .val (.int (Int32.ofNat (o + i))), .val (.ref d), .val (.int (Int32.ofNat (q + i))), .val (.int (Int32.ofNat len)), .val (.int (Int32.ofNat i)), .val (.int (cv A (o + i)))] [.int (lo8 (cv A (o + i))), .int (Int32.ofNat (q + i)), .ref d])) := c5.trans (by
        refine XS.iload Xl.here hexec rfl (hb hbytes d15) rfl ?_
        refine sipushV Xl.here hexec rfl 255 (hb hbytes d17) (by decide) ?_
        refine XS.icmpYes Xl.here hexec rfl (pc0 := 20) rfl (hb hbytes d20) rfl (ii_le_t (hp i (by omega))) (by decide) rfl ?_
        refine XS.aloadN Xl.here hexec rfl (hb hbytes d26) rfl rfl ?_
        refine XS.iloadN Xl.here hexec rfl (hb hbytes d27) rfl ?_
        refine XS.iload Xl.here hexec rfl (hb hbytes d28) rfl ?_
        refine i2b Xl.here hexec rfl (hb hbytes d30) rfl ?_
        exact Steps.refl _)
      obtain ⟨T7, X7, p7, st7⟩ := Xl.aput hexec hBk rfl hlt rfl (fits_lo8 (cv A (o + i))) (g := (mkF m 31 #[.val (.ref b), .val (.int (Int32.ofNat (o + i))), .val (.ref d), .val (.int (Int32.ofNat (q + i))), .val (.int (Int32.ofNat len)), .val (.int (Int32.ofNat i)), .val (.int (cv A (o + i)))] [.int (lo8 (cv A (o + i))), .int (Int32.ofNat (q + i)), .ref d])) rfl (rest := []) rfl (hb hbytes d31)
      have c8 : Steps p.tables e below (s₁.setTop (entryFrame m #[.ref b, .int (Int32.ofNat o), .ref d, .int (Int32.ofNat q), .int (Int32.ofNat len)] 7)) (T7.setTop (mkF m 32 #[.val (.ref b), .val (.int (Int32.ofNat (o + i))), .val (.ref d), .val (.int (Int32.ofNat (q + i))), .val (.int (Int32.ofNat len)), .val (.int (Int32.ofNat i)), .val (.int (cv A (o + i)))] [])) := c6.trans (st7 _ (Steps.refl _))
      have c9 : Steps p.tables e below (s₁.setTop (entryFrame m #[.ref b, .int (Int32.ofNat o), .ref d, .int (Int32.ofNat q), .int (Int32.ofNat len)] 7)) (T7.setTop (mkF m 3 #[.val (.ref b), .val (.int (Int32.ofNat (o + i) + 1)), .val (.ref d), .val (.int (Int32.ofNat (q + i) + 1)), .val (.int (Int32.ofNat len)), .val (.int (Int32.ofNat i + 1)), .val (.int (cv A (o + i)))] [])) := c8.trans (by
        refine iincV X7.here hexec rfl 1 (hb hbytes d32) (by decide) rfl rfl ?_
        refine iincV X7.here hexec rfl 1 (hb hbytes d35) (by decide) rfl rfl ?_
        refine iincV X7.here hexec rfl 1 (hb hbytes d38) (by decide) rfl rfl ?_
        refine XS.goto X7.here hexec rfl (pc0 := 41) rfl (hb hbytes d41) (by decide) rfl ?_
        exact Steps.refl _)
      have c10 : Steps p.tables e below (s₁.setTop (entryFrame m #[.ref b, .int (Int32.ofNat o), .ref d, .int (Int32.ofNat q), .int (Int32.ofNat len)] 7)) (T7.setTop (mkF m 3 #[.val (.ref b), .val (.int (Int32.ofNat (o + (i + 1)))), .val (.ref d), .val (.int (Int32.ofNat (q + (i + 1)))), .val (.int (Int32.ofNat len)), .val (.int (Int32.ofNat (i + 1))), .val (.int (cv A (o + i)))] [])) := by
        have := c9
        rw [succ32, succ32, succ32] at this
        exact this
      exact ih (i + 1) (by omega) _ (Or.inr ⟨_, rfl, rfl⟩) T7 _ (by rw [copyLocs_step, ← List.append_assoc]; exact X7) (pl.trans p7) (fl.step (by omega) hlt (by simp)) c10
  obtain ⟨T9, B9, z9, X9, p9, f9, g9⟩ := loop len 0 (by omega) .unset (Or.inl rfl) s₁ B (by simpa [copyLocs] using X0) ⟨hB0.1, fun _ _ => rfl, rfl⟩ (Laid.zero _ _ _) c2
  have c11 : Steps p.tables e below (s₁.setTop (entryFrame m #[.ref b, .int (Int32.ofNat o), .ref d, .int (Int32.ofNat q), .int (Int32.ofNat len)] 7)) (T9.setTop (mkF m 46 #[.val (.ref b), .val (.int (Int32.ofNat (o + len))), .val (.ref d), .val (.int (Int32.ofNat (q + len))), .val (.int (Int32.ofNat len)), .val (.int (Int32.ofNat len)), z9] [.int (Int32.ofNat len)])) := g9.trans (by
    refine XS.iload X9.here hexec rfl (hb hbytes d3) rfl ?_
    refine XS.iload X9.here hexec rfl (hb hbytes d5) rfl ?_
    refine XS.icmpYes X9.here hexec rfl (pc0 := 7) rfl (hb hbytes d7) rfl (ii_ge_t (nlt32 (by omega) (Nat.le_refl _))) (by decide) rfl ?_
    refine XS.iload X9.here hexec rfl (hb hbytes d44) rfl ?_
    exact Steps.refl _)
  exact ⟨T9, some (.int (Int32.ofNat len)), _, _, _, X9, by simp, rfl, rfl, (fun h => by cases h), ⟨rfl, B9, p9.from hh0, f9⟩, fun fs hl => c11.trans (X9.ireturnOut hexec hret rfl (Or.inl rfl) (hb hbytes d46) hl)⟩
end Cmp5
namespace Cmp3
def yN : MethodName := ⟨"java/lang/StringUTF16", "compress", "([CII)[B"⟩
abbrev yB : ByteArray := jdk_52_method_16_code
theorem d0 : decode yB 0 = .ok (.iload_n 2, 1) := by decide +kernel
theorem d1 : decode yB 1 = .ok (.newarray .byte, 2) := by decide +kernel
theorem d3 : decode yB 3 = .ok (.astore_n 3, 1) := by decide +kernel
theorem d4 : decode yB 4 = .ok (.aload_n 0, 1) := by decide +kernel
theorem d5 : decode yB 5 = .ok (.iload_n 1, 1) := by decide +kernel
theorem d6 : decode yB 6 = .ok (.aload_n 3, 1) := by decide +kernel
theorem d7 : decode yB 7 = .ok (.iconst 0, 1) := by decide +kernel
theorem d8 : decode yB 8 = .ok (.iload_n 2, 1) := by decide +kernel
theorem d9 : decode yB 9 = .ok (.invokestatic 115, 3) := by decide +kernel
theorem d12 : decode yB 12 = .ok (.istore 4, 2) := by decide +kernel
theorem d14 : decode yB 14 = .ok (.iload 4, 2) := by decide +kernel
theorem d16 : decode yB 16 = .ok (.iload_n 2, 1) := by decide +kernel
theorem d17 : decode yB 17 = .ok (.if_icmp (.eq) 40, 3) := by decide +kernel
theorem d57 : decode yB 57 = .ok (.aload_n 3, 1) := by decide +kernel
theorem d58 : decode yB 58 = .ok (.areturn, 1) := by decide +kernel
def site : List Cond := [.arrayClass .byte, Cmp5.tab] ++ staticW U16 115 Cmp5.yN
def tab : Cond := tabOf yN yB 6 (some (.array .byte)) site
def P (b : Addr) (A : Cell) (o len : Nat) (args : Array Value) (s : State) : Prop := args = #[.ref b, .int (Int32.ofNat o), .int (Int32.ofNat len)] ∧ Ch b A s ∧ o + len ≤ A.slots.size ∧ len ≤ 536870912 ∧ ∀ i, i < len → ¬ 255 < cv A (o + i)
def E (b : Addr) (A : Cell) (o len : Nat) (r : Option Value) (s u : State) : Prop := NewArr .byte "[B" len (fun j => .int (lo8 (cv A (o + j)))) r s u ∧ u.heap.size = s.heap.size + 1
/-- no char of the range above 255: a new byte[] of their low bytes -/
theorem law (l : Launch) (b : Addr) (A : Cell) (o len : Nat) : Law l yN 3 3 1 18 yB 6 (some (.array .byte)) site (P b A o len) (E b A o len) [] 1 len := by
  refine Law.of_walk (plainFor_of_name (by decide +kernel)) (by decide +kernel) (by decide +kernel) (by decide) (fun _ _ h => by rw [h.1]; rfl) (fun _ U U' hal hh h => ⟨h.1, h.2.1.mv hal hh, h.2.2⟩) (fun r U U' V V' h1 hal h2 h => ⟨NewArr.mv r U U' V V' h1 hal h2 h.1, by rw [h1, h2]; exact h.2⟩) ?_
  intro p e s m args below meth c s₁ X0 hexec hbytes hml hret hlk hnm hown hh0 W hP
  obtain ⟨rfl, hA, l1, l2, hp⟩ := hP
  have a31 := hA.1.2.2.2
  have c1 : Steps p.tables e below (s₁.setTop (entryFrame m #[.ref b, .int (Int32.ofNat o), .int (Int32.ofNat len)] 6)) (s₁.setTop (mkF m 0 #[.val (.ref b), .val (.int (Int32.ofNat o)), .val (.int (Int32.ofNat len)), .unset, .unset, .unset] [])) := entry rfl
  have c2 : Steps p.tables e below (s₁.setTop (entryFrame m #[.ref b, .int (Int32.ofNat o), .int (Int32.ofNat len)] 6)) (s₁.setTop (mkF m 1 #[.val (.ref b), .val (.int (Int32.ofNat o)), .val (.int (Int32.ofNat len)), .unset, .unset, .unset] [.int (Int32.ofNat len)])) := c1.trans (by
    refine XS.iloadN X0.here hexec rfl (hb hbytes d0) rfl ?_
    exact Steps.refl _)
  obtain ⟨T3, B3, X3, ba3, bs3, bv3, bh3, bf3, st3⟩ := X0.anew hexec (atype := .byte) (wk W (.arrayClass .byte)) rfl (by show len * 1 ≤ _; omega) (by omega) (g := (mkF m 1 #[.val (.ref b), .val (.int (Int32.ofNat o)), .val (.int (Int32.ofNat len)), .unset, .unset, .unset] [.int (Int32.ofNat len)])) rfl (hb hbytes d1) (rest := []) rfl (Nat.le_refl _) (by show 0 + len ≤ len; omega)
  rw [hh0] at ba3 st3
  have kp3 : XT.Kept s T3 := (XT.Kept.of_eq hh0).push bh3
  have hA3 := hA.keep X3.warmed.alike (kp3 _ _ hA.1.1)
  have hne : b ≠ s.heap.size := hA.1.ne
  have c4 : Steps p.tables e below (s₁.setTop (entryFrame m #[.ref b, .int (Int32.ofNat o), .int (Int32.ofNat len)] 6)) (T3.setTop (mkF m 3 #[.val (.ref b), .val (.int (Int32.ofNat o)), .val (.int (Int32.ofNat len)), .unset, .unset, .unset] [.ref s.heap.size])) := c2.trans (st3 _ (Steps.refl _))
  have c5 : Steps p.tables e below (s₁.setTop (entryFrame m #[.ref b, .int (Int32.ofNat o), .int (Int32.ofNat len)] 6)) (T3.setTop (mkF m 9 #[.val (.ref b), .val (.int (Int32.ofNat o)), .val (.int (Int32.ofNat len)), .val (.ref s.heap.size), .unset, .unset] [.int (Int32.ofNat len), .int 0, .ref s.heap.size, .int (Int32.ofNat o), .ref b])) := c4.trans (by
    refine XS.astoreN X3.here hexec rfl (hb hbytes d3) rfl rfl rfl ?_
    refine XS.aloadN X3.here hexec rfl (hb hbytes d4) rfl rfl ?_
    refine XS.iloadN X3.here hexec rfl (hb hbytes d5) rfl ?_
    refine XS.aloadN X3.here hexec rfl (hb hbytes d6) rfl rfl ?_
    refine iconstV X3.here hexec rfl 0 (hb hbytes d7) (by decide) ?_
    refine XS.iloadN X3.here hexec rfl (hb hbytes d8) rfl ?_
    exact Steps.refl _)
  obtain ⟨v6, T6, X6, E6, g6⟩ := X3.callS hexec (Cmp5.law l b A s.heap.size B3 o 0 len) hown (wks W (staticW U16 115 Cmp5.yN)) (wk W Cmp5.tab) (W := 0) (Nat.le_of_ble_eq_true rfl) (Nat.le_of_ble_eq_true rfl) (Nat.le_refl _) (by show 0 + len + 0 ≤ len; omega) (g := (mkF m 9 #[.val (.ref b), .val (.int (Int32.ofNat o)), .val (.int (Int32.ofNat len)), .val (.ref s.heap.size), .unset, .unset] [.int (Int32.ofNat len), .int (Int32.ofNat 0), .ref s.heap.size, .int (Int32.ofNat o), .ref b])) rfl (by rw [hml]; rfl) c5 (argsL := [.ref b, .int (Int32.ofNat o), .ref s.heap.size, .int (Int32.ofNat 0), .int (Int32.ofNat len)]) (rest := []) rfl rfl (by show 2 * 0 + 0 ≤ _; decide) (hb hbytes d9) (⟨rfl, hA3, ba3, hne, l1, by rw [bs3]; simp, hp⟩)
  obtain ⟨rfl, B6, p6, f6⟩ := E6
  have c7 : Steps p.tables e below (s₁.setTop (entryFrame m #[.ref b, .int (Int32.ofNat o), .int (Int32.ofNat len)] 6)) (T6.setTop (mkF m 12 #[.val (.ref b), .val (.int (Int32.ofNat o)), .val (.int (Int32.ofNat len)), .val (.ref s.heap.size), .unset, .unset] [.int (Int32.ofNat len)])) := g6
  have c8 : Steps p.tables e below (s₁.setTop (entryFrame m #[.ref b, .int (Int32.ofNat o), .int (Int32.ofNat len)] 6)) (T6.setTop (mkF m 58 #[.val (.ref b), .val (.int (Int32.ofNat o)), .val (.int (Int32.ofNat len)), .val (.ref s.heap.size), .val (.int (Int32.ofNat len)), .unset] [.ref s.heap.size])) := c7.trans (by
    refine XS.istore X6.here hexec rfl (hb hbytes d12) rfl rfl ?_
    refine XS.iload X6.here hexec rfl (hb hbytes d14) rfl ?_
    refine XS.iloadN X6.here hexec rfl (hb hbytes d16) rfl ?_
    refine XS.icmpYes X6.here hexec rfl (pc0 := 17) rfl (hb hbytes d17) rfl (ii_eq_t rfl) (by decide) rfl ?_
    refine XS.aloadN X6.here hexec rfl (hb hbytes d57) rfl rfl ?_
    exact Steps.refl _)
  have X8 := X6.wide (L' := []) (cells' := 1) (slots' := len) (fun x hx hlt => by
    simp only [List.nil_append, copyLocs, List.mem_map, List.mem_range] at hx
    obtain ⟨i, -, rfl⟩ := hx
    exact absurd hlt (Nat.lt_irrefl _)) (Nat.le_refl _) (by omega)
  exact ⟨T6, some (.ref s.heap.size), _, _, _, X8, rfl, rfl, rfl, (fun h => by cases h), ⟨⟨rfl, B6, ba3.like (X3.warmed.alike.symm.trans X6.warmed.alike) p6.1 f6.1 f6.2.1 f6.2.2.1, f6.2.1.trans bv3, by rw [X6.warmed.alike.findClass, f6.1]; exact bf3, by rw [f6.2.2.1, bs3]; simp, fun j hj => by rw [f6.2.2.2 j, if_pos (by omega)]; rfl, kp3.put p6 (Nat.le_refl _)⟩, by rw [p6.2.2, bh3, hh0]; simp⟩, fun fs hl => c8.trans (X8.areturnOut hexec rfl hret rfl (hb hbytes d58) hl)⟩
end Cmp3
namespace CodL
def yN : MethodName := ⟨"java/lang/StringUTF16", "coderFromArrayLen", "([BI)B"⟩
abbrev yB : ByteArray := jdk_52_method_15_code
theorem d0 : decode yB 0 = .ok (.iload_n 1, 1) := by decide +kernel
theorem d1 : decode yB 1 = .ok (.aload_n 0, 1) := by decide +kernel
theorem d2 : decode yB 2 = .ok (.arraylength, 1) := by decide +kernel
theorem d3 : decode yB 3 = .ok (.isub, 1) := by decide +kernel
theorem d4 : decode yB 4 = .ok (.bipush 31, 2) := by decide +kernel
theorem d6 : decode yB 6 = .ok (.iushr, 1) := by decide +kernel
theorem d7 : decode yB 7 = .ok (.i2b, 1) := by decide +kernel
theorem d8 : decode yB 8 = .ok (.ireturn, 1) := by decide +kernel
def site : List Cond := []
def tab : Cond := tabOf yN yB 2 (some .byte) site
def P (d : Addr) (B : Cell) (args : Array Value) (s : State) : Prop := args = #[.ref d, .int (Int32.ofNat B.slots.size)] ∧ Arr .byte d B s
def E (r : Option Value) (s u : State) : Prop := XT.PureE (some (.int 0)) r s u
/-- an array as long as the number of chars: LATIN1 -/
theorem law (l : Launch) (d : Addr) (B : Cell) : Law l yN 2 2 0 0 yB 2 (some .byte) site (P d B) E [] 0 0 := by
  refine Law.of_walk (plainFor_of_name (by decide +kernel)) (by decide +kernel) (by decide +kernel) (by decide) (fun _ _ h => by rw [h.1]; rfl) (fun _ U U' hal hh h => ⟨h.1, h.2.mv hal hh⟩) (fun r U U' V V' h1 hal h2 h => XT.PureE.mv r U U' V V' h1 hal h2 h) ?_
  intro p e s m args below meth c s₁ X0 hexec hbytes hml hret hlk hnm hown hh0 W hP
  obtain ⟨rfl, hB⟩ := hP
  have hB0 := hB.mv X0.warmed.alike hh0
  have c1 : Steps p.tables e below (s₁.setTop (entryFrame m #[.ref d, .int (Int32.ofNat B.slots.size)] 2)) (s₁.setTop (mkF m 0 #[.val (.ref d), .val (.int (Int32.ofNat B.slots.size))] [])) := entry rfl
  have c2 : Steps p.tables e below (s₁.setTop (entryFrame m #[.ref d, .int (Int32.ofNat B.slots.size)] 2)) (s₁.setTop (mkF m 2 #[.val (.ref d), .val (.int (Int32.ofNat B.slots.size))] [.ref d, .int (Int32.ofNat B.slots.size)])) := c1.trans (by
    refine XS.iloadN X0.here hexec rfl (hb hbytes d0) rfl ?_
    refine XS.aloadN X0.here hexec rfl (hb hbytes d1) rfl rfl ?_
    exact Steps.refl _)
  have c3 : Steps p.tables e below (s₁.setTop (entryFrame m #[.ref d, .int (Int32.ofNat B.slots.size)] 2)) (s₁.setTop (mkF m 8 #[.val (.ref d), .val (.int (Int32.ofNat B.slots.size))] [.int (lo8 (ushr (Int32.ofNat B.slots.size - Int32.ofNat B.slots.size) 31))])) := c2.trans (by
    refine X0.alen hexec hB0 rfl rfl (hb hbytes d2) ?_
    refine XS.isub X0.here hexec rfl (hb hbytes d3) rfl ?_
    refine bipushV X0.here hexec rfl 31 (hb hbytes d4) (by decide) ?_
    refine iushr X0.here hexec rfl (hb hbytes d6) rfl ?_
    refine i2b X0.here hexec rfl (hb hbytes d7) rfl ?_
    exact Steps.refl _)
  have e0 : lo8 (ushr (Int32.ofNat B.slots.size - Int32.ofNat B.slots.size) 31) = 0 := by rw [Int32.sub_self]; decide
  rw [e0] at c3
  exact ⟨s₁, some (.int 0), _, _, _, X0, rfl, rfl, rfl, (fun h => by cases h), ⟨rfl, hh0⟩, fun fs hl => c3.trans (X0.ireturnOut hexec hret rfl (Or.inr (Or.inr (Or.inl rfl))) (hb hbytes d8) hl)⟩
end CodL
/-- the String at a is Latin-1 over a new byte[] (the heap's one new cell): the low bytes of the len chars of A from o on; every cell but a is kept -/
def Got (a : Addr) (D : Cell) (fV fC : Field) (A : Cell) (o len : Nat) (r : Option Value) (s u : State) : Prop := r = none ∧ ∃ D' V : Cell, Blank "java/lang/String" a D' u ∧ Same D D' [fV.slot, fC.slot] ∧ D'.slots[fV.slot]? = some (.ref s.heap.size) ∧ D'.slots[fC.slot]? = some (.int 0) ∧ Arr .byte s.heap.size V u ∧ V.vm = .none ∧ u.vm.findClass "[B" = some V.cls ∧ V.slots.size = len ∧ (∀ j, j < len → V.slots[j]? = some (.int (lo8 (cv A (o + j))))) ∧ (∀ (y : Addr) (c : Cell), y ≠ a → s.heap[y]? = some c → u.heap[y]? = some c) ∧ u.heap.size = s.heap.size + 1
theorem Got.mv {a : Addr} {D A : Cell} {fV fC : Field} {o len : Nat} : ∀ r (U U' V V' : State), U'.heap = U.heap → V.vm.Alike V'.vm → V'.heap = V.heap → Got a D fV fC A o len r U V → Got a D fV fC A o len r U' V' :=
  fun r U U' V V' h1 hal h2 ⟨e0, D', X, a1, a2, a3, a4, a5, a6, a7, a8, a9, a10, a11⟩ => ⟨e0, D', X, a1.mv hal h2, a2, by rw [h1]; exact a3, a4, by rw [h1]; exact a5.mv hal h2, a6, by rw [hal.findClass]; exact a7, a8, a9, by rw [h1, h2]; exact a10, by rw [h1, h2]; exact a11⟩
namespace New4
def yN : MethodName := ⟨"java/lang/String", "<init>", "([CIILjava/lang/Void;)V"⟩
abbrev yB : ByteArray := jdk_42_method_149_code
theorem d0 : decode yB 0 = .ok (.aload_n 0, 1) := by decide +kernel
theorem d1 : decode yB 1 = .ok (.invokespecial 1, 3) := by decide +kernel
theorem d4 : decode yB 4 = .ok (.iload_n 3, 1) := by decide +kernel
theorem d5 : decode yB 5 = .ok (.ifCond (.ne) 22, 3) := by decide +kernel
theorem d27 : decode yB 27 = .ok (.getstatic 38, 3) := by decide +kernel
theorem d30 : decode yB 30 = .ok (.ifCond (.eq) 28, 3) := by decide +kernel
theorem d33 : decode yB 33 = .ok (.aload_n 1, 1) := by decide +kernel
theorem d34 : decode yB 34 = .ok (.iload_n 2, 1) := by decide +kernel
theorem d35 : decode yB 35 = .ok (.iload_n 3, 1) := by decide +kernel
theorem d36 : decode yB 36 = .ok (.invokestatic 177, 3) := by decide +kernel
theorem d39 : decode yB 39 = .ok (.astore 5, 2) := by decide +kernel
theorem d41 : decode yB 41 = .ok (.aload_n 0, 1) := by decide +kernel
theorem d42 : decode yB 42 = .ok (.aload 5, 2) := by decide +kernel
theorem d44 : decode yB 44 = .ok (.iload_n 3, 1) := by decide +kernel
theorem d45 : decode yB 45 = .ok (.invokestatic 47, 3) := by decide +kernel
theorem d48 : decode yB 48 = .ok (.putfield 15, 3) := by decide +kernel
theorem d51 : decode yB 51 = .ok (.aload_n 0, 1) := by decide +kernel
theorem d52 : decode yB 52 = .ok (.aload 5, 2) := by decide +kernel
theorem d54 : decode yB 54 = .ok (.putfield 9, 3) := by decide +kernel
theorem d57 : decode yB 57 = .ok (.return_, 1) := by decide +kernel
def site : List Cond := [.fieldLink "java/lang/String" 38 "java/lang/String" "COMPACT_STRINGS" "Z", Cmp3.tab, CodL.tab, .laysFinal "java/lang/String" "java/lang/String" "value" "[B", .fieldLink "java/lang/String" 9 "java/lang/String" "value" "[B", .laysFinal "java/lang/String" "java/lang/String" "coder" "B", .fieldLink "java/lang/String" 15 "java/lang/String" "coder" "B"] ++ objW "java/lang/String" 1 ++ staticW "java/lang/String" 177 Cmp3.yN ++ staticW "java/lang/String" 47 CodL.yN
def tab : Cond := tabOf yN yB 6 none site
def P (a : Addr) (D : Cell) (fV fC : Field) (b : Addr) (A : Cell) (z : Int32) (o len : Nat) (args : Array Value) (s : State) : Prop := args = #[.ref a, .ref b, .int (Int32.ofNat o), .int (Int32.ofNat len), .null] ∧ Blank "java/lang/String" a D s ∧ Found "java/lang/String" "value" "[B" fV s ∧ Found "java/lang/String" "coder" "B" fC s ∧ Ch b A s ∧ StaticIs s "java/lang/String" "COMPACT_STRINGS" "Z" (.int z) ∧ ¬ z = 0 ∧ 0 < len ∧ o + len ≤ A.slots.size ∧ len ≤ 536870912 ∧ ∀ i, i < len → ¬ 255 < cv A (o + i)
def E (a : Addr) (D : Cell) (fV fC : Field) (A : Cell) (o len : Nat) (r : Option Value) (s u : State) : Prop := Got a D fV fC A o len r s u
/-- len > 0, no char of the range above 255: a Latin-1 String of their low bytes -/
theorem law (l : Launch) (a : Addr) (D : Cell) (fV fC : Field) (b : Addr) (A : Cell) (z : Int32) (o len : Nat) : Law l yN 5 4 2 35 yB 6 none site (P a D fV fC b A z o len) (E a D fV fC A o len) [⟨a, fC.slot⟩, ⟨a, fV.slot⟩] 1 len := by
  refine Law.of_walk (plainFor_of_name (by decide +kernel)) (by decide +kernel) (by decide +kernel) (by decide) (fun _ _ h => by rw [h.1]; rfl) (fun _ U U' hal hh h => ⟨h.1, h.2.1.mv hal hh, h.2.2.1.al hal, h.2.2.2.1.al hal, h.2.2.2.2.1.mv hal hh, h.2.2.2.2.2.1.there hal hh, h.2.2.2.2.2.2⟩) (fun r U U' V V' h1 hal h2 h => Got.mv r U U' V V' h1 hal h2 h) ?_
  intro p e s m args below meth c s₁ X0 hexec hbytes hml hret hlk hnm hown hh0 W hP
  obtain ⟨rfl, hB, f1, f2, hA, s1, hz, l0, l1, l2, hp⟩ := hP
  have a31 := hA.1.2.2.2
  have c1 : Steps p.tables e below (s₁.setTop (entryFrame m #[.ref a, .ref b, .int (Int32.ofNat o), .int (Int32.ofNat len), .null] 6)) (s₁.setTop (mkF m 0 #[.val (.ref a), .val (.ref b), .val (.int (Int32.ofNat o)), .val (.int (Int32.ofNat len)), .val .null, .unset] [])) := entry rfl
  have c2 : Steps p.tables e below (s₁.setTop (entryFrame m #[.ref a, .ref b, .int (Int32.ofNat o), .int (Int32.ofNat len), .null] 6)) (s₁.setTop (mkF m 1 #[.val (.ref a), .val (.ref b), .val (.int (Int32.ofNat o)), .val (.int (Int32.ofNat len)), .val .null, .unset] [.ref a])) := c1.trans (by
    refine XS.aloadN X0.here hexec rfl (hb hbytes d0) rfl rfl ?_
    exact Steps.refl _)
  obtain ⟨T3, X3, q3, st3⟩ := X0.oinit hexec hown (wks W (objW "java/lang/String" 1)) (g := (mkF m 1 #[.val (.ref a), .val (.ref b), .val (.int (Int32.ofNat o)), .val (.int (Int32.ofNat len)), .val .null, .unset] [.ref a])) rfl (by rw [hml]; rfl) (rest := []) rfl (hb hbytes d1) (W := 0) (by show 2 * 0 + 0 ≤ _; decide) (Nat.le_of_ble_eq_true rfl) (Nat.le_of_ble_eq_true rfl)
  have hh3 := q3.trans hh0
  have c4 : Steps p.tables e below (s₁.setTop (entryFrame m #[.ref a, .ref b, .int (Int32.ofNat o), .int (Int32.ofNat len), .null] 6)) (T3.setTop (mkF m 27 #[.val (.ref a), .val (.ref b), .val (.int (Int32.ofNat o)), .val (.int (Int32.ofNat len)), .val .null, .unset] [])) := (c2.trans (st3 _ (Steps.refl _))).trans (by
    refine XS.iloadN X3.here hexec rfl (hb hbytes d4) rfl ?_
    refine XS.ifYes X3.here hexec rfl (pc0 := 5) rfl (hb hbytes d5) rfl (i0_ne_t (nz32 (by omega) l0)) (by decide) rfl ?_
    exact Steps.refl _)
  obtain ⟨T5, X5, q5, st5⟩ := X3.sget hexec hown (wk W (.fieldLink "java/lang/String" 38 "java/lang/String" "COMPACT_STRINGS" "Z")) s1 (fun _ _ h => by rw [hh3]; exact h) (g := (mkF m 27 #[.val (.ref a), .val (.ref b), .val (.int (Int32.ofNat o)), .val (.int (Int32.ofNat len)), .val .null, .unset] [])) rfl (hb hbytes d27)
  have hh5 := q5.trans hh3
  have c6 : Steps p.tables e below (s₁.setTop (entryFrame m #[.ref a, .ref b, .int (Int32.ofNat o), .int (Int32.ofNat len), .null] 6)) (T5.setTop (mkF m 30 #[.val (.ref a), .val (.ref b), .val (.int (Int32.ofNat o)), .val (.int (Int32.ofNat len)), .val .null, .unset] [.int z])) := c4.trans (st5 _ (Steps.refl _))
  have c7 : Steps p.tables e below (s₁.setTop (entryFrame m #[.ref a, .ref b, .int (Int32.ofNat o), .int (Int32.ofNat len), .null] 6)) (T5.setTop (mkF m 36 #[.val (.ref a), .val (.ref b), .val (.int (Int32.ofNat o)), .val (.int (Int32.ofNat len)), .val .null, .unset] [.int (Int32.ofNat len), .int (Int32.ofNat o), .ref b])) := c6.trans (by
    refine XS.ifNo X5.here hexec rfl (hb hbytes d30) rfl (i0_eq_f hz) ?_
    refine XS.aloadN X5.here hexec rfl (hb hbytes d33) rfl rfl ?_
    refine XS.iloadN X5.here hexec rfl (hb hbytes d34) rfl ?_
    refine XS.iloadN X5.here hexec rfl (hb hbytes d35) rfl ?_
    exact Steps.refl _)
  obtain ⟨v8, T8, X8, E8, g8⟩ := X5.callS hexec (Cmp3.law l b A o len) hown (wks W (staticW "java/lang/String" 177 Cmp3.yN)) (wk W Cmp3.tab) (W := 0) (Nat.le_of_ble_eq_true rfl) (Nat.le_of_ble_eq_true rfl) (Nat.le_refl _) (by show 0 + len ≤ len; omega) (g := (mkF m 36 #[.val (.ref a), .val (.ref b), .val (.int (Int32.ofNat o)), .val (.int (Int32.ofNat len)), .val .null, .unset] [.int (Int32.ofNat len), .int (Int32.ofNat o), .ref b])) rfl (by rw [hml]; rfl) c7 (argsL := [.ref b, .int (Int32.ofNat o), .int (Int32.ofNat len)]) (rest := []) rfl rfl (by show 2 * 0 + 0 ≤ _; decide) (hb hbytes d36) (⟨rfl, hA.mv X5.warmed.alike hh5, l1, l2, hp⟩)
  obtain ⟨e8, z8⟩ := E8
  obtain ⟨rfl, N, n1, n2, n3, n4, n5, n6⟩ := NewArr.mv _ T5 s _ _ hh5.symm (Vm.Alike.refl _) rfl e8
  rw [hh5] at z8
  have hB1 := hB.keep X8.warmed.alike (n6 _ _ hB.1)
  have hne : s.heap.size ≠ a := (Nat.ne_of_lt (Array.getElem?_eq_some_iff.mp hB.1).1).symm
  have c9 : Steps p.tables e below (s₁.setTop (entryFrame m #[.ref a, .ref b, .int (Int32.ofNat o), .int (Int32.ofNat len), .null] 6)) (T8.setTop (mkF m 39 #[.val (.ref a), .val (.ref b), .val (.int (Int32.ofNat o)), .val (.int (Int32.ofNat len)), .val .null, .unset] [.ref s.heap.size])) := g8
  have c10 : Steps p.tables e below (s₁.setTop (entryFrame m #[.ref a, .ref b, .int (Int32.ofNat o), .int (Int32.ofNat len), .null] 6)) (T8.setTop (mkF m 45 #[.val (.ref a), .val (.ref b), .val (.int (Int32.ofNat o)), .val (.int (Int32.ofNat len)), .val .null, .val (.ref s.heap.size)] [.int (Int32.ofNat N.slots.size), .ref s.heap.size, .ref a])) := by
    have hc : Steps p.tables e below (s₁.setTop (entryFrame m #[.ref a, .ref b, .int (Int32.ofNat o), .int (Int32.ofNat len), .null] 6)) (T8.setTop (mkF m 45 #[.val (.ref a), .val (.ref b), .val (.int (Int32.ofNat o)), .val (.int (Int32.ofNat len)), .val .null, .val (.ref s.heap.size)] [.int (Int32.ofNat len), .ref s.heap.size, .ref a])) := c9.trans (by
      refine XS.astore X8.here hexec rfl (hb hbytes d39) rfl rfl rfl ?_
      refine XS.aloadN X8.here hexec rfl (hb hbytes d41) rfl rfl ?_
      refine XS.aload X8.here hexec rfl (hb hbytes d42) rfl rfl ?_
      refine XS.iloadN X8.here hexec rfl (hb hbytes d44) rfl ?_
      exact Steps.refl _)
    rw [n4]; exact hc
  obtain ⟨v11, T11, X11, E11, g11⟩ := X8.callS hexec (CodL.law l s.heap.size N) hown (wks W (staticW "java/lang/String" 47 CodL.yN)) (wk W CodL.tab) (W := 1) (Nat.le_of_ble_eq_true rfl) (Nat.le_of_ble_eq_true rfl) (Nat.le_refl _) (by show 0 + len + 0 ≤ len; omega) (g := (mkF m 45 #[.val (.ref a), .val (.ref b), .val (.int (Int32.ofNat o)), .val (.int (Int32.ofNat len)), .val .null, .val (.ref s.heap.size)] [.int (Int32.ofNat N.slots.size), .ref s.heap.size, .ref a])) rfl (by rw [hml]; rfl) c10 (argsL := [.ref s.heap.size, .int (Int32.ofNat N.slots.size)]) (rest := [.ref a]) rfl rfl (by show 2 * 0 + (1 + 0) ≤ _; decide) (hb hbytes d45) (⟨rfl, n1⟩)
  obtain ⟨rfl, q11⟩ := E11
  have hB11 := hB1.mv (X8.warmed.alike.symm.trans X11.warmed.alike) q11
  have c12 : Steps p.tables e below (s₁.setTop (entryFrame m #[.ref a, .ref b, .int (Int32.ofNat o), .int (Int32.ofNat len), .null] 6)) (T11.setTop (mkF m 48 #[.val (.ref a), .val (.ref b), .val (.int (Int32.ofNat o)), .val (.int (Int32.ofNat len)), .val .null, .val (.ref s.heap.size)] [.int 0, .ref a])) := g11
  obtain ⟨T13, X13, p13, bl13, sl13, st13⟩ := X11.finit hexec hown (wk W (.fieldLink "java/lang/String" 15 "java/lang/String" "coder" "B")) (Or.inr ⟨_, (wk W (.laysFinal "java/lang/String" "java/lang/String" "coder" "B"))⟩) (Or.inl ⟨rfl, hnm⟩) f2 (Or.inl rfl) hB11 (t := .byte) (by decide +kernel) rfl (g := (mkF m 48 #[.val (.ref a), .val (.ref b), .val (.int (Int32.ofNat o)), .val (.int (Int32.ofNat len)), .val .null, .val (.ref s.heap.size)] [.int 0, .ref a])) rfl (rest := []) rfl (hb hbytes d48)
  have c14 : Steps p.tables e below (s₁.setTop (entryFrame m #[.ref a, .ref b, .int (Int32.ofNat o), .int (Int32.ofNat len), .null] 6)) (T13.setTop (mkF m 54 #[.val (.ref a), .val (.ref b), .val (.int (Int32.ofNat o)), .val (.int (Int32.ofNat len)), .val .null, .val (.ref s.heap.size)] [.ref s.heap.size, .ref a])) := (c12.trans (st13 _ (Steps.refl _))).trans (by
    refine XS.aloadN X13.here hexec rfl (hb hbytes d51) rfl rfl ?_
    refine XS.aload X13.here hexec rfl (hb hbytes d52) rfl rfl ?_
    exact Steps.refl _)
  obtain ⟨T15, X15, p15, bl15, sl15, st15⟩ := X13.finit hexec hown (wk W (.fieldLink "java/lang/String" 9 "java/lang/String" "value" "[B")) (Or.inr ⟨_, (wk W (.laysFinal "java/lang/String" "java/lang/String" "value" "[B"))⟩) (Or.inl ⟨rfl, hnm⟩) f1 (Or.inl rfl) bl13 (t := (.array .byte)) (by decide +kernel) rfl (g := (mkF m 54 #[.val (.ref a), .val (.ref b), .val (.int (Int32.ofNat o)), .val (.int (Int32.ofNat len)), .val .null, .val (.ref s.heap.size)] [.ref s.heap.size, .ref a])) rfl (rest := []) rfl (hb hbytes d54)
  have c16 : Steps p.tables e below (s₁.setTop (entryFrame m #[.ref a, .ref b, .int (Int32.ofNat o), .int (Int32.ofNat len), .null] 6)) (T15.setTop (mkF m 57 #[.val (.ref a), .val (.ref b), .val (.int (Int32.ofNat o)), .val (.int (Int32.ofNat len)), .val .null, .val (.ref s.heap.size)] [])) := c14.trans (st15 _ (Steps.refl _))
  have ap := apart (Or.inr ⟨_, (wk W (.laysFinal "java/lang/String" "java/lang/String" "value" "[B"))⟩) (Or.inr ⟨_, (wk W (.laysFinal "java/lang/String" "java/lang/String" "coder" "B"))⟩) f1 f2 (t₁ := .array .byte) (t₂ := .byte) (by decide +kernel) (by decide +kernel) (by decide)
  have al := X8.warmed.alike.symm.trans X15.warmed.alike
  have n7 : T11.heap[s.heap.size]? = some N := by rw [q11]; exact n1.1
  exact ⟨T15, none, _, _, _, X15, by simp, rfl, by omega, (fun _ => rfl), ⟨rfl, _, N, bl15, ((Same.refl D _).set _ (by simp)).set _ (by simp), sl15, (Cell.slots_setSlot_ne _ ap).trans sl13, n1.keep al (p15.other hne (p13.other hne n7)), n2, by rw [al.findClass]; exact n3, n4, n5, fun y c h1 h2 => p15.other h1 (p13.other h1 (by rw [q11]; exact n6 y c h2)), by rw [p15.2.2, p13.2.2, q11]; exact z8⟩, fun fs hl => c16.trans (X15.returnOut hexec hret (hb hbytes d57) hl)⟩
end New4
namespace New1
def yN : MethodName := ⟨"java/lang/String", "<init>", "([C)V"⟩
abbrev yB : ByteArray := jdk_42_method_3_code
theorem d0 : decode yB 0 = .ok (.aload_n 0, 1) := by decide +kernel
theorem d1 : decode yB 1 = .ok (.aload_n 1, 1) := by decide +kernel
theorem d2 : decode yB 2 = .ok (.iconst 0, 1) := by decide +kernel
theorem d3 : decode yB 3 = .ok (.aload_n 1, 1) := by decide +kernel
theorem d4 : decode yB 4 = .ok (.arraylength, 1) := by decide +kernel
theorem d5 : decode yB 5 = .ok (.aconst_null, 1) := by decide +kernel
theorem d6 : decode yB 6 = .ok (.invokespecial 27, 3) := by decide +kernel
theorem d9 : decode yB 9 = .ok (.return_, 1) := by decide +kernel
def site : List Cond := [New4.tab] ++ initW "java/lang/String" 27 New4.yN
def tab : Cond := tabOf yN yB 2 none site
def P (a : Addr) (D : Cell) (fV fC : Field) (b : Addr) (A : Cell) (z : Int32) (args : Array Value) (s : State) : Prop := args = #[.ref a, .ref b] ∧ Blank "java/lang/String" a D s ∧ Found "java/lang/String" "value" "[B" fV s ∧ Found "java/lang/String" "coder" "B" fC s ∧ Ch b A s ∧ StaticIs s "java/lang/String" "COMPACT_STRINGS" "Z" (.int z) ∧ ¬ z = 0 ∧ 0 < A.slots.size ∧ A.slots.size ≤ 536870912 ∧ ∀ i, i < A.slots.size → ¬ 255 < cv A i
def E (a : Addr) (D : Cell) (fV fC : Field) (A : Cell) (r : Option Value) (s u : State) : Prop := Got a D fV fC A 0 A.slots.size r s u
/-- new String(chars), not empty, no char above 255: a Latin-1 String of their low bytes -/
theorem law (l : Launch) (a : Addr) (D : Cell) (fV fC : Field) (b : Addr) (A : Cell) (z : Int32) : Law l yN 2 1 3 52 yB 2 none site (P a D fV fC b A z) (E a D fV fC A) [⟨a, fC.slot⟩, ⟨a, fV.slot⟩] 1 A.slots.size := by
  refine Law.of_walk (plainFor_of_name (by decide +kernel)) (by decide +kernel) (by decide +kernel) (by decide) (fun _ _ h => by rw [h.1]; rfl) (fun _ U U' hal hh h => ⟨h.1, h.2.1.mv hal hh, h.2.2.1.al hal, h.2.2.2.1.al hal, h.2.2.2.2.1.mv hal hh, h.2.2.2.2.2.1.there hal hh, h.2.2.2.2.2.2⟩) (fun r U U' V V' h1 hal h2 h => Got.mv r U U' V V' h1 hal h2 h) ?_
  intro p e s m args below meth c s₁ X0 hexec hbytes hml hret hlk hnm hown hh0 W hP
  obtain ⟨rfl, hB, f1, f2, hA, s1, hz, l0, l2, hp⟩ := hP
  have c1 : Steps p.tables e below (s₁.setTop (entryFrame m #[.ref a, .ref b] 2)) (s₁.setTop (mkF m 0 #[.val (.ref a), .val (.ref b)] [])) := entry rfl
  have c2 : Steps p.tables e below (s₁.setTop (entryFrame m #[.ref a, .ref b] 2)) (s₁.setTop (mkF m 6 #[.val (.ref a), .val (.ref b)] [.null, .int (Int32.ofNat A.slots.size), .int 0, .ref b, .ref a])) := c1.trans (by
    refine XS.aloadN X0.here hexec rfl (hb hbytes d0) rfl rfl ?_
    refine XS.aloadN X0.here hexec rfl (hb hbytes d1) rfl rfl ?_
    refine iconstV X0.here hexec rfl 0 (hb hbytes d2) (by decide) ?_
    refine XS.aloadN X0.here hexec rfl (hb hbytes d3) rfl rfl ?_
    refine X0.alen hexec (hA.1.mv X0.warmed.alike hh0) rfl rfl (hb hbytes d4) ?_
    refine XS.aconstNull X0.here hexec rfl (hb hbytes d5) ?_
    exact Steps.refl _)
  obtain ⟨v3, T3, X3, E3, g3⟩ := X0.callN hexec (New4.law l a D fV fC b A z 0 A.slots.size) rfl hown (wks W (initW "java/lang/String" 27 New4.yN)) (W New4.tab (by simp only [site, List.mem_cons, List.mem_append, true_or, or_true])) (W := 0) (Nat.le_of_ble_eq_true rfl) (Nat.le_of_ble_eq_true rfl) (Nat.le_refl _) (by show 0 + A.slots.size ≤ A.slots.size; omega) (g := (mkF m 6 #[.val (.ref a), .val (.ref b)] [.null, .int (Int32.ofNat A.slots.size), .int (Int32.ofNat 0), .ref b, .ref a])) rfl (by rw [hml]; rfl) c2 (argsL := [.ref b, .int (Int32.ofNat 0), .int (Int32.ofNat A.slots.size), .null]) (rest := []) rfl rfl (by show 2 * 0 + 0 ≤ _; decide) (hb hbytes d6) (⟨rfl, hB.mv X0.warmed.alike hh0, f1.al X0.warmed.alike, f2.al X0.warmed.alike, hA.mv X0.warmed.alike hh0, s1.there X0.warmed.alike hh0, hz, l0, by omega, l2, fun i hi => by rw [Nat.zero_add]; exact hp i hi⟩)
  have e0 := Got.mv _ s₁ s _ _ hh0.symm (Vm.Alike.refl _) rfl E3
  obtain rfl := e0.1
  have c4 : Steps p.tables e below (s₁.setTop (entryFrame m #[.ref a, .ref b] 2)) (T3.setTop (mkF m 9 #[.val (.ref a), .val (.ref b)] [])) := g3
  exact ⟨T3, none, _, _, _, X3, by simp, rfl, by omega, (fun _ => rfl), e0, fun fs hl => c4.trans (X3.returnOut hexec hret (hb hbytes d9) hl)⟩
theorem pays {l : Launch} {R : Room} {p : Program} {e : Env} {below : List Frame} {s : State} {sargs : Array Value} {len W : Nat} (a : Addr) (D : Cell) (fV fC : Field) (b : Addr) (A : Cell) (z : Int32) (htab : tab.before sargs s = true) (hfr : 4 ≤ R.frames) (hlo : W + 65 ≤ R.locals) :
    Back l R p e below s sargs yN len W (fun A₁ a₁ => A₁.cells + 1 ≤ R.cells ∧ A₁.slots + A.slots.size ≤ R.slots ∧ P a D fV fC b A z a₁ A₁.U) (fun A₁ _ v₁ B₁ => E a D fV fC A v₁ A₁.U B₁.U ∧ B₁.locs = A₁.locs ++ [⟨a, fC.slot⟩, ⟨a, fV.slot⟩] ∧ B₁.cells = A₁.cells + 1 ∧ B₁.slots = A₁.slots + A.slots.size) :=
  (law l a D fV fC b A z).pays htab hfr (by omega)
end New1
/-- the byte, read back as charAt reads it, is the char -/
theorem lo8_mask {x : Int32} (h0 : ¬ x < 0) (h1 : ¬ 255 < x) : lo8 x &&& 255 = x := by
  have t : ∀ k : Fin 256, lo8 (Int32.ofNat k.val) &&& 255 = Int32.ofNat k.val := by decide +kernel
  rw [Int32.lt_iff_toInt_lt] at h0 h1
  have e0 : (0 : Int32).toInt = 0 := rfl
  have e1 : (255 : Int32).toInt = 255 := rfl
  obtain ⟨k, hk⟩ : ∃ k : Nat, x.toInt = k := ⟨x.toInt.toNat, by omega⟩
  have hx : x = Int32.ofNat k := Int32.toInt_inj.mp (by rw [hk, Int32.toInt_ofNat_small (by omega)])
  rw [hx]
  exact t ⟨k, by omega⟩
end StrChars
namespace StrChars.Road
open Jvm Sem ClassFile Op Lib Jvm.Stand Jvm.Free Jvm.Free.XT
open Jvm.Lib.Cold (StaticIs)
abbrev ST : String := "java/lang/String"
/-- every table word that New1's law asks, flat -/
abbrev words : List Jvm.Cond := [.code New1.yN New1.yB 2 none, .initialized ST, .methodLink ST 27 New4.yN, .instanceMethod New4.yN,
  .code New4.yN New4.yB 6 none, .fieldLink ST 38 ST "COMPACT_STRINGS" "Z", .laysFinal ST ST "value" "[B", .fieldLink ST 9 ST "value" "[B", .laysFinal ST ST "coder" "B", .fieldLink ST 15 ST "coder" "B",
  .methodLink ST 1 Lib.objectInit, .instanceMethod Lib.objectInit, .code Lib.objectInit ⟨#[0xb1]⟩ 1 none, .methodLink ST 177 Cmp3.yN, .static Cmp3.yN, .methodLink ST 47 CodL.yN, .static CodL.yN,
  .code Cmp3.yN Cmp3.yB 6 (some (.array .byte)), .initialized U16, .arrayClass .byte, .methodLink U16 115 Cmp5.yN, .static Cmp5.yN, .code Cmp5.yN Cmp5.yB 7 (some .int), .code CodL.yN CodL.yB 2 (some .byte)]
theorem tab_of {a : Array Value} {s : State} (h : ∀ w ∈ words, w.before a s = true) : New1.tab.before a s = true := by
  have h5 : Cmp5.tab.before a s = true := unparts (wk h (.code Cmp5.yN Cmp5.yB 7 (some .int))) (wks h (.initialized Cmp5.yN.cls :: Cmp5.site))
  have hc : CodL.tab.before a s = true := unparts (wk h (.code CodL.yN CodL.yB 2 (some .byte))) (wks h (.initialized CodL.yN.cls :: CodL.site))
  have q5 : ∀ w ∈ Cmp5.tab :: words, w.before a s = true := fun w hw => (List.mem_cons.mp hw).elim (fun e => e ▸ h5) (h w)
  have h3 : Cmp3.tab.before a s = true := unparts (wk q5 (.code Cmp3.yN Cmp3.yB 6 (some (.array .byte)))) (wks q5 (.initialized Cmp3.yN.cls :: Cmp3.site))
  have q3 : ∀ w ∈ Cmp3.tab :: CodL.tab :: words, w.before a s = true := fun w hw => (List.mem_cons.mp hw).elim (fun e => e ▸ h3) fun hw => (List.mem_cons.mp hw).elim (fun e => e ▸ hc) (h w)
  have h4 : New4.tab.before a s = true := unparts (wk q3 (.code New4.yN New4.yB 6 none)) (wks q3 (.initialized New4.yN.cls :: New4.site))
  have q4 : ∀ w ∈ New4.tab :: words, w.before a s = true := fun w hw => (List.mem_cons.mp hw).elim (fun e => e ▸ h4) (h w)
  exact unparts (wk q4 (.code New1.yN New1.yB 2 none)) (wks q4 (.initialized New1.yN.cls :: New1.site))
/-- the words ride from the start Z to the walk's own state -/
theorem moved {Z s : State} {a0 args : Array Value} (hZ : Z.Warmed39 s.vm) (hw : ∀ d ∈ words, d.before a0 Z = true) : ∀ d ∈ words, d.before args s = true := fun d hd => by
  have q := hw d hd
  have t : ∀ d ∈ words, d = .arrayClass .byte ∨ (d.onTables && d.keepsFace) = true := by decide +kernel
  rcases t d hd with rfl | t
  · exact RoadKit.mvA hZ q
  · exact RoadKit.mv hZ q t
/-- WHAT COMES BACK, over the tables of the start Z: h the heap at the call, h' behind it -/
def Q (Z : State) (x : Addr) (A : Cell) (h : Heap) (v : Option Value) (h' : Heap) (L : List Loc) : Prop := v = none ∧ (∀ y ∈ L, y.base = x) ∧ RoadKit.Keep h h' [x] ∧ h'.size = h.size + 1 ∧ RoadKit.Exa Z h' x ST ∧ RoadKit.Fld Z h' x ST "value" "[B" (.ref h.size) ∧ RoadKit.Fld Z h' x ST "coder" "B" (.int 0) ∧
  (∃ V : Cell, RoadKit.Arr Z h' h.size V .byte ∧ V.vm = .none ∧ Z.vm.findClass "[B" = some V.cls ∧ V.slots.size = A.slots.size ∧ ∀ j, j < A.slots.size → V.slots[j]? = some (.int (lo8 (cv A j)))) ∧
  ∀ (O n d : String) (w : Value), RoadKit.Fld Z h x O n d w → RoadKit.slotOf Z O n d ≠ RoadKit.slotOf Z ST "value" "[B" → RoadKit.slotOf Z O n d ≠ RoadKit.slotOf Z ST "coder" "B" → RoadKit.Fld Z h' x O n d w
/-- **new String(chars) AT A CALL, IN THE ROAD'S FORM**: for specialBack behind newO: x the fresh String, b the char[] with the cell A -/
theorem back {p : Program} {l : Launch} {e : Env} {R : Room} {s : State} {args : Array Value} {below : List Frame} {len W : Nat} {Z : State} {a0 : Array Value} {h : Heap} (hZ : Z.Warmed39 s.vm) (hw : ∀ d ∈ words, d.before a0 Z = true) {kI : Nat} (wi : (Jvm.Cond.instantiable ST kI).before a0 Z = true)
    {x b : Addr} {A : Cell} {z : Int32} {v0 c0 : Value} (E : RoadKit.Exa Z h x ST) (V : RoadKit.Fld Z h x ST "value" "[B" v0) (C : RoadKit.Fld Z h x ST "coder" "B" c0) (K : RoadKit.Arr Z h b A .char) (hty : Typed .char A) (S : RoadKit.Sta Z h ST "COMPACT_STRINGS" "Z" (.int z)) (hz : ¬ z = 0)
    (l0 : 0 < A.slots.size) (l2 : A.slots.size ≤ 536870912) (hp : ∀ i, i < A.slots.size → ¬ 255 < cv A i) (hfr : 4 ≤ R.frames) (hlo : W + 65 ≤ R.locals) :
    Back l R p e below s args New1.yN len W (fun P a => a = #[.ref x, .ref b] ∧ P.U.heap = h ∧ P.cells + 1 ≤ R.cells ∧ P.slots + A.slots.size ≤ R.slots)
      (fun P _ v B => ∃ L, Q Z x A h v B.U.heap L ∧ B.locs = P.locs ++ L ∧ B.cells = P.cells + 1 ∧ B.slots = P.slots + A.slots.size) := by
  intro m meth c P g ig mk a X hg hsize hdg hW hn hp'
  obtain ⟨rfl, rfl, r1, r2⟩ := hp'
  have al : Z.vm.Alike P.U.vm := hZ.alike.trans X.warmed.alike
  obtain ⟨D, cfV, kV, iV, fV, hD, gV, stV, knV, obV, asV, slV⟩ := id V
  obtain ⟨D', cfC, kC, iC, fC, hD', gC, stC, -, -, asC, slC⟩ := id C
  cases hD.symm.trans hD'
  obtain ⟨D2, kD, e1, e2, e3, e4, e5⟩ := id E
  cases hD.symm.trans e1
  obtain ⟨c2, k2, i1, i2, i3, -⟩ := Cond.instantiable_spec wi
  cases e2.symm.trans i1
  cases e3.symm.trans i2
  obtain ⟨kU, u1, u2⟩ := al.2.2 _ _ e3
  have hB : Blank ST x D P.U := ⟨hD, ⟨knV, fun q hq => by rw [hq] at obV; cases obV⟩, by rw [al.findClass]; exact e2, kU, u1, by rw [u2]; exact i3, by rw [u2]; exact e5 i3⟩
  have F1 : Found ST "value" "[B" fV P.U := ⟨SBG.found_only al ⟨cfV, kV, iV, gV⟩, stV⟩
  have F2 : Found ST "coder" "B" fC P.U := ⟨SBG.found_only al ⟨cfC, kC, iC, gC⟩, stC⟩
  have hA : Ch b A P.U := ⟨⟨K.1, State.isArrayOf_alike al K.2.1, K.2.2, by omega⟩, hty⟩
  have hS : StaticIs P.U ST "COMPACT_STRINGS" "Z" (.int z) := by
    obtain ⟨cfS, iS, kS, fS, st, cS, t1, t2, t3, t4, t5, t6, t7⟩ := S
    exact StaticIs.there (s := { Z with heap := P.U.heap }) ⟨cfS, iS, kS, fS, st, cS, t1, t2, t3, t4, t5, (fun q => by rw [q] at t6; cases t6), t7⟩ al rfl
  obtain ⟨v, B, X', ⟨⟨hv, E', V', q1, q2, q3, q4, q5, q6, q7, q8, q9, q10, q11⟩, hl, hc, hs⟩, st⟩ := New1.pays x D fV fC b A z (tab_of (moved hZ hw)) hfr hlo m meth c P g ig mk _ X hg hsize hdg hW hn ⟨r1, r2, rfl, hB, F1, F2, hA, hS, hz, l0, l2, hp⟩
  have al' : Z.vm.Alike B.U.vm := hZ.alike.trans X'.warmed.alike
  have hsz : E'.slots.size = D.slots.size := by
    obtain ⟨-, -, -, kB, w1, w2, w3⟩ := q1
    obtain ⟨kB', y1, y2⟩ := al'.2.2 _ _ e3
    rw [q2.2.1] at w1
    cases w1.symm.trans y1
    rw [w3, e5 i3, y2]
  refine ⟨v, B, X', ⟨_, ⟨hv, ?_, ⟨by omega, fun y cy hy hn' => q10 y cy (by simpa using hn') hy, fun y cy hy => ?_⟩, q11, ⟨E', _, q1.1, by rw [q2.2.1]; exact e2, by rw [q2.2.1]; exact e3, by rw [q2.1]; exact obV, fun _ => by rw [hsz]; exact e5 i3⟩,
    ⟨E', cfV, kV, iV, fV, q1.1, gV, stV, by rw [q2.1]; exact knV, by rw [q2.1]; exact obV, by rw [q2.2.1]; exact asV, q3⟩, ⟨E', cfC, kC, iC, fC, q1.1, gC, stC, by rw [q2.1]; exact knV, by rw [q2.1]; exact obV, by rw [q2.2.1]; exact asC, q4⟩,
    ⟨V', ⟨q5.1, State.isArrayOf_alike al'.symm q5.2.1, q5.2.2.1⟩, q6, by rw [← al'.findClass]; exact q7, q8, fun j hj => by have := q9 j hj; rwa [Nat.zero_add] at this⟩, fun O n d w F n1 n2 => ?_⟩, hl, hc, hs⟩, st⟩
  · intro y hy
    simp only [List.mem_cons, List.not_mem_nil, or_false] at hy
    rcases hy with rfl | rfl <;> rfl
  · by_cases q : y = x
    · subst q
      cases hD.symm.trans hy
      exact ⟨E', q1.1, q2.2.1, q2.1, hsz⟩
    · exact ⟨cy, q10 y cy q hy, rfl, rfl, rfl⟩
  · obtain ⟨D3, cf, k, i, f, g1, g2, g3, g4, g5, g6, g7⟩ := F
    cases hD.symm.trans g1
    simp only [RoadKit.slotOf, g2, gV, gC, Option.map_some, Option.getD_some] at n1 n2
    exact ⟨E', cf, k, i, f, q1.1, g2, g3, by rw [q2.1]; exact g4, by rw [q2.1]; exact g5, by rw [q2.2.1]; exact g6, by rw [q2.2.2 f.slot (by simp [n1, n2])]; exact g7⟩
end StrChars.Road
namespace StrChars.Road
open Jvm Sem ClassFile Op Lib Jvm.Stand Jvm.Free Jvm.Free.XT
/-- WHAT COMES BACK, the byte[] as a list of values -/
def QA (Z : State) (x : Addr) (zn : Int32) (cs : List Int32) (h : Heap) (v : Option Value) (h' : Heap) (L : List Loc) : Prop := v = none ∧ (∀ y ∈ L, y.base = x) ∧ RoadKit.Keep h h' [x] ∧ h'.size = h.size + 1 ∧ RoadKit.Exa Z h' x ST ∧ RoadKit.Fld Z h' x ST "value" "[B" (.ref h.size) ∧ RoadKit.Fld Z h' x ST "coder" "B" (.int 0) ∧
  (∃ kb, Z.vm.findClass "[B" = some kb ∧ RoadKit.Arv Z h' h.size kb .byte zn (cs.map fun c => .int (lo8 c)) (.int 0)) ∧
  ∀ (O n d : String) (w : Value), RoadKit.Fld Z h x O n d w → RoadKit.slotOf Z O n d ≠ RoadKit.slotOf Z ST "value" "[B" → RoadKit.slotOf Z O n d ≠ RoadKit.slotOf Z ST "coder" "B" → RoadKit.Fld Z h' x O n d w
/-- **new String(chars) AT A CALL, THE ARRAYS AS LISTS**: the char[] at b holds cs, not empty, no char above 255 -/
theorem backArv {p : Program} {l : Launch} {e : Env} {R : Room} {s : State} {args : Array Value} {below : List Frame} {len W : Nat} {Z : State} {a0 : Array Value} {h : Heap} (hZ : Z.Warmed39 s.vm) (hw : ∀ d ∈ words, d.before a0 Z = true) {kI : Nat} (wi : (Jvm.Cond.instantiable ST kI).before a0 Z = true)
    {x b : Addr} {k : ClassId} {zn z : Int32} {cs : List Int32} {dv v0 c0 : Value} (E : RoadKit.Exa Z h x ST) (V : RoadKit.Fld Z h x ST "value" "[B" v0) (C : RoadKit.Fld Z h x ST "coder" "B" c0) (K : RoadKit.Arv Z h b k .char zn (cs.map Value.int) dv) (S : RoadKit.Sta Z h ST "COMPACT_STRINGS" "Z" (.int z)) (hz : ¬ z = 0)
    (hlen : zn.toNatClampNeg = cs.length) (h0 : 0 < cs.length) (hbig : cs.length ≤ 536870912) (hall : ∀ c ∈ cs, ¬ 255 < c) (hfr : 4 ≤ R.frames) (hlo : W + 65 ≤ R.locals) :
    Back l R p e below s args New1.yN len W (fun P a => a = #[.ref x, .ref b] ∧ P.U.heap = h ∧ P.cells + 1 ≤ R.cells ∧ P.slots + cs.length ≤ R.slots)
      (fun P _ v B => ∃ L, QA Z x zn cs h v B.U.heap L ∧ B.locs = P.locs ++ L ∧ B.cells = P.cells + 1 ∧ B.slots = P.slots + cs.length) := by
  obtain ⟨A, K1, K2, K3, K4, K5, K6⟩ := K
  have e : A.slots.size = cs.length := K3.trans hlen
  have hat : ∀ (i : Nat) (hi : i < cs.length), A.slots[i]? = some (.int cs[i]) := fun i hi => by rw [K5 i (by omega)]; simp [List.getD_eq_getElem?_getD, hi]
  have hcv : ∀ (i : Nat) (hi : i < cs.length), cv A i = cs[i] := fun i hi => by unfold cv; rw [hat i hi]
  have hty : Typed .char A := fun i v hv => by
    have hi : i < A.slots.size := (Array.getElem?_eq_some_iff.mp hv).1
    have q := K5 i hi
    rw [hv] at q
    rw [Option.some.inj q]
    exact K6 i hi
  refine Back.mono (back hZ hw wi E V C K1 hty S hz (by omega) (by omega) (fun i hi => by rw [hcv i (by omega)]; exact hall _ (List.getElem_mem _)) hfr hlo) (fun P a hp => ⟨hp.1, hp.2.1, hp.2.2.1, by rw [e]; exact hp.2.2.2⟩) (fun P a v B hp hq => ?_)
  obtain ⟨L, ⟨q1, q2, q3, q4, q5, q6, q7, ⟨V', v1, v2, v3, v4, v5⟩, q9⟩, hl, hc, hs⟩ := hq
  refine ⟨L, ⟨q1, q2, q3, q4, q5, q6, q7, ⟨V'.cls, v3, V', v1, rfl, by rw [v4, e, hlen], K4, fun i hi => ?_, fun i hi => ?_⟩, q9⟩, hl, hc, by rw [hs, e]⟩
  · have hi' : i < cs.length := by omega
    rw [v5 i (by omega), hcv i hi']; simp [List.getD_eq_getElem?_getD, hi']
  · have hi' : i < cs.length := by omega
    simp only [List.getD_eq_getElem?_getD, List.getElem?_map, List.getElem?_eq_getElem hi', Option.map_some, Option.getD_some]
    exact fits_lo8 _
end StrChars.Road
namespace StrChars.Road
open Jvm Sem ClassFile Op Lib Jvm.Stand Jvm.Free Jvm.Free.XT
/-- WHAT COMES BACK, in the writer's own shape -/
def QV (Z : State) (x : Addr) (N : Int32) (bs : List Int32) (h : Heap) (n0 : Nat) (v : Option Value) (h' : Heap) (L : List Loc) : Prop := v = none ∧ RoadKit.Fr n0 L ∧ RoadKit.Keep h h' [x] ∧ RoadKit.Exa Z h' x ST ∧ RoadKit.Fld Z h' x ST "coder" "B" (.int 0) ∧
  ∃ (t : Addr) (kb : ClassId), n0 ≤ t ∧ h.size ≤ t ∧ ¬ t = x ∧ RoadKit.Fld Z h' x ST "value" "[B" (.ref t) ∧ RoadKit.Arv Z h' t kb .byte N (bs.map Value.int) (.int 0)
/-- **new String(chars) AT A CALL, FOR THE WRITER**: a char[] of n known ints, each 0 to 255 -/
theorem backV {p : Program} {l : Launch} {e : Env} {R : Room} {s : State} {args : Array Value} {below : List Frame} {len W : Nat} {Z : State} {a0 : Array Value} {h : Heap} (hZ : Z.Warmed39 s.vm) (hw : ∀ d ∈ words, d.before a0 Z = true) {kI : Nat} (wi : (Jvm.Cond.instantiable ST kI).before a0 Z = true)
    {x b : Addr} {kC : ClassId} {cs bs : List Int32} {d v0 c0 : Value} {z N : Int32} {n n0 : Nat} (hx0 : n0 ≤ x) (hh0 : n0 ≤ h.size) (E : RoadKit.Exa Z h x ST) (V : RoadKit.Fld Z h x ST "value" "[B" v0) (C : RoadKit.Fld Z h x ST "coder" "B" c0) (K : RoadKit.Arv Z h b kC .char N (cs.map Value.int) d) (S : RoadKit.Sta Z h ST "COMPACT_STRINGS" "Z" (.int z)) (hz : ¬ z = 0)
    (hn : cs.length = n) (hN : N = Int32.ofNat n) (l0 : 0 < n) (l2 : n ≤ 4000) (hp : ∀ c ∈ cs, ¬ c < 0 ∧ ¬ (255 : Int32) < c) (hb : bs = cs.map (fun c => c.toInt8.toInt32)) (hfr : 4 ≤ R.frames) (hlo : W + 65 ≤ R.locals) :
    Back l R p e below s args (⟨"java/lang/String", "<init>", "([C)V"⟩ : MethodName) len W (fun P a => a = #[.ref x, .ref b] ∧ P.U.heap = h ∧ P.cells + 1 ≤ R.cells ∧ P.slots + n ≤ R.slots)
      (fun P _ v B => ∃ L, QV Z x N bs h n0 v B.U.heap L ∧ B.locs = P.locs ++ L ∧ B.cells = P.cells + 1 ∧ B.slots = P.slots + n) := by
  subst hn hN hb
  refine Back.mono (backArv hZ hw wi E V C K S hz (n32 (by omega)) l0 (by omega) (fun c hc => (hp c hc).2) hfr hlo) (fun P a hp => hp) (fun P a v B hp hq => ?_)
  obtain ⟨L, ⟨q1, q2, q3, q4, q5, q6, q7, ⟨kb, v1, v2⟩, q9⟩, hl, hc, hs⟩ := hq
  exact ⟨L, ⟨q1, fun y hy => by rw [q2 y hy]; exact hx0, q3, q5, q7, h.size, kb, hh0, Nat.le_refl _, Nat.ne_of_gt E.lt, q6, by rw [List.map_map]; exact v2⟩, hl, hc, hs⟩
end StrChars.Road
namespace StrChars
open Jvm Sem ClassFile Op Lib Jvm.Stand Jvm.Free.XT Jvm.Free.ALB Jvm.Free.JM Jvm.Free
open Jvm.Lib.Cold (StaticIs)
def hi8 (x : Int32) : Int32 := lo8 (x >>> ((8 : Int32) &&& 31))
/-- what StringUTF16.getChar makes of two bytes -/
def pairCh (u v : Int32) : Int32 := (((u &&& 255) <<< ((0 : Int32) &&& 31)) ||| ((v &&& 255) <<< ((8 : Int32) &&& 31))).toUInt32.toUInt16.toUInt32.toInt32
theorem shr0 (c : Int32) : c >>> ((0 : Int32) &&& 31) = c := by
  have e : ((0 : Int32) &&& 31) = 0 := by decide
  rw [e]
  apply Int32.toBitVec_inj.mp
  rw [Int32.toBitVec_shiftRight]
  have e1 : ((0 : Int32).toBitVec.smod 32) = 0#32 := by decide
  rw [e1, BitVec.sshiftRight_eq']
  exact BitVec.sshiftRight_zero
theorem lo8_and (x : Int32) : (lo8 x &&& 255).toBitVec.toNat = x.toBitVec.toNat % 256 := by
  have h : (lo8 x).toBitVec = (x.toBitVec.signExtend 8).signExtend 32 := by rw [lo8, Int8.toBitVec_toInt32, Int32.toBitVec_toInt8]
  rw [Int32.toBitVec_and, BitVec.toNat_and, h]
  have e : ((x.toBitVec.signExtend 8).signExtend 32).toNat % 256 = x.toBitVec.toNat % 256 := by
    rw [BitVec.toNat_signExtend]
    have hlt := x.toBitVec.isLt
    simp only [BitVec.toNat_setWidth, BitVec.toNat_signExtend]
    split <;> split <;> omega
  rw [← e]
  exact Nat.and_two_pow_sub_one_eq_mod _ 8
theorem pair_says {c : Int32} (h0 : ¬ c < 0) (h1 : ¬ 65535 < c) : pairCh (lo8 c) (hi8 c) = c := by
  rw [Int32.lt_iff_toInt_lt] at h0 h1
  have e0 : (0 : Int32).toInt = 0 := rfl
  have e1 : (65535 : Int32).toInt = 65535 := rfl
  have hc : c.toInt = c.toBitVec.toNat := by
    have := c.toBitVec.isLt
    have e : c.toInt = c.toBitVec.toInt := rfl
    rw [e] at h0 h1
    rw [e]
    rw [BitVec.toInt_eq_toNat_cond] at h0 h1 ⊢
    split at h0 <;> split <;> omega
  have hn : c.toBitVec.toNat < 65536 := by omega
  have a1 := lo8_and c
  have a2 : (hi8 c &&& 255).toBitVec.toNat = c.toBitVec.toNat / 256 := by
    rw [hi8, lo8_and]
    have e : ((8 : Int32) &&& 31) = 8 := by decide
    rw [e, Int32.toBitVec_shiftRight]
    have e2 : ((8 : Int32).toBitVec.smod 32) = 8#32 := by decide
    rw [e2, BitVec.sshiftRight_eq', BitVec.toNat_sshiftRight_of_msb_false (by rw [BitVec.msb_eq_false_iff_two_mul_lt]; omega)]
    show c.toBitVec.toNat >>> 8 % 256 = _
    rw [Nat.shiftRight_eq_div_pow]
    omega
  unfold pairCh
  apply Int32.toBitVec_inj.mp
  apply BitVec.eq_of_toNat_eq
  have f0 : ((0 : Int32) &&& 31) = 0 := by decide
  have f8 : ((8 : Int32) &&& 31) = 8 := by decide
  rw [f0, f8]
  have g : (((lo8 c &&& 255) <<< (0 : Int32)) ||| ((hi8 c &&& 255) <<< (8 : Int32))).toBitVec.toNat = c.toBitVec.toNat := by
    rw [Int32.toBitVec_or, Int32.toBitVec_shiftLeft, Int32.toBitVec_shiftLeft]
    have s0 : ((0 : Int32).toBitVec.smod 32) = 0#32 := by decide
    have s8 : ((8 : Int32).toBitVec.smod 32) = 8#32 := by decide
    rw [s0, s8, BitVec.toNat_or]
    simp only [BitVec.shiftLeft_eq', BitVec.toNat_shiftLeft, a1, a2]
    show (c.toBitVec.toNat % 256) <<< 0 % 2 ^ 32 ||| (c.toBitVec.toNat / 256) <<< 8 % 2 ^ 32 = _
    rw [Nat.shiftLeft_zero, Nat.mod_eq_of_lt (show c.toBitVec.toNat % 256 < 2 ^ 32 by omega), Nat.mod_eq_of_lt (show (c.toBitVec.toNat / 256) <<< 8 < 2 ^ 32 by rw [Nat.shiftLeft_eq]; omega), Nat.or_comm, ← Nat.shiftLeft_add_eq_or_of_lt (by omega), Nat.shiftLeft_eq]
    omega
  show BitVec.toNat (((((lo8 c &&& 255) <<< (0 : Int32)) ||| ((hi8 c &&& 255) <<< (8 : Int32))).toBitVec.setWidth 16).setWidth 32) = _
  rw [BitVec.toNat_setWidth, BitVec.toNat_setWidth, g]
  omega
end StrChars
namespace StrChars.Road
open Jvm Sem ClassFile Op Lib Jvm.Stand Jvm.Free Jvm.Free.XT
open Jvm.Lib.Cold (StaticIs)
/-- the bytes of the chars cs, low before high -/
def wideBytes : List Int32 → List Value
  | [] => []
  | c :: cs => .int (lo8 c) :: .int (hi8 c) :: wideBytes cs
theorem wide_lo (d : Value) : ∀ (cs : List Int32) (j : Nat), j < cs.length → (wideBytes cs).getD (2 * j) d = .int (lo8 (cs.getD j 0))
  | [], j, h => absurd h (Nat.not_lt_zero j)
  | c :: cs, 0, _ => rfl
  | c :: cs, j + 1, h => by
    have q := wide_lo d cs j (by simpa using h)
    rw [show 2 * (j + 1) = 2 * j + 1 + 1 from by omega]
    simpa [wideBytes] using q
theorem wide_hi (d : Value) : ∀ (cs : List Int32) (j : Nat), j < cs.length → (wideBytes cs).getD (2 * j + 1) d = .int (hi8 (cs.getD j 0))
  | [], j, h => absurd h (Nat.not_lt_zero j)
  | c :: cs, 0, _ => rfl
  | c :: cs, j + 1, h => by
    have q := wide_hi d cs j (by simpa using h)
    rw [show 2 * (j + 1) + 1 = 2 * j + 1 + 1 + 1 from by omega]
    simpa [wideBytes] using q
theorem low_at (d : Value) (cs : List Int32) (j : Nat) (h : j < cs.length) : (cs.map fun c => Value.int (lo8 c)).getD j d = .int (lo8 (cs.getD j 0)) := by
  simp [List.getD_eq_getElem?_getD, h]
/-- an array of N2 bytes vs codes the chars cs by the coder cd -/
def CodA (cs : List Int32) (cd N2 : Int32) (vs : List Value) : Prop := (cd = 0 ∧ N2 = Int32.ofNat cs.length ∧ vs = (cs.map fun c => Value.int (lo8 c)) ∧ ∀ c ∈ cs, ¬ 255 < c) ∨ (cd = 1 ∧ N2 = Int32.ofNat (2 * cs.length) ∧ vs = wideBytes cs ∧ ∃ c ∈ cs, 255 < c)
end StrChars.Road
namespace StrChars.Road
open Jvm Sem ClassFile Op Lib Jvm.Stand Jvm.Free Jvm.Free.XT
open Jvm.Lib.Cold (StaticIs)
/-- what backV says of its String, as the contracts of this text ask it: cs's low bytes, coder 0 -/
theorem codOf {cs : List Int32} {n : Nat} (hn : cs.length = n) (hb : ∀ c ∈ cs, ¬ 255 < c) : CodA cs 0 (Int32.ofNat n) ((cs.map lo8).map Value.int) := Or.inl ⟨rfl, by rw [hn], by simp [List.map_map, Function.comp_def], hb⟩
end StrChars.Road
end Jvm.Pilot.@@N@@
namespace Jvm.Pilot.@@N@@
namespace W
open Jvm Jvm.ClassFile Sem Op Lib Jvm.Free Jvm.Stand Jvm.LawKit Jvm.RoadKit Bundle
/-! the run goes on from here and ends as P says -/
def Go (p : Program) (e : Env) (below : List Frame) (P : Outcome → State → Prop) (T : State) (f : JFrame) : Prop :=
  ∃ t o, Steps p.tables e below (T.setTop f) t ∧ t.status = .running ∧ Ended t below o ∧ P o t
theorem Go.of {p : Program} {e : Env} {below : List Frame} {P : Outcome → State → Prop} {T T' : State} {f f' : JFrame}
    (h : ∀ target, Steps p.tables e below (T'.setTop f') target → Steps p.tables e below (T.setTop f) target) (k : Go p e below P T' f') : Go p e below P T f := by
  obtain ⟨t, o, h1, h2⟩ := k
  exact ⟨t, o, h t h1, h2⟩
theorem Go.cast {p : Program} {e : Env} {below : List Frame} {P : Outcome → State → Prop} {T : State} {f f' : JFrame} (q : f = f') (k : Go p e below P T f') : Go p e below P T f := q ▸ k
/-! what has moved since h0: the old objects ws at the most, and new ones -/
def Mv (h0 h : Heap) (ws : List Addr) (L : List Loc) : Prop := Keep h0 h ws ∧ ∀ y ∈ L, y.base ∈ ws ∨ h0.size ≤ y.base
section Mvs
variable {h0 h h' : Heap} {ws ws' : List Addr} {L L' : List Loc} {a : Addr} {sl : Nat} {v : Value}
theorem Mv.refl (h : Heap) (ws : List Addr) : Mv h h ws [] := ⟨Keep.refl h ws, fun _ q => nomatch q⟩
theorem Mv.le (M : Mv h0 h ws L) : h0.size ≤ h.size := M.1.1
theorem Mv.ext (M : Mv h0 h ws L) (E : Ext h h') : Mv h0 h' ws L := ⟨M.1.ext E, M.2⟩
theorem Mv.wr (M : Mv h0 h ws L) (W : Wr h h' a sl v) (q : a ∈ ws ∨ h0.size ≤ a) : Mv h0 h' ws (L ++ [⟨a, sl⟩]) :=
  ⟨M.1.wr W q, fun y hy => (List.mem_append.mp hy).elim (M.2 y) fun z => by cases List.mem_singleton.mp z; exact q⟩
theorem Mv.app (M : Mv h0 h ws L) (M' : Mv h h' ws' L') (q : ∀ x ∈ ws', x ∈ ws ∨ h0.size ≤ x) : Mv h0 h' ws (L ++ L') :=
  ⟨M.1.trans M'.1 q, fun y hy => (List.mem_append.mp hy).elim (M.2 y) fun z => (M'.2 y z).elim (q _) fun r => Or.inr (Nat.le_trans M.1.1 r)⟩
theorem Mv.app0 (M : Mv h0 h ws L) (M' : Mv h h' [] L') : Mv h0 h' ws (L ++ L') := M.app M' fun _ q => nomatch q
theorem keepE (E : Ext h h') : Keep h h' [] := (Keep.refl h []).ext E
theorem Mv.fr (M : Mv h0 h [] L) : Fr h0.size L := fun y hy => (M.2 y hy).elim (fun q => nomatch q) id
theorem Mv.ofFr {n0 : Nat} (K : Keep h0 h ws) (F : ∀ y ∈ L, y.base ∈ ws) : Mv h0 h ws L := ⟨K, fun y hy => Or.inl (F y hy)⟩
end Mvs
theorem StaKeep {Z : State} {h h' : Heap} {C n d : String} {v : Value} {ws : List Addr} (F : Sta Z h C n d v) (K : Keep h h' ws) (q : ∀ x ∈ ws, ∀ c : Cell, h[x]? = some c → c.vm.isStatics = false) : Sta Z h' C n d v := by
  obtain ⟨cf, i, k, f, st, cell, h1, h2, h3, h4, h5, h6, h7⟩ := F
  refine ⟨cf, i, k, f, st, cell, h1, h2, h3, h4, K.2.1 _ _ h5 (fun z => ?_), h6, h7⟩
  rw [q st z cell h5] at h6; cases h6
theorem staExa {Z : State} {h : Heap} {a : Addr} {C : String} (F : Exa Z h a C) : ∀ c : Cell, h[a]? = some c → c.vm.isStatics = false := fun c hc => by
  obtain ⟨c', _, h1, -, -, h4, -⟩ := F; cases h1.symm.trans hc; exact h4
theorem staArv {Z : State} {h : Heap} {a : Addr} {k : ClassId} {ty : FieldType} {n : Int32} {vs : List Value} {d : Value} (F : Arv Z h a k ty n vs d) : ∀ c : Cell, h[a]? = some c → c.vm.isStatics = false := fun c hc => by
  obtain ⟨c', A, -⟩ := F; cases A.1.symm.trans hc; exact A.plain
/-! a contract -/
def MeetsW (l : Launch) (Z : State) (y : MethodName) (bytes : ByteArray) (maxL : Nat) (ret : Option FieldType) (rm : Room) (as : Array Value) (h0 : Heap) (Q : Option Value → Heap → List Loc → Prop) : Prop :=
  ∀ ws : List Jvm.Cond, MetFree l y (head1 (Jvm.Cond.code y bytes maxL ret :: ws) rm) (fun a U => a = as ∧ Z.Warmed39 U.vm ∧ U.heap = h0) (fun _ _ _ _ _ => True)
    (fun _ U o U' => ∃ v L, o = .returned v ∧ Q v U'.heap L ∧ FrameEnd U o U' L rm.cells rm.slots)
def Pu (h : Heap) (S : Option Value → Prop) (v : Option Value) (h' : Heap) (L : List Loc) : Prop := L = [] ∧ h' = h ∧ S v
theorem MeetsW.of {l : Launch} {Z : State} {y : MethodName} {bytes : ByteArray} {maxL : Nat} {ret : Option FieldType} {rm : Room} {as : Array Value} {h0 : Heap} {Q : Option Value → Heap → List Loc → Prop} (hpl : plainFor y = true)
    (body : ∀ (p : Program) (e : Env) (s : State) (m : MethodId) (below : List Frame) (meth : Method) (c : Code) (s₁ : State) (P : Outcome → State → Prop), p.tables.exec = Jvm.exec → c.code = bytes → c.maxLocals = maxL → Z.Warmed39 s.vm → s.vm.findClass y.cls = some m.cls → meth.name = y.name → meth.sig.returnType = ret → meth.locks = false →
      Stand p l e rm s m as below meth c s₁ [] 0 0 → s₁.heap = h0 → (∀ v t L, Q v t.heap L → FrameEnd s (.returned v) t L rm.cells rm.slots → P (.returned v) t) → Go p e below P s₁ (entryFrame m as maxL)) : MeetsW l Z y bytes maxL ret rm as h0 Q := by
  intro ws
  refine MetFree.of_bodySF hpl hisR ?_
  intro p e s m args below meth c s₁ Bd hml0 hP hK
  obtain ⟨rfl, hZ, hh⟩ := hP
  exact body p e s m below meth c s₁ _ Bd.exec Bd.bytes hml0 hZ (findClass_of_methodNamed Bd.named) (name_of_methodNamed Bd.named Bd.method).1 Bd.returns (BodyLoose.notSynchronized Bd) (Stand.of_body Bd) (by rw [← hh, Bd.state]; rfl) (fun v t L hq hf => ⟨v, L, rfl, hq, hf⟩)
def MeetsI (l : Launch) (Z : State) (y : MethodName) (bytes : ByteArray) (maxL : Nat) (ret : Option FieldType) (rm : Room) (as : Array Value) (h0 : Heap) (Q : Option Value → Heap → List Loc → Prop) : Prop :=
  ∀ ws : List Jvm.Cond, MetFree l y (head1 (Jvm.Cond.code y bytes maxL ret :: ws) rm) (fun a U => a = as ∧ Z.Warmed39 U.vm ∧ U.heap = h0) (fun _ _ _ _ _ => True)
    (fun _ U o U' => ∃ v L, o = .returned v ∧ Q v U'.heap L ∧ ReturnedEndW U o U' L rm.cells rm.slots)
theorem MeetsI.of {l : Launch} {Z : State} {y : MethodName} {bytes : ByteArray} {maxL : Nat} {ret : Option FieldType} {rm : Room} {as : Array Value} {h0 : Heap} {Q : Option Value → Heap → List Loc → Prop} (hpl : plainFor y = true)
    (body : ∀ (p : Program) (e : Env) (s : State) (m : MethodId) (below : List Frame) (meth : Method) (c : Code) (s₁ : State) (P : Outcome → State → Prop), p.tables.exec = Jvm.exec → c.code = bytes → c.maxLocals = maxL → Z.Warmed39 s.vm → s.vm.findClass y.cls = some m.cls → meth.name = y.name → meth.sig.returnType = ret → meth.locks = false →
      Stand p l e rm (s.setVm s.vm) m as below meth c s₁ [] 0 0 → s₁.heap = h0 → s.Since s.vm h0.size → (∀ v t L, Q v t.heap L → ReturnedEndW s (.returned v) t L rm.cells rm.slots → P (.returned v) t) → Go p e below P s₁ (entryFrame m as maxL)) : MeetsI l Z y bytes maxL ret rm as h0 Q := by
  intro ws
  refine MetFree.of_bodySF hpl hisR ?_
  intro p e s m args below meth c s₁ Bd hml0 hP hK
  obtain ⟨rfl, hZ, hh⟩ := hP
  exact body p e s m below meth c s₁ _ Bd.exec Bd.bytes hml0 hZ (findClass_of_methodNamed Bd.named) (name_of_methodNamed Bd.named Bd.method).1 Bd.returns (BodyLoose.notSynchronized Bd) (Stand.of_body Bd) (by rw [← hh, Bd.state]; rfl) ((State.WarmedH.refl s).since _) (fun v t L hq hf => ⟨v, L, rfl, hq, hf⟩)
/-! a call that comes back -/
def BK (l : Launch) (R : Room) (p : Program) (e : Env) (below : List Frame) (s : State) (args : Array Value) (y : MethodName) (W : Nat) (as : Array Value) (h : Heap) (C S : Nat) (Q : Option Value → Heap → List Loc → Prop) : Prop :=
  Back l R p e below s args y 3 W (fun A a => a = as ∧ A.U.heap = h ∧ A.cells + C ≤ R.cells ∧ A.slots + S ≤ R.slots)
    (fun A _ v B => ∃ L, Q v B.U.heap L ∧ B.locs = A.locs ++ L ∧ B.cells = A.cells + C ∧ B.slots = A.slots + S)
section Calls
variable {p : Program} {l : Launch} {e : Env} {R : Room} {s : State} {m : MethodId} {args : Array Value} {below : List Frame} {meth : Method} {c : Code} {T : State} {locs : List Loc} {cells slots : Nat} {Z : State} {a0 : Array Value} {h : Heap} {P : Outcome → State → Prop}
theorem standUp {C S : Nat} (X : Stand p l e R s m args below meth c T locs cells slots) (hc : cells ≤ C) (hs : slots ≤ S) : Stand p l e R s m args below meth c T locs C S :=
  ⟨X.admits, X.cas, X.clock, X.frames, X.room, X.hears, X.method, X.code, X.here, X.tail, X.warmed, X.limits, X.bytes, X.same.mono hc hs⟩
theorem MeetsW.bk {y : MethodName} {bytes : ByteArray} {maxL : Nat} {ret : Option FieldType} {rm : Room} {as : Array Value} {Q : Option Value → Heap → List Loc → Prop} {W : Nat} (M : MeetsW l Z y bytes maxL ret rm as h Q) (hZ : Z.Warmed39 s.vm)
    (wc : (Jvm.Cond.code y bytes maxL ret).before a0 Z = true) (wz : (Jvm.Cond.initialized y.cls).before a0 Z = true) (hf : rm.frames + 1 ≤ R.frames) (hl : W + (maxL + 11) + rm.locals ≤ R.locals) : BK l R p e below s args y W as h rm.cells rm.slots Q :=
  backOf (M []) hZ wc wz hf hl
theorem BK.mono {y : MethodName} {W : Nat} {as : Array Value} {C S : Nat} {Q Q' : Option Value → Heap → List Loc → Prop} (B : BK l R p e below s args y W as h C S Q) (q : ∀ v h' L, Q v h' L → Q' v h' L) : BK l R p e below s args y W as h C S Q' :=
  Back.mono B (fun _ _ z => z) (fun _ _ _ _ _ ⟨L, z, r⟩ => ⟨L, q _ _ _ z, r⟩)
theorem goS (X : Stand p l e R s m args below meth c T locs cells slots) (hx : p.tables.exec = Jvm.exec) (hZ : Z.Warmed39 s.vm) {own : String} {index : Nat} {y : MethodName} {bytes : ByteArray} {maxL : Nat} {ret : Option FieldType} (hown : s.vm.findClass own = some m.cls)
    (w1 : (Jvm.Cond.methodLink own index y).before a0 Z = true) (w2 : (Jvm.Cond.static y).before a0 Z = true) (w3 : (Jvm.Cond.initialized y.cls).before a0 Z = true) (w4 : (Jvm.Cond.code y bytes maxL ret).before a0 Z = true) (hy : y.cls ≠ "java/lang/invoke/MethodHandle" ∧ y.cls ≠ "java/lang/invoke/VarHandle")
    {W C S : Nat} {as : Array Value} {Q : Option Value → Heap → List Loc → Prop} (B : BK l R p e below s args y W as h C S Q) (eT : T.heap = h) {pc : Nat} {Ls : Array Slot} {st argsL rest : List Value} (hml : Ls.size = c.maxLocals)
    (hlen : ∀ sig, parseMethodDescriptor y.desc = some sig → argsL.length = sig.parameters.length) (hst : st = argsL.reverse ++ rest) (has : argsL.toArray = as) (hd : decode c.code pc = .ok (.invokestatic index, 3)) (hW : (rest.map fun v => v.category).sum ≤ W) (hc : cells + C ≤ R.cells) (hs : slots + S ≤ R.slots)
    (k : ∀ v T' L, Stand p l e R s m args below meth c T' (locs ++ L) (cells + C) (slots + S) → Q v T'.heap L → Go p e below P T' (mkF m (pc + 3) Ls (v.toList ++ rest))) : Go p e below P T (mkF m pc Ls st) := by
  obtain ⟨v, _, ⟨T', L', k', n'⟩, -, X', ⟨Lc, hQ, l1, l2, l3⟩, stp⟩ := Jvm.LawKit.callS X hx hown (mvT hZ w1) (mvT hZ w2) (mvT hZ w3) (mvT hZ w4) hy B (g := mkF m pc Ls st) rfl hml hlen hst (by show 2 * 0 + _ ≤ _; simpa using hW) hd (fun _ _ => ⟨has, eT, hc, hs⟩)
  dsimp only [Pt.U, Pt.locs, Pt.cells, Pt.slots] at X' l1 l2 l3 stp hQ
  subst l1 l2 l3
  exact Go.of stp (k v T' Lc X' hQ)
theorem goI (X : Stand p l e R s m args below meth c T locs cells slots) (hx : p.tables.exec = Jvm.exec) (hZ : Z.Warmed39 s.vm) {own : String} {index : Nat} {y : MethodName} {bytes : ByteArray} {maxL : Nat} (hn : y.name = "<init>") (hown : s.vm.findClass own = some m.cls)
    (w1 : (Jvm.Cond.methodLink own index y).before a0 Z = true) (w2 : (Jvm.Cond.instanceMethod y).before a0 Z = true) (w4 : (Jvm.Cond.code y bytes maxL none).before a0 Z = true) (hy : y.cls ≠ "java/lang/invoke/MethodHandle" ∧ y.cls ≠ "java/lang/invoke/VarHandle")
    {W C S : Nat} {as : Array Value} {Q : Option Value → Heap → List Loc → Prop} (B : BK l R p e below s args y W as h C S Q) (eT : T.heap = h) {pc : Nat} {Ls : Array Slot} {a : Addr} {st argsL rest : List Value} (hml : Ls.size = c.maxLocals)
    (hlen : ∀ sig, parseMethodDescriptor y.desc = some sig → argsL.length = sig.parameters.length) (hst : st = argsL.reverse ++ .ref a :: rest) (has : (.ref a :: argsL).toArray = as) (hd : decode c.code pc = .ok (.invokespecial index, 3)) (hW : (rest.map fun v => v.category).sum ≤ W) (hc : cells + C ≤ R.cells) (hs : slots + S ≤ R.slots)
    (k : ∀ v T' L, Stand p l e R s m args below meth c T' (locs ++ L) (cells + C) (slots + S) → Q v T'.heap L → Go p e below P T' (mkF m (pc + 3) Ls (v.toList ++ rest))) : Go p e below P T (mkF m pc Ls st) := by
  obtain ⟨v, _, ⟨T', L', k', n'⟩, -, X', ⟨Lc, hQ, l1, l2, l3⟩, stp⟩ := X.specialBack hx hn hown (mvT hZ w1) (mvT hZ w2) (mvT hZ w4) hy B (g := mkF m pc Ls st) rfl hml (Steps.refl _) hlen hst (by show 2 * 0 + _ ≤ _; simpa using hW) hd (fun _ _ => ⟨has, eT, hc, hs⟩)
  dsimp only [Pt.U, Pt.locs, Pt.cells, Pt.slots] at X' l1 l2 l3 stp hQ
  subst l1 l2 l3
  exact Go.of (fun _ z => stp.trans z) (k v T' Lc X' hQ)
theorem goV (X : Stand p l e R s m args below meth c T locs cells slots) (hx : p.tables.exec = Jvm.exec) (hZ : Z.Warmed39 s.vm) {own K : String} {index : Nat} {y z : MethodName} (hown : s.vm.findClass own = some m.cls)
    (w1 : (Jvm.Cond.methodLink own index y).before a0 Z = true) (w2 : (Jvm.Cond.declares y).before a0 Z = true) (hnf : NotFace s y) (w3 : (Jvm.Cond.selects K y z).before a0 Z = true) (w4 : (Jvm.Cond.instanceMethod z).before a0 Z = true) (hy : y.cls ≠ "java/lang/invoke/MethodHandle" ∧ y.cls ≠ "java/lang/invoke/VarHandle")
    {W C S : Nat} {as : Array Value} {Q : Option Value → Heap → List Loc → Prop} (B : BK l R p e below s args z W as h C S Q) (eT : T.heap = h) {b : Addr} (E : Exa Z h b K) {pc : Nat} {Ls : Array Slot} {st argsL rest : List Value} (hml : Ls.size = c.maxLocals)
    (hlen : ∀ sig, parseMethodDescriptor y.desc = some sig → argsL.length = sig.parameters.length) (hst : st = argsL.reverse ++ .ref b :: rest) (has : (.ref b :: argsL).toArray = as) (hd : decode c.code pc = .ok (.invokevirtual index, 3)) (hW : (rest.map fun v => v.category).sum ≤ W) (hc : cells + C ≤ R.cells) (hs : slots + S ≤ R.slots)
    (k : ∀ v T' L, Stand p l e R s m args below meth c T' (locs ++ L) (cells + C) (slots + S) → Q v T'.heap L → Go p e below P T' (mkF m (pc + 3) Ls (v.toList ++ rest))) : Go p e below P T (mkF m pc Ls st) := by
  obtain ⟨cq, kq, qa, -, qc⟩ := isOf hZ eT E
  obtain ⟨v, _, ⟨T', L', k', n'⟩, -, X', ⟨Lc, hQ, l1, l2, l3⟩, stp⟩ := X.virtualBack hx hown (mvT hZ w1) (mvT hZ w2) hnf (mvT hZ w3) (mvT hZ w4) hy B qa qc (g := mkF m pc Ls st) rfl hml (Steps.refl _) hlen hst (by show 2 * 0 + _ ≤ _; simpa using hW) hd (fun _ _ => ⟨has, eT, hc, hs⟩)
  dsimp only [Pt.U, Pt.locs, Pt.cells, Pt.slots] at X' l1 l2 l3 stp hQ
  subst l1 l2 l3
  exact Go.of (fun _ z => stp.trans z) (k v T' Lc X' hQ)
theorem goP (X : Stand p l e R s m args below meth c T locs cells slots) (hx : p.tables.exec = Jvm.exec) (hZ : Z.Warmed39 s.vm) {own : String} {index n : Nat} {y : MethodName} {bytes : ByteArray} {maxL : Nat} {ret : Option FieldType} (hown : s.vm.findClass own = some m.cls)
    (w1 : (Jvm.Cond.methodLink own index y).before a0 Z = true) (w2 : (Jvm.Cond.instanceMethod y).before a0 Z = true) (w3 : (Jvm.Cond.privateMethod y).before a0 Z = true) (w4 : (Jvm.Cond.code y bytes maxL ret).before a0 Z = true) (wi : (Jvm.Cond.instantiable y.cls n).before a0 Z = true) (hy : y.cls ≠ "java/lang/invoke/MethodHandle" ∧ y.cls ≠ "java/lang/invoke/VarHandle")
    {W C S : Nat} {as : Array Value} {Q : Option Value → Heap → List Loc → Prop} (B : BK l R p e below s args y W as h C S Q) (eT : T.heap = h) {b : Addr} {K : String} (E : Exa Z h b K) {pc : Nat} {Ls : Array Slot} {st argsL rest : List Value} (hml : Ls.size = c.maxLocals)
    (hlen : ∀ sig, parseMethodDescriptor y.desc = some sig → argsL.length = sig.parameters.length) (hst : st = argsL.reverse ++ .ref b :: rest) (has : (.ref b :: argsL).toArray = as) (hd : decode c.code pc = .ok (.invokevirtual index, 3)) (hW : (rest.map fun v => v.category).sum ≤ W) (hc : cells + C ≤ R.cells) (hs : slots + S ≤ R.slots)
    (k : ∀ v T' L, Stand p l e R s m args below meth c T' (locs ++ L) (cells + C) (slots + S) → Q v T'.heap L → Go p e below P T' (mkF m (pc + 3) Ls (v.toList ++ rest))) : Go p e below P T (mkF m pc Ls st) := by
  have hp := Cond.privateMethod_at (mvP hZ w3 (args := args))
  obtain ⟨ci, ki, i1, i2, i3, i4, i5, -⟩ := Cond.instantiable_spec (mvT hZ wi (args := args))
  have hsel : (Jvm.Cond.selects y.cls y y).before args s = true := Jvm.Stand.selects_self_of_private i1 i2 (Bool.or_eq_false_iff.mp i4).1 hp (mvT hZ w2) hy
  obtain ⟨cq, q1, q2⟩ := E.cell
  obtain ⟨v, _, ⟨T', L', k', n'⟩, -, X', ⟨Lc, hQ, l1, l2, l3⟩, stp⟩ := X.privateBack hx hown (mvT hZ w1) (mvT hZ w2) hsel hp (mvT hZ w4) hy B (g := mkF m pc Ls st) rfl hml (Steps.refl _) (by rw [eT]; exact q1) q2 hlen hst (by show 2 * 0 + _ ≤ _; simpa using hW) hd (fun _ _ => ⟨has, eT, hc, hs⟩)
  dsimp only [Pt.U, Pt.locs, Pt.cells, Pt.slots] at X' l1 l2 l3 stp hQ
  subst l1 l2 l3
  exact Go.of (fun _ z => stp.trans z) (k v T' Lc X' hQ)
/-! pure: what a contract 'Pu' gives -/
theorem standNil {L : List Loc} (X : Stand p l e R s m args below meth c T (locs ++ L) (cells + 0) (slots + 0)) (q : L = []) : Stand p l e R s m args below meth c T locs cells slots := by
  subst q; rw [List.append_nil] at X; exact X
/-! the end -/
theorem goRet0 (X : Stand p l e R s m args below meth c T locs cells slots) (hx : p.tables.exec = Jvm.exec) (hret : meth.sig.returnType = none) (hlk : meth.locks = false) {pc : Nat} {Ls : Array Slot} {C S : Nat} {Q : Option Value → Heap → List Loc → Prop}
    (hd : decode c.code pc = .ok (.return_, 1)) (K : ∀ v t L, Q v t.heap L → FrameEnd s (.returned v) t L C S → P (.returned v) t) (hc : cells ≤ C) (hs : slots ≤ S) (eT : T.heap = h) (hq : Q none h locs) : Go p e below P T (mkF m pc Ls []) := by
  obtain ⟨fs, hr, hrun, hended, hW, hsame⟩ := X.leave (v := none) (fun _ => rfl) hlk
  exact ⟨_, _, X.returnOut hx hret hd hr, hrun, hended, K _ _ _ (by rw [← eT] at hq; exact hq) ⟨⟨_, rfl⟩, hW, hsame.mono hc hs⟩⟩
theorem goRet (X : Stand p l e R s m args below meth c T locs cells slots) (hx : p.tables.exec = Jvm.exec) {t : FieldType} (hret : meth.sig.returnType = some t) (hlk : meth.locks = false) {pc : Nat} {Ls : Array Slot} {C S : Nat} {w : Value} {rest : List Value} {i : Instr} {Q : Option Value → Heap → List Loc → Prop}
    (hn : narrow t w = w) (hi : (i = .ireturn ∧ (t = .int ∨ t = .boolean ∨ t = .byte ∨ t = .char ∨ t = .short) ∧ ∃ z, w = .int z) ∨ (i = .lreturn ∧ t = .long ∧ ∃ z, w = .long z) ∨ (i = .dreturn ∧ t = .double ∧ ∃ z, w = .double z) ∨ (i = .freturn ∧ t = .float ∧ ∃ z, w = .float z) ∨ (i = .areturn ∧ t.isReference = true ∧ w.isRef = true))
    (hd : decode c.code pc = .ok (i, 1)) (K : ∀ v t L, Q v t.heap L → FrameEnd s (.returned v) t L C S → P (.returned v) t) (hc : cells ≤ C) (hs : slots ≤ S) (eT : T.heap = h) (hq : Q (some w) h locs) : Go p e below P T (mkF m pc Ls (w :: rest)) := by
  obtain ⟨fs, hr, hrun, hended, hW, hsame⟩ := X.leave (v := some w) (fun q => by rw [hret] at q; cases q) hlk
  exact ⟨_, _, retOut X hx hret hn hi hd hr, hrun, hended, K _ _ _ (by rw [← eT] at hq; exact hq) ⟨⟨_, rfl⟩, hW, hsame.mono hc hs⟩⟩
theorem goRetI (X : Stand p l e R s m args below meth c T locs cells slots) (hx : p.tables.exec = Jvm.exec) {t : FieldType} (hret : meth.sig.returnType = some t) (hlk : meth.locks = false) {pc : Nat} {Ls : Array Slot} {C S : Nat} {z : Int32} {rest : List Value} {Q : Option Value → Heap → List Loc → Prop}
    (hn : narrow t (.int z) = .int z) (ht : t = .int ∨ t = .boolean ∨ t = .byte ∨ t = .char ∨ t = .short) (hd : decode c.code pc = .ok (.ireturn, 1)) (K : ∀ v t L, Q v t.heap L → FrameEnd s (.returned v) t L C S → P (.returned v) t) (hc : cells ≤ C) (hs : slots ≤ S) (eT : T.heap = h) (hq : Q (some (.int z)) h locs) : Go p e below P T (mkF m pc Ls (.int z :: rest)) :=
  goRet X hx hret hlk hn (Or.inl ⟨rfl, ht, z, rfl⟩) hd K hc hs eT hq
theorem goRetJ (X : Stand p l e R s m args below meth c T locs cells slots) (hx : p.tables.exec = Jvm.exec) (hret : meth.sig.returnType = some .long) (hlk : meth.locks = false) {pc : Nat} {Ls : Array Slot} {C S : Nat} {z : Int64} {rest : List Value} {Q : Option Value → Heap → List Loc → Prop}
    (hd : decode c.code pc = .ok (.lreturn, 1)) (K : ∀ v t L, Q v t.heap L → FrameEnd s (.returned v) t L C S → P (.returned v) t) (hc : cells ≤ C) (hs : slots ≤ S) (eT : T.heap = h) (hq : Q (some (.long z)) h locs) : Go p e below P T (mkF m pc Ls (.long z :: rest)) :=
  goRet X hx hret hlk rfl (Or.inr (Or.inl ⟨rfl, rfl, z, rfl⟩)) hd K hc hs eT hq
theorem goRetR (X : Stand p l e R s m args below meth c T locs cells slots) (hx : p.tables.exec = Jvm.exec) {t : FieldType} (hret : meth.sig.returnType = some t) (ht : t.isReference = true) (hlk : meth.locks = false) {pc : Nat} {Ls : Array Slot} {C S : Nat} {w : Value} {rest : List Value} {Q : Option Value → Heap → List Loc → Prop}
    (hw : w.isRef = true) (hn : narrow t w = w) (hd : decode c.code pc = .ok (.areturn, 1)) (K : ∀ v t L, Q v t.heap L → FrameEnd s (.returned v) t L C S → P (.returned v) t) (hc : cells ≤ C) (hs : slots ≤ S) (eT : T.heap = h) (hq : Q (some w) h locs) : Go p e below P T (mkF m pc Ls (w :: rest)) :=
  goRet X hx hret hlk hn (Or.inr (Or.inr (Or.inr (Or.inr ⟨rfl, ht, hw⟩)))) hd K hc hs eT hq
/-! the wide end: where a String constant may have been interned -/
theorem goRetW {vm1 : Vm} {k1 : Nat} (X : Stand p l e R (s.setVm vm1) m args below meth c T locs cells slots) (hx : p.tables.exec = Jvm.exec) (hS : s.Since vm1 k1) (hk : k1 ≤ h.size) {t : FieldType} (hret : meth.sig.returnType = some t) (hlk : meth.locks = false) {pc : Nat} {Ls : Array Slot} {C S : Nat} {w : Value} {rest : List Value} {i : Instr} {Q : Option Value → Heap → List Loc → Prop}
    (hn : narrow t w = w) (hi : (i = .ireturn ∧ (t = .int ∨ t = .boolean ∨ t = .byte ∨ t = .char ∨ t = .short) ∧ ∃ z, w = .int z) ∨ (i = .lreturn ∧ t = .long ∧ ∃ z, w = .long z) ∨ (i = .dreturn ∧ t = .double ∧ ∃ z, w = .double z) ∨ (i = .freturn ∧ t = .float ∧ ∃ z, w = .float z) ∨ (i = .areturn ∧ t.isReference = true ∧ w.isRef = true))
    (hd : decode c.code pc = .ok (i, 1)) (K : ∀ v t L, Q v t.heap L → ReturnedEndW s (.returned v) t L C S → P (.returned v) t) (hc : cells ≤ C) (hs : slots ≤ S) (eT : T.heap = h) (hq : Q (some w) h locs) : Go p e below P T (mkF m pc Ls (w :: rest)) := by
  obtain ⟨fs, hr, hrun, hended, h1, h2, h3, h4⟩ := X.leaveW hS (by rw [eT]; exact hk) (v := some w) (fun q => by rw [hret] at q; cases q) hlk
  exact ⟨_, _, retOut X hx hret hn hi hd hr, hrun, hended, K _ _ _ (by rw [← eT] at hq; exact hq) ⟨h1, h2, h3, h4.mono hc hs⟩⟩
theorem goRetIW {vm1 : Vm} {k1 : Nat} (X : Stand p l e R (s.setVm vm1) m args below meth c T locs cells slots) (hx : p.tables.exec = Jvm.exec) (hS : s.Since vm1 k1) (hk : k1 ≤ h.size) {t : FieldType} (hret : meth.sig.returnType = some t) (hlk : meth.locks = false) {pc : Nat} {Ls : Array Slot} {C S : Nat} {z : Int32} {rest : List Value} {Q : Option Value → Heap → List Loc → Prop}
    (hn : narrow t (.int z) = .int z) (ht : t = .int ∨ t = .boolean ∨ t = .byte ∨ t = .char ∨ t = .short) (hd : decode c.code pc = .ok (.ireturn, 1)) (K : ∀ v t L, Q v t.heap L → ReturnedEndW s (.returned v) t L C S → P (.returned v) t) (hc : cells ≤ C) (hs : slots ≤ S) (eT : T.heap = h) (hq : Q (some (.int z)) h locs) : Go p e below P T (mkF m pc Ls (.int z :: rest)) :=
  goRetW X hx hS hk hret hlk hn (Or.inl ⟨rfl, ht, z, rfl⟩) hd K hc hs eT hq
theorem goRetRW {vm1 : Vm} {k1 : Nat} (X : Stand p l e R (s.setVm vm1) m args below meth c T locs cells slots) (hx : p.tables.exec = Jvm.exec) (hS : s.Since vm1 k1) (hk : k1 ≤ h.size) {t : FieldType} (hret : meth.sig.returnType = some t) (ht : t.isReference = true) (hlk : meth.locks = false) {pc : Nat} {Ls : Array Slot} {C S : Nat} {w : Value} {rest : List Value} {Q : Option Value → Heap → List Loc → Prop}
    (hw : w.isRef = true) (hn : narrow t w = w) (hd : decode c.code pc = .ok (.areturn, 1)) (K : ∀ v t L, Q v t.heap L → ReturnedEndW s (.returned v) t L C S → P (.returned v) t) (hc : cells ≤ C) (hs : slots ≤ S) (eT : T.heap = h) (hq : Q (some w) h locs) : Go p e below P T (mkF m pc Ls (w :: rest)) :=
  goRetW X hx hS hk hret hlk hn (Or.inr (Or.inr (Or.inr (Or.inr ⟨rfl, ht, hw⟩)))) hd K hc hs eT hq
theorem goRet0W {vm1 : Vm} {k1 : Nat} (X : Stand p l e R (s.setVm vm1) m args below meth c T locs cells slots) (hx : p.tables.exec = Jvm.exec) (hS : s.Since vm1 k1) (hk : k1 ≤ h.size) (hret : meth.sig.returnType = none) (hlk : meth.locks = false) {pc : Nat} {Ls : Array Slot} {C S : Nat} {Q : Option Value → Heap → List Loc → Prop}
    (hd : decode c.code pc = .ok (.return_, 1)) (K : ∀ v t L, Q v t.heap L → ReturnedEndW s (.returned v) t L C S → P (.returned v) t) (hc : cells ≤ C) (hs : slots ≤ S) (eT : T.heap = h) (hq : Q none h locs) : Go p e below P T (mkF m pc Ls []) := by
  obtain ⟨fs, hr, hrun, hended, h1, h2, h3, h4⟩ := X.leaveW hS (by rw [eT]; exact hk) (v := none) (fun _ => rfl) hlk
  exact ⟨_, _, X.returnOut hx hret hd hr, hrun, hended, K _ _ _ (by rw [← eT] at hq; exact hq) ⟨h1, h2, h3, h4.mono hc hs⟩⟩
theorem lremM {g : JFrame} {target : State} (X : Stand p l e R s m args below meth c T locs cells slots) (hx : p.tables.exec = Jvm.exec) (hg : g.method = m) {x y : Int64} {rest : List Value} (hd : decode c.code g.pc = .ok (.lrem, 1)) (hs : g.stack = .long y :: .long x :: rest) (hy : y ≠ 0)
    (hr : Steps p.tables e below (T.setTop { g with pc := g.pc + 1, stack := .long (x % y) :: rest }) target) : Steps p.tables e below (T.setTop g) target := by
  have q : x - x / y * y = x % y := lrem_mod x y
  exact XS.lrem X.here hx hg hd hs hy (by rw [q]; exact hr)
end Calls
theorem refcat {v : Value} (h : v.isRef = true) : v.category = 1 := by rcases ref_cases h with rfl | ⟨a, rfl⟩ <;> rfl
theorem narref {t : FieldType} {v : Value} (h : v.isRef = true) : narrow t v = v := by rcases ref_cases h with rfl | ⟨a, rfl⟩ <;> cases t <;> rfl
theorem fitrefO {C : String} {v : Value} (h : v.isRef = true) : fits (.object C) v = true := by rcases ref_cases h with rfl | ⟨a, rfl⟩ <;> rfl
theorem fitrefA {t : FieldType} {v : Value} (h : v.isRef = true) : fits (.array t) v = true := by rcases ref_cases h with rfl | ⟨a, rfl⟩ <;> rfl
/-! booleans -/
def bi (φ : Prop) [Decidable φ] : Int32 := if φ then 1 else 0
theorem bi_t {φ : Prop} [Decidable φ] (h : φ) : bi φ = 1 := if_pos h
theorem bi_f {φ : Prop} [Decidable φ] (h : ¬ φ) : bi φ = 0 := if_neg h
theorem bi_ne {φ : Prop} [Decidable φ] (h : φ) : ¬ bi φ = 0 := by rw [bi_t h]; decide
theorem narrow_bi {φ : Prop} [Decidable φ] : narrow .boolean (.int (bi φ)) = .int (bi φ) := by unfold bi; split <;> rfl
end W
end Jvm.Pilot.@@N@@
namespace Jvm.Pilot.@@N@@
namespace W
open Jvm Jvm.ClassFile Sem Op Lib Jvm.Free Jvm.Stand Jvm.LawKit Jvm.RoadKit Bundle
/-! a String by its chars -/
def Str (Z : State) (h : Heap) (a t : Addr) (cs : List Int32) : Prop := ∃ (kb : ClassId) (cd N : Int32) (vs : List Value), Exa Z h a "java/lang/String" ∧ Fld Z h a "java/lang/String" "value" "[B" (.ref t) ∧ Fld Z h a "java/lang/String" "coder" "B" (.int cd) ∧ Arv Z h t kb .byte N vs (.int 0) ∧ StrChars.Road.CodA cs cd N vs ∧ (∀ c ∈ cs, ¬ c < 0 ∧ ¬ (65535 : Int32) < c) ∧ cs.length ≤ 4000
section Strs
variable {Z : State} {h h' : Heap} {a t : Addr} {cs : List Int32} {ws : List Addr}
theorem Str.keep (F : Str Z h a t cs) (K : Keep h h' ws) (q : a ∉ ws) (r : t ∉ ws) : Str Z h' a t cs := by
  obtain ⟨kb, cd, N, vs, E, V, C, A, g⟩ := F
  exact ⟨kb, cd, N, vs, E.keep K, V.keep K q, C.keep K q, A.keep K r, g⟩
theorem Str.exa (F : Str Z h a t cs) : Exa Z h a "java/lang/String" := by obtain ⟨kb, cd, N, vs, E, -⟩ := F; exact E
theorem Str.lt1 (F : Str Z h a t cs) : a < h.size := F.exa.lt
theorem Str.lt2 (F : Str Z h a t cs) : t < h.size := by obtain ⟨kb, cd, N, vs, E, V, C, A, g⟩ := F; exact A.lt
end Strs
theorem up255 {cs : List Int32} (h : ∀ c ∈ cs, ¬ c < 0 ∧ ¬ (255 : Int32) < c) : ∀ c ∈ cs, ¬ c < 0 ∧ ¬ (65535 : Int32) < c := fun c hc => ⟨(h c hc).1, fun q => (h c hc).2 (by rw [Int32.lt_iff_toInt_lt] at q ⊢; have e1 : (65535 : Int32).toInt = 65535 := rfl; have e2 : (255 : Int32).toInt = 255 := rfl; omega)⟩
theorem nat32 {n : Nat} (h : n < 2 ^ 31) : (Int32.ofNat n).toNatClampNeg = n := by
  show (Int32.ofNat n).toInt.toNat = n
  rw [Int32.toInt_ofNat_of_lt h]; rfl
theorem str1 {Z : State} {h : Heap} {a t : Addr} {k : ClassId} {c : Int32} (hp : ¬ c < 0 ∧ ¬ (255 : Int32) < c) (E : Exa Z h a "java/lang/String") (V : Fld Z h a "java/lang/String" "value" "[B" (.ref t)) (C : Fld Z h a "java/lang/String" "coder" "B" (.int (0 : Int32))) (A : Arv Z h t k .byte (1 : Int32) [.int (c.toInt8.toInt32)] (.int (0 : Int32))) : Str Z h a t [c] := by
  have hq : ∀ d ∈ [c], ¬ d < 0 ∧ ¬ (255 : Int32) < d := fun d hd => by cases List.mem_singleton.mp hd; exact hp
  exact ⟨k, 0, 1, _, E, V, C, A, Or.inl ⟨rfl, rfl, rfl, fun d hd => (hq d hd).2⟩, up255 hq, by simp⟩
theorem nar_b (x : Int32) : nar .byte (x.toInt8.toInt32) = x.toInt8.toInt32 := by
  show x.toInt8.toInt32.toInt8.toInt32 = _
  simp
section StrCalls
variable {p : Program} {l : Launch} {e : Env} {R : Room} {s : State} {args : Array Value} {below : List Frame} {W : Nat} {Z : State} {a0 : Array Value} {h : Heap}
theorem newStr (hZ : Z.Warmed39 s.vm) (hw : ∀ d ∈ StrChars.Road.words, d.before a0 Z = true) {kI : Nat} (wi : (Jvm.Cond.instantiable "java/lang/String" kI).before a0 Z = true) {x b : Addr} {k : ClassId} {zn z : Int32} {cs : List Int32} {dv v0 c0 : Value} (E : Exa Z h x "java/lang/String") (V : Fld Z h x "java/lang/String" "value" "[B" v0) (C : Fld Z h x "java/lang/String" "coder" "B" c0)
    {vs : List Value} (A : Arv Z h b k .char zn vs dv) (hvs : vs = cs.map Value.int) (S : Sta Z h "java/lang/String" "COMPACT_STRINGS" "Z" (.int z)) (hz : ¬ z = 0) {n : Nat} (hn : cs.length = n) (hN : zn = Int32.ofNat n) (l0 : 0 < n) (l2 : n ≤ 4000) (hp : ∀ c ∈ cs, ¬ c < 0 ∧ ¬ (255 : Int32) < c) (hfr : 4 ≤ R.frames) (hlo : W + 65 ≤ R.locals) :
    BK l R p e below s args (⟨"java/lang/String", "<init>", "([C)V"⟩ : MethodName) W #[.ref x, .ref b] h 1 n (fun v h' L => v = none ∧ Mv h h' [x] L ∧ ∃ t, h.size ≤ t ∧ Str Z h' x t cs) := by
  subst hn hN hvs
  have hlen : (Int32.ofNat cs.length).toNatClampNeg = cs.length := nat32 (by omega)
  refine BK.mono (Q := StrChars.Road.QA Z x (Int32.ofNat cs.length) cs h) (StrChars.Road.backArv hZ hw wi E V C A S hz hlen l0 (by omega) (fun c hc => (hp c hc).2) hfr hlo) ?_
  intro v h' L hq
  obtain ⟨q1, q2, q3, q4, q5, q6, q7, ⟨kb, v1, v2⟩, q9⟩ := hq
  refine ⟨q1, ⟨q3, fun y hy => Or.inl (by rw [q2 y hy]; exact List.mem_singleton.mpr rfl)⟩, h.size, Nat.le_refl _, kb, 0, _, _, q5, q6, q7, v2, ?_, up255 hp, l2⟩
  have := StrChars.Road.codOf (cs := cs) rfl (fun c hc => (hp c hc).2)
  rw [List.map_map] at this
  exact this
end StrCalls
end W
end Jvm.Pilot.@@N@@
namespace Jvm.Pilot.@@N@@
namespace W
open Jvm Jvm.ClassFile Sem Op Lib Jvm.Free Jvm.Stand Jvm.LawKit Jvm.RoadKit Bundle
/-! contracts under the invariant on held String constants -/
def MeetsH (l : Launch) (Z : State) (EL : List (String × Nat)) (y : MethodName) (bytes : ByteArray) (maxL : Nat) (ret : Option FieldType) (rm : Room) (as : Array Value) (h0 : Heap) (Q : Option Value → Heap → List Loc → Prop) : Prop :=
  ∀ ws : List Jvm.Cond, MetFree l y (head1 (Jvm.Cond.code y bytes maxL ret :: ws) rm) (fun a U => a = as ∧ Z.Warmed39 U.vm ∧ U.heap = h0 ∧ CHv Z EL U.vm h0) (fun _ _ _ _ _ => True)
    (fun _ U o U' => ∃ v L, o = .returned v ∧ Q v U'.heap L ∧ CHr Z EL U.vm U.heap U'.vm U'.heap ∧ ReturnedEndW U o U' L rm.cells rm.slots)
theorem MeetsH.of {l : Launch} {Z : State} {EL : List (String × Nat)} {y : MethodName} {bytes : ByteArray} {maxL : Nat} {ret : Option FieldType} {rm : Room} {as : Array Value} {h0 : Heap} {Q : Option Value → Heap → List Loc → Prop} (hpl : plainFor y = true)
    (body : ∀ (p : Program) (e : Env) (s : State) (m : MethodId) (below : List Frame) (meth : Method) (c : Code) (s₁ : State) (P : Outcome → State → Prop), p.tables.exec = Jvm.exec → c.code = bytes → c.maxLocals = maxL → Z.Warmed39 s.vm → s.vm.findClass y.cls = some m.cls → meth.name = y.name → meth.sig.returnType = ret → meth.locks = false →
      Stand p l e rm (s.setVm s.vm) m as below meth c s₁ [] 0 0 → s₁.heap = h0 → s.Since s.vm h0.size → CHr Z EL s.vm h0 s.vm h0 → (∀ v t L, Q v t.heap L → CHr Z EL s.vm h0 t.vm t.heap → ReturnedEndW s (.returned v) t L rm.cells rm.slots → P (.returned v) t) → Go p e below P s₁ (entryFrame m as maxL)) : MeetsH l Z EL y bytes maxL ret rm as h0 Q := by
  intro ws
  refine MetFree.of_bodySF hpl hisR ?_
  intro p e s m args below meth c s₁ Bd hml0 hP hK
  obtain ⟨rfl, hZ, hh, hH⟩ := hP
  exact body p e s m below meth c s₁ _ Bd.exec Bd.bytes hml0 hZ (findClass_of_methodNamed Bd.named) (name_of_methodNamed Bd.named Bd.method).1 Bd.returns (BodyLoose.notSynchronized Bd) (Stand.of_body Bd) (by rw [← hh, Bd.state]; rfl) ((State.WarmedH.refl s).since _) (CHr.refl hH) (fun v t L hq hc hf => ⟨v, L, rfl, hq, by rw [hh]; exact hc, hf⟩)
section HeldCalls
variable {p : Program} {l : Launch} {e : Env} {R : Room} {s : State} {m : MethodId} {args : Array Value} {below : List Frame} {meth : Method} {c : Code} {T : State} {locs : List Loc} {cells slots : Nat} {Z : State} {a0 : Array Value} {h h0 : Heap} {P : Outcome → State → Prop} {EL : List (String × Nat)} {vm0 : Vm} {k0 : Nat}
theorem goSH (X : Stand p l e R (s.setVm vm0) m args below meth c T locs cells slots) (hx : p.tables.exec = Jvm.exec) (hZ : Z.Warmed39 vm0) {own : String} {index : Nat} {y : MethodName} {bytes : ByteArray} {maxL : Nat} {ret : Option FieldType} (hown : vm0.findClass own = some m.cls)
    (w1 : (Jvm.Cond.methodLink own index y).before a0 Z = true) (w2 : (Jvm.Cond.static y).before a0 Z = true) (w3 : (Jvm.Cond.initialized y.cls).before a0 Z = true) (w4 : (Jvm.Cond.code y bytes maxL ret).before a0 Z = true) (hy : y.cls ≠ "java/lang/invoke/MethodHandle" ∧ y.cls ≠ "java/lang/invoke/VarHandle")
    {W C S : Nat} {rm : Room} {as : Array Value} {Q : Option Value → Heap → List Loc → Prop} (M : MeetsH l Z EL y bytes maxL ret rm as h Q) (hC : rm.cells = C) (hSl : rm.slots = S) (hf : rm.frames + 1 ≤ R.frames) (hl : W + (maxL + 11) + rm.locals ≤ R.locals) (hS : s.Since vm0 k0) (hk : k0 ≤ h.size) (hEL : EW Z a0 EL) (H : CHv Z EL vm0 h) (eT : T.heap = h) {pc : Nat} {Ls : Array Slot} {st argsL rest : List Value} (hml : Ls.size = c.maxLocals)
    (hlen : ∀ sig, parseMethodDescriptor y.desc = some sig → argsL.length = sig.parameters.length) (hst : st = argsL.reverse ++ rest) (has : argsL.toArray = as) (hd : decode c.code pc = .ok (.invokestatic index, 3)) (hW : (rest.map fun v => v.category).sum ≤ W) (hc : cells + C ≤ R.cells) (hs : slots + S ≤ R.slots)
    (k : ∀ v T' L, Stand p l e R (s.setVm T'.vm) m args below meth c T' (locs ++ L) (cells + C) (slots + S) → Q v T'.heap L → s.Since T'.vm T'.heap.size → Z.Warmed39 (s.setVm T'.vm).vm → (s.setVm T'.vm).vm.findClass own = some m.cls → CHr Z EL vm0 h T'.vm T'.heap → Go p e below P T' (mkF m (pc + 3) Ls (v.toList ++ rest))) : Go p e below P T (mkF m pc Ls st) := by
  subst hC hSl
  have mvs : ∀ {d : Jvm.Cond}, d.before a0 Z = true → (d.onTables && d.keepsFace) = true → d.before args (s.setVm vm0) = true := fun q r => mvT (s := s.setVm vm0) hZ q r
  obtain ⟨v, _, ⟨T', L', k', n'⟩, hW1, X', hS', hg', ⟨Lc, hQ, l1, l2, l3, hR⟩, stp⟩ := callSS X hx (own := own) hown (mvs w1 (by first | rfl | simp [Cond.onTables, Cond.keepsFace, Cond.keeps, Cond.steady])) (mvs w2 (by first | rfl | simp [Cond.onTables, Cond.keepsFace, Cond.keeps, Cond.steady])) (mvs w3 (by first | rfl | simp [Cond.onTables, Cond.keepsFace, Cond.keeps, Cond.steady])) (mvs w4 (by first | rfl | simp [Cond.onTables, Cond.keepsFace, Cond.keeps, Cond.steady])) hy (backOfSH (W := W) (M []) hZ w4 w3 hf hl hEL H) (g := mkF m pc Ls st) rfl hml hlen hst (by show 2 * 0 + _ ≤ _; simpa using hW) hd (fun _ _ => ⟨has, eT, hc, hs⟩)
  dsimp only [Pt.U, Pt.locs, Pt.cells, Pt.slots] at X' l1 l2 l3 stp hQ hR hS' hg'
  subst l1 l2 l3
  have hS2 : s.Since T'.vm T'.heap.size := hS.trans hS' (Nat.le_trans hk (by rw [← eT]; exact hg'))
  exact Go.of (fun _ z => stp.trans z) (k v T' Lc X' hQ hS2 (State.Warmed39.trans (t := s.setVm vm0) hZ hS'.1) (by rw [show (s.setVm T'.vm).vm = T'.vm from rfl, hS'.1.alike.findClass]; exact hown) hR)
theorem goIH (X : Stand p l e R (s.setVm vm0) m args below meth c T locs cells slots) (hx : p.tables.exec = Jvm.exec) (hZ : Z.Warmed39 vm0) {own : String} {index : Nat} {y : MethodName} {bytes : ByteArray} {maxL : Nat} (hn : y.name = "<init>") (hown : vm0.findClass own = some m.cls)
    (w1 : (Jvm.Cond.methodLink own index y).before a0 Z = true) (w2 : (Jvm.Cond.instanceMethod y).before a0 Z = true) (w3 : (Jvm.Cond.initialized y.cls).before a0 Z = true) (w4 : (Jvm.Cond.code y bytes maxL none).before a0 Z = true) (hy : y.cls ≠ "java/lang/invoke/MethodHandle" ∧ y.cls ≠ "java/lang/invoke/VarHandle")
    {W C S : Nat} {rm : Room} {as : Array Value} {Q : Option Value → Heap → List Loc → Prop} (M : MeetsH l Z EL y bytes maxL none rm as h Q) (hC : rm.cells = C) (hSl : rm.slots = S) (hf : rm.frames + 1 ≤ R.frames) (hl : W + (maxL + 11) + rm.locals ≤ R.locals) (hS : s.Since vm0 k0) (hk : k0 ≤ h.size) (hEL : EW Z a0 EL) (H : CHv Z EL vm0 h) (eT : T.heap = h) {pc : Nat} {Ls : Array Slot} {a : Addr} {st argsL rest : List Value} (hml : Ls.size = c.maxLocals)
    (hlen : ∀ sig, parseMethodDescriptor y.desc = some sig → argsL.length = sig.parameters.length) (hst : st = argsL.reverse ++ .ref a :: rest) (has : (.ref a :: argsL).toArray = as) (hd : decode c.code pc = .ok (.invokespecial index, 3)) (hW : (rest.map fun v => v.category).sum ≤ W) (hc : cells + C ≤ R.cells) (hs : slots + S ≤ R.slots)
    (k : ∀ v T' L, Stand p l e R (s.setVm T'.vm) m args below meth c T' (locs ++ L) (cells + C) (slots + S) → Q v T'.heap L → s.Since T'.vm T'.heap.size → Z.Warmed39 (s.setVm T'.vm).vm → (s.setVm T'.vm).vm.findClass own = some m.cls → CHr Z EL vm0 h T'.vm T'.heap → Go p e below P T' (mkF m (pc + 3) Ls (v.toList ++ rest))) : Go p e below P T (mkF m pc Ls st) := by
  subst hC hSl
  have mvs : ∀ {d : Jvm.Cond}, d.before a0 Z = true → (d.onTables && d.keepsFace) = true → d.before args (s.setVm vm0) = true := fun q r => mvT (s := s.setVm vm0) hZ q r
  obtain ⟨v, _, ⟨T', L', k', n'⟩, hW1, X', hS', hg', ⟨Lc, hQ, l1, l2, l3, hR⟩, stp⟩ := X.specialBackS hx (own := own) hn hown (mvs w1 (by first | rfl | simp [Cond.onTables, Cond.keepsFace, Cond.keeps, Cond.steady])) (mvs w2 (by first | rfl | simp [Cond.onTables, Cond.keepsFace, Cond.keeps, Cond.steady])) (mvs w4 (by first | rfl | simp [Cond.onTables, Cond.keepsFace, Cond.keeps, Cond.steady])) hy (backOfSH (W := W) (M []) hZ w4 w3 hf hl hEL H) (g := mkF m pc Ls st) rfl hml (Steps.refl _) hlen hst (by show 2 * 0 + _ ≤ _; simpa using hW) hd (fun _ _ => ⟨has, eT, hc, hs⟩)
  dsimp only [Pt.U, Pt.locs, Pt.cells, Pt.slots] at X' l1 l2 l3 stp hQ hR hS' hg'
  subst l1 l2 l3
  have hS2 : s.Since T'.vm T'.heap.size := hS.trans hS' (Nat.le_trans hk (by rw [← eT]; exact hg'))
  exact Go.of (fun _ z => stp.trans z) (k v T' Lc X' hQ hS2 (State.Warmed39.trans (t := s.setVm vm0) hZ hS'.1) (by rw [show (s.setVm T'.vm).vm = T'.vm from rfl, hS'.1.alike.findClass]; exact hown) hR)
theorem goRetH (X : Stand p l e R (s.setVm vm0) m args below meth c T locs cells slots) (hx : p.tables.exec = Jvm.exec) (hZ : Z.Warmed39 vm0) (hS : s.Since vm0 k0) (hk : k0 ≤ h.size) (hEL : EW Z a0 EL) (RH : CHr Z EL s.vm h0 vm0 h) {t : FieldType} (hret : meth.sig.returnType = some t) (hlk : meth.locks = false) {pc : Nat} {Ls : Array Slot} {C S : Nat} {w : Value} {rest : List Value} {i : Instr} {Q : Option Value → Heap → List Loc → Prop}
    (hn : narrow t w = w) (hi : (i = .ireturn ∧ (t = .int ∨ t = .boolean ∨ t = .byte ∨ t = .char ∨ t = .short) ∧ ∃ z, w = .int z) ∨ (i = .lreturn ∧ t = .long ∧ ∃ z, w = .long z) ∨ (i = .dreturn ∧ t = .double ∧ ∃ z, w = .double z) ∨ (i = .freturn ∧ t = .float ∧ ∃ z, w = .float z) ∨ (i = .areturn ∧ t.isReference = true ∧ w.isRef = true))
    (hd : decode c.code pc = .ok (i, 1)) (K : ∀ v t L, Q v t.heap L → CHr Z EL s.vm h0 t.vm t.heap → ReturnedEndW s (.returned v) t L C S → P (.returned v) t) (hc : cells ≤ C) (hs : slots ≤ S) (eT : T.heap = h) (hq : Q (some w) h locs) : Go p e below P T (mkF m pc Ls (w :: rest)) := by
  obtain ⟨fs, hr, hrun, hended, h1, h2, h3, h4⟩ := X.leaveW hS (by rw [eT]; exact hk) (v := some w) (fun q => by rw [hret] at q; cases q) hlk
  subst eT
  exact ⟨_, _, retOut X hx hret hn hi hd hr, hrun, hended, K _ _ _ hq (by have q := CHv.at X hZ hEL RH.1; exact RH.trans q) ⟨h1, h2, h3, h4.mono hc hs⟩⟩
theorem goRetIH (X : Stand p l e R (s.setVm vm0) m args below meth c T locs cells slots) (hx : p.tables.exec = Jvm.exec) (hZ : Z.Warmed39 vm0) (hS : s.Since vm0 k0) (hk : k0 ≤ h.size) (hEL : EW Z a0 EL) (RH : CHr Z EL s.vm h0 vm0 h) {t : FieldType} (hret : meth.sig.returnType = some t) (hlk : meth.locks = false) {pc : Nat} {Ls : Array Slot} {C S : Nat} {z : Int32} {rest : List Value} {Q : Option Value → Heap → List Loc → Prop}
    (hn : narrow t (.int z) = .int z) (ht : t = .int ∨ t = .boolean ∨ t = .byte ∨ t = .char ∨ t = .short) (hd : decode c.code pc = .ok (.ireturn, 1)) (K : ∀ v t L, Q v t.heap L → CHr Z EL s.vm h0 t.vm t.heap → ReturnedEndW s (.returned v) t L C S → P (.returned v) t) (hc : cells ≤ C) (hs : slots ≤ S) (eT : T.heap = h) (hq : Q (some (.int z)) h locs) : Go p e below P T (mkF m pc Ls (.int z :: rest)) :=
  goRetH X hx hZ hS hk hEL RH hret hlk hn (Or.inl ⟨rfl, ht, z, rfl⟩) hd K hc hs eT hq
theorem goRetRH (X : Stand p l e R (s.setVm vm0) m args below meth c T locs cells slots) (hx : p.tables.exec = Jvm.exec) (hZ : Z.Warmed39 vm0) (hS : s.Since vm0 k0) (hk : k0 ≤ h.size) (hEL : EW Z a0 EL) (RH : CHr Z EL s.vm h0 vm0 h) {t : FieldType} (hret : meth.sig.returnType = some t) (ht : t.isReference = true) (hlk : meth.locks = false) {pc : Nat} {Ls : Array Slot} {C S : Nat} {w : Value} {rest : List Value} {Q : Option Value → Heap → List Loc → Prop}
    (hw : w.isRef = true) (hn : narrow t w = w) (hd : decode c.code pc = .ok (.areturn, 1)) (K : ∀ v t L, Q v t.heap L → CHr Z EL s.vm h0 t.vm t.heap → ReturnedEndW s (.returned v) t L C S → P (.returned v) t) (hc : cells ≤ C) (hs : slots ≤ S) (eT : T.heap = h) (hq : Q (some w) h locs) : Go p e below P T (mkF m pc Ls (w :: rest)) :=
  goRetH X hx hZ hS hk hEL RH hret hlk hn (Or.inr (Or.inr (Or.inr (Or.inr ⟨rfl, ht, hw⟩)))) hd K hc hs eT hq
theorem goRet0H (X : Stand p l e R (s.setVm vm0) m args below meth c T locs cells slots) (hx : p.tables.exec = Jvm.exec) (hZ : Z.Warmed39 vm0) (hS : s.Since vm0 k0) (hk : k0 ≤ h.size) (hEL : EW Z a0 EL) (RH : CHr Z EL s.vm h0 vm0 h) (hret : meth.sig.returnType = none) (hlk : meth.locks = false) {pc : Nat} {Ls : Array Slot} {C S : Nat} {Q : Option Value → Heap → List Loc → Prop}
    (hd : decode c.code pc = .ok (.return_, 1)) (K : ∀ v t L, Q v t.heap L → CHr Z EL s.vm h0 t.vm t.heap → ReturnedEndW s (.returned v) t L C S → P (.returned v) t) (hc : cells ≤ C) (hs : slots ≤ S) (eT : T.heap = h) (hq : Q none h locs) : Go p e below P T (mkF m pc Ls []) := by
  obtain ⟨fs, hr, hrun, hended, h1, h2, h3, h4⟩ := X.leaveW hS (by rw [eT]; exact hk) (v := none) (fun _ => rfl) hlk
  subst eT
  exact ⟨_, _, X.returnOut hx hret hd hr, hrun, hended, K _ _ _ hq (by have q := CHv.at X hZ hEL RH.1; exact RH.trans q) ⟨h1, h2, h3, h4.mono hc hs⟩⟩
end HeldCalls
theorem safeArv {Z : State} {EL : List (String × Nat)} {vm : Vm} {h : Heap} {x : Addr} {k : ClassId} {ty : FieldType} {n : Int32} {vs : List Value} {d : Value} (hal : Z.vm.Alike vm) (A : Arv Z h x k ty n vs d) (ht : ty ≠ .byte) : Safe Z EL vm h x := by
  obtain ⟨cl, A, -⟩ := A
  exact Safe.arr hal A ht
theorem safeNull {Z : State} {EL : List (String × Nat)} {vm : Vm} {h : Heap} {x : Addr} (hal : Z.vm.Alike vm) (E : Exa Z h x "java/lang/String") (V : Fld Z h x "java/lang/String" "value" "[B" .null) : Safe Z EL vm h x := fun B => by
  obtain ⟨cell, k, e1, e2, e3, -, -⟩ := E
  obtain ⟨p, -, u, a, -, q, -, F, rfl | rfl⟩ := B
  · obtain ⟨cS, ⟨⟨s1, s2, s3, ⟨cv, kv, iv, s4, s4'⟩, ⟨cc, kc, ic, s5, s5'⟩, s6, s7, s8, s9, s10, s11⟩, hfS, hcS⟩, -⟩ := F
    obtain ⟨kv', z4⟩ := Jvm.RoadKit.ff_back (U := Wst Z vm h) hal s4
    have V2 : Fld Z h q.sa "java/lang/String" "value" "[B" (.ref q.sd) := ⟨q.sC, cv, kv', iv, q.fSV, s1, z4, s6, s2, s3, by rw [← hal.assignable]; exact s4', s8⟩
    exact Fld.ne V V2 (by simp) rfl
  · cases (show h[q.sd]? = some q.SA from F.hd).symm.trans e1
    obtain ⟨cS, -, -, f, -⟩ := F
    rw [show (Wst Z vm h).vm = vm from rfl, hal.findClass] at f
    obtain ⟨k1, q1, q2⟩ := Vm.findClass_spec f
    obtain ⟨k2, q3, q4⟩ := Vm.findClass_spec e2
    cases q1.symm.trans q3
    exact absurd (q2.symm.trans q4) (by decide)
theorem strT_ne {Z : State} {a0 : Array Value} {h : Heap} {a t x : Addr} {cs : List Int32} {C : String} {n : Nat} (F : Str Z h a t cs) (E : Exa Z h x C) (w : (Jvm.Cond.instantiable C n).before a0 Z = true) : t ≠ x := by
  obtain ⟨kb, cd, N, vs, E', V, C', A, g⟩ := F
  exact Ne.symm (Exa.neArv E A w)
theorem strA_ne {Z : State} {h : Heap} {a t x : Addr} {cs : List Int32} {C : String} (F : Str Z h a t cs) (E : Exa Z h x C) (hn : "java/lang/String" ≠ C) : a ≠ x := ne_exa F.exa E hn
theorem str0 {Z : State} {h : Heap} {a t : Addr} {k : ClassId} (E : Exa Z h a "java/lang/String") (V : Fld Z h a "java/lang/String" "value" "[B" (.ref t)) (C : Fld Z h a "java/lang/String" "coder" "B" (.int (0 : Int32))) (A : Arv Z h t k .byte (0 : Int32) [] (.int (0 : Int32))) : Str Z h a t [] :=
  ⟨k, 0, 0, [], E, V, C, A, Or.inl ⟨rfl, rfl, rfl, by simp⟩, by simp, by simp⟩
end W
end Jvm.Pilot.@@N@@
namespace Jvm.Pilot.@@N@@
open Jvm Jvm.ClassFile Sem Op Lib Jvm.Free Jvm.Stand Jvm.LawKit Jvm.RoadKit Bundle Jvm.Pilot.@@N@@.Jvm.D Jvm.Pilot.@@N@@.W
theorem m255 (x : Int32) : ¬ (x &&& (255 : Int32)).toUInt32.toUInt16.toUInt32.toInt32 < 0 ∧ ¬ (255 : Int32) < (x &&& (255 : Int32)).toUInt32.toUInt16.toUInt32.toInt32 := by
  rw [i2c_mask]
  have h := c_mask x 255 8 (by decide) (by decide)
  have e1 : (0 : Int32).toInt = 0 := by decide
  have e2 : (255 : Int32).toInt = 255 := by decide
  rw [Int32.lt_iff_toInt_lt, Int32.lt_iff_toInt_lt, h, e1, e2]; omega
theorem narC (x : Int32) : nar .char (x.toUInt32.toUInt16.toUInt32.toInt32) = x.toUInt32.toUInt16.toUInt32.toInt32 := by
  have h1 := c_i2c x
  have h2 := c_i2c (x.toUInt32.toUInt16.toUInt32.toInt32)
  show x.toUInt32.toUInt16.toUInt32.toInt32.toUInt32.toUInt16.toUInt32.toInt32 = x.toUInt32.toUInt16.toUInt32.toInt32
  apply Int32.toInt_inj.mp
  omega

theorem eqInt {t : Term} {n : Int32} {args : Array Value} {s : State} (h : (Jvm.Cond.eq t (Term.int n)).before args s = true) : t.eval args s none [] s = some (.int n) := by
  replace h := Cond.before_iff.mp h
  obtain ⟨x, y, e1, e2, k1, k2⟩ := cmp_v (Or.inl h)
  cases (Term.int_eval n).symm.trans e2
  obtain ⟨z, rfl⟩ := k2
  rw [gotT (Cond.eq_ints e1 (Term.int_eval n)) h] at e1
  exact e1

theorem n32i {n : Nat} (h : n ≤ 100000) : (Int32.ofNat n).toInt = n := Int32.toInt_ofNat_of_lt (by omega)
theorem ltN {i n : Nat} (hi : i ≤ 4000) (hn : n ≤ 4000) : Int32.ofNat i < Int32.ofNat n ↔ i < n := by
  rw [Int32.lt_iff_toInt_lt, n32i (by omega), n32i (by omega)]; omega
theorem nneg {i : Nat} (hi : i ≤ 10000) : ¬ Int32.ofNat i < 0 := by
  have e0 : (0 : Int32).toInt = 0 := by decide
  rw [Int32.lt_iff_toInt_lt, n32i (by omega), e0]; omega
theorem neN {i n : Nat} (hi : i ≤ 4000) (hn : n ≤ 4000) (h : i ≠ n) : ¬ Int32.ofNat i = Int32.ofNat n := fun q => h (by
  have := congrArg Int32.toInt q
  rw [n32i (by omega), n32i (by omega)] at this; omega)
theorem sh1 {i : Nat} (h : i ≤ 4000) : ((Int32.ofNat i) <<< ((1 : Int32) &&& 31)) = Int32.ofNat (2 * i) := by
  have q := c_ishl (Int32.ofNat i) 1 1 (by decide)
  have b := Int32.toInt_lt ((Int32.ofNat i) <<< ((1 : Int32) &&& 31))
  have b' := Int32.le_toInt ((Int32.ofNat i) <<< ((1 : Int32) &&& 31))
  rw [n32i (by omega)] at q
  apply Int32.toInt_inj.mp
  rw [n32i (by omega)]; omega
theorem sr1 {i : Nat} (h : i ≤ 4000) : ((Int32.ofNat (2 * i)) >>> ((1 : Int32) &&& 31)) = Int32.ofNat i := by
  have q := c_ishr (Int32.ofNat (2 * i)) 1 1 (by decide)
  rw [n32i (by omega)] at q
  apply Int32.toInt_inj.mp
  rw [n32i (by omega)]; omega
theorem inbN {c : Cell} {k n : Nat} (S : c.slots.size = (Int32.ofNat n).toNatClampNeg) (h : k < n) (hn : n ≤ 10000) : ¬ ((Int32.ofNat k) < 0 ∨ c.slots.size ≤ (Int32.ofNat k).toNatClampNeg) := by
  rw [S, nat32 (by omega), nat32 (by omega)]
  rintro (q | q)
  · exact nneg (by omega) q
  · omega
theorem gp16 {cs : List Int32} {i : Nat} (hbr : ∀ c ∈ cs, ¬ c < 0 ∧ ¬ (65535 : Int32) < c) (hi : i < cs.length) : StrChars.pairCh (StrChars.lo8 (cs.getD i 0)) (StrChars.hi8 (cs.getD i 0)) = cs.getD i 0 := by
  have q := hbr _ (List.getElem_mem hi)
  rw [show cs.getD i 0 = cs[i] by simp [List.getD_eq_getElem?_getD, hi]]
  exact StrChars.pair_says q.1 q.2
theorem str16 {Z : State} {h : Heap} {a t : Addr} {k : ClassId} {cs : List Int32} {N : Int32} {vs : List Value} (hN : N = Int32.ofNat (2 * cs.length)) (hv : vs = StrChars.Road.wideBytes cs) (hl : cs.length ≤ 4000) (hbr : ∀ c ∈ cs, ¬ c < 0 ∧ ¬ (65535 : Int32) < c) (hw : ∃ c ∈ cs, (255 : Int32) < c) (E : Exa Z h a "java/lang/String") (V : Fld Z h a "java/lang/String" "value" "[B" (.ref t)) (C : Fld Z h a "java/lang/String" "coder" "B" (.int (1 : Int32))) (A : Arv Z h t k .byte N vs (.int (0 : Int32))) : Str Z h a t cs :=
  ⟨k, 1, N, vs, E, V, C, A, Or.inr ⟨rfl, hN, hv, hw⟩, hbr, hl⟩

theorem pn_java_lang_StringUTF16 : plainName "java/lang/StringUTF16" = true := by first | (simp [plainName, overriddenIn]; done) | decide +kernel
theorem ef_rm_len16 (m : MethodId) (x0 : Addr)  : entryFrame m #[(.ref x0)] 1 = mkF m 0 #[.val (.ref x0)] [] := by first | (simp [entryFrame, mkF, argsToLocals, Value.category]; done) | rfl
theorem d_jdk_52_method_6_code_0 : decode jdk_52_method_6_code 0 = .ok (.aload_n 0, 1) := by decide +kernel
theorem d_jdk_52_method_6_code_1 : decode jdk_52_method_6_code 1 = .ok (.arraylength, 1) := by decide +kernel
theorem d_jdk_52_method_6_code_2 : decode jdk_52_method_6_code 2 = .ok (.iconst 1, 1) := by decide +kernel
theorem d_jdk_52_method_6_code_3 : decode jdk_52_method_6_code 3 = .ok (.ishr, 1) := by decide +kernel
theorem d_jdk_52_method_6_code_4 : decode jdk_52_method_6_code 4 = .ok (.ireturn, 1) := by decide +kernel
set_option maxRecDepth 65536 in
set_option maxHeartbeats 40000000 in
theorem rm_len16 (l : Launch) (Z : State) (a0 : Array Value) (hw : ∀ d ∈ tables_1, d.before a0 Z = true) (a1 : Addr) (ka : ClassId) (cs : List Int32) (h0 : Heap) (V_a1 : Arv Z h0 a1 ka .byte (Int32.ofNat (2 * cs.length)) (StrChars.Road.wideBytes cs) (.int (0 : Int32))) (hl : cs.length ≤ 4000) :
    MeetsW l Z (⟨"java/lang/StringUTF16", "length", "([B)I"⟩ : MethodName) jdk_52_method_6_code 1 (some .int) ({ frames := 0, cells := 0, slots := 0, locals := 0 } : Room) #[(.ref a1)] h0 (Pu h0 (fun v => v = some (.int (Int32.ofNat cs.length)))) := by
  refine MeetsW.of (plainFor_of_name pn_java_lang_StringUTF16) ?_
  intro p e s m below meth c s₁ P hx hby hml hZ hown hnm hret hlk X0 e0 K
  have M0 : Mv h0 h0 [] [] := Mv.refl _ _
  refine Go.cast (ef_rm_len16 m a1 ) ?_
  refine Go.of (T' := s₁) (f' := (mkF m 1 #[.val (.ref a1)] [(.ref a1)])) (fun _ k => XS.aloadN X0.here hx rfl (hb hby d_jdk_52_method_6_code_0) rfl rfl k) ?_
  obtain ⟨cl1, Ar1, -, Sz1, Nn1, -, -⟩ := id V_a1
  refine Go.of (T' := s₁) (f' := (mkF m 2 #[.val (.ref a1)] [(.int (Int32.ofNat (2 * cs.length)))])) (fun _ k => X0.arraylength hx (by rw [e0]; exact Ar1.1) (State.isArrayOf_alike hZ.alike Ar1.2.1) (g := (mkF m 1 #[.val (.ref a1)] [(.ref a1)])) rfl rfl (hb hby d_jdk_52_method_6_code_1) _ (by rw [len_of Sz1 Nn1]; exact k)) ?_
  refine Go.of (T' := s₁) (f' := (mkF m 3 #[.val (.ref a1)] [(.int (1 : Int32)), (.int (Int32.ofNat (2 * cs.length)))])) (fun _ k => XS.iconst X0.here hx rfl (hb hby d_jdk_52_method_6_code_2) k) ?_
  refine Go.of (T' := s₁) (f' := (mkF m 4 #[.val (.ref a1)] [(.int ((Int32.ofNat (2 * cs.length)) >>> ((1 : Int32) &&& 31)))])) (fun _ k => XS.ishr X0.here hx rfl (hb hby d_jdk_52_method_6_code_3) rfl k) ?_
  exact goRetI (Q := Pu h0 (fun v => v = some (.int (Int32.ofNat cs.length)))) X0 hx (t := .int) hret hlk rfl (by simp) (hb hby d_jdk_52_method_6_code_4) K (by decide) (by decide) e0 (⟨rfl, rfl, congrArg (fun z => some (Value.int z)) (sr1 hl)⟩)
theorem ef_rm_getChar (m : MethodId) (x0 : Addr) (x1 : Int32)  : entryFrame m #[(.ref x0), (.int x1)] 2 = mkF m 0 #[.val (.ref x0), .val (.int x1)] [] := by first | (simp [entryFrame, mkF, argsToLocals, Value.category]; done) | rfl
theorem d_jdk_52_method_5_code_0 : decode jdk_52_method_5_code 0 = .ok (.getstatic 44, 3) := by decide +kernel
theorem d_jdk_52_method_5_code_3 : decode jdk_52_method_5_code 3 = .ok (.ifCond .ne 25, 3) := by decide +kernel
theorem d_jdk_52_method_5_code_28 : decode jdk_52_method_5_code 28 = .ok (.iload_n 1, 1) := by decide +kernel
theorem d_jdk_52_method_5_code_29 : decode jdk_52_method_5_code 29 = .ok (.iconst 1, 1) := by decide +kernel
theorem d_jdk_52_method_5_code_30 : decode jdk_52_method_5_code 30 = .ok (.ishl, 1) := by decide +kernel
theorem d_jdk_52_method_5_code_31 : decode jdk_52_method_5_code 31 = .ok (.istore_n 1, 1) := by decide +kernel
theorem d_jdk_52_method_5_code_32 : decode jdk_52_method_5_code 32 = .ok (.aload_n 0, 1) := by decide +kernel
theorem d_jdk_52_method_5_code_33 : decode jdk_52_method_5_code 33 = .ok (.iload_n 1, 1) := by decide +kernel
theorem d_jdk_52_method_5_code_34 : decode jdk_52_method_5_code 34 = .ok (.iinc 1 1, 3) := by decide +kernel
theorem d_jdk_52_method_5_code_37 : decode jdk_52_method_5_code 37 = .ok (.baload, 1) := by decide +kernel
theorem d_jdk_52_method_5_code_38 : decode jdk_52_method_5_code 38 = .ok (.sipush 255, 3) := by decide +kernel
theorem d_jdk_52_method_5_code_41 : decode jdk_52_method_5_code 41 = .ok (.iand, 1) := by decide +kernel
theorem d_jdk_52_method_5_code_42 : decode jdk_52_method_5_code 42 = .ok (.getstatic 59, 3) := by decide +kernel
theorem d_jdk_52_method_5_code_45 : decode jdk_52_method_5_code 45 = .ok (.ishl, 1) := by decide +kernel
theorem d_jdk_52_method_5_code_46 : decode jdk_52_method_5_code 46 = .ok (.aload_n 0, 1) := by decide +kernel
theorem d_jdk_52_method_5_code_47 : decode jdk_52_method_5_code 47 = .ok (.iload_n 1, 1) := by decide +kernel
theorem d_jdk_52_method_5_code_48 : decode jdk_52_method_5_code 48 = .ok (.baload, 1) := by decide +kernel
theorem d_jdk_52_method_5_code_49 : decode jdk_52_method_5_code 49 = .ok (.sipush 255, 3) := by decide +kernel
theorem d_jdk_52_method_5_code_52 : decode jdk_52_method_5_code 52 = .ok (.iand, 1) := by decide +kernel
theorem d_jdk_52_method_5_code_53 : decode jdk_52_method_5_code 53 = .ok (.getstatic 63, 3) := by decide +kernel
theorem d_jdk_52_method_5_code_56 : decode jdk_52_method_5_code 56 = .ok (.ishl, 1) := by decide +kernel
theorem d_jdk_52_method_5_code_57 : decode jdk_52_method_5_code 57 = .ok (.ior, 1) := by decide +kernel
theorem d_jdk_52_method_5_code_58 : decode jdk_52_method_5_code 58 = .ok (.i2c, 1) := by decide +kernel
theorem d_jdk_52_method_5_code_59 : decode jdk_52_method_5_code 59 = .ok (.ireturn, 1) := by decide +kernel
set_option maxRecDepth 65536 in
set_option maxHeartbeats 40000000 in
theorem rm_getChar (l : Launch) (Z : State) (a0 : Array Value) (hw : ∀ d ∈ tables_1, d.before a0 Z = true) (a1 : Addr) (ka : ClassId) (cs : List Int32) (i : Nat) (h0 : Heap) (V_a1 : Arv Z h0 a1 ka .byte (Int32.ofNat (2 * cs.length)) (StrChars.Road.wideBytes cs) (.int (0 : Int32))) (hl : cs.length ≤ 4000) (hi : i < cs.length) (hbr : ∀ c ∈ cs, ¬ c < 0 ∧ ¬ (65535 : Int32) < c) (Z_ad : Sta Z h0 "java/lang/StringUTF16" "$assertionsDisabled" "Z" (.int (1 : Int32))) (Z_hs : Sta Z h0 "java/lang/StringUTF16" "HI_BYTE_SHIFT" "I" (.int (0 : Int32))) (Z_ls : Sta Z h0 "java/lang/StringUTF16" "LO_BYTE_SHIFT" "I" (.int (8 : Int32))) :
    MeetsW l Z (⟨"java/lang/StringUTF16", "getChar", "([BI)C"⟩ : MethodName) jdk_52_method_5_code 2 (some .char) ({ frames := 0, cells := 0, slots := 0, locals := 0 } : Room) #[(.ref a1), (.int (Int32.ofNat i))] h0 (Pu h0 (fun v => v = some (.int (cs.getD i 0)))) := by
  refine MeetsW.of (plainFor_of_name pn_java_lang_StringUTF16) ?_
  intro p e s m below meth c s₁ P hx hby hml hZ hown hnm hret hlk X0 e0 K
  have M0 : Mv h0 h0 [] [] := Mv.refl _ _
  refine Go.cast (ef_rm_getChar m a1 (Int32.ofNat i) ) ?_
  obtain ⟨T1, X1, e1, st1⟩ := getS2 X0 hx hZ hown (host := "") (Or.inl (hw _ (List.mem_of_getElem? (i := 111) rfl))) Via.refl e0 Z_ad (g := (mkF m 0 #[.val (.ref a1), .val (.int (Int32.ofNat i))] [])) rfl (hb hby d_jdk_52_method_5_code_0)
  refine Go.of (T' := T1) (f' := (mkF m 3 #[.val (.ref a1), .val (.int (Int32.ofNat i))] [(.int (1 : Int32))])) st1 ?_
  refine Go.of (T' := T1) (f' := (mkF m 28 #[.val (.ref a1), .val (.int (Int32.ofNat i))] [])) (fun _ k => XS.ifYes X1.here hx rfl (pc0 := 3) (pc' := 28) rfl (hb hby d_jdk_52_method_5_code_3) rfl (by decide) (by decide) (by decide) k) ?_
  refine Go.of (T' := T1) (f' := (mkF m 29 #[.val (.ref a1), .val (.int (Int32.ofNat i))] [(.int (Int32.ofNat i))])) (fun _ k => XS.iloadN X1.here hx rfl (hb hby d_jdk_52_method_5_code_28) rfl k) ?_
  refine Go.of (T' := T1) (f' := (mkF m 30 #[.val (.ref a1), .val (.int (Int32.ofNat i))] [(.int (1 : Int32)), (.int (Int32.ofNat i))])) (fun _ k => XS.iconst X1.here hx rfl (hb hby d_jdk_52_method_5_code_29) k) ?_
  refine Go.of (T' := T1) (f' := (mkF m 31 #[.val (.ref a1), .val (.int (Int32.ofNat i))] [(.int ((Int32.ofNat i) <<< ((1 : Int32) &&& 31)))])) (fun _ k => XS.ishl X1.here hx rfl (hb hby d_jdk_52_method_5_code_30) rfl k) ?_
  rw [sh1 (i := i) (by omega)]
  refine Go.of (T' := T1) (f' := (mkF m 32 #[.val (.ref a1), .val (.int (Int32.ofNat (2 * i)))] [])) (fun _ k => XS.istoreN X1.here hx rfl (hb hby d_jdk_52_method_5_code_31) rfl (l' := #[.val (.ref a1), .val (.int (Int32.ofNat (2 * i)))]) rfl k) ?_
  refine Go.of (T' := T1) (f' := (mkF m 33 #[.val (.ref a1), .val (.int (Int32.ofNat (2 * i)))] [(.ref a1)])) (fun _ k => XS.aloadN X1.here hx rfl (hb hby d_jdk_52_method_5_code_32) rfl rfl k) ?_
  refine Go.of (T' := T1) (f' := (mkF m 34 #[.val (.ref a1), .val (.int (Int32.ofNat (2 * i)))] [(.int (Int32.ofNat (2 * i))), (.ref a1)])) (fun _ k => XS.iloadN X1.here hx rfl (hb hby d_jdk_52_method_5_code_33) rfl k) ?_
  refine Go.of (T' := T1) (f' := (mkF m 37 #[.val (.ref a1), .val (.int ((Int32.ofNat (2 * i)) + (1 : Int32)))] [(.int (Int32.ofNat (2 * i))), (.ref a1)])) (fun _ k => XS.iinc X1.here hx rfl (hb hby d_jdk_52_method_5_code_34) rfl (l' := #[.val (.ref a1), .val (.int ((Int32.ofNat (2 * i)) + (1 : Int32)))]) rfl k) ?_
  rw [show (Int32.ofNat (2 * i)) + (1 : Int32) = Int32.ofNat (2 * i + 1) from (Int32.ofNat_add _ 1).symm]
  obtain ⟨cl2, Ar2, cq2, Sz2, Nn2, Hs2, Gs2⟩ := id V_a1
  have hin2 : ¬ ((Int32.ofNat (2 * i)) < 0 ∨ cl2.slots.size ≤ ((Int32.ofNat (2 * i))).toNatClampNeg) := inbN Sz2 (by omega) (by omega)
  have hat2 : cl2.slots[((Int32.ofNat (2 * i))).toNatClampNeg]? = some (.int (StrChars.lo8 (cs.getD i 0))) := Has.at Hs2 hin2 (by rw [nat32 (by omega)]; exact StrChars.Road.wide_lo _ cs i hi)
  refine Go.of (T' := T1) (f' := (mkF m 38 #[.val (.ref a1), .val (.int (Int32.ofNat (2 * i + 1)))] [(.int (StrChars.lo8 (cs.getD i 0)))])) (fun _ k => X1.baloadBytes hx (j := (Int32.ofNat (2 * i))) (v := (.int (StrChars.lo8 (cs.getD i 0)))) (by rw [e1]; exact Ar2.1) (State.isArrayOf_alike hZ.alike Ar2.2.1) Ar2.2.2 hin2 hat2 (g := (mkF m 37 #[.val (.ref a1), .val (.int (Int32.ofNat (2 * i + 1)))] [(.int (Int32.ofNat (2 * i))), (.ref a1)])) rfl rfl (hb hby d_jdk_52_method_5_code_37) _ k) ?_
  refine Go.of (T' := T1) (f' := (mkF m 41 #[.val (.ref a1), .val (.int (Int32.ofNat (2 * i + 1)))] [(.int (255 : Int32)), (.int (StrChars.lo8 (cs.getD i 0)))])) (fun _ k => XS.sipush X1.here hx rfl (hb hby d_jdk_52_method_5_code_38) k) ?_
  refine Go.of (T' := T1) (f' := (mkF m 42 #[.val (.ref a1), .val (.int (Int32.ofNat (2 * i + 1)))] [(.int ((StrChars.lo8 (cs.getD i 0)) &&& (255 : Int32)))])) (fun _ k => XS.iand X1.here hx rfl (hb hby d_jdk_52_method_5_code_41) rfl k) ?_
  obtain ⟨T3, X3, e3, st3⟩ := getS2 X1 hx hZ hown (host := "") (Or.inl (hw _ (List.mem_of_getElem? (i := 112) rfl))) Via.refl e1 Z_hs (g := (mkF m 42 #[.val (.ref a1), .val (.int (Int32.ofNat (2 * i + 1)))] [(.int ((StrChars.lo8 (cs.getD i 0)) &&& (255 : Int32)))])) rfl (hb hby d_jdk_52_method_5_code_42)
  refine Go.of (T' := T3) (f' := (mkF m 45 #[.val (.ref a1), .val (.int (Int32.ofNat (2 * i + 1)))] [(.int (0 : Int32)), (.int ((StrChars.lo8 (cs.getD i 0)) &&& (255 : Int32)))])) st3 ?_
  refine Go.of (T' := T3) (f' := (mkF m 46 #[.val (.ref a1), .val (.int (Int32.ofNat (2 * i + 1)))] [(.int (((StrChars.lo8 (cs.getD i 0)) &&& (255 : Int32)) <<< ((0 : Int32) &&& 31)))])) (fun _ k => XS.ishl X3.here hx rfl (hb hby d_jdk_52_method_5_code_45) rfl k) ?_
  refine Go.of (T' := T3) (f' := (mkF m 47 #[.val (.ref a1), .val (.int (Int32.ofNat (2 * i + 1)))] [(.ref a1), (.int (((StrChars.lo8 (cs.getD i 0)) &&& (255 : Int32)) <<< ((0 : Int32) &&& 31)))])) (fun _ k => XS.aloadN X3.here hx rfl (hb hby d_jdk_52_method_5_code_46) rfl rfl k) ?_
  refine Go.of (T' := T3) (f' := (mkF m 48 #[.val (.ref a1), .val (.int (Int32.ofNat (2 * i + 1)))] [(.int (Int32.ofNat (2 * i + 1))), (.ref a1), (.int (((StrChars.lo8 (cs.getD i 0)) &&& (255 : Int32)) <<< ((0 : Int32) &&& 31)))])) (fun _ k => XS.iloadN X3.here hx rfl (hb hby d_jdk_52_method_5_code_47) rfl k) ?_
  obtain ⟨cl4, Ar4, cq4, Sz4, Nn4, Hs4, Gs4⟩ := id V_a1
  have hin4 : ¬ ((Int32.ofNat (2 * i + 1)) < 0 ∨ cl4.slots.size ≤ ((Int32.ofNat (2 * i + 1))).toNatClampNeg) := inbN Sz4 (by omega) (by omega)
  have hat4 : cl4.slots[((Int32.ofNat (2 * i + 1))).toNatClampNeg]? = some (.int (StrChars.hi8 (cs.getD i 0))) := Has.at Hs4 hin4 (by rw [nat32 (by omega)]; exact StrChars.Road.wide_hi _ cs i hi)
  refine Go.of (T' := T3) (f' := (mkF m 49 #[.val (.ref a1), .val (.int (Int32.ofNat (2 * i + 1)))] [(.int (StrChars.hi8 (cs.getD i 0))), (.int (((StrChars.lo8 (cs.getD i 0)) &&& (255 : Int32)) <<< ((0 : Int32) &&& 31)))])) (fun _ k => X3.baloadBytes hx (j := (Int32.ofNat (2 * i + 1))) (v := (.int (StrChars.hi8 (cs.getD i 0)))) (by rw [e3]; exact Ar4.1) (State.isArrayOf_alike hZ.alike Ar4.2.1) Ar4.2.2 hin4 hat4 (g := (mkF m 48 #[.val (.ref a1), .val (.int (Int32.ofNat (2 * i + 1)))] [(.int (Int32.ofNat (2 * i + 1))), (.ref a1), (.int (((StrChars.lo8 (cs.getD i 0)) &&& (255 : Int32)) <<< ((0 : Int32) &&& 31)))])) rfl rfl (hb hby d_jdk_52_method_5_code_48) _ k) ?_
  refine Go.of (T' := T3) (f' := (mkF m 52 #[.val (.ref a1), .val (.int (Int32.ofNat (2 * i + 1)))] [(.int (255 : Int32)), (.int (StrChars.hi8 (cs.getD i 0))), (.int (((StrChars.lo8 (cs.getD i 0)) &&& (255 : Int32)) <<< ((0 : Int32) &&& 31)))])) (fun _ k => XS.sipush X3.here hx rfl (hb hby d_jdk_52_method_5_code_49) k) ?_
  refine Go.of (T' := T3) (f' := (mkF m 53 #[.val (.ref a1), .val (.int (Int32.ofNat (2 * i + 1)))] [(.int ((StrChars.hi8 (cs.getD i 0)) &&& (255 : Int32))), (.int (((StrChars.lo8 (cs.getD i 0)) &&& (255 : Int32)) <<< ((0 : Int32) &&& 31)))])) (fun _ k => XS.iand X3.here hx rfl (hb hby d_jdk_52_method_5_code_52) rfl k) ?_
  obtain ⟨T5, X5, e5, st5⟩ := getS2 X3 hx hZ hown (host := "") (Or.inl (hw _ (List.mem_of_getElem? (i := 113) rfl))) Via.refl e3 Z_ls (g := (mkF m 53 #[.val (.ref a1), .val (.int (Int32.ofNat (2 * i + 1)))] [(.int ((StrChars.hi8 (cs.getD i 0)) &&& (255 : Int32))), (.int (((StrChars.lo8 (cs.getD i 0)) &&& (255 : Int32)) <<< ((0 : Int32) &&& 31)))])) rfl (hb hby d_jdk_52_method_5_code_53)
  refine Go.of (T' := T5) (f' := (mkF m 56 #[.val (.ref a1), .val (.int (Int32.ofNat (2 * i + 1)))] [(.int (8 : Int32)), (.int ((StrChars.hi8 (cs.getD i 0)) &&& (255 : Int32))), (.int (((StrChars.lo8 (cs.getD i 0)) &&& (255 : Int32)) <<< ((0 : Int32) &&& 31)))])) st5 ?_
  refine Go.of (T' := T5) (f' := (mkF m 57 #[.val (.ref a1), .val (.int (Int32.ofNat (2 * i + 1)))] [(.int (((StrChars.hi8 (cs.getD i 0)) &&& (255 : Int32)) <<< ((8 : Int32) &&& 31))), (.int (((StrChars.lo8 (cs.getD i 0)) &&& (255 : Int32)) <<< ((0 : Int32) &&& 31)))])) (fun _ k => XS.ishl X5.here hx rfl (hb hby d_jdk_52_method_5_code_56) rfl k) ?_
  refine Go.of (T' := T5) (f' := (mkF m 58 #[.val (.ref a1), .val (.int (Int32.ofNat (2 * i + 1)))] [(.int ((((StrChars.lo8 (cs.getD i 0)) &&& (255 : Int32)) <<< ((0 : Int32) &&& 31)) ||| (((StrChars.hi8 (cs.getD i 0)) &&& (255 : Int32)) <<< ((8 : Int32) &&& 31))))])) (fun _ k => XS.ior X5.here hx rfl (hb hby d_jdk_52_method_5_code_57) rfl k) ?_
  refine Go.of (T' := T5) (f' := (mkF m 59 #[.val (.ref a1), .val (.int (Int32.ofNat (2 * i + 1)))] [(.int (((((StrChars.lo8 (cs.getD i 0)) &&& (255 : Int32)) <<< ((0 : Int32) &&& 31)) ||| (((StrChars.hi8 (cs.getD i 0)) &&& (255 : Int32)) <<< ((8 : Int32) &&& 31))).toUInt32.toUInt16.toUInt32.toInt32))])) (fun _ k => XS.i2c X5.here hx rfl (hb hby d_jdk_52_method_5_code_58) rfl k) ?_
  exact goRetI (Q := Pu h0 (fun v => v = some (.int (cs.getD i 0)))) X5 hx (t := .char) hret hlk (congrArg Value.int (narC _)) (by simp) (hb hby d_jdk_52_method_5_code_59) K (by decide) (by decide) e5 (⟨rfl, rfl, congrArg (fun z => some (Value.int z)) (gp16 hbr hi)⟩)
theorem nar16 {cs : List Int32} {i : Nat} (hbr : ∀ c ∈ cs, ¬ c < 0 ∧ ¬ (65535 : Int32) < c) (hi : i < cs.length) : narrow .char (.int (cs.getD i 0)) = .int (cs.getD i 0) := by
  have q := hbr _ (List.getElem_mem hi)
  rw [show cs.getD i 0 = cs[i] by simp [List.getD_eq_getElem?_getD, hi]]
  have h1 := c_i2c cs[i]
  have e1 : (0 : Int32).toInt = 0 := by decide
  have e2 : (65535 : Int32).toInt = 65535 := by decide
  rw [Int32.lt_iff_toInt_lt, Int32.lt_iff_toInt_lt, e1, e2] at q
  exact congrArg Value.int (show cs[i].toUInt32.toUInt16.toUInt32.toInt32 = cs[i] from Int32.toInt_inj.mp (by omega))
theorem pn_java_lang_String : plainName "java/lang/String" = true := by first | (simp [plainName, overriddenIn]; done) | decide +kernel
theorem ef_rm_isL (m : MethodId) (x0 : Addr)  : entryFrame m #[(.ref x0)] 1 = mkF m 0 #[.val (.ref x0)] [] := by first | (simp [entryFrame, mkF, argsToLocals, Value.category]; done) | rfl
theorem d_jdk_42_method_154_code_0 : decode jdk_42_method_154_code 0 = .ok (.getstatic 38, 3) := by decide +kernel
theorem d_jdk_42_method_154_code_3 : decode jdk_42_method_154_code 3 = .ok (.ifCond .eq 14, 3) := by decide +kernel
theorem d_jdk_42_method_154_code_6 : decode jdk_42_method_154_code 6 = .ok (.aload_n 0, 1) := by decide +kernel
theorem d_jdk_42_method_154_code_7 : decode jdk_42_method_154_code 7 = .ok (.getfield 15, 3) := by decide +kernel
theorem d_jdk_42_method_154_code_10 : decode jdk_42_method_154_code 10 = .ok (.ifCond .ne 7, 3) := by decide +kernel
theorem d_jdk_42_method_154_code_17 : decode jdk_42_method_154_code 17 = .ok (.iconst 0, 1) := by decide +kernel
theorem d_jdk_42_method_154_code_18 : decode jdk_42_method_154_code 18 = .ok (.ireturn, 1) := by decide +kernel
set_option maxRecDepth 65536 in
set_option maxHeartbeats 40000000 in
theorem rm_isL (l : Launch) (Z : State) (a0 : Array Value) (hw : ∀ d ∈ tables_1, d.before a0 Z = true) (a1 : Addr) (zc : Int32) (h0 : Heap) (F_coder : Fld Z h0 a1 "java/lang/String" "coder" "B" (.int (1 : Int32))) (Z_cs : Sta Z h0 "java/lang/String" "COMPACT_STRINGS" "Z" (.int zc)) (hz : ¬ zc = 0) :
    MeetsW l Z (⟨"java/lang/String", "isLatin1", "()Z"⟩ : MethodName) jdk_42_method_154_code 1 (some .boolean) ({ frames := 0, cells := 0, slots := 0, locals := 0 } : Room) #[(.ref a1)] h0 (Pu h0 (fun v => v = some (.int 0))) := by
  refine MeetsW.of (plainFor_of_name pn_java_lang_String) ?_
  intro p e s m below meth c s₁ P hx hby hml hZ hown hnm hret hlk X0 e0 K
  have M0 : Mv h0 h0 [] [] := Mv.refl _ _
  refine Go.cast (ef_rm_isL m a1 ) ?_
  obtain ⟨T1, X1, e1, st1⟩ := getS2 X0 hx hZ hown (host := "") (Or.inl (hw _ (List.mem_of_getElem? (i := 53) rfl))) Via.refl e0 Z_cs (g := (mkF m 0 #[.val (.ref a1)] [])) rfl (hb hby d_jdk_42_method_154_code_0)
  refine Go.of (T' := T1) (f' := (mkF m 3 #[.val (.ref a1)] [(.int zc)])) st1 ?_
  have hc3 : ¬ (zc = (0 : Int32)) := hz
  refine Go.of (T' := T1) (f' := (mkF m 6 #[.val (.ref a1)] [])) (fun _ k => XS.ifNo X1.here hx rfl (hb hby d_jdk_42_method_154_code_3) rfl ((if0 _ _).trans (feq hc3).1) k) ?_
  refine Go.of (T' := T1) (f' := (mkF m 7 #[.val (.ref a1)] [(.ref a1)])) (fun _ k => XS.aloadN X1.here hx rfl (hb hby d_jdk_42_method_154_code_6) rfl rfl k) ?_
  obtain ⟨T2, X2, e2, st2⟩ := getF X1 hx hZ hown (host := "") (Or.inl (hw _ (List.mem_of_getElem? (i := 29) rfl))) Via.refl e1 F_coder (g := (mkF m 7 #[.val (.ref a1)] [(.ref a1)])) rfl rfl (hb hby d_jdk_42_method_154_code_7)
  refine Go.of (T' := T2) (f' := (mkF m 10 #[.val (.ref a1)] [(.int (1 : Int32))])) st2 ?_
  refine Go.of (T' := T2) (f' := (mkF m 17 #[.val (.ref a1)] [])) (fun _ k => XS.ifYes X2.here hx rfl (pc0 := 10) (pc' := 17) rfl (hb hby d_jdk_42_method_154_code_10) rfl (by decide) (by decide) (by decide) k) ?_
  refine Go.of (T' := T2) (f' := (mkF m 18 #[.val (.ref a1)] [(.int (0 : Int32))])) (fun _ k => XS.iconst X2.here hx rfl (hb hby d_jdk_42_method_154_code_17) k) ?_
  exact goRetI (Q := Pu h0 (fun v => v = some (.int 0))) X2 hx (t := .boolean) hret hlk rfl (by simp) (hb hby d_jdk_42_method_154_code_18) K (by decide) (by decide) e2 (⟨rfl, rfl, rfl⟩)
theorem inbS {c : Cell} {k : Int32} {N : Int32} {m : Nat} (S : c.slots.size = N.toNatClampNeg) (hN : N.toNatClampNeg = m) : (¬ (k < 0 ∨ c.slots.size ≤ k.toNatClampNeg)) = (¬ k < 0 ∧ ¬ m ≤ k.toNatClampNeg) := by rw [S, hN]; simp
theorem ef_rm_putChar (m : MethodId) (x0 : Addr) (x1 : Int32) (x2 : Int32)  : entryFrame m #[(.ref x0), (.int x1), (.int x2)] 3 = mkF m 0 #[.val (.ref x0), .val (.int x1), .val (.int x2)] [] := by first | (simp [entryFrame, mkF, argsToLocals, Value.category]; done) | rfl
theorem d_jdk_52_method_4_code_0 : decode jdk_52_method_4_code 0 = .ok (.getstatic 44, 3) := by decide +kernel
theorem d_jdk_52_method_4_code_3 : decode jdk_52_method_4_code 3 = .ok (.ifCond .ne 25, 3) := by decide +kernel
theorem d_jdk_52_method_4_code_28 : decode jdk_52_method_4_code 28 = .ok (.iload_n 1, 1) := by decide +kernel
theorem d_jdk_52_method_4_code_29 : decode jdk_52_method_4_code 29 = .ok (.iconst 1, 1) := by decide +kernel
theorem d_jdk_52_method_4_code_30 : decode jdk_52_method_4_code 30 = .ok (.ishl, 1) := by decide +kernel
theorem d_jdk_52_method_4_code_31 : decode jdk_52_method_4_code 31 = .ok (.istore_n 1, 1) := by decide +kernel
theorem d_jdk_52_method_4_code_32 : decode jdk_52_method_4_code 32 = .ok (.aload_n 0, 1) := by decide +kernel
theorem d_jdk_52_method_4_code_33 : decode jdk_52_method_4_code 33 = .ok (.iload_n 1, 1) := by decide +kernel
theorem d_jdk_52_method_4_code_34 : decode jdk_52_method_4_code 34 = .ok (.iinc 1 1, 3) := by decide +kernel
theorem d_jdk_52_method_4_code_37 : decode jdk_52_method_4_code 37 = .ok (.iload_n 2, 1) := by decide +kernel
theorem d_jdk_52_method_4_code_38 : decode jdk_52_method_4_code 38 = .ok (.getstatic 59, 3) := by decide +kernel
theorem d_jdk_52_method_4_code_41 : decode jdk_52_method_4_code 41 = .ok (.ishr, 1) := by decide +kernel
theorem d_jdk_52_method_4_code_42 : decode jdk_52_method_4_code 42 = .ok (.i2b, 1) := by decide +kernel
theorem d_jdk_52_method_4_code_43 : decode jdk_52_method_4_code 43 = .ok (.bastore, 1) := by decide +kernel
theorem d_jdk_52_method_4_code_44 : decode jdk_52_method_4_code 44 = .ok (.aload_n 0, 1) := by decide +kernel
theorem d_jdk_52_method_4_code_45 : decode jdk_52_method_4_code 45 = .ok (.iload_n 1, 1) := by decide +kernel
theorem d_jdk_52_method_4_code_46 : decode jdk_52_method_4_code 46 = .ok (.iload_n 2, 1) := by decide +kernel
theorem d_jdk_52_method_4_code_47 : decode jdk_52_method_4_code 47 = .ok (.getstatic 63, 3) := by decide +kernel
theorem d_jdk_52_method_4_code_50 : decode jdk_52_method_4_code 50 = .ok (.ishr, 1) := by decide +kernel
theorem d_jdk_52_method_4_code_51 : decode jdk_52_method_4_code 51 = .ok (.i2b, 1) := by decide +kernel
theorem d_jdk_52_method_4_code_52 : decode jdk_52_method_4_code 52 = .ok (.bastore, 1) := by decide +kernel
theorem d_jdk_52_method_4_code_53 : decode jdk_52_method_4_code 53 = .ok (.return_, 1) := by decide +kernel
set_option maxRecDepth 65536 in
set_option maxHeartbeats 40000000 in
theorem rm_putChar (l : Launch) (Z : State) (a0 : Array Value) (hw : ∀ d ∈ tables_1, d.before a0 Z = true) (a1 : Addr) (ka : ClassId) (N : Int32) (vs : List Value) (i : Nat) (p3 : Int32) (h0 : Heap) (V_a1 : Arv Z h0 a1 ka .byte N vs (.int (0 : Int32))) (hN : N.toNatClampNeg = vs.length) (hi : 2 * i + 1 < vs.length) (hl : i ≤ 4000) (Z_ad : Sta Z h0 "java/lang/StringUTF16" "$assertionsDisabled" "Z" (.int (1 : Int32))) (Z_hs : Sta Z h0 "java/lang/StringUTF16" "HI_BYTE_SHIFT" "I" (.int (0 : Int32))) (Z_ls : Sta Z h0 "java/lang/StringUTF16" "LO_BYTE_SHIFT" "I" (.int (8 : Int32))) :
    MeetsW l Z (⟨"java/lang/StringUTF16", "putChar", "([BII)V"⟩ : MethodName) jdk_52_method_4_code 3 none ({ frames := 0, cells := 0, slots := 0, locals := 0 } : Room) #[(.ref a1), (.int (Int32.ofNat i)), (.int p3)] h0 (fun v h L => v = none ∧ Mv h0 h [a1] L ∧ Arv Z h a1 ka .byte N ((vs.set (2 * i) (.int (StrChars.lo8 p3))).set (2 * i + 1) (.int (StrChars.hi8 p3))) (.int (0 : Int32))) := by
  refine MeetsW.of (plainFor_of_name pn_java_lang_StringUTF16) ?_
  intro p e s m below meth c s₁ P hx hby hml hZ hown hnm hret hlk X0 e0 K
  have M0 : Mv h0 h0 [a1] [] := Mv.refl _ _
  refine Go.cast (ef_rm_putChar m a1 (Int32.ofNat i) p3 ) ?_
  obtain ⟨T1, X1, e1, st1⟩ := getS2 X0 hx hZ hown (host := "") (Or.inl (hw _ (List.mem_of_getElem? (i := 111) rfl))) Via.refl e0 Z_ad (g := (mkF m 0 #[.val (.ref a1), .val (.int (Int32.ofNat i)), .val (.int p3)] [])) rfl (hb hby d_jdk_52_method_4_code_0)
  refine Go.of (T' := T1) (f' := (mkF m 3 #[.val (.ref a1), .val (.int (Int32.ofNat i)), .val (.int p3)] [(.int (1 : Int32))])) st1 ?_
  refine Go.of (T' := T1) (f' := (mkF m 28 #[.val (.ref a1), .val (.int (Int32.ofNat i)), .val (.int p3)] [])) (fun _ k => XS.ifYes X1.here hx rfl (pc0 := 3) (pc' := 28) rfl (hb hby d_jdk_52_method_4_code_3) rfl (by decide) (by decide) (by decide) k) ?_
  refine Go.of (T' := T1) (f' := (mkF m 29 #[.val (.ref a1), .val (.int (Int32.ofNat i)), .val (.int p3)] [(.int (Int32.ofNat i))])) (fun _ k => XS.iloadN X1.here hx rfl (hb hby d_jdk_52_method_4_code_28) rfl k) ?_
  refine Go.of (T' := T1) (f' := (mkF m 30 #[.val (.ref a1), .val (.int (Int32.ofNat i)), .val (.int p3)] [(.int (1 : Int32)), (.int (Int32.ofNat i))])) (fun _ k => XS.iconst X1.here hx rfl (hb hby d_jdk_52_method_4_code_29) k) ?_
  refine Go.of (T' := T1) (f' := (mkF m 31 #[.val (.ref a1), .val (.int (Int32.ofNat i)), .val (.int p3)] [(.int ((Int32.ofNat i) <<< ((1 : Int32) &&& 31)))])) (fun _ k => XS.ishl X1.here hx rfl (hb hby d_jdk_52_method_4_code_30) rfl k) ?_
  rw [sh1 (i := i) (by omega)]
  refine Go.of (T' := T1) (f' := (mkF m 32 #[.val (.ref a1), .val (.int (Int32.ofNat (2 * i))), .val (.int p3)] [])) (fun _ k => XS.istoreN X1.here hx rfl (hb hby d_jdk_52_method_4_code_31) rfl (l' := #[.val (.ref a1), .val (.int (Int32.ofNat (2 * i))), .val (.int p3)]) rfl k) ?_
  refine Go.of (T' := T1) (f' := (mkF m 33 #[.val (.ref a1), .val (.int (Int32.ofNat (2 * i))), .val (.int p3)] [(.ref a1)])) (fun _ k => XS.aloadN X1.here hx rfl (hb hby d_jdk_52_method_4_code_32) rfl rfl k) ?_
  refine Go.of (T' := T1) (f' := (mkF m 34 #[.val (.ref a1), .val (.int (Int32.ofNat (2 * i))), .val (.int p3)] [(.int (Int32.ofNat (2 * i))), (.ref a1)])) (fun _ k => XS.iloadN X1.here hx rfl (hb hby d_jdk_52_method_4_code_33) rfl k) ?_
  refine Go.of (T' := T1) (f' := (mkF m 37 #[.val (.ref a1), .val (.int ((Int32.ofNat (2 * i)) + (1 : Int32))), .val (.int p3)] [(.int (Int32.ofNat (2 * i))), (.ref a1)])) (fun _ k => XS.iinc X1.here hx rfl (hb hby d_jdk_52_method_4_code_34) rfl (l' := #[.val (.ref a1), .val (.int ((Int32.ofNat (2 * i)) + (1 : Int32))), .val (.int p3)]) rfl k) ?_
  rw [show (Int32.ofNat (2 * i)) + (1 : Int32) = Int32.ofNat (2 * i + 1) from (Int32.ofNat_add _ 1).symm]
  refine Go.of (T' := T1) (f' := (mkF m 38 #[.val (.ref a1), .val (.int (Int32.ofNat (2 * i + 1))), .val (.int p3)] [(.int p3), (.int (Int32.ofNat (2 * i))), (.ref a1)])) (fun _ k => XS.iloadN X1.here hx rfl (hb hby d_jdk_52_method_4_code_37) rfl k) ?_
  obtain ⟨T2, X2, e2, st2⟩ := getS2 X1 hx hZ hown (host := "") (Or.inl (hw _ (List.mem_of_getElem? (i := 112) rfl))) Via.refl e1 Z_hs (g := (mkF m 38 #[.val (.ref a1), .val (.int (Int32.ofNat (2 * i + 1))), .val (.int p3)] [(.int p3), (.int (Int32.ofNat (2 * i))), (.ref a1)])) rfl (hb hby d_jdk_52_method_4_code_38)
  refine Go.of (T' := T2) (f' := (mkF m 41 #[.val (.ref a1), .val (.int (Int32.ofNat (2 * i + 1))), .val (.int p3)] [(.int (0 : Int32)), (.int p3), (.int (Int32.ofNat (2 * i))), (.ref a1)])) st2 ?_
  refine Go.of (T' := T2) (f' := (mkF m 42 #[.val (.ref a1), .val (.int (Int32.ofNat (2 * i + 1))), .val (.int p3)] [(.int (p3 >>> ((0 : Int32) &&& 31))), (.int (Int32.ofNat (2 * i))), (.ref a1)])) (fun _ k => XS.ishr X2.here hx rfl (hb hby d_jdk_52_method_4_code_41) rfl k) ?_
  refine Go.of (T' := T2) (f' := (mkF m 43 #[.val (.ref a1), .val (.int (Int32.ofNat (2 * i + 1))), .val (.int p3)] [(.int ((p3 >>> ((0 : Int32) &&& 31)).toInt8.toInt32)), (.int (Int32.ofNat (2 * i))), (.ref a1)])) (fun _ k => XS.i2b X2.here hx rfl (hb hby d_jdk_52_method_4_code_42) rfl k) ?_
  obtain ⟨cl3, Ar3, cq3, Sz3, Nn3, Hs3, Gs3⟩ := id V_a1
  have hin3 : ¬ ((Int32.ofNat (2 * i)) < 0 ∨ cl3.slots.size ≤ ((Int32.ofNat (2 * i))).toNatClampNeg) := by rw [inbS Sz3 hN]; exact ⟨nneg (by omega), by rw [nat32 (by omega)]; omega⟩
  obtain ⟨T3, h3, X3, e3, W3, st3⟩ := stB X2 hx hZ e2 Ar3 (j := (Int32.ofNat (2 * i))) hin3 (g := (mkF m 43 #[.val (.ref a1), .val (.int (Int32.ofNat (2 * i + 1))), .val (.int p3)] [(.int ((p3 >>> ((0 : Int32) &&& 31)).toInt8.toInt32)), (.int (Int32.ofNat (2 * i))), (.ref a1)])) rfl rfl (hb hby d_jdk_52_method_4_code_43)
  have fq3 : fits .byte (.int (nar .byte ((p3 >>> ((0 : Int32) &&& 31)).toInt8.toInt32))) = true := fits_nar_byte _
  rw [show nar .byte ((p3 >>> ((0 : Int32) &&& 31)).toInt8.toInt32) = (StrChars.lo8 p3) from (nar_b _).trans (congrArg StrChars.lo8 (StrChars.shr0 p3))] at W3 fq3
  have V3 := Arv.set Ar3 cq3 Sz3 Nn3 Hs3 Gs3 fq3 W3 (2 * i) (nat32 (by omega)) (by exact (by omega))
  have V_a1_o := V_a1
  have K3 := Keep.of_wr W3
  have M3 := M0.wr W3 (Or.inl (List.mem_of_getElem? (i := 0) rfl))
  replace Z_ad := StaKeep Z_ad K3 (allS (staArv V_a1_o) all0)
  replace Z_hs := StaKeep Z_hs K3 (allS (staArv V_a1_o) all0)
  replace Z_ls := StaKeep Z_ls K3 (allS (staArv V_a1_o) all0)
  replace V_a1 := V3
  refine Go.of (T' := T3) (f' := (mkF m 44 #[.val (.ref a1), .val (.int (Int32.ofNat (2 * i + 1))), .val (.int p3)] [])) st3 ?_
  refine Go.of (T' := T3) (f' := (mkF m 45 #[.val (.ref a1), .val (.int (Int32.ofNat (2 * i + 1))), .val (.int p3)] [(.ref a1)])) (fun _ k => XS.aloadN X3.here hx rfl (hb hby d_jdk_52_method_4_code_44) rfl rfl k) ?_
  refine Go.of (T' := T3) (f' := (mkF m 46 #[.val (.ref a1), .val (.int (Int32.ofNat (2 * i + 1))), .val (.int p3)] [(.int (Int32.ofNat (2 * i + 1))), (.ref a1)])) (fun _ k => XS.iloadN X3.here hx rfl (hb hby d_jdk_52_method_4_code_45) rfl k) ?_
  refine Go.of (T' := T3) (f' := (mkF m 47 #[.val (.ref a1), .val (.int (Int32.ofNat (2 * i + 1))), .val (.int p3)] [(.int p3), (.int (Int32.ofNat (2 * i + 1))), (.ref a1)])) (fun _ k => XS.iloadN X3.here hx rfl (hb hby d_jdk_52_method_4_code_46) rfl k) ?_
  obtain ⟨T4, X4, e4, st4⟩ := getS2 X3 hx hZ hown (host := "") (Or.inl (hw _ (List.mem_of_getElem? (i := 113) rfl))) Via.refl e3 Z_ls (g := (mkF m 47 #[.val (.ref a1), .val (.int (Int32.ofNat (2 * i + 1))), .val (.int p3)] [(.int p3), (.int (Int32.ofNat (2 * i + 1))), (.ref a1)])) rfl (hb hby d_jdk_52_method_4_code_47)
  refine Go.of (T' := T4) (f' := (mkF m 50 #[.val (.ref a1), .val (.int (Int32.ofNat (2 * i + 1))), .val (.int p3)] [(.int (8 : Int32)), (.int p3), (.int (Int32.ofNat (2 * i + 1))), (.ref a1)])) st4 ?_
  refine Go.of (T' := T4) (f' := (mkF m 51 #[.val (.ref a1), .val (.int (Int32.ofNat (2 * i + 1))), .val (.int p3)] [(.int (p3 >>> ((8 : Int32) &&& 31))), (.int (Int32.ofNat (2 * i + 1))), (.ref a1)])) (fun _ k => XS.ishr X4.here hx rfl (hb hby d_jdk_52_method_4_code_50) rfl k) ?_
  refine Go.of (T' := T4) (f' := (mkF m 52 #[.val (.ref a1), .val (.int (Int32.ofNat (2 * i + 1))), .val (.int p3)] [(.int ((p3 >>> ((8 : Int32) &&& 31)).toInt8.toInt32)), (.int (Int32.ofNat (2 * i + 1))), (.ref a1)])) (fun _ k => XS.i2b X4.here hx rfl (hb hby d_jdk_52_method_4_code_51) rfl k) ?_
  obtain ⟨cl5, Ar5, cq5, Sz5, Nn5, Hs5, Gs5⟩ := id V_a1
  have hin5 : ¬ ((Int32.ofNat (2 * i + 1)) < 0 ∨ cl5.slots.size ≤ ((Int32.ofNat (2 * i + 1))).toNatClampNeg) := by rw [inbS Sz5 hN]; exact ⟨nneg (by omega), by rw [nat32 (by omega)]; omega⟩
  obtain ⟨T5, h5, X5, e5, W5, st5⟩ := stB X4 hx hZ e4 Ar5 (j := (Int32.ofNat (2 * i + 1))) hin5 (g := (mkF m 52 #[.val (.ref a1), .val (.int (Int32.ofNat (2 * i + 1))), .val (.int p3)] [(.int ((p3 >>> ((8 : Int32) &&& 31)).toInt8.toInt32)), (.int (Int32.ofNat (2 * i + 1))), (.ref a1)])) rfl rfl (hb hby d_jdk_52_method_4_code_52)
  have fq5 : fits .byte (.int (nar .byte ((p3 >>> ((8 : Int32) &&& 31)).toInt8.toInt32))) = true := fits_nar_byte _
  rw [show nar .byte ((p3 >>> ((8 : Int32) &&& 31)).toInt8.toInt32) = (StrChars.hi8 p3) from nar_b _] at W5 fq5
  have V5 := Arv.set Ar5 cq5 Sz5 Nn5 Hs5 Gs5 fq5 W5 (2 * i + 1) (nat32 (by omega)) (by rw [List.length_set]; exact hi)
  have V_a1_o := V_a1
  have K5 := Keep.of_wr W5
  have M5 := M3.wr W5 (Or.inl (List.mem_of_getElem? (i := 0) rfl))
  replace Z_ad := StaKeep Z_ad K5 (allS (staArv V_a1_o) all0)
  replace Z_hs := StaKeep Z_hs K5 (allS (staArv V_a1_o) all0)
  replace Z_ls := StaKeep Z_ls K5 (allS (staArv V_a1_o) all0)
  replace V_a1 := V5
  refine Go.of (T' := T5) (f' := (mkF m 53 #[.val (.ref a1), .val (.int (Int32.ofNat (2 * i + 1))), .val (.int p3)] [])) st5 ?_
  exact goRet0 (Q := fun v h L => v = none ∧ Mv h0 h [a1] L ∧ Arv Z h a1 ka .byte N ((vs.set (2 * i) (.int (StrChars.lo8 p3))).set (2 * i + 1) (.int (StrChars.hi8 p3))) (.int (0 : Int32))) X5 hx hret hlk (hb hby d_jdk_52_method_4_code_53) K (by decide) (by decide) e5 (⟨rfl, M5, V_a1⟩)
theorem mapGet {cs : List Int32} {i : Nat} {d : Value} (hi : i < cs.length) : (cs.map Value.int).getD i d = .int (cs.getD i 0) := by simp [List.getD_eq_getElem?_getD, hi]
def WB (vs : List Value) (cs : List Int32) (i : Nat) : Prop := vs.length = 2 * cs.length ∧ ∀ j, j < i → vs[2 * j]? = some (.int (StrChars.lo8 (cs.getD j 0))) ∧ vs[2 * j + 1]? = some (.int (StrChars.hi8 (cs.getD j 0)))
theorem wb0 (cs : List Int32) : WB ([] ++ List.replicate (2 * cs.length) (.int (0 : Int32))) cs 0 := ⟨by simp, fun j hj => absurd hj (Nat.not_lt_zero _)⟩
theorem wbStep {vs : List Value} {cs : List Int32} {i : Nat} (h : WB vs cs i) (hi : i < cs.length) : WB ((vs.set (2 * i) (.int (StrChars.lo8 (cs.getD i 0)))).set (2 * i + 1) (.int (StrChars.hi8 (cs.getD i 0)))) cs (i + 1) := by
  obtain ⟨h1, h2⟩ := h
  refine ⟨by simp [h1], fun j hj => ?_⟩
  by_cases q : j = i
  · subst q
    constructor
    · rw [List.getElem?_set_ne (by omega), List.getElem?_set_self (by omega)]
    · rw [List.getElem?_set_self (by simp; omega)]
  · have := h2 j (by omega)
    constructor
    · rw [List.getElem?_set_ne (by omega), List.getElem?_set_ne (by omega)]; exact this.1
    · rw [List.getElem?_set_ne (by omega), List.getElem?_set_ne (by omega)]; exact this.2
theorem wbLen : ∀ cs : List Int32, (StrChars.Road.wideBytes cs).length = 2 * cs.length
  | [] => rfl
  | c :: cs => by have := wbLen cs; simp [StrChars.Road.wideBytes, this]; omega
theorem wbEnd {vs : List Value} {cs : List Int32} {i : Nat} (h : WB vs cs i) (hi : cs.length ≤ i) : vs = StrChars.Road.wideBytes cs := by
  obtain ⟨h1, h2⟩ := h
  apply List.ext_getElem?
  intro k
  by_cases hk : k < 2 * cs.length
  · have hlo := StrChars.Road.wide_lo (.int 0) cs (k / 2) (by omega)
    have hhi := StrChars.Road.wide_hi (.int 0) cs (k / 2) (by omega)
    have hl := wbLen cs
    rcases Nat.mod_two_eq_zero_or_one k with q | q
    · have e : k = 2 * (k / 2) := by omega
      rw [e, (h2 (k / 2) (by omega)).1, ← hlo, List.getD_eq_getElem?_getD, List.getElem?_eq_getElem (by omega)]; rfl
    · have e : k = 2 * (k / 2) + 1 := by omega
      rw [e, (h2 (k / 2) (by omega)).2, ← hhi, List.getD_eq_getElem?_getD, List.getElem?_eq_getElem (by omega)]; rfl
  · rw [List.getElem?_eq_none (by omega), List.getElem?_eq_none (by rw [wbLen]; omega)]
theorem wideNo {cs : List Int32} {i : Nat} (h : ∃ c ∈ cs, (255 : Int32) < c) (hall : ∀ j, j < i → ¬ (255 : Int32) < cs.getD j 0) (hi : cs.length ≤ i) : False := by
  obtain ⟨c, hc, q⟩ := h
  obtain ⟨j, hj, rfl⟩ := List.getElem_of_mem hc
  exact hall j (by omega) (by rw [show cs.getD j 0 = cs[j] by simp [List.getD_eq_getElem?_getD, hj]]; exact q)
theorem allStep {cs : List Int32} {i : Nat} (hall : ∀ j, j < i → ¬ (255 : Int32) < cs.getD j 0) (h : ¬ (255 : Int32) < cs.getD i 0) : ∀ j, j < i + 1 → ¬ (255 : Int32) < cs.getD j 0 := fun j hj => by
  by_cases q : j = i
  · subst q; exact h
  · exact hall j (by omega)
theorem cfa1 {n : Nat} (h0 : 0 < n) (h : n ≤ 4000) : (((Int32.ofNat n - Int32.ofNat (2 * n)).toUInt32 >>> ((31 : Int32) &&& 31).toUInt32).toInt32).toInt8.toInt32 = 1 := by
  have q := c_isub (Int32.ofNat n) (Int32.ofNat (2 * n))
  have b := Int32.toInt_lt (Int32.ofNat n - Int32.ofNat (2 * n))
  have b' := Int32.le_toInt (Int32.ofNat n - Int32.ofNat (2 * n))
  rw [n32i (by omega), n32i (by omega)] at q
  have r := c_iushr (Int32.ofNat n - Int32.ofNat (2 * n)) 31 31 (by decide) (by decide)
  have e : ((Int32.ofNat n - Int32.ofNat (2 * n)).toUInt32 >>> ((31 : Int32) &&& 31).toUInt32).toInt32 = 1 := by
    apply Int32.toInt_inj.mp
    have e1 : (1 : Int32).toInt = 1 := by decide
    rw [r, e1]; omega
  rw [e]; decide

theorem ltMax {n : Nat} (h : n ≤ 4000) : Int32.ofNat n < (1073741823 : Int32) := by
  have e : (1073741823 : Int32).toInt = 1073741823 := by decide
  rw [Int32.lt_iff_toInt_lt, n32i (by omega), e]; omega
theorem ef_rm_nbl (m : MethodId) (x0 : Int32)  : entryFrame m #[(.int x0)] 1 = mkF m 0 #[.val (.int x0)] [] := by first | (simp [entryFrame, mkF, argsToLocals, Value.category]; done) | rfl
theorem d_jdk_52_method_3_code_0 : decode jdk_52_method_3_code 0 = .ok (.iload_n 0, 1) := by decide +kernel
theorem d_jdk_52_method_3_code_1 : decode jdk_52_method_3_code 1 = .ok (.ifCond .ge 11, 3) := by decide +kernel
theorem d_jdk_52_method_3_code_12 : decode jdk_52_method_3_code 12 = .ok (.iload_n 0, 1) := by decide +kernel
theorem d_jdk_52_method_3_code_13 : decode jdk_52_method_3_code 13 = .ok (.ldc 20, 2) := by decide +kernel
theorem d_jdk_52_method_3_code_15 : decode jdk_52_method_3_code 15 = .ok (.if_icmp .lt 40, 3) := by decide +kernel
theorem d_jdk_52_method_3_code_55 : decode jdk_52_method_3_code 55 = .ok (.iload_n 0, 1) := by decide +kernel
theorem d_jdk_52_method_3_code_56 : decode jdk_52_method_3_code 56 = .ok (.iconst 1, 1) := by decide +kernel
theorem d_jdk_52_method_3_code_57 : decode jdk_52_method_3_code 57 = .ok (.ishl, 1) := by decide +kernel
theorem d_jdk_52_method_3_code_58 : decode jdk_52_method_3_code 58 = .ok (.ireturn, 1) := by decide +kernel
set_option maxRecDepth 65536 in
set_option maxHeartbeats 40000000 in
theorem rm_nbl (l : Launch) (Z : State) (a0 : Array Value) (hw : ∀ d ∈ tables_1, d.before a0 Z = true) (n : Nat) (h0 : Heap) (h8 : n ≤ 8) :
    MeetsW l Z (⟨"java/lang/StringUTF16", "newBytesLength", "(I)I"⟩ : MethodName) jdk_52_method_3_code 1 (some .int) ({ frames := 0, cells := 0, slots := 0, locals := 0 } : Room) #[(.int (Int32.ofNat n))] h0 (Pu h0 (fun v => v = some (.int (Int32.ofNat (2 * n))))) := by
  refine MeetsW.of (plainFor_of_name pn_java_lang_StringUTF16) ?_
  intro p e s m below meth c s₁ P hx hby hml hZ hown hnm hret hlk X0 e0 K
  have M0 : Mv h0 h0 [] [] := Mv.refl _ _
  refine Go.cast (ef_rm_nbl m (Int32.ofNat n) ) ?_
  refine Go.of (T' := s₁) (f' := (mkF m 1 #[.val (.int (Int32.ofNat n))] [(.int (Int32.ofNat n))])) (fun _ k => XS.iloadN X0.here hx rfl (hb hby d_jdk_52_method_3_code_0) rfl k) ?_
  have hc1 : ¬ ((Int32.ofNat n) < (0 : Int32)) := nneg (by omega)
  refine Go.of (T' := s₁) (f' := (mkF m 12 #[.val (.int (Int32.ofNat n))] [])) (fun _ k => XS.ifYes X0.here hx rfl (pc0 := 1) (pc' := 12) rfl (hb hby d_jdk_52_method_3_code_1) rfl ((if0 _ _).trans (flt hc1).2.1) (by decide) (by decide) k) ?_
  refine Go.of (T' := s₁) (f' := (mkF m 13 #[.val (.int (Int32.ofNat n))] [(.int (Int32.ofNat n))])) (fun _ k => XS.iloadN X0.here hx rfl (hb hby d_jdk_52_method_3_code_12) rfl k) ?_
  refine Go.of (T' := s₁) (f' := (mkF m 15 #[.val (.int (Int32.ofNat n))] [(.int (1073741823 : Int32)), (.int (Int32.ofNat n))])) (fun _ k => X0.ldcInt hx hown (mvT hZ (hw _ (List.mem_of_getElem? (i := 107) rfl))) (g := (mkF m 13 #[.val (.int (Int32.ofNat n))] [(.int (Int32.ofNat n))])) rfl (hb hby d_jdk_52_method_3_code_13) _ k) ?_
  have hc15 : (Int32.ofNat n) < (1073741823 : Int32) := ltMax (by omega)
  refine Go.of (T' := s₁) (f' := (mkF m 55 #[.val (.int (Int32.ofNat n))] [])) (fun _ k => XS.icmpYes X0.here hx rfl (pc0 := 15) (pc' := 55) rfl (hb hby d_jdk_52_method_3_code_15) rfl (tlt hc15).1 (by decide) (by decide) k) ?_
  refine Go.of (T' := s₁) (f' := (mkF m 56 #[.val (.int (Int32.ofNat n))] [(.int (Int32.ofNat n))])) (fun _ k => XS.iloadN X0.here hx rfl (hb hby d_jdk_52_method_3_code_55) rfl k) ?_
  refine Go.of (T' := s₁) (f' := (mkF m 57 #[.val (.int (Int32.ofNat n))] [(.int (1 : Int32)), (.int (Int32.ofNat n))])) (fun _ k => XS.iconst X0.here hx rfl (hb hby d_jdk_52_method_3_code_56) k) ?_
  refine Go.of (T' := s₁) (f' := (mkF m 58 #[.val (.int (Int32.ofNat n))] [(.int ((Int32.ofNat n) <<< ((1 : Int32) &&& 31)))])) (fun _ k => XS.ishl X0.here hx rfl (hb hby d_jdk_52_method_3_code_57) rfl k) ?_
  exact goRetI (Q := Pu h0 (fun v => v = some (.int (Int32.ofNat (2 * n))))) X0 hx (t := .int) hret hlk rfl (by simp) (hb hby d_jdk_52_method_3_code_58) K (by decide) (by decide) e0 (⟨rfl, rfl, congrArg (fun z => some (Value.int z)) (sh1 (by omega))⟩)
theorem ef_rm_nbf (m : MethodId) (x0 : Int32)  : entryFrame m #[(.int x0)] 1 = mkF m 0 #[.val (.int x0)] [] := by first | (simp [entryFrame, mkF, argsToLocals, Value.category]; done) | rfl
theorem d_jdk_52_method_2_code_0 : decode jdk_52_method_2_code 0 = .ok (.iload_n 0, 1) := by decide +kernel
theorem d_jdk_52_method_2_code_1 : decode jdk_52_method_2_code 1 = .ok (.invokestatic 11, 3) := by decide +kernel
theorem pd__I_I : parseMethodDescriptor "(I)I" = some ⟨[.int], some .int⟩ := by decide +kernel
theorem d_jdk_52_method_2_code_4 : decode jdk_52_method_2_code 4 = .ok (.newarray .byte, 2) := by decide +kernel
theorem d_jdk_52_method_2_code_6 : decode jdk_52_method_2_code 6 = .ok (.areturn, 1) := by decide +kernel
set_option maxRecDepth 65536 in
set_option maxHeartbeats 40000000 in
theorem rm_nbf (l : Launch) (Z : State) (a0 : Array Value) (hw : ∀ d ∈ tables_1, d.before a0 Z = true) (cs : List Int32) (h0 : Heap) (h8 : cs.length ≤ 8) :
    MeetsW l Z (⟨"java/lang/StringUTF16", "newBytesFor", "(I)[B"⟩ : MethodName) jdk_52_method_2_code 1 (some (.array .byte)) ({ frames := 1, cells := 1, slots := 16, locals := 12 } : Room) #[(.int (Int32.ofNat cs.length))] h0 (fun v h L => Mv h0 h [] L ∧ ∃ (b : Addr) (k : ClassId), v = some (.ref b) ∧ h0.size ≤ b ∧ Arv Z h b k .byte (Int32.ofNat (2 * cs.length)) ([] ++ List.replicate (2 * cs.length) (.int (0 : Int32))) (.int (0 : Int32))) := by
  refine MeetsW.of (plainFor_of_name pn_java_lang_StringUTF16) ?_
  intro p e s m below meth c s₁ P hx hby hml hZ hown hnm hret hlk X0 e0 K
  have M0 : Mv h0 h0 [] [] := Mv.refl _ _
  refine Go.cast (ef_rm_nbf m (Int32.ofNat cs.length) ) ?_
  refine Go.of (T' := s₁) (f' := (mkF m 1 #[.val (.int (Int32.ofNat cs.length))] [(.int (Int32.ofNat cs.length))])) (fun _ k => XS.iloadN X0.here hx rfl (hb hby d_jdk_52_method_2_code_0) rfl k) ?_
  refine goS X0 hx hZ hown (hw _ (List.mem_of_getElem? (i := 104) rfl)) (hw _ (List.mem_of_getElem? (i := 105) rfl)) (hw _ (List.mem_of_getElem? (i := 84) rfl)) (hw _ (List.mem_of_getElem? (i := 106) rfl)) (by decide) (C := 0) (S := 0) ((rm_nbl l Z a0 hw cs.length h0 (by omega)).bk (W := 0) hZ (hw _ (List.mem_of_getElem? (i := 106) rfl)) (hw _ (List.mem_of_getElem? (i := 84) rfl)) (by decide) (by decide)) e0 (argsL := [(.int (Int32.ofNat cs.length))]) (rest := []) (by rw [hml]; rfl) (lenOf pd__I_I rfl) rfl rfl (hb hby d_jdk_52_method_2_code_1) (Nat.le_of_eq rfl) (by decide) (by decide) ?_
  intro v1 T1 L1 X1 hQ1
  obtain ⟨nq1, e1, rfl⟩ := hQ1
  replace X1 := standNil X1 nq1
  show Go p e below P T1 (mkF m 4 #[.val (.int (Int32.ofNat cs.length))] [(.int (Int32.ofNat (2 * cs.length)))])
  obtain ⟨T2, h2, k2, X2, e2, E2, A2, st2⟩ := newP X1 hx hZ (hw _ (List.mem_of_getElem? (i := 23) rfl)) e1 (g := (mkF m 4 #[.val (.int (Int32.ofNat cs.length))] [(.int (Int32.ofNat (2 * cs.length)))])) rfl (hb hby d_jdk_52_method_2_code_4) rfl (nneg (by omega)) (cap := 16) (by rw [nat32 (by omega)]; omega) (by decide) (by decide) (by decide)
  obtain ⟨b2, g2⟩ : ∃ z, z = h0.size := ⟨_, rfl⟩
  rw [← g2] at A2 st2
  have fr_b2 : h0.size ≤ b2 := Nat.le_trans M0.le (Nat.le_of_eq g2.symm)
  have K2 := keepE E2
  have M2 := M0.ext E2
  have V_b2 : Arv Z h2 b2 k2 .byte (Int32.ofNat (2 * cs.length)) [] (.int (0 : Int32)) := Arv.new A2 (nneg (by omega))
  refine Go.of (T' := T2) (f' := (mkF m 6 #[.val (.int (Int32.ofNat cs.length))] [(.ref b2)])) st2 ?_
  exact goRetR (Q := fun v h L => Mv h0 h [] L ∧ ∃ (b : Addr) (k : ClassId), v = some (.ref b) ∧ h0.size ≤ b ∧ Arv Z h b k .byte (Int32.ofNat (2 * cs.length)) ([] ++ List.replicate (2 * cs.length) (.int (0 : Int32))) (.int (0 : Int32))) X2 hx hret rfl hlk rfl rfl (hb hby d_jdk_52_method_2_code_6) K (by decide) (by decide) e2 (⟨M2, b2, _, rfl, fr_b2, V_b2.pad (pad_rep [] _ _)⟩)
theorem ef_rm_tb (m : MethodId) (x0 : Addr) (x1 : Int32) (x2 : Int32)  : entryFrame m #[(.ref x0), (.int x1), (.int x2)] 5 = mkF m 0 #[.val (.ref x0), .val (.int x1), .val (.int x2), .unset, .unset] [] := by first | (simp [entryFrame, mkF, argsToLocals, Value.category]; done) | rfl
theorem d_jdk_52_method_14_code_0 : decode jdk_52_method_14_code 0 = .ok (.iload_n 2, 1) := by decide +kernel
theorem d_jdk_52_method_14_code_1 : decode jdk_52_method_14_code 1 = .ok (.invokestatic 107, 3) := by decide +kernel
theorem pd__I__B : parseMethodDescriptor "(I)[B" = some ⟨[.int], some (.array .byte)⟩ := by decide +kernel
theorem d_jdk_52_method_14_code_4 : decode jdk_52_method_14_code 4 = .ok (.astore_n 3, 1) := by decide +kernel
theorem d_jdk_52_method_14_code_5 : decode jdk_52_method_14_code 5 = .ok (.iconst 0, 1) := by decide +kernel
theorem d_jdk_52_method_14_code_6 : decode jdk_52_method_14_code 6 = .ok (.istore 4, 2) := by decide +kernel
theorem d_jdk_52_method_14_code_8 : decode jdk_52_method_14_code 8 = .ok (.iload 4, 2) := by decide +kernel
theorem d_jdk_52_method_14_code_10 : decode jdk_52_method_14_code 10 = .ok (.iload_n 2, 1) := by decide +kernel
theorem d_jdk_52_method_14_code_11 : decode jdk_52_method_14_code 11 = .ok (.if_icmp .ge 21, 3) := by decide +kernel
theorem d_jdk_52_method_14_code_32 : decode jdk_52_method_14_code 32 = .ok (.aload_n 3, 1) := by decide +kernel
theorem d_jdk_52_method_14_code_33 : decode jdk_52_method_14_code 33 = .ok (.areturn, 1) := by decide +kernel
theorem d_jdk_52_method_14_code_14 : decode jdk_52_method_14_code 14 = .ok (.aload_n 3, 1) := by decide +kernel
theorem d_jdk_52_method_14_code_15 : decode jdk_52_method_14_code 15 = .ok (.iload 4, 2) := by decide +kernel
theorem d_jdk_52_method_14_code_17 : decode jdk_52_method_14_code 17 = .ok (.aload_n 0, 1) := by decide +kernel
theorem d_jdk_52_method_14_code_18 : decode jdk_52_method_14_code 18 = .ok (.iload_n 1, 1) := by decide +kernel
theorem d_jdk_52_method_14_code_19 : decode jdk_52_method_14_code 19 = .ok (.caload, 1) := by decide +kernel
theorem d_jdk_52_method_14_code_20 : decode jdk_52_method_14_code 20 = .ok (.invokestatic 111, 3) := by decide +kernel
theorem pd___BII_V : parseMethodDescriptor "([BII)V" = some ⟨[(.array .byte), .int, .int], none⟩ := by decide +kernel
theorem d_jdk_52_method_14_code_23 : decode jdk_52_method_14_code 23 = .ok (.iinc 1 1, 3) := by decide +kernel
theorem d_jdk_52_method_14_code_26 : decode jdk_52_method_14_code 26 = .ok (.iinc 4 1, 3) := by decide +kernel
theorem d_jdk_52_method_14_code_29 : decode jdk_52_method_14_code 29 = .ok (.goto (-21), 3) := by decide +kernel
set_option maxRecDepth 65536 in
set_option maxHeartbeats 40000000 in
theorem rm_tb (l : Launch) (Z : State) (a0 : Array Value) (hw : ∀ d ∈ tables_1, d.before a0 Z = true) (a1 : Addr) (ka : ClassId) (cs : List Int32) (h0 : Heap) (V_a1 : Arv Z h0 a1 ka .char (Int32.ofNat cs.length) (cs.map Value.int) (.int (0 : Int32))) (h8 : cs.length ≤ 8) (Z_ad : Sta Z h0 "java/lang/StringUTF16" "$assertionsDisabled" "Z" (.int (1 : Int32))) (Z_hs : Sta Z h0 "java/lang/StringUTF16" "HI_BYTE_SHIFT" "I" (.int (0 : Int32))) (Z_ls : Sta Z h0 "java/lang/StringUTF16" "LO_BYTE_SHIFT" "I" (.int (8 : Int32))) :
    MeetsW l Z (⟨"java/lang/StringUTF16", "toBytes", "([CII)[B"⟩ : MethodName) jdk_52_method_14_code 5 (some (.array .byte)) ({ frames := 2, cells := 1, slots := 16, locals := 24 } : Room) #[(.ref a1), (.int (0 : Int32)), (.int (Int32.ofNat cs.length))] h0 (fun v h L => Mv h0 h [] L ∧ ∃ (b : Addr) (k : ClassId), v = some (.ref b) ∧ h0.size ≤ b ∧ Arv Z h b k .byte (Int32.ofNat (2 * cs.length)) (StrChars.Road.wideBytes cs) (.int (0 : Int32))) := by
  refine MeetsW.of (plainFor_of_name pn_java_lang_StringUTF16) ?_
  intro p e s m below meth c s₁ P hx hby hml hZ hown hnm hret hlk X0 e0 K
  have M0 : Mv h0 h0 [] [] := Mv.refl _ _
  refine Go.cast (ef_rm_tb m a1 (0 : Int32) (Int32.ofNat cs.length) ) ?_
  refine Go.of (T' := s₁) (f' := (mkF m 1 #[.val (.ref a1), .val (.int (0 : Int32)), .val (.int (Int32.ofNat cs.length)), .unset, .unset] [(.int (Int32.ofNat cs.length))])) (fun _ k => XS.iloadN X0.here hx rfl (hb hby d_jdk_52_method_14_code_0) rfl k) ?_
  refine goS X0 hx hZ hown (hw _ (List.mem_of_getElem? (i := 101) rfl)) (hw _ (List.mem_of_getElem? (i := 102) rfl)) (hw _ (List.mem_of_getElem? (i := 84) rfl)) (hw _ (List.mem_of_getElem? (i := 103) rfl)) (by decide) (C := 1) (S := 16) ((rm_nbf l Z a0 hw cs h0 h8).bk (W := 0) hZ (hw _ (List.mem_of_getElem? (i := 103) rfl)) (hw _ (List.mem_of_getElem? (i := 84) rfl)) (by decide) (by decide)) e0 (argsL := [(.int (Int32.ofNat cs.length))]) (rest := []) (by rw [hml]; rfl) (lenOf pd__I__B rfl) rfl rfl (hb hby d_jdk_52_method_14_code_1) (Nat.le_of_eq rfl) (by decide) (by decide) ?_
  intro v1 T1 L1 X1 hQ1
  obtain ⟨h1, e1⟩ : ∃ z, T1.heap = z := ⟨_, rfl⟩
  rw [e1] at hQ1
  obtain ⟨Mc1, b1, k1, rfl, le1, V_b1⟩ := hQ1
  have ne_a1_b1 : a1 ≠ b1 := Nat.ne_of_lt (Nat.lt_of_lt_of_le V_a1.lt le1)
  have fr_b1 : h0.size ≤ b1 := Nat.le_trans M0.le le1
  have M1 := M0.app0 Mc1
  replace V_a1 := V_a1.keep Mc1.1 nin0
  replace Z_ad := StaKeep Z_ad Mc1.1 all0
  replace Z_hs := StaKeep Z_hs Mc1.1 all0
  replace Z_ls := StaKeep Z_ls Mc1.1 all0
  show Go p e below P T1 (mkF m 4 #[.val (.ref a1), .val (.int (0 : Int32)), .val (.int (Int32.ofNat cs.length)), .unset, .unset] [(.ref b1)])
  refine Go.of (T' := T1) (f' := (mkF m 5 #[.val (.ref a1), .val (.int (0 : Int32)), .val (.int (Int32.ofNat cs.length)), .val (.ref b1), .unset] [])) (fun _ k => XS.astoreN X1.here hx rfl (hb hby d_jdk_52_method_14_code_4) rfl rfl (l' := #[.val (.ref a1), .val (.int (0 : Int32)), .val (.int (Int32.ofNat cs.length)), .val (.ref b1), .unset]) rfl k) ?_
  refine Go.of (T' := T1) (f' := (mkF m 6 #[.val (.ref a1), .val (.int (0 : Int32)), .val (.int (Int32.ofNat cs.length)), .val (.ref b1), .unset] [(.int (0 : Int32))])) (fun _ k => XS.iconst X1.here hx rfl (hb hby d_jdk_52_method_14_code_5) k) ?_
  refine Go.of (T' := T1) (f' := (mkF m 8 #[.val (.ref a1), .val (.int (0 : Int32)), .val (.int (Int32.ofNat cs.length)), .val (.ref b1), .val (.int (0 : Int32))] [])) (fun _ k => XS.istore X1.here hx rfl (hb hby d_jdk_52_method_14_code_6) rfl (l' := #[.val (.ref a1), .val (.int (0 : Int32)), .val (.int (Int32.ofNat cs.length)), .val (.ref b1), .val (.int (0 : Int32))]) rfl k) ?_
  show Go p e below P T1 (mkF m 8 #[.val (.ref a1), .val (.int (Int32.ofNat 0)), .val (.int (Int32.ofNat cs.length)), .val (.ref b1), .val (.int (Int32.ofNat 0))] [])
  have J : ∀ (n : Nat) (i : Nat) (vs : List Value) (Tj : State) (hj : Heap) (Lj : List Loc), cs.length ≤ i + n → i ≤ cs.length → (WB vs cs i) → Stand p l e ({ frames := 2, cells := 1, slots := 16, locals := 24 } : Room) s m #[(.ref a1), (.int (0 : Int32)), (.int (Int32.ofNat cs.length))] below meth c Tj Lj 1 16 → Tj.heap = hj → Mv h0 hj [] Lj → Arv Z hj a1 ka (.char) (Int32.ofNat cs.length) (cs.map Value.int) (.int (0 : Int32)) → Arv Z hj b1 k1 (.byte) (Int32.ofNat (2 * cs.length)) vs (.int (0 : Int32)) → Sta Z hj "java/lang/StringUTF16" "$assertionsDisabled" "Z" (.int (1 : Int32)) → Sta Z hj "java/lang/StringUTF16" "HI_BYTE_SHIFT" "I" (.int (0 : Int32)) → Sta Z hj "java/lang/StringUTF16" "LO_BYTE_SHIFT" "I" (.int (8 : Int32)) → Go p e below P Tj (mkF m 8 #[.val (.ref a1), .val (.int (Int32.ofNat i)), .val (.int (Int32.ofNat cs.length)), .val (.ref b1), .val (.int (Int32.ofNat i))] []) := by
    intro n
    induction n with
    | zero =>
      intro i vs Tj hj Lj hle hi1 hwb Xj ej Mj V_a1 V_b1 Z_ad Z_hs Z_ls
      refine Go.of (T' := Tj) (f' := (mkF m 10 #[.val (.ref a1), .val (.int (Int32.ofNat i)), .val (.int (Int32.ofNat cs.length)), .val (.ref b1), .val (.int (Int32.ofNat i))] [(.int (Int32.ofNat i))])) (fun _ k => XS.iload Xj.here hx rfl (hb hby d_jdk_52_method_14_code_8) rfl k) ?_
      refine Go.of (T' := Tj) (f' := (mkF m 11 #[.val (.ref a1), .val (.int (Int32.ofNat i)), .val (.int (Int32.ofNat cs.length)), .val (.ref b1), .val (.int (Int32.ofNat i))] [(.int (Int32.ofNat cs.length)), (.int (Int32.ofNat i))])) (fun _ k => XS.iloadN Xj.here hx rfl (hb hby d_jdk_52_method_14_code_10) rfl k) ?_
      have hc11 : ¬ ((Int32.ofNat i) < (Int32.ofNat cs.length)) := fun q => by have q := (ltN (by omega) (by omega)).mp q; omega
      refine Go.of (T' := Tj) (f' := (mkF m 32 #[.val (.ref a1), .val (.int (Int32.ofNat i)), .val (.int (Int32.ofNat cs.length)), .val (.ref b1), .val (.int (Int32.ofNat i))] [])) (fun _ k => XS.icmpYes Xj.here hx rfl (pc0 := 11) (pc' := 32) rfl (hb hby d_jdk_52_method_14_code_11) rfl (flt hc11).2.1 (by decide) (by decide) k) ?_
      refine Go.of (T' := Tj) (f' := (mkF m 33 #[.val (.ref a1), .val (.int (Int32.ofNat i)), .val (.int (Int32.ofNat cs.length)), .val (.ref b1), .val (.int (Int32.ofNat i))] [(.ref b1)])) (fun _ k => XS.aloadN Xj.here hx rfl (hb hby d_jdk_52_method_14_code_32) rfl rfl k) ?_
      exact goRetR (Q := fun v h L => Mv h0 h [] L ∧ ∃ (b : Addr) (k : ClassId), v = some (.ref b) ∧ h0.size ≤ b ∧ Arv Z h b k .byte (Int32.ofNat (2 * cs.length)) (StrChars.Road.wideBytes cs) (.int (0 : Int32))) Xj hx hret rfl hlk rfl rfl (hb hby d_jdk_52_method_14_code_33) K (by decide) (by decide) ej (⟨Mj, b1, _, rfl, fr_b1, (wbEnd hwb (by first | exact Nat.le_of_not_lt fun q => hc11 ((ltN (by omega) (by omega)).mpr q) | omega)) ▸ V_b1⟩)
    | succ n ih =>
      intro i vs Tj hj Lj hle hi1 hwb Xj ej Mj V_a1 V_b1 Z_ad Z_hs Z_ls
      refine Go.of (T' := Tj) (f' := (mkF m 10 #[.val (.ref a1), .val (.int (Int32.ofNat i)), .val (.int (Int32.ofNat cs.length)), .val (.ref b1), .val (.int (Int32.ofNat i))] [(.int (Int32.ofNat i))])) (fun _ k => XS.iload Xj.here hx rfl (hb hby d_jdk_52_method_14_code_8) rfl k) ?_
      refine Go.of (T' := Tj) (f' := (mkF m 11 #[.val (.ref a1), .val (.int (Int32.ofNat i)), .val (.int (Int32.ofNat cs.length)), .val (.ref b1), .val (.int (Int32.ofNat i))] [(.int (Int32.ofNat cs.length)), (.int (Int32.ofNat i))])) (fun _ k => XS.iloadN Xj.here hx rfl (hb hby d_jdk_52_method_14_code_10) rfl k) ?_
      by_cases hc11 : (Int32.ofNat i) < (Int32.ofNat cs.length)
      ·
        refine Go.of (T' := Tj) (f' := (mkF m 14 #[.val (.ref a1), .val (.int (Int32.ofNat i)), .val (.int (Int32.ofNat cs.length)), .val (.ref b1), .val (.int (Int32.ofNat i))] [])) (fun _ k => XS.icmpNo Xj.here hx rfl (hb hby d_jdk_52_method_14_code_11) rfl (tlt hc11).2.1 k) ?_
        have hi : i < cs.length := (ltN (by omega) (by omega)).mp hc11
        refine Go.of (T' := Tj) (f' := (mkF m 15 #[.val (.ref a1), .val (.int (Int32.ofNat i)), .val (.int (Int32.ofNat cs.length)), .val (.ref b1), .val (.int (Int32.ofNat i))] [(.ref b1)])) (fun _ k => XS.aloadN Xj.here hx rfl (hb hby d_jdk_52_method_14_code_14) rfl rfl k) ?_
        refine Go.of (T' := Tj) (f' := (mkF m 17 #[.val (.ref a1), .val (.int (Int32.ofNat i)), .val (.int (Int32.ofNat cs.length)), .val (.ref b1), .val (.int (Int32.ofNat i))] [(.int (Int32.ofNat i)), (.ref b1)])) (fun _ k => XS.iload Xj.here hx rfl (hb hby d_jdk_52_method_14_code_15) rfl k) ?_
        refine Go.of (T' := Tj) (f' := (mkF m 18 #[.val (.ref a1), .val (.int (Int32.ofNat i)), .val (.int (Int32.ofNat cs.length)), .val (.ref b1), .val (.int (Int32.ofNat i))] [(.ref a1), (.int (Int32.ofNat i)), (.ref b1)])) (fun _ k => XS.aloadN Xj.here hx rfl (hb hby d_jdk_52_method_14_code_17) rfl rfl k) ?_
        refine Go.of (T' := Tj) (f' := (mkF m 19 #[.val (.ref a1), .val (.int (Int32.ofNat i)), .val (.int (Int32.ofNat cs.length)), .val (.ref b1), .val (.int (Int32.ofNat i))] [(.int (Int32.ofNat i)), (.ref a1), (.int (Int32.ofNat i)), (.ref b1)])) (fun _ k => XS.iloadN Xj.here hx rfl (hb hby d_jdk_52_method_14_code_18) rfl k) ?_
        obtain ⟨cl2, Ar2, cq2, Sz2, Nn2, Hs2, Gs2⟩ := id V_a1
        have hin2 : ¬ ((Int32.ofNat i) < 0 ∨ cl2.slots.size ≤ ((Int32.ofNat i)).toNatClampNeg) := inbN Sz2 hi (by omega)
        have hat2 : cl2.slots[((Int32.ofNat i)).toNatClampNeg]? = some (.int (cs.getD i 0)) := Has.at Hs2 hin2 (by rw [nat32 (by omega)]; exact mapGet hi)
        refine Go.of (T' := Tj) (f' := (mkF m 20 #[.val (.ref a1), .val (.int (Int32.ofNat i)), .val (.int (Int32.ofNat cs.length)), .val (.ref b1), .val (.int (Int32.ofNat i))] [(.int (cs.getD i 0)), (.int (Int32.ofNat i)), (.ref b1)])) (fun _ k => Xj.caload hx (j := (Int32.ofNat i)) (v := (.int (cs.getD i 0))) (by rw [ej]; exact Ar2.1) (State.isArrayOf_alike hZ.alike Ar2.2.1) Ar2.2.2 hin2 hat2 (g := (mkF m 19 #[.val (.ref a1), .val (.int (Int32.ofNat i)), .val (.int (Int32.ofNat cs.length)), .val (.ref b1), .val (.int (Int32.ofNat i))] [(.int (Int32.ofNat i)), (.ref a1), (.int (Int32.ofNat i)), (.ref b1)])) rfl rfl (hb hby d_jdk_52_method_14_code_19) _ k) ?_
        refine goS Xj hx hZ hown (hw _ (List.mem_of_getElem? (i := 108) rfl)) (hw _ (List.mem_of_getElem? (i := 109) rfl)) (hw _ (List.mem_of_getElem? (i := 84) rfl)) (hw _ (List.mem_of_getElem? (i := 110) rfl)) (by decide) (C := 0) (S := 0) ((rm_putChar l Z a0 hw b1 k1 (Int32.ofNat (2 * cs.length)) _ i (cs.getD i 0) hj V_b1 (by rw [nat32 (by omega)]; have := hwb.1; omega) (by have := hwb.1; omega) (by omega) Z_ad Z_hs Z_ls).bk (W := 0) hZ (hw _ (List.mem_of_getElem? (i := 110) rfl)) (hw _ (List.mem_of_getElem? (i := 84) rfl)) (by decide) (by decide)) ej (argsL := [(.ref b1), (.int (Int32.ofNat i)), (.int (cs.getD i 0))]) (rest := []) (by rw [hml]; rfl) (lenOf pd___BII_V rfl) rfl rfl (hb hby d_jdk_52_method_14_code_20) (Nat.le_of_eq rfl) (by decide) (by decide) ?_
        intro v3 T3 L3 X3 hQ3
        obtain ⟨h3, e3⟩ : ∃ z, T3.heap = z := ⟨_, rfl⟩
        rw [e3] at hQ3
        have V_b1_o := V_b1
        obtain ⟨rfl, Mc3, Vc3⟩ := hQ3
        have M3 := Mj.app Mc3 (allS (Or.inr fr_b1) all0)
        replace V_a1 := V_a1.keep Mc3.1 (ninS ne_a1_b1 nin0)
        replace Z_ad := StaKeep Z_ad Mc3.1 (allS (staArv V_b1_o) all0)
        replace Z_hs := StaKeep Z_hs Mc3.1 (allS (staArv V_b1_o) all0)
        replace Z_ls := StaKeep Z_ls Mc3.1 (allS (staArv V_b1_o) all0)
        replace V_b1 := Vc3
        show Go p e below P T3 (mkF m 23 #[.val (.ref a1), .val (.int (Int32.ofNat i)), .val (.int (Int32.ofNat cs.length)), .val (.ref b1), .val (.int (Int32.ofNat i))] [])
        refine Go.of (T' := T3) (f' := (mkF m 26 #[.val (.ref a1), .val (.int ((Int32.ofNat i) + (1 : Int32))), .val (.int (Int32.ofNat cs.length)), .val (.ref b1), .val (.int (Int32.ofNat i))] [])) (fun _ k => XS.iinc X3.here hx rfl (hb hby d_jdk_52_method_14_code_23) rfl (l' := #[.val (.ref a1), .val (.int ((Int32.ofNat i) + (1 : Int32))), .val (.int (Int32.ofNat cs.length)), .val (.ref b1), .val (.int (Int32.ofNat i))]) rfl k) ?_
        refine Go.of (T' := T3) (f' := (mkF m 29 #[.val (.ref a1), .val (.int ((Int32.ofNat i) + (1 : Int32))), .val (.int (Int32.ofNat cs.length)), .val (.ref b1), .val (.int ((Int32.ofNat i) + (1 : Int32)))] [])) (fun _ k => XS.iinc X3.here hx rfl (hb hby d_jdk_52_method_14_code_26) rfl (l' := #[.val (.ref a1), .val (.int ((Int32.ofNat i) + (1 : Int32))), .val (.int (Int32.ofNat cs.length)), .val (.ref b1), .val (.int ((Int32.ofNat i) + (1 : Int32)))]) rfl k) ?_
        refine Go.of (T' := T3) (f' := (mkF m 8 #[.val (.ref a1), .val (.int ((Int32.ofNat i) + (1 : Int32))), .val (.int (Int32.ofNat cs.length)), .val (.ref b1), .val (.int ((Int32.ofNat i) + (1 : Int32)))] [])) (fun _ k => XS.goto X3.here hx rfl (pc0 := 29) (pc' := 8) rfl (hb hby d_jdk_52_method_14_code_29) (by decide) (by decide) k) ?_
        rw [show (Int32.ofNat i) + (1 : Int32) = Int32.ofNat (i + 1) from (Int32.ofNat_add _ _).symm]
        exact ih (i + 1) _ T3 h3 _ (by omega) hi (wbStep hwb hi) (standUp X3 (by decide) (by decide)) e3 M3 V_a1 V_b1 Z_ad Z_hs Z_ls
      ·
        refine Go.of (T' := Tj) (f' := (mkF m 32 #[.val (.ref a1), .val (.int (Int32.ofNat i)), .val (.int (Int32.ofNat cs.length)), .val (.ref b1), .val (.int (Int32.ofNat i))] [])) (fun _ k => XS.icmpYes Xj.here hx rfl (pc0 := 11) (pc' := 32) rfl (hb hby d_jdk_52_method_14_code_11) rfl (flt hc11).2.1 (by decide) (by decide) k) ?_
        refine Go.of (T' := Tj) (f' := (mkF m 33 #[.val (.ref a1), .val (.int (Int32.ofNat i)), .val (.int (Int32.ofNat cs.length)), .val (.ref b1), .val (.int (Int32.ofNat i))] [(.ref b1)])) (fun _ k => XS.aloadN Xj.here hx rfl (hb hby d_jdk_52_method_14_code_32) rfl rfl k) ?_
        exact goRetR (Q := fun v h L => Mv h0 h [] L ∧ ∃ (b : Addr) (k : ClassId), v = some (.ref b) ∧ h0.size ≤ b ∧ Arv Z h b k .byte (Int32.ofNat (2 * cs.length)) (StrChars.Road.wideBytes cs) (.int (0 : Int32))) Xj hx hret rfl hlk rfl rfl (hb hby d_jdk_52_method_14_code_33) K (by decide) (by decide) ej (⟨Mj, b1, _, rfl, fr_b1, (wbEnd hwb (by first | exact Nat.le_of_not_lt fun q => hc11 ((ltN (by omega) (by omega)).mpr q) | omega)) ▸ V_b1⟩)
  exact J cs.length 0 _ T1 h1 _ (by omega) (by omega) (wb0 cs) (standUp X1 (by decide) (by decide)) e1 M1 V_a1 V_b1 Z_ad Z_hs Z_ls
theorem ef_rm_ci (m : MethodId) (x0 : Addr) (x1 : Int32) (x2 : Addr) (x3 : Int32) (x4 : Int32)  : entryFrame m #[(.ref x0), (.int x1), (.ref x2), (.int x3), (.int x4)] 7 = mkF m 0 #[.val (.ref x0), .val (.int x1), .val (.ref x2), .val (.int x3), .val (.int x4), .unset, .unset] [] := by first | (simp [entryFrame, mkF, argsToLocals, Value.category]; done) | rfl
theorem d_jdk_52_method_21_code_0 : decode jdk_52_method_21_code 0 = .ok (.iconst 0, 1) := by decide +kernel
theorem d_jdk_52_method_21_code_1 : decode jdk_52_method_21_code 1 = .ok (.istore 5, 2) := by decide +kernel
theorem d_jdk_52_method_21_code_3 : decode jdk_52_method_21_code 3 = .ok (.iload 5, 2) := by decide +kernel
theorem d_jdk_52_method_21_code_5 : decode jdk_52_method_21_code 5 = .ok (.iload 4, 2) := by decide +kernel
theorem d_jdk_52_method_21_code_7 : decode jdk_52_method_21_code 7 = .ok (.if_icmp .ge 37, 3) := by decide +kernel
theorem d_jdk_52_method_21_code_44 : decode jdk_52_method_21_code 44 = .ok (.iload 4, 2) := by decide +kernel
theorem d_jdk_52_method_21_code_46 : decode jdk_52_method_21_code 46 = .ok (.ireturn, 1) := by decide +kernel
theorem d_jdk_52_method_21_code_10 : decode jdk_52_method_21_code 10 = .ok (.aload_n 0, 1) := by decide +kernel
theorem d_jdk_52_method_21_code_11 : decode jdk_52_method_21_code 11 = .ok (.iload_n 1, 1) := by decide +kernel
theorem d_jdk_52_method_21_code_12 : decode jdk_52_method_21_code 12 = .ok (.caload, 1) := by decide +kernel
theorem d_jdk_52_method_21_code_13 : decode jdk_52_method_21_code 13 = .ok (.istore 6, 2) := by decide +kernel
theorem d_jdk_52_method_21_code_15 : decode jdk_52_method_21_code 15 = .ok (.iload 6, 2) := by decide +kernel
theorem d_jdk_52_method_21_code_17 : decode jdk_52_method_21_code 17 = .ok (.sipush 255, 3) := by decide +kernel
theorem d_jdk_52_method_21_code_20 : decode jdk_52_method_21_code 20 = .ok (.if_icmp .le 6, 3) := by decide +kernel
theorem d_jdk_52_method_21_code_23 : decode jdk_52_method_21_code 23 = .ok (.iload 5, 2) := by decide +kernel
theorem d_jdk_52_method_21_code_25 : decode jdk_52_method_21_code 25 = .ok (.ireturn, 1) := by decide +kernel
theorem d_jdk_52_method_21_code_26 : decode jdk_52_method_21_code 26 = .ok (.aload_n 2, 1) := by decide +kernel
theorem d_jdk_52_method_21_code_27 : decode jdk_52_method_21_code 27 = .ok (.iload_n 3, 1) := by decide +kernel
theorem d_jdk_52_method_21_code_28 : decode jdk_52_method_21_code 28 = .ok (.iload 6, 2) := by decide +kernel
theorem d_jdk_52_method_21_code_30 : decode jdk_52_method_21_code 30 = .ok (.i2b, 1) := by decide +kernel
theorem d_jdk_52_method_21_code_31 : decode jdk_52_method_21_code 31 = .ok (.bastore, 1) := by decide +kernel
theorem d_jdk_52_method_21_code_32 : decode jdk_52_method_21_code 32 = .ok (.iinc 1 1, 3) := by decide +kernel
theorem d_jdk_52_method_21_code_35 : decode jdk_52_method_21_code 35 = .ok (.iinc 3 1, 3) := by decide +kernel
theorem d_jdk_52_method_21_code_38 : decode jdk_52_method_21_code 38 = .ok (.iinc 5 1, 3) := by decide +kernel
theorem d_jdk_52_method_21_code_41 : decode jdk_52_method_21_code 41 = .ok (.goto (-38), 3) := by decide +kernel
set_option maxRecDepth 65536 in
set_option maxHeartbeats 40000000 in
theorem rm_ci (l : Launch) (Z : State) (a0 : Array Value) (hw : ∀ d ∈ tables_1, d.before a0 Z = true) (a1 a2 : Addr) (ka kb : ClassId) (cs : List Int32) (vs : List Value) (h0 : Heap) (V_a1 : Arv Z h0 a1 ka .char (Int32.ofNat cs.length) (cs.map Value.int) (.int (0 : Int32))) (h8 : cs.length ≤ 8) (V_a2 : Arv Z h0 a2 kb .byte (Int32.ofNat cs.length) vs (.int (0 : Int32))) (hv : vs.length = cs.length) (hne : a1 ≠ a2) (hwd : ∃ c ∈ cs, (255 : Int32) < c) :
    MeetsW l Z (⟨"java/lang/StringUTF16", "compress", "([CI[BII)I"⟩ : MethodName) jdk_52_method_21_code 7 (some .int) ({ frames := 0, cells := 0, slots := 0, locals := 0 } : Room) #[(.ref a1), (.int (0 : Int32)), (.ref a2), (.int (0 : Int32)), (.int (Int32.ofNat cs.length))] h0 (fun v h L => Mv h0 h [a2] L ∧ ∃ k : Nat, k < cs.length ∧ (255 : Int32) < cs.getD k 0 ∧ v = some (.int (Int32.ofNat k))) := by
  refine MeetsW.of (plainFor_of_name pn_java_lang_StringUTF16) ?_
  intro p e s m below meth c s₁ P hx hby hml hZ hown hnm hret hlk X0 e0 K
  have M0 : Mv h0 h0 [a2] [] := Mv.refl _ _
  refine Go.cast (ef_rm_ci m a1 (0 : Int32) a2 (0 : Int32) (Int32.ofNat cs.length) ) ?_
  refine Go.of (T' := s₁) (f' := (mkF m 1 #[.val (.ref a1), .val (.int (0 : Int32)), .val (.ref a2), .val (.int (0 : Int32)), .val (.int (Int32.ofNat cs.length)), .unset, .unset] [(.int (0 : Int32))])) (fun _ k => XS.iconst X0.here hx rfl (hb hby d_jdk_52_method_21_code_0) k) ?_
  refine Go.of (T' := s₁) (f' := (mkF m 3 #[.val (.ref a1), .val (.int (0 : Int32)), .val (.ref a2), .val (.int (0 : Int32)), .val (.int (Int32.ofNat cs.length)), .val (.int (0 : Int32)), .unset] [])) (fun _ k => XS.istore X0.here hx rfl (hb hby d_jdk_52_method_21_code_1) rfl (l' := #[.val (.ref a1), .val (.int (0 : Int32)), .val (.ref a2), .val (.int (0 : Int32)), .val (.int (Int32.ofNat cs.length)), .val (.int (0 : Int32)), .unset]) rfl k) ?_
  show Go p e below P s₁ (mkF m 3 #[.val (.ref a1), .val (.int (Int32.ofNat 0)), .val (.ref a2), .val (.int (Int32.ofNat 0)), .val (.int (Int32.ofNat cs.length)), .val (.int (Int32.ofNat 0)), .unset] [])
  have J : ∀ (n : Nat) (i : Nat) (vs : List Value) (cj : Int32) (Tj : State) (hj : Heap) (Lj : List Loc), cs.length ≤ i + n → i ≤ cs.length → (vs.length = cs.length) → (∀ j, j < i → ¬ (255 : Int32) < cs.getD j 0) → Stand p l e ({ frames := 0, cells := 0, slots := 0, locals := 0 } : Room) s m #[(.ref a1), (.int (0 : Int32)), (.ref a2), (.int (0 : Int32)), (.int (Int32.ofNat cs.length))] below meth c Tj Lj 0 0 → Tj.heap = hj → Mv h0 hj [a2] Lj → Arv Z hj a1 ka (.char) (Int32.ofNat cs.length) (cs.map Value.int) (.int (0 : Int32)) → Arv Z hj a2 kb (.byte) (Int32.ofNat cs.length) vs (.int (0 : Int32)) → Go p e below P Tj (mkF m 3 #[.val (.ref a1), .val (.int (Int32.ofNat i)), .val (.ref a2), .val (.int (Int32.ofNat i)), .val (.int (Int32.ofNat cs.length)), .val (.int (Int32.ofNat i)), .val (.int cj)] []) := by
    intro n
    induction n with
    | zero =>
      intro i vs cj Tj hj Lj hle hi1 hv hall Xj ej Mj V_a1 V_a2
      refine Go.of (T' := Tj) (f' := (mkF m 5 #[.val (.ref a1), .val (.int (Int32.ofNat i)), .val (.ref a2), .val (.int (Int32.ofNat i)), .val (.int (Int32.ofNat cs.length)), .val (.int (Int32.ofNat i)), .val (.int cj)] [(.int (Int32.ofNat i))])) (fun _ k => XS.iload Xj.here hx rfl (hb hby d_jdk_52_method_21_code_3) rfl k) ?_
      refine Go.of (T' := Tj) (f' := (mkF m 7 #[.val (.ref a1), .val (.int (Int32.ofNat i)), .val (.ref a2), .val (.int (Int32.ofNat i)), .val (.int (Int32.ofNat cs.length)), .val (.int (Int32.ofNat i)), .val (.int cj)] [(.int (Int32.ofNat cs.length)), (.int (Int32.ofNat i))])) (fun _ k => XS.iload Xj.here hx rfl (hb hby d_jdk_52_method_21_code_5) rfl k) ?_
      have hc7 : ¬ ((Int32.ofNat i) < (Int32.ofNat cs.length)) := fun q => by have q := (ltN (by omega) (by omega)).mp q; omega
      refine Go.of (T' := Tj) (f' := (mkF m 44 #[.val (.ref a1), .val (.int (Int32.ofNat i)), .val (.ref a2), .val (.int (Int32.ofNat i)), .val (.int (Int32.ofNat cs.length)), .val (.int (Int32.ofNat i)), .val (.int cj)] [])) (fun _ k => XS.icmpYes Xj.here hx rfl (pc0 := 7) (pc' := 44) rfl (hb hby d_jdk_52_method_21_code_7) rfl (flt hc7).2.1 (by decide) (by decide) k) ?_
      refine Go.of (T' := Tj) (f' := (mkF m 46 #[.val (.ref a1), .val (.int (Int32.ofNat i)), .val (.ref a2), .val (.int (Int32.ofNat i)), .val (.int (Int32.ofNat cs.length)), .val (.int (Int32.ofNat i)), .val (.int cj)] [(.int (Int32.ofNat cs.length))])) (fun _ k => XS.iload Xj.here hx rfl (hb hby d_jdk_52_method_21_code_44) rfl k) ?_
      exact goRetI (Q := fun v h L => Mv h0 h [a2] L ∧ ∃ k : Nat, k < cs.length ∧ (255 : Int32) < cs.getD k 0 ∧ v = some (.int (Int32.ofNat k))) Xj hx (t := .int) hret hlk rfl (by simp) (hb hby d_jdk_52_method_21_code_46) K (by decide) (by decide) ej ((wideNo hwd hall (by first | exact Nat.le_of_not_lt fun q => hc7 ((ltN (by omega) (by omega)).mpr q) | omega)).elim)
    | succ n ih =>
      intro i vs cj Tj hj Lj hle hi1 hv hall Xj ej Mj V_a1 V_a2
      refine Go.of (T' := Tj) (f' := (mkF m 5 #[.val (.ref a1), .val (.int (Int32.ofNat i)), .val (.ref a2), .val (.int (Int32.ofNat i)), .val (.int (Int32.ofNat cs.length)), .val (.int (Int32.ofNat i)), .val (.int cj)] [(.int (Int32.ofNat i))])) (fun _ k => XS.iload Xj.here hx rfl (hb hby d_jdk_52_method_21_code_3) rfl k) ?_
      refine Go.of (T' := Tj) (f' := (mkF m 7 #[.val (.ref a1), .val (.int (Int32.ofNat i)), .val (.ref a2), .val (.int (Int32.ofNat i)), .val (.int (Int32.ofNat cs.length)), .val (.int (Int32.ofNat i)), .val (.int cj)] [(.int (Int32.ofNat cs.length)), (.int (Int32.ofNat i))])) (fun _ k => XS.iload Xj.here hx rfl (hb hby d_jdk_52_method_21_code_5) rfl k) ?_
      by_cases hc7 : (Int32.ofNat i) < (Int32.ofNat cs.length)
      ·
        refine Go.of (T' := Tj) (f' := (mkF m 10 #[.val (.ref a1), .val (.int (Int32.ofNat i)), .val (.ref a2), .val (.int (Int32.ofNat i)), .val (.int (Int32.ofNat cs.length)), .val (.int (Int32.ofNat i)), .val (.int cj)] [])) (fun _ k => XS.icmpNo Xj.here hx rfl (hb hby d_jdk_52_method_21_code_7) rfl (tlt hc7).2.1 k) ?_
        have hi : i < cs.length := (ltN (by omega) (by omega)).mp hc7
        refine Go.of (T' := Tj) (f' := (mkF m 11 #[.val (.ref a1), .val (.int (Int32.ofNat i)), .val (.ref a2), .val (.int (Int32.ofNat i)), .val (.int (Int32.ofNat cs.length)), .val (.int (Int32.ofNat i)), .val (.int cj)] [(.ref a1)])) (fun _ k => XS.aloadN Xj.here hx rfl (hb hby d_jdk_52_method_21_code_10) rfl rfl k) ?_
        refine Go.of (T' := Tj) (f' := (mkF m 12 #[.val (.ref a1), .val (.int (Int32.ofNat i)), .val (.ref a2), .val (.int (Int32.ofNat i)), .val (.int (Int32.ofNat cs.length)), .val (.int (Int32.ofNat i)), .val (.int cj)] [(.int (Int32.ofNat i)), (.ref a1)])) (fun _ k => XS.iloadN Xj.here hx rfl (hb hby d_jdk_52_method_21_code_11) rfl k) ?_
        obtain ⟨cl1, Ar1, cq1, Sz1, Nn1, Hs1, Gs1⟩ := id V_a1
        have hin1 : ¬ ((Int32.ofNat i) < 0 ∨ cl1.slots.size ≤ ((Int32.ofNat i)).toNatClampNeg) := inbN Sz1 hi (by omega)
        have hat1 : cl1.slots[((Int32.ofNat i)).toNatClampNeg]? = some (.int (cs.getD i 0)) := Has.at Hs1 hin1 (by rw [nat32 (by omega)]; exact mapGet hi)
        refine Go.of (T' := Tj) (f' := (mkF m 13 #[.val (.ref a1), .val (.int (Int32.ofNat i)), .val (.ref a2), .val (.int (Int32.ofNat i)), .val (.int (Int32.ofNat cs.length)), .val (.int (Int32.ofNat i)), .val (.int cj)] [(.int (cs.getD i 0))])) (fun _ k => Xj.caload hx (j := (Int32.ofNat i)) (v := (.int (cs.getD i 0))) (by rw [ej]; exact Ar1.1) (State.isArrayOf_alike hZ.alike Ar1.2.1) Ar1.2.2 hin1 hat1 (g := (mkF m 12 #[.val (.ref a1), .val (.int (Int32.ofNat i)), .val (.ref a2), .val (.int (Int32.ofNat i)), .val (.int (Int32.ofNat cs.length)), .val (.int (Int32.ofNat i)), .val (.int cj)] [(.int (Int32.ofNat i)), (.ref a1)])) rfl rfl (hb hby d_jdk_52_method_21_code_12) _ k) ?_
        refine Go.of (T' := Tj) (f' := (mkF m 15 #[.val (.ref a1), .val (.int (Int32.ofNat i)), .val (.ref a2), .val (.int (Int32.ofNat i)), .val (.int (Int32.ofNat cs.length)), .val (.int (Int32.ofNat i)), .val (.int (cs.getD i 0))] [])) (fun _ k => XS.istore Xj.here hx rfl (hb hby d_jdk_52_method_21_code_13) rfl (l' := #[.val (.ref a1), .val (.int (Int32.ofNat i)), .val (.ref a2), .val (.int (Int32.ofNat i)), .val (.int (Int32.ofNat cs.length)), .val (.int (Int32.ofNat i)), .val (.int (cs.getD i 0))]) rfl k) ?_
        refine Go.of (T' := Tj) (f' := (mkF m 17 #[.val (.ref a1), .val (.int (Int32.ofNat i)), .val (.ref a2), .val (.int (Int32.ofNat i)), .val (.int (Int32.ofNat cs.length)), .val (.int (Int32.ofNat i)), .val (.int (cs.getD i 0))] [(.int (cs.getD i 0))])) (fun _ k => XS.iload Xj.here hx rfl (hb hby d_jdk_52_method_21_code_15) rfl k) ?_
        refine Go.of (T' := Tj) (f' := (mkF m 20 #[.val (.ref a1), .val (.int (Int32.ofNat i)), .val (.ref a2), .val (.int (Int32.ofNat i)), .val (.int (Int32.ofNat cs.length)), .val (.int (Int32.ofNat i)), .val (.int (cs.getD i 0))] [(.int (255 : Int32)), (.int (cs.getD i 0))])) (fun _ k => XS.sipush Xj.here hx rfl (hb hby d_jdk_52_method_21_code_17) k) ?_
        by_cases hc20 : (255 : Int32) < (cs.getD i 0)
        ·
          refine Go.of (T' := Tj) (f' := (mkF m 23 #[.val (.ref a1), .val (.int (Int32.ofNat i)), .val (.ref a2), .val (.int (Int32.ofNat i)), .val (.int (Int32.ofNat cs.length)), .val (.int (Int32.ofNat i)), .val (.int (cs.getD i 0))] [])) (fun _ k => XS.icmpNo Xj.here hx rfl (hb hby d_jdk_52_method_21_code_20) rfl (tlt hc20).2.2.2 k) ?_
          refine Go.of (T' := Tj) (f' := (mkF m 25 #[.val (.ref a1), .val (.int (Int32.ofNat i)), .val (.ref a2), .val (.int (Int32.ofNat i)), .val (.int (Int32.ofNat cs.length)), .val (.int (Int32.ofNat i)), .val (.int (cs.getD i 0))] [(.int (Int32.ofNat i))])) (fun _ k => XS.iload Xj.here hx rfl (hb hby d_jdk_52_method_21_code_23) rfl k) ?_
          exact goRetI (Q := fun v h L => Mv h0 h [a2] L ∧ ∃ k : Nat, k < cs.length ∧ (255 : Int32) < cs.getD k 0 ∧ v = some (.int (Int32.ofNat k))) Xj hx (t := .int) hret hlk rfl (by simp) (hb hby d_jdk_52_method_21_code_25) K (by decide) (by decide) ej (⟨Mj, i, hi, hc20, rfl⟩)
        ·
          refine Go.of (T' := Tj) (f' := (mkF m 26 #[.val (.ref a1), .val (.int (Int32.ofNat i)), .val (.ref a2), .val (.int (Int32.ofNat i)), .val (.int (Int32.ofNat cs.length)), .val (.int (Int32.ofNat i)), .val (.int (cs.getD i 0))] [])) (fun _ k => XS.icmpYes Xj.here hx rfl (pc0 := 20) (pc' := 26) rfl (hb hby d_jdk_52_method_21_code_20) rfl (flt hc20).2.2.2 (by decide) (by decide) k) ?_
          refine Go.of (T' := Tj) (f' := (mkF m 27 #[.val (.ref a1), .val (.int (Int32.ofNat i)), .val (.ref a2), .val (.int (Int32.ofNat i)), .val (.int (Int32.ofNat cs.length)), .val (.int (Int32.ofNat i)), .val (.int (cs.getD i 0))] [(.ref a2)])) (fun _ k => XS.aloadN Xj.here hx rfl (hb hby d_jdk_52_method_21_code_26) rfl rfl k) ?_
          refine Go.of (T' := Tj) (f' := (mkF m 28 #[.val (.ref a1), .val (.int (Int32.ofNat i)), .val (.ref a2), .val (.int (Int32.ofNat i)), .val (.int (Int32.ofNat cs.length)), .val (.int (Int32.ofNat i)), .val (.int (cs.getD i 0))] [(.int (Int32.ofNat i)), (.ref a2)])) (fun _ k => XS.iloadN Xj.here hx rfl (hb hby d_jdk_52_method_21_code_27) rfl k) ?_
          refine Go.of (T' := Tj) (f' := (mkF m 30 #[.val (.ref a1), .val (.int (Int32.ofNat i)), .val (.ref a2), .val (.int (Int32.ofNat i)), .val (.int (Int32.ofNat cs.length)), .val (.int (Int32.ofNat i)), .val (.int (cs.getD i 0))] [(.int (cs.getD i 0)), (.int (Int32.ofNat i)), (.ref a2)])) (fun _ k => XS.iload Xj.here hx rfl (hb hby d_jdk_52_method_21_code_28) rfl k) ?_
          refine Go.of (T' := Tj) (f' := (mkF m 31 #[.val (.ref a1), .val (.int (Int32.ofNat i)), .val (.ref a2), .val (.int (Int32.ofNat i)), .val (.int (Int32.ofNat cs.length)), .val (.int (Int32.ofNat i)), .val (.int (cs.getD i 0))] [(.int ((cs.getD i 0).toInt8.toInt32)), (.int (Int32.ofNat i)), (.ref a2)])) (fun _ k => XS.i2b Xj.here hx rfl (hb hby d_jdk_52_method_21_code_30) rfl k) ?_
          obtain ⟨cl2, Ar2, cq2, Sz2, Nn2, Hs2, Gs2⟩ := id V_a2
          have hin2 : ¬ ((Int32.ofNat i) < 0 ∨ cl2.slots.size ≤ ((Int32.ofNat i)).toNatClampNeg) := by rw [inbS Sz2 (m := cs.length) (nat32 (by omega))]; exact ⟨nneg (by omega), by rw [nat32 (by omega)]; omega⟩
          obtain ⟨T2, h2, X2, e2, W2, st2⟩ := stB Xj hx hZ ej Ar2 (j := (Int32.ofNat i)) hin2 (g := (mkF m 31 #[.val (.ref a1), .val (.int (Int32.ofNat i)), .val (.ref a2), .val (.int (Int32.ofNat i)), .val (.int (Int32.ofNat cs.length)), .val (.int (Int32.ofNat i)), .val (.int (cs.getD i 0))] [(.int ((cs.getD i 0).toInt8.toInt32)), (.int (Int32.ofNat i)), (.ref a2)])) rfl rfl (hb hby d_jdk_52_method_21_code_31)
          have V2 := Arv.set Ar2 cq2 Sz2 Nn2 Hs2 Gs2 (fits_nar_byte _) W2 (i) (nat32 (by omega)) (by omega)
          have K2 := Keep.of_wr W2
          have M2 := Mj.wr W2 (Or.inl (List.mem_of_getElem? (i := 0) rfl))
          replace V_a1 := V_a1.keep K2 (ninS hne nin0)
          replace V_a2 := V2
          refine Go.of (T' := T2) (f' := (mkF m 32 #[.val (.ref a1), .val (.int (Int32.ofNat i)), .val (.ref a2), .val (.int (Int32.ofNat i)), .val (.int (Int32.ofNat cs.length)), .val (.int (Int32.ofNat i)), .val (.int (cs.getD i 0))] [])) st2 ?_
          refine Go.of (T' := T2) (f' := (mkF m 35 #[.val (.ref a1), .val (.int ((Int32.ofNat i) + (1 : Int32))), .val (.ref a2), .val (.int (Int32.ofNat i)), .val (.int (Int32.ofNat cs.length)), .val (.int (Int32.ofNat i)), .val (.int (cs.getD i 0))] [])) (fun _ k => XS.iinc X2.here hx rfl (hb hby d_jdk_52_method_21_code_32) rfl (l' := #[.val (.ref a1), .val (.int ((Int32.ofNat i) + (1 : Int32))), .val (.ref a2), .val (.int (Int32.ofNat i)), .val (.int (Int32.ofNat cs.length)), .val (.int (Int32.ofNat i)), .val (.int (cs.getD i 0))]) rfl k) ?_
          refine Go.of (T' := T2) (f' := (mkF m 38 #[.val (.ref a1), .val (.int ((Int32.ofNat i) + (1 : Int32))), .val (.ref a2), .val (.int ((Int32.ofNat i) + (1 : Int32))), .val (.int (Int32.ofNat cs.length)), .val (.int (Int32.ofNat i)), .val (.int (cs.getD i 0))] [])) (fun _ k => XS.iinc X2.here hx rfl (hb hby d_jdk_52_method_21_code_35) rfl (l' := #[.val (.ref a1), .val (.int ((Int32.ofNat i) + (1 : Int32))), .val (.ref a2), .val (.int ((Int32.ofNat i) + (1 : Int32))), .val (.int (Int32.ofNat cs.length)), .val (.int (Int32.ofNat i)), .val (.int (cs.getD i 0))]) rfl k) ?_
          refine Go.of (T' := T2) (f' := (mkF m 41 #[.val (.ref a1), .val (.int ((Int32.ofNat i) + (1 : Int32))), .val (.ref a2), .val (.int ((Int32.ofNat i) + (1 : Int32))), .val (.int (Int32.ofNat cs.length)), .val (.int ((Int32.ofNat i) + (1 : Int32))), .val (.int (cs.getD i 0))] [])) (fun _ k => XS.iinc X2.here hx rfl (hb hby d_jdk_52_method_21_code_38) rfl (l' := #[.val (.ref a1), .val (.int ((Int32.ofNat i) + (1 : Int32))), .val (.ref a2), .val (.int ((Int32.ofNat i) + (1 : Int32))), .val (.int (Int32.ofNat cs.length)), .val (.int ((Int32.ofNat i) + (1 : Int32))), .val (.int (cs.getD i 0))]) rfl k) ?_
          refine Go.of (T' := T2) (f' := (mkF m 3 #[.val (.ref a1), .val (.int ((Int32.ofNat i) + (1 : Int32))), .val (.ref a2), .val (.int ((Int32.ofNat i) + (1 : Int32))), .val (.int (Int32.ofNat cs.length)), .val (.int ((Int32.ofNat i) + (1 : Int32))), .val (.int (cs.getD i 0))] [])) (fun _ k => XS.goto X2.here hx rfl (pc0 := 41) (pc' := 3) rfl (hb hby d_jdk_52_method_21_code_41) (by decide) (by decide) k) ?_
          rw [show (Int32.ofNat i) + (1 : Int32) = Int32.ofNat (i + 1) from (Int32.ofNat_add _ _).symm]
          exact ih (i + 1) _ _ T2 h2 _ (by omega) hi (by rw [List.length_set]; exact hv) (allStep hall hc20) (standUp X2 (by decide) (by decide)) e2 M2 V_a1 V_a2
      ·
        refine Go.of (T' := Tj) (f' := (mkF m 44 #[.val (.ref a1), .val (.int (Int32.ofNat i)), .val (.ref a2), .val (.int (Int32.ofNat i)), .val (.int (Int32.ofNat cs.length)), .val (.int (Int32.ofNat i)), .val (.int cj)] [])) (fun _ k => XS.icmpYes Xj.here hx rfl (pc0 := 7) (pc' := 44) rfl (hb hby d_jdk_52_method_21_code_7) rfl (flt hc7).2.1 (by decide) (by decide) k) ?_
        refine Go.of (T' := Tj) (f' := (mkF m 46 #[.val (.ref a1), .val (.int (Int32.ofNat i)), .val (.ref a2), .val (.int (Int32.ofNat i)), .val (.int (Int32.ofNat cs.length)), .val (.int (Int32.ofNat i)), .val (.int cj)] [(.int (Int32.ofNat cs.length))])) (fun _ k => XS.iload Xj.here hx rfl (hb hby d_jdk_52_method_21_code_44) rfl k) ?_
        exact goRetI (Q := fun v h L => Mv h0 h [a2] L ∧ ∃ k : Nat, k < cs.length ∧ (255 : Int32) < cs.getD k 0 ∧ v = some (.int (Int32.ofNat k))) Xj hx (t := .int) hret hlk rfl (by simp) (hb hby d_jdk_52_method_21_code_46) K (by decide) (by decide) ej ((wideNo hwd hall (by first | exact Nat.le_of_not_lt fun q => hc7 ((ltN (by omega) (by omega)).mpr q) | omega)).elim)
  have hall : ∀ j, j < 0 → ¬ (255 : Int32) < cs.getD j 0 := fun j hj => absurd hj (Nat.not_lt_zero _)
  refine Go.of (T' := s₁) (f' := (mkF m 5 #[.val (.ref a1), .val (.int (Int32.ofNat 0)), .val (.ref a2), .val (.int (Int32.ofNat 0)), .val (.int (Int32.ofNat cs.length)), .val (.int (Int32.ofNat 0)), .unset] [(.int (Int32.ofNat 0))])) (fun _ k => XS.iload X0.here hx rfl (hb hby d_jdk_52_method_21_code_3) rfl k) ?_
  refine Go.of (T' := s₁) (f' := (mkF m 7 #[.val (.ref a1), .val (.int (Int32.ofNat 0)), .val (.ref a2), .val (.int (Int32.ofNat 0)), .val (.int (Int32.ofNat cs.length)), .val (.int (Int32.ofNat 0)), .unset] [(.int (Int32.ofNat cs.length)), (.int (Int32.ofNat 0))])) (fun _ k => XS.iload X0.here hx rfl (hb hby d_jdk_52_method_21_code_5) rfl k) ?_
  by_cases hc7 : (Int32.ofNat 0) < (Int32.ofNat cs.length)
  ·
    refine Go.of (T' := s₁) (f' := (mkF m 10 #[.val (.ref a1), .val (.int (Int32.ofNat 0)), .val (.ref a2), .val (.int (Int32.ofNat 0)), .val (.int (Int32.ofNat cs.length)), .val (.int (Int32.ofNat 0)), .unset] [])) (fun _ k => XS.icmpNo X0.here hx rfl (hb hby d_jdk_52_method_21_code_7) rfl (tlt hc7).2.1 k) ?_
    have hi : 0 < cs.length := (ltN (by omega) (by omega)).mp hc7
    refine Go.of (T' := s₁) (f' := (mkF m 11 #[.val (.ref a1), .val (.int (Int32.ofNat 0)), .val (.ref a2), .val (.int (Int32.ofNat 0)), .val (.int (Int32.ofNat cs.length)), .val (.int (Int32.ofNat 0)), .unset] [(.ref a1)])) (fun _ k => XS.aloadN X0.here hx rfl (hb hby d_jdk_52_method_21_code_10) rfl rfl k) ?_
    refine Go.of (T' := s₁) (f' := (mkF m 12 #[.val (.ref a1), .val (.int (Int32.ofNat 0)), .val (.ref a2), .val (.int (Int32.ofNat 0)), .val (.int (Int32.ofNat cs.length)), .val (.int (Int32.ofNat 0)), .unset] [(.int (Int32.ofNat 0)), (.ref a1)])) (fun _ k => XS.iloadN X0.here hx rfl (hb hby d_jdk_52_method_21_code_11) rfl k) ?_
    obtain ⟨cl3, Ar3, cq3, Sz3, Nn3, Hs3, Gs3⟩ := id V_a1
    have hin3 : ¬ ((Int32.ofNat 0) < 0 ∨ cl3.slots.size ≤ ((Int32.ofNat 0)).toNatClampNeg) := inbN Sz3 hi (by omega)
    have hat3 : cl3.slots[((Int32.ofNat 0)).toNatClampNeg]? = some (.int (cs.getD 0 0)) := Has.at Hs3 hin3 (by rw [nat32 (by omega)]; exact mapGet hi)
    refine Go.of (T' := s₁) (f' := (mkF m 13 #[.val (.ref a1), .val (.int (Int32.ofNat 0)), .val (.ref a2), .val (.int (Int32.ofNat 0)), .val (.int (Int32.ofNat cs.length)), .val (.int (Int32.ofNat 0)), .unset] [(.int (cs.getD 0 0))])) (fun _ k => X0.caload hx (j := (Int32.ofNat 0)) (v := (.int (cs.getD 0 0))) (by rw [e0]; exact Ar3.1) (State.isArrayOf_alike hZ.alike Ar3.2.1) Ar3.2.2 hin3 hat3 (g := (mkF m 12 #[.val (.ref a1), .val (.int (Int32.ofNat 0)), .val (.ref a2), .val (.int (Int32.ofNat 0)), .val (.int (Int32.ofNat cs.length)), .val (.int (Int32.ofNat 0)), .unset] [(.int (Int32.ofNat 0)), (.ref a1)])) rfl rfl (hb hby d_jdk_52_method_21_code_12) _ k) ?_
    refine Go.of (T' := s₁) (f' := (mkF m 15 #[.val (.ref a1), .val (.int (Int32.ofNat 0)), .val (.ref a2), .val (.int (Int32.ofNat 0)), .val (.int (Int32.ofNat cs.length)), .val (.int (Int32.ofNat 0)), .val (.int (cs.getD 0 0))] [])) (fun _ k => XS.istore X0.here hx rfl (hb hby d_jdk_52_method_21_code_13) rfl (l' := #[.val (.ref a1), .val (.int (Int32.ofNat 0)), .val (.ref a2), .val (.int (Int32.ofNat 0)), .val (.int (Int32.ofNat cs.length)), .val (.int (Int32.ofNat 0)), .val (.int (cs.getD 0 0))]) rfl k) ?_
    refine Go.of (T' := s₁) (f' := (mkF m 17 #[.val (.ref a1), .val (.int (Int32.ofNat 0)), .val (.ref a2), .val (.int (Int32.ofNat 0)), .val (.int (Int32.ofNat cs.length)), .val (.int (Int32.ofNat 0)), .val (.int (cs.getD 0 0))] [(.int (cs.getD 0 0))])) (fun _ k => XS.iload X0.here hx rfl (hb hby d_jdk_52_method_21_code_15) rfl k) ?_
    refine Go.of (T' := s₁) (f' := (mkF m 20 #[.val (.ref a1), .val (.int (Int32.ofNat 0)), .val (.ref a2), .val (.int (Int32.ofNat 0)), .val (.int (Int32.ofNat cs.length)), .val (.int (Int32.ofNat 0)), .val (.int (cs.getD 0 0))] [(.int (255 : Int32)), (.int (cs.getD 0 0))])) (fun _ k => XS.sipush X0.here hx rfl (hb hby d_jdk_52_method_21_code_17) k) ?_
    by_cases hc20 : (255 : Int32) < (cs.getD 0 0)
    ·
      refine Go.of (T' := s₁) (f' := (mkF m 23 #[.val (.ref a1), .val (.int (Int32.ofNat 0)), .val (.ref a2), .val (.int (Int32.ofNat 0)), .val (.int (Int32.ofNat cs.length)), .val (.int (Int32.ofNat 0)), .val (.int (cs.getD 0 0))] [])) (fun _ k => XS.icmpNo X0.here hx rfl (hb hby d_jdk_52_method_21_code_20) rfl (tlt hc20).2.2.2 k) ?_
      refine Go.of (T' := s₁) (f' := (mkF m 25 #[.val (.ref a1), .val (.int (Int32.ofNat 0)), .val (.ref a2), .val (.int (Int32.ofNat 0)), .val (.int (Int32.ofNat cs.length)), .val (.int (Int32.ofNat 0)), .val (.int (cs.getD 0 0))] [(.int (Int32.ofNat 0))])) (fun _ k => XS.iload X0.here hx rfl (hb hby d_jdk_52_method_21_code_23) rfl k) ?_
      exact goRetI (Q := fun v h L => Mv h0 h [a2] L ∧ ∃ k : Nat, k < cs.length ∧ (255 : Int32) < cs.getD k 0 ∧ v = some (.int (Int32.ofNat k))) X0 hx (t := .int) hret hlk rfl (by simp) (hb hby d_jdk_52_method_21_code_25) K (by decide) (by decide) e0 (⟨M0, 0, hi, hc20, rfl⟩)
    ·
      refine Go.of (T' := s₁) (f' := (mkF m 26 #[.val (.ref a1), .val (.int (Int32.ofNat 0)), .val (.ref a2), .val (.int (Int32.ofNat 0)), .val (.int (Int32.ofNat cs.length)), .val (.int (Int32.ofNat 0)), .val (.int (cs.getD 0 0))] [])) (fun _ k => XS.icmpYes X0.here hx rfl (pc0 := 20) (pc' := 26) rfl (hb hby d_jdk_52_method_21_code_20) rfl (flt hc20).2.2.2 (by decide) (by decide) k) ?_
      refine Go.of (T' := s₁) (f' := (mkF m 27 #[.val (.ref a1), .val (.int (Int32.ofNat 0)), .val (.ref a2), .val (.int (Int32.ofNat 0)), .val (.int (Int32.ofNat cs.length)), .val (.int (Int32.ofNat 0)), .val (.int (cs.getD 0 0))] [(.ref a2)])) (fun _ k => XS.aloadN X0.here hx rfl (hb hby d_jdk_52_method_21_code_26) rfl rfl k) ?_
      refine Go.of (T' := s₁) (f' := (mkF m 28 #[.val (.ref a1), .val (.int (Int32.ofNat 0)), .val (.ref a2), .val (.int (Int32.ofNat 0)), .val (.int (Int32.ofNat cs.length)), .val (.int (Int32.ofNat 0)), .val (.int (cs.getD 0 0))] [(.int (Int32.ofNat 0)), (.ref a2)])) (fun _ k => XS.iloadN X0.here hx rfl (hb hby d_jdk_52_method_21_code_27) rfl k) ?_
      refine Go.of (T' := s₁) (f' := (mkF m 30 #[.val (.ref a1), .val (.int (Int32.ofNat 0)), .val (.ref a2), .val (.int (Int32.ofNat 0)), .val (.int (Int32.ofNat cs.length)), .val (.int (Int32.ofNat 0)), .val (.int (cs.getD 0 0))] [(.int (cs.getD 0 0)), (.int (Int32.ofNat 0)), (.ref a2)])) (fun _ k => XS.iload X0.here hx rfl (hb hby d_jdk_52_method_21_code_28) rfl k) ?_
      refine Go.of (T' := s₁) (f' := (mkF m 31 #[.val (.ref a1), .val (.int (Int32.ofNat 0)), .val (.ref a2), .val (.int (Int32.ofNat 0)), .val (.int (Int32.ofNat cs.length)), .val (.int (Int32.ofNat 0)), .val (.int (cs.getD 0 0))] [(.int ((cs.getD 0 0).toInt8.toInt32)), (.int (Int32.ofNat 0)), (.ref a2)])) (fun _ k => XS.i2b X0.here hx rfl (hb hby d_jdk_52_method_21_code_30) rfl k) ?_
      obtain ⟨cl4, Ar4, cq4, Sz4, Nn4, Hs4, Gs4⟩ := id V_a2
      have hin4 : ¬ ((Int32.ofNat 0) < 0 ∨ cl4.slots.size ≤ ((Int32.ofNat 0)).toNatClampNeg) := by rw [inbS Sz4 (m := cs.length) (nat32 (by omega))]; exact ⟨nneg (by omega), by rw [nat32 (by omega)]; omega⟩
      obtain ⟨T4, h4, X4, e4, W4, st4⟩ := stB X0 hx hZ e0 Ar4 (j := (Int32.ofNat 0)) hin4 (g := (mkF m 31 #[.val (.ref a1), .val (.int (Int32.ofNat 0)), .val (.ref a2), .val (.int (Int32.ofNat 0)), .val (.int (Int32.ofNat cs.length)), .val (.int (Int32.ofNat 0)), .val (.int (cs.getD 0 0))] [(.int ((cs.getD 0 0).toInt8.toInt32)), (.int (Int32.ofNat 0)), (.ref a2)])) rfl rfl (hb hby d_jdk_52_method_21_code_31)
      have V4 := Arv.set Ar4 cq4 Sz4 Nn4 Hs4 Gs4 (fits_nar_byte _) W4 (0) (nat32 (by omega)) (by omega)
      have K4 := Keep.of_wr W4
      have M4 := M0.wr W4 (Or.inl (List.mem_of_getElem? (i := 0) rfl))
      replace V_a1 := V_a1.keep K4 (ninS hne nin0)
      replace V_a2 := V4
      refine Go.of (T' := T4) (f' := (mkF m 32 #[.val (.ref a1), .val (.int (Int32.ofNat 0)), .val (.ref a2), .val (.int (Int32.ofNat 0)), .val (.int (Int32.ofNat cs.length)), .val (.int (Int32.ofNat 0)), .val (.int (cs.getD 0 0))] [])) st4 ?_
      refine Go.of (T' := T4) (f' := (mkF m 35 #[.val (.ref a1), .val (.int ((Int32.ofNat 0) + (1 : Int32))), .val (.ref a2), .val (.int (Int32.ofNat 0)), .val (.int (Int32.ofNat cs.length)), .val (.int (Int32.ofNat 0)), .val (.int (cs.getD 0 0))] [])) (fun _ k => XS.iinc X4.here hx rfl (hb hby d_jdk_52_method_21_code_32) rfl (l' := #[.val (.ref a1), .val (.int ((Int32.ofNat 0) + (1 : Int32))), .val (.ref a2), .val (.int (Int32.ofNat 0)), .val (.int (Int32.ofNat cs.length)), .val (.int (Int32.ofNat 0)), .val (.int (cs.getD 0 0))]) rfl k) ?_
      refine Go.of (T' := T4) (f' := (mkF m 38 #[.val (.ref a1), .val (.int ((Int32.ofNat 0) + (1 : Int32))), .val (.ref a2), .val (.int ((Int32.ofNat 0) + (1 : Int32))), .val (.int (Int32.ofNat cs.length)), .val (.int (Int32.ofNat 0)), .val (.int (cs.getD 0 0))] [])) (fun _ k => XS.iinc X4.here hx rfl (hb hby d_jdk_52_method_21_code_35) rfl (l' := #[.val (.ref a1), .val (.int ((Int32.ofNat 0) + (1 : Int32))), .val (.ref a2), .val (.int ((Int32.ofNat 0) + (1 : Int32))), .val (.int (Int32.ofNat cs.length)), .val (.int (Int32.ofNat 0)), .val (.int (cs.getD 0 0))]) rfl k) ?_
      refine Go.of (T' := T4) (f' := (mkF m 41 #[.val (.ref a1), .val (.int ((Int32.ofNat 0) + (1 : Int32))), .val (.ref a2), .val (.int ((Int32.ofNat 0) + (1 : Int32))), .val (.int (Int32.ofNat cs.length)), .val (.int ((Int32.ofNat 0) + (1 : Int32))), .val (.int (cs.getD 0 0))] [])) (fun _ k => XS.iinc X4.here hx rfl (hb hby d_jdk_52_method_21_code_38) rfl (l' := #[.val (.ref a1), .val (.int ((Int32.ofNat 0) + (1 : Int32))), .val (.ref a2), .val (.int ((Int32.ofNat 0) + (1 : Int32))), .val (.int (Int32.ofNat cs.length)), .val (.int ((Int32.ofNat 0) + (1 : Int32))), .val (.int (cs.getD 0 0))]) rfl k) ?_
      refine Go.of (T' := T4) (f' := (mkF m 3 #[.val (.ref a1), .val (.int ((Int32.ofNat 0) + (1 : Int32))), .val (.ref a2), .val (.int ((Int32.ofNat 0) + (1 : Int32))), .val (.int (Int32.ofNat cs.length)), .val (.int ((Int32.ofNat 0) + (1 : Int32))), .val (.int (cs.getD 0 0))] [])) (fun _ k => XS.goto X4.here hx rfl (pc0 := 41) (pc' := 3) rfl (hb hby d_jdk_52_method_21_code_41) (by decide) (by decide) k) ?_
      rw [show (Int32.ofNat 0) + (1 : Int32) = Int32.ofNat (0 + 1) from (Int32.ofNat_add _ _).symm]
      exact J cs.length (0 + 1) _ _ T4 h4 _ (by omega) hi (by rw [List.length_set]; exact hv) (allStep hall hc20) (standUp X4 (by decide) (by decide)) e4 M4 V_a1 V_a2
  ·
    refine Go.of (T' := s₁) (f' := (mkF m 44 #[.val (.ref a1), .val (.int (Int32.ofNat 0)), .val (.ref a2), .val (.int (Int32.ofNat 0)), .val (.int (Int32.ofNat cs.length)), .val (.int (Int32.ofNat 0)), .unset] [])) (fun _ k => XS.icmpYes X0.here hx rfl (pc0 := 7) (pc' := 44) rfl (hb hby d_jdk_52_method_21_code_7) rfl (flt hc7).2.1 (by decide) (by decide) k) ?_
    refine Go.of (T' := s₁) (f' := (mkF m 46 #[.val (.ref a1), .val (.int (Int32.ofNat 0)), .val (.ref a2), .val (.int (Int32.ofNat 0)), .val (.int (Int32.ofNat cs.length)), .val (.int (Int32.ofNat 0)), .unset] [(.int (Int32.ofNat cs.length))])) (fun _ k => XS.iload X0.here hx rfl (hb hby d_jdk_52_method_21_code_44) rfl k) ?_
    exact goRetI (Q := fun v h L => Mv h0 h [a2] L ∧ ∃ k : Nat, k < cs.length ∧ (255 : Int32) < cs.getD k 0 ∧ v = some (.int (Int32.ofNat k))) X0 hx (t := .int) hret hlk rfl (by simp) (hb hby d_jdk_52_method_21_code_46) K (by decide) (by decide) e0 ((wideNo hwd hall (by first | exact Nat.le_of_not_lt fun q => hc7 ((ltN (by omega) (by omega)).mpr q) | omega)).elim)
theorem ef_rm_cp (m : MethodId) (x0 : Addr) (x1 : Int32) (x2 : Int32)  : entryFrame m #[(.ref x0), (.int x1), (.int x2)] 6 = mkF m 0 #[.val (.ref x0), .val (.int x1), .val (.int x2), .unset, .unset, .unset] [] := by first | (simp [entryFrame, mkF, argsToLocals, Value.category]; done) | rfl
theorem d_jdk_52_method_16_code_0 : decode jdk_52_method_16_code 0 = .ok (.iload_n 2, 1) := by decide +kernel
theorem d_jdk_52_method_16_code_1 : decode jdk_52_method_16_code 1 = .ok (.newarray .byte, 2) := by decide +kernel
theorem d_jdk_52_method_16_code_3 : decode jdk_52_method_16_code 3 = .ok (.astore_n 3, 1) := by decide +kernel
theorem d_jdk_52_method_16_code_4 : decode jdk_52_method_16_code 4 = .ok (.aload_n 0, 1) := by decide +kernel
theorem d_jdk_52_method_16_code_5 : decode jdk_52_method_16_code 5 = .ok (.iload_n 1, 1) := by decide +kernel
theorem d_jdk_52_method_16_code_6 : decode jdk_52_method_16_code 6 = .ok (.aload_n 3, 1) := by decide +kernel
theorem d_jdk_52_method_16_code_7 : decode jdk_52_method_16_code 7 = .ok (.iconst 0, 1) := by decide +kernel
theorem d_jdk_52_method_16_code_8 : decode jdk_52_method_16_code 8 = .ok (.iload_n 2, 1) := by decide +kernel
theorem d_jdk_52_method_16_code_9 : decode jdk_52_method_16_code 9 = .ok (.invokestatic 115, 3) := by decide +kernel
theorem pd___CI_BII_I : parseMethodDescriptor "([CI[BII)I" = some ⟨[(.array .char), .int, (.array .byte), .int, .int], some .int⟩ := by decide +kernel
theorem d_jdk_52_method_16_code_12 : decode jdk_52_method_16_code 12 = .ok (.istore 4, 2) := by decide +kernel
theorem d_jdk_52_method_16_code_14 : decode jdk_52_method_16_code 14 = .ok (.iload 4, 2) := by decide +kernel
theorem d_jdk_52_method_16_code_16 : decode jdk_52_method_16_code 16 = .ok (.iload_n 2, 1) := by decide +kernel
theorem d_jdk_52_method_16_code_17 : decode jdk_52_method_16_code 17 = .ok (.if_icmp .eq 40, 3) := by decide +kernel
theorem d_jdk_52_method_16_code_20 : decode jdk_52_method_16_code 20 = .ok (.aload_n 0, 1) := by decide +kernel
theorem d_jdk_52_method_16_code_21 : decode jdk_52_method_16_code 21 = .ok (.iload_n 1, 1) := by decide +kernel
theorem d_jdk_52_method_16_code_22 : decode jdk_52_method_16_code 22 = .ok (.iload_n 2, 1) := by decide +kernel
theorem d_jdk_52_method_16_code_23 : decode jdk_52_method_16_code 23 = .ok (.invokestatic 119, 3) := by decide +kernel
theorem pd___CII__B : parseMethodDescriptor "([CII)[B" = some ⟨[(.array .char), .int, .int], some (.array .byte)⟩ := by decide +kernel
theorem d_jdk_52_method_16_code_26 : decode jdk_52_method_16_code 26 = .ok (.astore 5, 2) := by decide +kernel
theorem d_jdk_52_method_16_code_28 : decode jdk_52_method_16_code 28 = .ok (.aload 5, 2) := by decide +kernel
theorem d_jdk_52_method_16_code_30 : decode jdk_52_method_16_code 30 = .ok (.iload 4, 2) := by decide +kernel
theorem d_jdk_52_method_16_code_32 : decode jdk_52_method_16_code 32 = .ok (.invokestatic 71, 3) := by decide +kernel
theorem pd___BI_C : parseMethodDescriptor "([BI)C" = some ⟨[(.array .byte), .int], some .char⟩ := by decide +kernel
theorem d_jdk_52_method_16_code_35 : decode jdk_52_method_16_code 35 = .ok (.sipush 255, 3) := by decide +kernel
theorem d_jdk_52_method_16_code_38 : decode jdk_52_method_16_code 38 = .ok (.if_icmp .gt 16, 3) := by decide +kernel
theorem d_jdk_52_method_16_code_54 : decode jdk_52_method_16_code 54 = .ok (.aload 5, 2) := by decide +kernel
theorem d_jdk_52_method_16_code_56 : decode jdk_52_method_16_code 56 = .ok (.areturn, 1) := by decide +kernel
set_option maxRecDepth 65536 in
set_option maxHeartbeats 40000000 in
theorem rm_cp (l : Launch) (Z : State) (a0 : Array Value) (hw : ∀ d ∈ tables_1, d.before a0 Z = true) (a1 : Addr) (ka : ClassId) (cs : List Int32) (h0 : Heap) (V_a1 : Arv Z h0 a1 ka .char (Int32.ofNat cs.length) (cs.map Value.int) (.int (0 : Int32))) (h8 : cs.length ≤ 8) (hwd : ∃ c ∈ cs, (255 : Int32) < c) (hbr : ∀ c ∈ cs, ¬ c < 0 ∧ ¬ (65535 : Int32) < c) (Z_ad : Sta Z h0 "java/lang/StringUTF16" "$assertionsDisabled" "Z" (.int (1 : Int32))) (Z_hs : Sta Z h0 "java/lang/StringUTF16" "HI_BYTE_SHIFT" "I" (.int (0 : Int32))) (Z_ls : Sta Z h0 "java/lang/StringUTF16" "LO_BYTE_SHIFT" "I" (.int (8 : Int32))) :
    MeetsW l Z (⟨"java/lang/StringUTF16", "compress", "([CII)[B"⟩ : MethodName) jdk_52_method_16_code 6 (some (.array .byte)) ({ frames := 3, cells := 2, slots := 24, locals := 40 } : Room) #[(.ref a1), (.int (0 : Int32)), (.int (Int32.ofNat cs.length))] h0 (fun v h L => Mv h0 h [] L ∧ ∃ (b : Addr) (k : ClassId), v = some (.ref b) ∧ h0.size ≤ b ∧ Arv Z h b k .byte (Int32.ofNat (2 * cs.length)) (StrChars.Road.wideBytes cs) (.int (0 : Int32))) := by
  refine MeetsW.of (plainFor_of_name pn_java_lang_StringUTF16) ?_
  intro p e s m below meth c s₁ P hx hby hml hZ hown hnm hret hlk X0 e0 K
  have M0 : Mv h0 h0 [] [] := Mv.refl _ _
  refine Go.cast (ef_rm_cp m a1 (0 : Int32) (Int32.ofNat cs.length) ) ?_
  have hl : cs.length ≤ 4000 := by omega
  refine Go.of (T' := s₁) (f' := (mkF m 1 #[.val (.ref a1), .val (.int (0 : Int32)), .val (.int (Int32.ofNat cs.length)), .unset, .unset, .unset] [(.int (Int32.ofNat cs.length))])) (fun _ k => XS.iloadN X0.here hx rfl (hb hby d_jdk_52_method_16_code_0) rfl k) ?_
  obtain ⟨T1, h1, k1, X1, e1, E1, A1, st1⟩ := newP X0 hx hZ (hw _ (List.mem_of_getElem? (i := 23) rfl)) e0 (g := (mkF m 1 #[.val (.ref a1), .val (.int (0 : Int32)), .val (.int (Int32.ofNat cs.length)), .unset, .unset, .unset] [(.int (Int32.ofNat cs.length))])) rfl (hb hby d_jdk_52_method_16_code_1) rfl (nneg (by omega)) (cap := 8) (by rw [nat32 (by omega)]; omega) (by decide) (by decide) (by decide)
  obtain ⟨b1, g1⟩ : ∃ z, z = h0.size := ⟨_, rfl⟩
  rw [← g1] at A1 st1
  have ne_a1_b1 : a1 ≠ b1 := Nat.ne_of_lt (Nat.lt_of_lt_of_le V_a1.lt (Nat.le_of_eq g1.symm))
  have fr_b1 : h0.size ≤ b1 := Nat.le_trans M0.le (Nat.le_of_eq g1.symm)
  have K1 := keepE E1
  have M1 := M0.ext E1
  replace V_a1 := V_a1.keep K1 nin0
  replace Z_ad := StaKeep Z_ad K1 all0
  replace Z_hs := StaKeep Z_hs K1 all0
  replace Z_ls := StaKeep Z_ls K1 all0
  have V_b1 : Arv Z h1 b1 k1 .byte (Int32.ofNat cs.length) [] (.int (0 : Int32)) := Arv.new A1 (nneg (by omega))
  refine Go.of (T' := T1) (f' := (mkF m 3 #[.val (.ref a1), .val (.int (0 : Int32)), .val (.int (Int32.ofNat cs.length)), .unset, .unset, .unset] [(.ref b1)])) st1 ?_
  refine Go.of (T' := T1) (f' := (mkF m 4 #[.val (.ref a1), .val (.int (0 : Int32)), .val (.int (Int32.ofNat cs.length)), .val (.ref b1), .unset, .unset] [])) (fun _ k => XS.astoreN X1.here hx rfl (hb hby d_jdk_52_method_16_code_3) rfl rfl (l' := #[.val (.ref a1), .val (.int (0 : Int32)), .val (.int (Int32.ofNat cs.length)), .val (.ref b1), .unset, .unset]) rfl k) ?_
  refine Go.of (T' := T1) (f' := (mkF m 5 #[.val (.ref a1), .val (.int (0 : Int32)), .val (.int (Int32.ofNat cs.length)), .val (.ref b1), .unset, .unset] [(.ref a1)])) (fun _ k => XS.aloadN X1.here hx rfl (hb hby d_jdk_52_method_16_code_4) rfl rfl k) ?_
  refine Go.of (T' := T1) (f' := (mkF m 6 #[.val (.ref a1), .val (.int (0 : Int32)), .val (.int (Int32.ofNat cs.length)), .val (.ref b1), .unset, .unset] [(.int (0 : Int32)), (.ref a1)])) (fun _ k => XS.iloadN X1.here hx rfl (hb hby d_jdk_52_method_16_code_5) rfl k) ?_
  refine Go.of (T' := T1) (f' := (mkF m 7 #[.val (.ref a1), .val (.int (0 : Int32)), .val (.int (Int32.ofNat cs.length)), .val (.ref b1), .unset, .unset] [(.ref b1), (.int (0 : Int32)), (.ref a1)])) (fun _ k => XS.aloadN X1.here hx rfl (hb hby d_jdk_52_method_16_code_6) rfl rfl k) ?_
  refine Go.of (T' := T1) (f' := (mkF m 8 #[.val (.ref a1), .val (.int (0 : Int32)), .val (.int (Int32.ofNat cs.length)), .val (.ref b1), .unset, .unset] [(.int (0 : Int32)), (.ref b1), (.int (0 : Int32)), (.ref a1)])) (fun _ k => XS.iconst X1.here hx rfl (hb hby d_jdk_52_method_16_code_7) k) ?_
  refine Go.of (T' := T1) (f' := (mkF m 9 #[.val (.ref a1), .val (.int (0 : Int32)), .val (.int (Int32.ofNat cs.length)), .val (.ref b1), .unset, .unset] [(.int (Int32.ofNat cs.length)), (.int (0 : Int32)), (.ref b1), (.int (0 : Int32)), (.ref a1)])) (fun _ k => XS.iloadN X1.here hx rfl (hb hby d_jdk_52_method_16_code_8) rfl k) ?_
  refine goS X1 hx hZ hown (hw _ (List.mem_of_getElem? (i := 86) rfl)) (hw _ (List.mem_of_getElem? (i := 87) rfl)) (hw _ (List.mem_of_getElem? (i := 84) rfl)) (hw _ (List.mem_of_getElem? (i := 88) rfl)) (by decide) (C := 0) (S := 0) ((rm_ci l Z a0 hw a1 b1 ka k1 cs _ h1 V_a1 h8 (V_b1.pad (pad_rep [] _ cs.length)) (by simp) ne_a1_b1 hwd).bk (W := 0) hZ (hw _ (List.mem_of_getElem? (i := 88) rfl)) (hw _ (List.mem_of_getElem? (i := 84) rfl)) (by decide) (by decide)) e1 (argsL := [(.ref a1), (.int (0 : Int32)), (.ref b1), (.int (0 : Int32)), (.int (Int32.ofNat cs.length))]) (rest := []) (by rw [hml]; rfl) (lenOf pd___CI_BII_I rfl) rfl rfl (hb hby d_jdk_52_method_16_code_9) (Nat.le_of_eq rfl) (by decide) (by decide) ?_
  intro v2 T2 L2 X2 hQ2
  obtain ⟨h2, e2⟩ : ∃ z, T2.heap = z := ⟨_, rfl⟩
  rw [e2] at hQ2
  have V_b1_o := V_b1
  obtain ⟨Mc2, kk, hkk, hgt, rfl⟩ := hQ2
  have M2 := M1.app Mc2 (allS (Or.inr fr_b1) all0)
  replace V_a1 := V_a1.keep Mc2.1 (ninS ne_a1_b1 nin0)
  replace Z_ad := StaKeep Z_ad Mc2.1 (allS (staArv V_b1_o) all0)
  replace Z_hs := StaKeep Z_hs Mc2.1 (allS (staArv V_b1_o) all0)
  replace Z_ls := StaKeep Z_ls Mc2.1 (allS (staArv V_b1_o) all0)
  show Go p e below P T2 (mkF m 12 #[.val (.ref a1), .val (.int (0 : Int32)), .val (.int (Int32.ofNat cs.length)), .val (.ref b1), .unset, .unset] [(.int (Int32.ofNat kk))])
  refine Go.of (T' := T2) (f' := (mkF m 14 #[.val (.ref a1), .val (.int (0 : Int32)), .val (.int (Int32.ofNat cs.length)), .val (.ref b1), .val (.int (Int32.ofNat kk)), .unset] [])) (fun _ k => XS.istore X2.here hx rfl (hb hby d_jdk_52_method_16_code_12) rfl (l' := #[.val (.ref a1), .val (.int (0 : Int32)), .val (.int (Int32.ofNat cs.length)), .val (.ref b1), .val (.int (Int32.ofNat kk)), .unset]) rfl k) ?_
  refine Go.of (T' := T2) (f' := (mkF m 16 #[.val (.ref a1), .val (.int (0 : Int32)), .val (.int (Int32.ofNat cs.length)), .val (.ref b1), .val (.int (Int32.ofNat kk)), .unset] [(.int (Int32.ofNat kk))])) (fun _ k => XS.iload X2.here hx rfl (hb hby d_jdk_52_method_16_code_14) rfl k) ?_
  refine Go.of (T' := T2) (f' := (mkF m 17 #[.val (.ref a1), .val (.int (0 : Int32)), .val (.int (Int32.ofNat cs.length)), .val (.ref b1), .val (.int (Int32.ofNat kk)), .unset] [(.int (Int32.ofNat cs.length)), (.int (Int32.ofNat kk))])) (fun _ k => XS.iloadN X2.here hx rfl (hb hby d_jdk_52_method_16_code_16) rfl k) ?_
  have hc17 : ¬ ((Int32.ofNat kk) = (Int32.ofNat cs.length)) := neN (by omega) (by omega) (by omega)
  refine Go.of (T' := T2) (f' := (mkF m 20 #[.val (.ref a1), .val (.int (0 : Int32)), .val (.int (Int32.ofNat cs.length)), .val (.ref b1), .val (.int (Int32.ofNat kk)), .unset] [])) (fun _ k => XS.icmpNo X2.here hx rfl (hb hby d_jdk_52_method_16_code_17) rfl (feq hc17).1 k) ?_
  refine Go.of (T' := T2) (f' := (mkF m 21 #[.val (.ref a1), .val (.int (0 : Int32)), .val (.int (Int32.ofNat cs.length)), .val (.ref b1), .val (.int (Int32.ofNat kk)), .unset] [(.ref a1)])) (fun _ k => XS.aloadN X2.here hx rfl (hb hby d_jdk_52_method_16_code_20) rfl rfl k) ?_
  refine Go.of (T' := T2) (f' := (mkF m 22 #[.val (.ref a1), .val (.int (0 : Int32)), .val (.int (Int32.ofNat cs.length)), .val (.ref b1), .val (.int (Int32.ofNat kk)), .unset] [(.int (0 : Int32)), (.ref a1)])) (fun _ k => XS.iloadN X2.here hx rfl (hb hby d_jdk_52_method_16_code_21) rfl k) ?_
  refine Go.of (T' := T2) (f' := (mkF m 23 #[.val (.ref a1), .val (.int (0 : Int32)), .val (.int (Int32.ofNat cs.length)), .val (.ref b1), .val (.int (Int32.ofNat kk)), .unset] [(.int (Int32.ofNat cs.length)), (.int (0 : Int32)), (.ref a1)])) (fun _ k => XS.iloadN X2.here hx rfl (hb hby d_jdk_52_method_16_code_22) rfl k) ?_
  refine goS X2 hx hZ hown (hw _ (List.mem_of_getElem? (i := 98) rfl)) (hw _ (List.mem_of_getElem? (i := 99) rfl)) (hw _ (List.mem_of_getElem? (i := 84) rfl)) (hw _ (List.mem_of_getElem? (i := 100) rfl)) (by decide) (C := 1) (S := 16) ((rm_tb l Z a0 hw a1 ka cs h2 V_a1 h8 Z_ad Z_hs Z_ls).bk (W := 0) hZ (hw _ (List.mem_of_getElem? (i := 100) rfl)) (hw _ (List.mem_of_getElem? (i := 84) rfl)) (by decide) (by decide)) e2 (argsL := [(.ref a1), (.int (0 : Int32)), (.int (Int32.ofNat cs.length))]) (rest := []) (by rw [hml]; rfl) (lenOf pd___CII__B rfl) rfl rfl (hb hby d_jdk_52_method_16_code_23) (Nat.le_of_eq rfl) (by decide) (by decide) ?_
  intro v3 T3 L3 X3 hQ3
  obtain ⟨h3, e3⟩ : ∃ z, T3.heap = z := ⟨_, rfl⟩
  rw [e3] at hQ3
  obtain ⟨Mc3, b3, k3, rfl, le3, V_b3⟩ := hQ3
  have ne_a1_b3 : a1 ≠ b3 := Nat.ne_of_lt (Nat.lt_of_lt_of_le V_a1.lt le3)
  have fr_b3 : h0.size ≤ b3 := Nat.le_trans M2.le le3
  have M3 := M2.app0 Mc3
  replace V_a1 := V_a1.keep Mc3.1 nin0
  replace Z_ad := StaKeep Z_ad Mc3.1 all0
  replace Z_hs := StaKeep Z_hs Mc3.1 all0
  replace Z_ls := StaKeep Z_ls Mc3.1 all0
  show Go p e below P T3 (mkF m 26 #[.val (.ref a1), .val (.int (0 : Int32)), .val (.int (Int32.ofNat cs.length)), .val (.ref b1), .val (.int (Int32.ofNat kk)), .unset] [(.ref b3)])
  refine Go.of (T' := T3) (f' := (mkF m 28 #[.val (.ref a1), .val (.int (0 : Int32)), .val (.int (Int32.ofNat cs.length)), .val (.ref b1), .val (.int (Int32.ofNat kk)), .val (.ref b3)] [])) (fun _ k => XS.astore X3.here hx rfl (hb hby d_jdk_52_method_16_code_26) rfl rfl (l' := #[.val (.ref a1), .val (.int (0 : Int32)), .val (.int (Int32.ofNat cs.length)), .val (.ref b1), .val (.int (Int32.ofNat kk)), .val (.ref b3)]) rfl k) ?_
  refine Go.of (T' := T3) (f' := (mkF m 30 #[.val (.ref a1), .val (.int (0 : Int32)), .val (.int (Int32.ofNat cs.length)), .val (.ref b1), .val (.int (Int32.ofNat kk)), .val (.ref b3)] [(.ref b3)])) (fun _ k => XS.aload X3.here hx rfl (hb hby d_jdk_52_method_16_code_28) rfl rfl k) ?_
  refine Go.of (T' := T3) (f' := (mkF m 32 #[.val (.ref a1), .val (.int (0 : Int32)), .val (.int (Int32.ofNat cs.length)), .val (.ref b1), .val (.int (Int32.ofNat kk)), .val (.ref b3)] [(.int (Int32.ofNat kk)), (.ref b3)])) (fun _ k => XS.iload X3.here hx rfl (hb hby d_jdk_52_method_16_code_30) rfl k) ?_
  refine goS X3 hx hZ hown (hw _ (List.mem_of_getElem? (i := 114) rfl)) (hw _ (List.mem_of_getElem? (i := 115) rfl)) (hw _ (List.mem_of_getElem? (i := 84) rfl)) (hw _ (List.mem_of_getElem? (i := 116) rfl)) (by decide) (C := 0) (S := 0) ((rm_getChar l Z a0 hw b3 k3 cs kk h3 V_b3 hl hkk hbr Z_ad Z_hs Z_ls).bk (W := 0) hZ (hw _ (List.mem_of_getElem? (i := 116) rfl)) (hw _ (List.mem_of_getElem? (i := 84) rfl)) (by decide) (by decide)) e3 (argsL := [(.ref b3), (.int (Int32.ofNat kk))]) (rest := []) (by rw [hml]; rfl) (lenOf pd___BI_C rfl) rfl rfl (hb hby d_jdk_52_method_16_code_32) (Nat.le_of_eq rfl) (by decide) (by decide) ?_
  intro v4 T4 L4 X4 hQ4
  obtain ⟨nq4, e4, rfl⟩ := hQ4
  replace X4 := standNil X4 nq4
  show Go p e below P T4 (mkF m 35 #[.val (.ref a1), .val (.int (0 : Int32)), .val (.int (Int32.ofNat cs.length)), .val (.ref b1), .val (.int (Int32.ofNat kk)), .val (.ref b3)] [(.int (cs.getD kk 0))])
  refine Go.of (T' := T4) (f' := (mkF m 38 #[.val (.ref a1), .val (.int (0 : Int32)), .val (.int (Int32.ofNat cs.length)), .val (.ref b1), .val (.int (Int32.ofNat kk)), .val (.ref b3)] [(.int (255 : Int32)), (.int (cs.getD kk 0))])) (fun _ k => XS.sipush X4.here hx rfl (hb hby d_jdk_52_method_16_code_35) k) ?_
  have hc38 : (255 : Int32) < (cs.getD kk 0) := hgt
  refine Go.of (T' := T4) (f' := (mkF m 54 #[.val (.ref a1), .val (.int (0 : Int32)), .val (.int (Int32.ofNat cs.length)), .val (.ref b1), .val (.int (Int32.ofNat kk)), .val (.ref b3)] [])) (fun _ k => XS.icmpYes X4.here hx rfl (pc0 := 38) (pc' := 54) rfl (hb hby d_jdk_52_method_16_code_38) rfl (tlt hc38).2.2.1 (by decide) (by decide) k) ?_
  refine Go.of (T' := T4) (f' := (mkF m 56 #[.val (.ref a1), .val (.int (0 : Int32)), .val (.int (Int32.ofNat cs.length)), .val (.ref b1), .val (.int (Int32.ofNat kk)), .val (.ref b3)] [(.ref b3)])) (fun _ k => XS.aload X4.here hx rfl (hb hby d_jdk_52_method_16_code_54) rfl rfl k) ?_
  exact goRetR (Q := fun v h L => Mv h0 h [] L ∧ ∃ (b : Addr) (k : ClassId), v = some (.ref b) ∧ h0.size ≤ b ∧ Arv Z h b k .byte (Int32.ofNat (2 * cs.length)) (StrChars.Road.wideBytes cs) (.int (0 : Int32))) X4 hx hret rfl hlk rfl rfl (hb hby d_jdk_52_method_16_code_56) K (by decide) (by decide) e4 (⟨M3, b3, _, rfl, fr_b3, V_b3⟩)
theorem ef_rm_cfa (m : MethodId) (x0 : Addr) (x1 : Int32)  : entryFrame m #[(.ref x0), (.int x1)] 2 = mkF m 0 #[.val (.ref x0), .val (.int x1)] [] := by first | (simp [entryFrame, mkF, argsToLocals, Value.category]; done) | rfl
theorem d_jdk_52_method_15_code_0 : decode jdk_52_method_15_code 0 = .ok (.iload_n 1, 1) := by decide +kernel
theorem d_jdk_52_method_15_code_1 : decode jdk_52_method_15_code 1 = .ok (.aload_n 0, 1) := by decide +kernel
theorem d_jdk_52_method_15_code_2 : decode jdk_52_method_15_code 2 = .ok (.arraylength, 1) := by decide +kernel
theorem d_jdk_52_method_15_code_3 : decode jdk_52_method_15_code 3 = .ok (.isub, 1) := by decide +kernel
theorem d_jdk_52_method_15_code_4 : decode jdk_52_method_15_code 4 = .ok (.bipush 31, 2) := by decide +kernel
theorem d_jdk_52_method_15_code_6 : decode jdk_52_method_15_code 6 = .ok (.iushr, 1) := by decide +kernel
theorem d_jdk_52_method_15_code_7 : decode jdk_52_method_15_code 7 = .ok (.i2b, 1) := by decide +kernel
theorem d_jdk_52_method_15_code_8 : decode jdk_52_method_15_code 8 = .ok (.ireturn, 1) := by decide +kernel
set_option maxRecDepth 65536 in
set_option maxHeartbeats 40000000 in
theorem rm_cfa (l : Launch) (Z : State) (a0 : Array Value) (hw : ∀ d ∈ tables_1, d.before a0 Z = true) (a1 : Addr) (ka : ClassId) (n : Nat) (vs : List Value) (h0 : Heap) (V_a1 : Arv Z h0 a1 ka .byte (Int32.ofNat (2 * n)) vs (.int (0 : Int32))) (h8 : n ≤ 8) (h1 : 0 < n) :
    MeetsW l Z (⟨"java/lang/StringUTF16", "coderFromArrayLen", "([BI)B"⟩ : MethodName) jdk_52_method_15_code 2 (some .byte) ({ frames := 0, cells := 0, slots := 0, locals := 0 } : Room) #[(.ref a1), (.int (Int32.ofNat n))] h0 (Pu h0 (fun v => v = some (.int 1))) := by
  refine MeetsW.of (plainFor_of_name pn_java_lang_StringUTF16) ?_
  intro p e s m below meth c s₁ P hx hby hml hZ hown hnm hret hlk X0 e0 K
  have M0 : Mv h0 h0 [] [] := Mv.refl _ _
  refine Go.cast (ef_rm_cfa m a1 (Int32.ofNat n) ) ?_
  refine Go.of (T' := s₁) (f' := (mkF m 1 #[.val (.ref a1), .val (.int (Int32.ofNat n))] [(.int (Int32.ofNat n))])) (fun _ k => XS.iloadN X0.here hx rfl (hb hby d_jdk_52_method_15_code_0) rfl k) ?_
  refine Go.of (T' := s₁) (f' := (mkF m 2 #[.val (.ref a1), .val (.int (Int32.ofNat n))] [(.ref a1), (.int (Int32.ofNat n))])) (fun _ k => XS.aloadN X0.here hx rfl (hb hby d_jdk_52_method_15_code_1) rfl rfl k) ?_
  obtain ⟨cl1, Ar1, -, Sz1, Nn1, -, -⟩ := id V_a1
  refine Go.of (T' := s₁) (f' := (mkF m 3 #[.val (.ref a1), .val (.int (Int32.ofNat n))] [(.int (Int32.ofNat (2 * n))), (.int (Int32.ofNat n))])) (fun _ k => X0.arraylength hx (by rw [e0]; exact Ar1.1) (State.isArrayOf_alike hZ.alike Ar1.2.1) (g := (mkF m 2 #[.val (.ref a1), .val (.int (Int32.ofNat n))] [(.ref a1), (.int (Int32.ofNat n))])) rfl rfl (hb hby d_jdk_52_method_15_code_2) _ (by rw [len_of Sz1 Nn1]; exact k)) ?_
  refine Go.of (T' := s₁) (f' := (mkF m 4 #[.val (.ref a1), .val (.int (Int32.ofNat n))] [(.int ((Int32.ofNat n) - (Int32.ofNat (2 * n))))])) (fun _ k => XS.isub X0.here hx rfl (hb hby d_jdk_52_method_15_code_3) rfl k) ?_
  refine Go.of (T' := s₁) (f' := (mkF m 6 #[.val (.ref a1), .val (.int (Int32.ofNat n))] [(.int (31 : Int32)), (.int ((Int32.ofNat n) - (Int32.ofNat (2 * n))))])) (fun _ k => XS.bipush X0.here hx rfl (hb hby d_jdk_52_method_15_code_4) k) ?_
  refine Go.of (T' := s₁) (f' := (mkF m 7 #[.val (.ref a1), .val (.int (Int32.ofNat n))] [(.int ((((Int32.ofNat n) - (Int32.ofNat (2 * n))).toUInt32 >>> ((31 : Int32) &&& 31).toUInt32).toInt32))])) (fun _ k => XS.iushr X0.here hx rfl (hb hby d_jdk_52_method_15_code_6) rfl k) ?_
  refine Go.of (T' := s₁) (f' := (mkF m 8 #[.val (.ref a1), .val (.int (Int32.ofNat n))] [(.int (((((Int32.ofNat n) - (Int32.ofNat (2 * n))).toUInt32 >>> ((31 : Int32) &&& 31).toUInt32).toInt32).toInt8.toInt32))])) (fun _ k => XS.i2b X0.here hx rfl (hb hby d_jdk_52_method_15_code_7) rfl k) ?_
  exact goRetI (Q := Pu h0 (fun v => v = some (.int 1))) X0 hx (t := .byte) hret hlk (by rw [cfa1 h1 (by omega)]; rfl) (by simp) (hb hby d_jdk_52_method_15_code_8) K (by decide) (by decide) e0 (⟨rfl, rfl, congrArg (fun z => some (Value.int z)) (cfa1 h1 (by omega))⟩)
theorem ef_rm_iv (m : MethodId) (x0 : Addr) (x1 : Addr) (x2 : Int32) (x3 : Int32)  : entryFrame m #[(.ref x0), (.ref x1), (.int x2), (.int x3), .null] 6 = mkF m 0 #[.val (.ref x0), .val (.ref x1), .val (.int x2), .val (.int x3), .val .null, .unset] [] := by first | (simp [entryFrame, mkF, argsToLocals, Value.category]; done) | rfl
theorem d_jdk_42_method_149_code_0 : decode jdk_42_method_149_code 0 = .ok (.aload_n 0, 1) := by decide +kernel
theorem d_jdk_42_method_149_code_1 : decode jdk_42_method_149_code 1 = .ok (.invokespecial 1, 3) := by decide +kernel
theorem d_jdk_42_method_149_code_4 : decode jdk_42_method_149_code 4 = .ok (.iload_n 3, 1) := by decide +kernel
theorem d_jdk_42_method_149_code_5 : decode jdk_42_method_149_code 5 = .ok (.ifCond .ne 22, 3) := by decide +kernel
theorem d_jdk_42_method_149_code_27 : decode jdk_42_method_149_code 27 = .ok (.getstatic 38, 3) := by decide +kernel
theorem d_jdk_42_method_149_code_30 : decode jdk_42_method_149_code 30 = .ok (.ifCond .eq 28, 3) := by decide +kernel
theorem d_jdk_42_method_149_code_33 : decode jdk_42_method_149_code 33 = .ok (.aload_n 1, 1) := by decide +kernel
theorem d_jdk_42_method_149_code_34 : decode jdk_42_method_149_code 34 = .ok (.iload_n 2, 1) := by decide +kernel
theorem d_jdk_42_method_149_code_35 : decode jdk_42_method_149_code 35 = .ok (.iload_n 3, 1) := by decide +kernel
theorem d_jdk_42_method_149_code_36 : decode jdk_42_method_149_code 36 = .ok (.invokestatic 177, 3) := by decide +kernel
theorem d_jdk_42_method_149_code_39 : decode jdk_42_method_149_code 39 = .ok (.astore 5, 2) := by decide +kernel
theorem d_jdk_42_method_149_code_41 : decode jdk_42_method_149_code 41 = .ok (.aload_n 0, 1) := by decide +kernel
theorem d_jdk_42_method_149_code_42 : decode jdk_42_method_149_code 42 = .ok (.aload 5, 2) := by decide +kernel
theorem d_jdk_42_method_149_code_44 : decode jdk_42_method_149_code 44 = .ok (.iload_n 3, 1) := by decide +kernel
theorem d_jdk_42_method_149_code_45 : decode jdk_42_method_149_code 45 = .ok (.invokestatic 47, 3) := by decide +kernel
theorem pd___BI_B : parseMethodDescriptor "([BI)B" = some ⟨[(.array .byte), .int], some .byte⟩ := by decide +kernel
theorem d_jdk_42_method_149_code_48 : decode jdk_42_method_149_code 48 = .ok (.putfield 15, 3) := by decide +kernel
theorem d_jdk_42_method_149_code_51 : decode jdk_42_method_149_code 51 = .ok (.aload_n 0, 1) := by decide +kernel
theorem d_jdk_42_method_149_code_52 : decode jdk_42_method_149_code 52 = .ok (.aload 5, 2) := by decide +kernel
theorem d_jdk_42_method_149_code_54 : decode jdk_42_method_149_code 54 = .ok (.putfield 9, 3) := by decide +kernel
theorem d_jdk_42_method_149_code_57 : decode jdk_42_method_149_code 57 = .ok (.return_, 1) := by decide +kernel
set_option maxRecDepth 65536 in
set_option maxHeartbeats 40000000 in
theorem rm_iv (l : Launch) (Z : State) (a0 : Array Value) (hw : ∀ d ∈ tables_1, d.before a0 Z = true) (a0_ a1 : Addr) (ka : ClassId) (cs : List Int32) (zc : Int32) (h0 : Heap) (E_a0 : Exa Z h0 a0_ "java/lang/String") (F_value : Fld Z h0 a0_ "java/lang/String" "value" "[B" .null) (F_coder : Fld Z h0 a0_ "java/lang/String" "coder" "B" (.int (0 : Int32))) (V_a1 : Arv Z h0 a1 ka .char (Int32.ofNat cs.length) (cs.map Value.int) (.int (0 : Int32))) (h8 : cs.length ≤ 8) (h1 : 0 < cs.length) (hne : a1 ≠ a0_) (hwd : ∃ c ∈ cs, (255 : Int32) < c) (hbr : ∀ c ∈ cs, ¬ c < 0 ∧ ¬ (65535 : Int32) < c) (Z_ad : Sta Z h0 "java/lang/StringUTF16" "$assertionsDisabled" "Z" (.int (1 : Int32))) (Z_hs : Sta Z h0 "java/lang/StringUTF16" "HI_BYTE_SHIFT" "I" (.int (0 : Int32))) (Z_ls : Sta Z h0 "java/lang/StringUTF16" "LO_BYTE_SHIFT" "I" (.int (8 : Int32))) (Z_cs : Sta Z h0 "java/lang/String" "COMPACT_STRINGS" "Z" (.int zc)) (hz : ¬ zc = 0) :
    MeetsW l Z (⟨"java/lang/String", "<init>", "([CIILjava/lang/Void;)V"⟩ : MethodName) jdk_42_method_149_code 6 none ({ frames := 4, cells := 2, slots := 24, locals := 57 } : Room) #[(.ref a0_), (.ref a1), (.int (0 : Int32)), (.int (Int32.ofNat cs.length)), .null] h0 (fun v h L => v = none ∧ Mv h0 h [a0_] L ∧ ∃ t, h0.size ≤ t ∧ Str Z h a0_ t cs) := by
  refine MeetsW.of (plainFor_of_name pn_java_lang_String) ?_
  intro p e s m below meth c s₁ P hx hby hml hZ hown hnm hret hlk X0 e0 K
  have M0 : Mv h0 h0 [a0_] [] := Mv.refl _ _
  refine Go.cast (ef_rm_iv m a0_ a1 (0 : Int32) (Int32.ofNat cs.length) ) ?_
  refine Go.of (T' := s₁) (f' := (mkF m 1 #[.val (.ref a0_), .val (.ref a1), .val (.int (0 : Int32)), .val (.int (Int32.ofNat cs.length)), .val .null, .unset] [(.ref a0_)])) (fun _ k => XS.aloadN X0.here hx rfl (hb hby d_jdk_42_method_149_code_0) rfl rfl k) ?_
  obtain ⟨T1, X1, e1, st1⟩ := initO X0 hx hZ hown (hw _ (List.mem_of_getElem? (i := 19) rfl)) (hw _ (List.mem_of_getElem? (i := 20) rfl)) (hw _ (List.mem_of_getElem? (i := 21) rfl)) e0 (g := (mkF m 1 #[.val (.ref a0_), .val (.ref a1), .val (.int (0 : Int32)), .val (.int (Int32.ofNat cs.length)), .val .null, .unset] [(.ref a0_)])) rfl (by rw [hml]; rfl) rfl (hb hby d_jdk_42_method_149_code_1) (by decide) (W := 0) (by show 2 * 0 + _ ≤ _; exact Nat.le_of_eq rfl) (by decide)
  refine Go.of (T' := T1) (f' := (mkF m 4 #[.val (.ref a0_), .val (.ref a1), .val (.int (0 : Int32)), .val (.int (Int32.ofNat cs.length)), .val .null, .unset] [])) st1 ?_
  refine Go.of (T' := T1) (f' := (mkF m 5 #[.val (.ref a0_), .val (.ref a1), .val (.int (0 : Int32)), .val (.int (Int32.ofNat cs.length)), .val .null, .unset] [(.int (Int32.ofNat cs.length))])) (fun _ k => XS.iloadN X1.here hx rfl (hb hby d_jdk_42_method_149_code_4) rfl k) ?_
  have hc5 : ¬ ((Int32.ofNat cs.length) = (0 : Int32)) := neN (n := 0) (by omega) (by omega) (by omega)
  refine Go.of (T' := T1) (f' := (mkF m 27 #[.val (.ref a0_), .val (.ref a1), .val (.int (0 : Int32)), .val (.int (Int32.ofNat cs.length)), .val .null, .unset] [])) (fun _ k => XS.ifYes X1.here hx rfl (pc0 := 5) (pc' := 27) rfl (hb hby d_jdk_42_method_149_code_5) rfl ((if0 _ _).trans (feq hc5).2) (by decide) (by decide) k) ?_
  obtain ⟨T2, X2, e2, st2⟩ := getS2 X1 hx hZ hown (host := "") (Or.inl (hw _ (List.mem_of_getElem? (i := 53) rfl))) Via.refl e1 Z_cs (g := (mkF m 27 #[.val (.ref a0_), .val (.ref a1), .val (.int (0 : Int32)), .val (.int (Int32.ofNat cs.length)), .val .null, .unset] [])) rfl (hb hby d_jdk_42_method_149_code_27)
  refine Go.of (T' := T2) (f' := (mkF m 30 #[.val (.ref a0_), .val (.ref a1), .val (.int (0 : Int32)), .val (.int (Int32.ofNat cs.length)), .val .null, .unset] [(.int zc)])) st2 ?_
  have hc30 : ¬ (zc = (0 : Int32)) := hz
  refine Go.of (T' := T2) (f' := (mkF m 33 #[.val (.ref a0_), .val (.ref a1), .val (.int (0 : Int32)), .val (.int (Int32.ofNat cs.length)), .val .null, .unset] [])) (fun _ k => XS.ifNo X2.here hx rfl (hb hby d_jdk_42_method_149_code_30) rfl ((if0 _ _).trans (feq hc30).1) k) ?_
  refine Go.of (T' := T2) (f' := (mkF m 34 #[.val (.ref a0_), .val (.ref a1), .val (.int (0 : Int32)), .val (.int (Int32.ofNat cs.length)), .val .null, .unset] [(.ref a1)])) (fun _ k => XS.aloadN X2.here hx rfl (hb hby d_jdk_42_method_149_code_33) rfl rfl k) ?_
  refine Go.of (T' := T2) (f' := (mkF m 35 #[.val (.ref a0_), .val (.ref a1), .val (.int (0 : Int32)), .val (.int (Int32.ofNat cs.length)), .val .null, .unset] [(.int (0 : Int32)), (.ref a1)])) (fun _ k => XS.iloadN X2.here hx rfl (hb hby d_jdk_42_method_149_code_34) rfl k) ?_
  refine Go.of (T' := T2) (f' := (mkF m 36 #[.val (.ref a0_), .val (.ref a1), .val (.int (0 : Int32)), .val (.int (Int32.ofNat cs.length)), .val .null, .unset] [(.int (Int32.ofNat cs.length)), (.int (0 : Int32)), (.ref a1)])) (fun _ k => XS.iloadN X2.here hx rfl (hb hby d_jdk_42_method_149_code_35) rfl k) ?_
  refine goS X2 hx hZ hown (hw _ (List.mem_of_getElem? (i := 82) rfl)) (hw _ (List.mem_of_getElem? (i := 83) rfl)) (hw _ (List.mem_of_getElem? (i := 84) rfl)) (hw _ (List.mem_of_getElem? (i := 85) rfl)) (by decide) (C := 2) (S := 24) ((rm_cp l Z a0 hw a1 ka cs h0 V_a1 h8 hwd hbr Z_ad Z_hs Z_ls).bk (W := 0) hZ (hw _ (List.mem_of_getElem? (i := 85) rfl)) (hw _ (List.mem_of_getElem? (i := 84) rfl)) (by decide) (by decide)) e2 (argsL := [(.ref a1), (.int (0 : Int32)), (.int (Int32.ofNat cs.length))]) (rest := []) (by rw [hml]; rfl) (lenOf pd___CII__B rfl) rfl rfl (hb hby d_jdk_42_method_149_code_36) (Nat.le_of_eq rfl) (by decide) (by decide) ?_
  intro v3 T3 L3 X3 hQ3
  obtain ⟨h3, e3⟩ : ∃ z, T3.heap = z := ⟨_, rfl⟩
  rw [e3] at hQ3
  obtain ⟨Mc3, b3, k3, rfl, le3, V_b3⟩ := hQ3
  have ne_a0__b3 : a0_ ≠ b3 := Nat.ne_of_lt (Nat.lt_of_lt_of_le E_a0.lt le3)
  have ne_a1_b3 : a1 ≠ b3 := Nat.ne_of_lt (Nat.lt_of_lt_of_le V_a1.lt le3)
  have fr_b3 : h0.size ≤ b3 := Nat.le_trans M0.le le3
  have M3 := M0.app0 Mc3
  replace E_a0 := E_a0.keep Mc3.1
  replace F_value := F_value.keep Mc3.1 nin0
  replace F_coder := F_coder.keep Mc3.1 nin0
  replace V_a1 := V_a1.keep Mc3.1 nin0
  replace Z_ad := StaKeep Z_ad Mc3.1 all0
  replace Z_hs := StaKeep Z_hs Mc3.1 all0
  replace Z_ls := StaKeep Z_ls Mc3.1 all0
  replace Z_cs := StaKeep Z_cs Mc3.1 all0
  show Go p e below P T3 (mkF m 39 #[.val (.ref a0_), .val (.ref a1), .val (.int (0 : Int32)), .val (.int (Int32.ofNat cs.length)), .val .null, .unset] [(.ref b3)])
  refine Go.of (T' := T3) (f' := (mkF m 41 #[.val (.ref a0_), .val (.ref a1), .val (.int (0 : Int32)), .val (.int (Int32.ofNat cs.length)), .val .null, .val (.ref b3)] [])) (fun _ k => XS.astore X3.here hx rfl (hb hby d_jdk_42_method_149_code_39) rfl rfl (l' := #[.val (.ref a0_), .val (.ref a1), .val (.int (0 : Int32)), .val (.int (Int32.ofNat cs.length)), .val .null, .val (.ref b3)]) rfl k) ?_
  refine Go.of (T' := T3) (f' := (mkF m 42 #[.val (.ref a0_), .val (.ref a1), .val (.int (0 : Int32)), .val (.int (Int32.ofNat cs.length)), .val .null, .val (.ref b3)] [(.ref a0_)])) (fun _ k => XS.aloadN X3.here hx rfl (hb hby d_jdk_42_method_149_code_41) rfl rfl k) ?_
  refine Go.of (T' := T3) (f' := (mkF m 44 #[.val (.ref a0_), .val (.ref a1), .val (.int (0 : Int32)), .val (.int (Int32.ofNat cs.length)), .val .null, .val (.ref b3)] [(.ref b3), (.ref a0_)])) (fun _ k => XS.aload X3.here hx rfl (hb hby d_jdk_42_method_149_code_42) rfl rfl k) ?_
  refine Go.of (T' := T3) (f' := (mkF m 45 #[.val (.ref a0_), .val (.ref a1), .val (.int (0 : Int32)), .val (.int (Int32.ofNat cs.length)), .val .null, .val (.ref b3)] [(.int (Int32.ofNat cs.length)), (.ref b3), (.ref a0_)])) (fun _ k => XS.iloadN X3.here hx rfl (hb hby d_jdk_42_method_149_code_44) rfl k) ?_
  refine goS X3 hx hZ hown (hw _ (List.mem_of_getElem? (i := 89) rfl)) (hw _ (List.mem_of_getElem? (i := 90) rfl)) (hw _ (List.mem_of_getElem? (i := 84) rfl)) (hw _ (List.mem_of_getElem? (i := 91) rfl)) (by decide) (C := 0) (S := 0) ((rm_cfa l Z a0 hw b3 k3 cs.length _ h3 V_b3 (by omega) (by omega)).bk (W := 1) hZ (hw _ (List.mem_of_getElem? (i := 91) rfl)) (hw _ (List.mem_of_getElem? (i := 84) rfl)) (by decide) (by decide)) e3 (argsL := [(.ref b3), (.int (Int32.ofNat cs.length))]) (rest := [(.ref a0_)]) (by rw [hml]; rfl) (lenOf pd___BI_B rfl) rfl rfl (hb hby d_jdk_42_method_149_code_45) (Nat.le_of_eq rfl) (by decide) (by decide) ?_
  intro v4 T4 L4 X4 hQ4
  obtain ⟨nq4, e4, rfl⟩ := hQ4
  replace X4 := standNil X4 nq4
  show Go p e below P T4 (mkF m 48 #[.val (.ref a0_), .val (.ref a1), .val (.int (0 : Int32)), .val (.int (Int32.ofNat cs.length)), .val .null, .val (.ref b3)] [(.int (1 : Int32)), (.ref a0_)])
  obtain ⟨T5, h5, X5, e5, W5, st5⟩ := putF X4 hx hZ hown (host := "") (Or.inl (hw _ (List.mem_of_getElem? (i := 29) rfl))) Via.refl e4 F_coder E_a0 (Or.inr ⟨(hw _ (List.mem_of_getElem? (i := 25) rfl)), rfl, hnm⟩) (hw _ (List.mem_of_getElem? (i := 9) rfl)) (ty := .byte) (by decide) rfl rfl (g := (mkF m 48 #[.val (.ref a0_), .val (.ref a1), .val (.int (0 : Int32)), .val (.int (Int32.ofNat cs.length)), .val .null, .val (.ref b3)] [(.int (1 : Int32)), (.ref a0_)])) rfl rfl (hb hby d_jdk_42_method_149_code_48)
  have E_a0_o := E_a0
  have K5 := Keep.of_wr W5
  have M5 := M3.wr W5 (Or.inl (List.mem_of_getElem? (i := 0) rfl))
  replace F_value := F_value.other W5 (Or.inr (slot_ne (Or.inr (hw _ (List.mem_of_getElem? (i := 24) rfl))) (Or.inr (hw _ (List.mem_of_getElem? (i := 25) rfl))) (by decide) (t := (.array .byte)) (t' := .byte) (by decide) (by decide)))
  replace F_coder := F_coder.same W5
  replace E_a0 := E_a0.keep K5
  replace V_a1 := V_a1.keep K5 (ninS hne nin0)
  replace Z_ad := StaKeep Z_ad K5 (allS (staExa E_a0_o) all0)
  replace Z_hs := StaKeep Z_hs K5 (allS (staExa E_a0_o) all0)
  replace Z_ls := StaKeep Z_ls K5 (allS (staExa E_a0_o) all0)
  replace Z_cs := StaKeep Z_cs K5 (allS (staExa E_a0_o) all0)
  replace V_b3 := V_b3.keep K5 (ninS (Ne.symm ne_a0__b3) nin0)
  refine Go.of (T' := T5) (f' := (mkF m 51 #[.val (.ref a0_), .val (.ref a1), .val (.int (0 : Int32)), .val (.int (Int32.ofNat cs.length)), .val .null, .val (.ref b3)] [])) st5 ?_
  refine Go.of (T' := T5) (f' := (mkF m 52 #[.val (.ref a0_), .val (.ref a1), .val (.int (0 : Int32)), .val (.int (Int32.ofNat cs.length)), .val .null, .val (.ref b3)] [(.ref a0_)])) (fun _ k => XS.aloadN X5.here hx rfl (hb hby d_jdk_42_method_149_code_51) rfl rfl k) ?_
  refine Go.of (T' := T5) (f' := (mkF m 54 #[.val (.ref a0_), .val (.ref a1), .val (.int (0 : Int32)), .val (.int (Int32.ofNat cs.length)), .val .null, .val (.ref b3)] [(.ref b3), (.ref a0_)])) (fun _ k => XS.aload X5.here hx rfl (hb hby d_jdk_42_method_149_code_52) rfl rfl k) ?_
  obtain ⟨T6, h6, X6, e6, W6, st6⟩ := putF X5 hx hZ hown (host := "") (Or.inl (hw _ (List.mem_of_getElem? (i := 28) rfl))) Via.refl e5 F_value E_a0 (Or.inr ⟨(hw _ (List.mem_of_getElem? (i := 24) rfl)), rfl, hnm⟩) (hw _ (List.mem_of_getElem? (i := 9) rfl)) (ty := (.array .byte)) (by decide) rfl rfl (g := (mkF m 54 #[.val (.ref a0_), .val (.ref a1), .val (.int (0 : Int32)), .val (.int (Int32.ofNat cs.length)), .val .null, .val (.ref b3)] [(.ref b3), (.ref a0_)])) rfl rfl (hb hby d_jdk_42_method_149_code_54)
  have E_a0_o := E_a0
  have K6 := Keep.of_wr W6
  have M6 := M5.wr W6 (Or.inl (List.mem_of_getElem? (i := 0) rfl))
  replace F_value := F_value.same W6
  replace F_coder := F_coder.other W6 (Or.inr (slot_ne (Or.inr (hw _ (List.mem_of_getElem? (i := 25) rfl))) (Or.inr (hw _ (List.mem_of_getElem? (i := 24) rfl))) (by decide) (t := .byte) (t' := (.array .byte)) (by decide) (by decide)))
  replace E_a0 := E_a0.keep K6
  replace V_a1 := V_a1.keep K6 (ninS hne nin0)
  replace Z_ad := StaKeep Z_ad K6 (allS (staExa E_a0_o) all0)
  replace Z_hs := StaKeep Z_hs K6 (allS (staExa E_a0_o) all0)
  replace Z_ls := StaKeep Z_ls K6 (allS (staExa E_a0_o) all0)
  replace Z_cs := StaKeep Z_cs K6 (allS (staExa E_a0_o) all0)
  replace V_b3 := V_b3.keep K6 (ninS (Ne.symm ne_a0__b3) nin0)
  refine Go.of (T' := T6) (f' := (mkF m 57 #[.val (.ref a0_), .val (.ref a1), .val (.int (0 : Int32)), .val (.int (Int32.ofNat cs.length)), .val .null, .val (.ref b3)] [])) st6 ?_
  exact goRet0 (Q := fun v h L => v = none ∧ Mv h0 h [a0_] L ∧ ∃ t, h0.size ≤ t ∧ Str Z h a0_ t cs) X6 hx hret hlk (hb hby d_jdk_42_method_149_code_57) K (by decide) (by decide) e6 (⟨rfl, M6, b3, fr_b3, str16 rfl rfl (by omega) hbr hwd E_a0 F_value F_coder V_b3⟩)
theorem ef_rm_in (m : MethodId) (x0 : Addr) (x1 : Addr)  : entryFrame m #[(.ref x0), (.ref x1)] 2 = mkF m 0 #[.val (.ref x0), .val (.ref x1)] [] := by first | (simp [entryFrame, mkF, argsToLocals, Value.category]; done) | rfl
theorem d_jdk_42_method_3_code_0 : decode jdk_42_method_3_code 0 = .ok (.aload_n 0, 1) := by decide +kernel
theorem d_jdk_42_method_3_code_1 : decode jdk_42_method_3_code 1 = .ok (.aload_n 1, 1) := by decide +kernel
theorem d_jdk_42_method_3_code_2 : decode jdk_42_method_3_code 2 = .ok (.iconst 0, 1) := by decide +kernel
theorem d_jdk_42_method_3_code_3 : decode jdk_42_method_3_code 3 = .ok (.aload_n 1, 1) := by decide +kernel
theorem d_jdk_42_method_3_code_4 : decode jdk_42_method_3_code 4 = .ok (.arraylength, 1) := by decide +kernel
theorem d_jdk_42_method_3_code_5 : decode jdk_42_method_3_code 5 = .ok (.aconst_null, 1) := by decide +kernel
theorem d_jdk_42_method_3_code_6 : decode jdk_42_method_3_code 6 = .ok (.invokespecial 27, 3) := by decide +kernel
theorem pd___CIILjava_lang_Void__V : parseMethodDescriptor "([CIILjava/lang/Void;)V" = some ⟨[(.array .char), .int, .int, (.object "java/lang/Void")], none⟩ := by decide +kernel
theorem d_jdk_42_method_3_code_9 : decode jdk_42_method_3_code 9 = .ok (.return_, 1) := by decide +kernel
set_option maxRecDepth 65536 in
set_option maxHeartbeats 40000000 in
theorem rm_in (l : Launch) (Z : State) (a0 : Array Value) (hw : ∀ d ∈ tables_1, d.before a0 Z = true) (a0_ a1 : Addr) (ka : ClassId) (cs : List Int32) (zc : Int32) (h0 : Heap) (E_a0 : Exa Z h0 a0_ "java/lang/String") (F_value : Fld Z h0 a0_ "java/lang/String" "value" "[B" .null) (F_coder : Fld Z h0 a0_ "java/lang/String" "coder" "B" (.int (0 : Int32))) (V_a1 : Arv Z h0 a1 ka .char (Int32.ofNat cs.length) (cs.map Value.int) (.int (0 : Int32))) (h8 : cs.length ≤ 8) (h1 : 0 < cs.length) (hne : a1 ≠ a0_) (hwd : ∃ c ∈ cs, (255 : Int32) < c) (hbr : ∀ c ∈ cs, ¬ c < 0 ∧ ¬ (65535 : Int32) < c) (Z_ad : Sta Z h0 "java/lang/StringUTF16" "$assertionsDisabled" "Z" (.int (1 : Int32))) (Z_hs : Sta Z h0 "java/lang/StringUTF16" "HI_BYTE_SHIFT" "I" (.int (0 : Int32))) (Z_ls : Sta Z h0 "java/lang/StringUTF16" "LO_BYTE_SHIFT" "I" (.int (8 : Int32))) (Z_cs : Sta Z h0 "java/lang/String" "COMPACT_STRINGS" "Z" (.int zc)) (hz : ¬ zc = 0) :
    MeetsW l Z (⟨"java/lang/String", "<init>", "([C)V"⟩ : MethodName) jdk_42_method_3_code 2 none ({ frames := 5, cells := 2, slots := 24, locals := 74 } : Room) #[(.ref a0_), (.ref a1)] h0 (fun v h L => v = none ∧ Mv h0 h [a0_] L ∧ ∃ t, h0.size ≤ t ∧ Str Z h a0_ t cs) := by
  refine MeetsW.of (plainFor_of_name pn_java_lang_String) ?_
  intro p e s m below meth c s₁ P hx hby hml hZ hown hnm hret hlk X0 e0 K
  have M0 : Mv h0 h0 [a0_] [] := Mv.refl _ _
  refine Go.cast (ef_rm_in m a0_ a1 ) ?_
  refine Go.of (T' := s₁) (f' := (mkF m 1 #[.val (.ref a0_), .val (.ref a1)] [(.ref a0_)])) (fun _ k => XS.aloadN X0.here hx rfl (hb hby d_jdk_42_method_3_code_0) rfl rfl k) ?_
  refine Go.of (T' := s₁) (f' := (mkF m 2 #[.val (.ref a0_), .val (.ref a1)] [(.ref a1), (.ref a0_)])) (fun _ k => XS.aloadN X0.here hx rfl (hb hby d_jdk_42_method_3_code_1) rfl rfl k) ?_
  refine Go.of (T' := s₁) (f' := (mkF m 3 #[.val (.ref a0_), .val (.ref a1)] [(.int (0 : Int32)), (.ref a1), (.ref a0_)])) (fun _ k => XS.iconst X0.here hx rfl (hb hby d_jdk_42_method_3_code_2) k) ?_
  refine Go.of (T' := s₁) (f' := (mkF m 4 #[.val (.ref a0_), .val (.ref a1)] [(.ref a1), (.int (0 : Int32)), (.ref a1), (.ref a0_)])) (fun _ k => XS.aloadN X0.here hx rfl (hb hby d_jdk_42_method_3_code_3) rfl rfl k) ?_
  obtain ⟨cl1, Ar1, -, Sz1, Nn1, -, -⟩ := id V_a1
  refine Go.of (T' := s₁) (f' := (mkF m 5 #[.val (.ref a0_), .val (.ref a1)] [(.int (Int32.ofNat cs.length)), (.int (0 : Int32)), (.ref a1), (.ref a0_)])) (fun _ k => X0.arraylength hx (by rw [e0]; exact Ar1.1) (State.isArrayOf_alike hZ.alike Ar1.2.1) (g := (mkF m 4 #[.val (.ref a0_), .val (.ref a1)] [(.ref a1), (.int (0 : Int32)), (.ref a1), (.ref a0_)])) rfl rfl (hb hby d_jdk_42_method_3_code_4) _ (by rw [len_of Sz1 Nn1]; exact k)) ?_
  refine Go.of (T' := s₁) (f' := (mkF m 6 #[.val (.ref a0_), .val (.ref a1)] [.null, (.int (Int32.ofNat cs.length)), (.int (0 : Int32)), (.ref a1), (.ref a0_)])) (fun _ k => XS.aconstNull X0.here hx rfl (hb hby d_jdk_42_method_3_code_5) k) ?_
  refine goI X0 hx hZ rfl hown (hw _ (List.mem_of_getElem? (i := 15) rfl)) (hw _ (List.mem_of_getElem? (i := 16) rfl)) (hw _ (List.mem_of_getElem? (i := 18) rfl)) (by decide) (C := 2) (S := 24) ((rm_iv l Z a0 hw a0_ a1 ka cs zc h0 E_a0 F_value F_coder V_a1 h8 h1 hne hwd hbr Z_ad Z_hs Z_ls Z_cs hz).bk (W := 0) hZ (hw _ (List.mem_of_getElem? (i := 18) rfl)) (hw _ (List.mem_of_getElem? (i := 10) rfl)) (by decide) (by decide)) e0 (argsL := [(.ref a1), (.int (0 : Int32)), (.int (Int32.ofNat cs.length)), .null]) (rest := []) (by rw [hml]; rfl) (lenOf pd___CIILjava_lang_Void__V rfl) rfl rfl (hb hby d_jdk_42_method_3_code_6) (Nat.le_of_eq rfl) (by decide) (by decide) ?_
  intro v2 T2 L2 X2 hQ2
  obtain ⟨h2, e2⟩ : ∃ z, T2.heap = z := ⟨_, rfl⟩
  rw [e2] at hQ2
  have E_a0_o := E_a0
  obtain ⟨rfl, Mc2, t2, le2, S2⟩ := hQ2
  have ne_a0__t2 : a0_ ≠ t2 := Nat.ne_of_lt (Nat.lt_of_lt_of_le E_a0.lt le2)
  have ne_a1_t2 : a1 ≠ t2 := Nat.ne_of_lt (Nat.lt_of_lt_of_le V_a1.lt le2)
  have fr_t2 : h0.size ≤ t2 := Nat.le_trans M0.le le2
  have M2 := M0.app Mc2 (allS (Or.inl (List.mem_of_getElem? (i := 0) rfl)) all0)
  replace E_a0 := E_a0.keep Mc2.1
  replace V_a1 := V_a1.keep Mc2.1 (ninS hne nin0)
  replace Z_ad := StaKeep Z_ad Mc2.1 (allS (staExa E_a0_o) all0)
  replace Z_hs := StaKeep Z_hs Mc2.1 (allS (staExa E_a0_o) all0)
  replace Z_ls := StaKeep Z_ls Mc2.1 (allS (staExa E_a0_o) all0)
  replace Z_cs := StaKeep Z_cs Mc2.1 (allS (staExa E_a0_o) all0)
  have S_a0_ := S2
  show Go p e below P T2 (mkF m 9 #[.val (.ref a0_), .val (.ref a1)] [])
  exact goRet0 (Q := fun v h L => v = none ∧ Mv h0 h [a0_] L ∧ ∃ t, h0.size ≤ t ∧ Str Z h a0_ t cs) X2 hx hret hlk (hb hby d_jdk_42_method_3_code_9) K (by decide) (by decide) e2 (⟨rfl, M2, t2, fr_t2, S_a0_⟩)
theorem hEL_1 {Z : State} {a0 : Array Value} (hw : ∀ d ∈ tables_1, d.before a0 Z = true) : EW Z a0 consts_1 := (EW.cons (hw _ (List.mem_of_getElem? (i := 36) rfl)) (by decide) (EW.cons (hw _ (List.mem_of_getElem? (i := 22) rfl)) (by decide) EW.nil))
theorem ef_rm_initV0 (m : MethodId) (x0 : Addr) (x1 : Addr) (x2 : Int32) (x3 : Int32)  : entryFrame m #[(.ref x0), (.ref x1), (.int x2), (.int x3), .null] 6 = mkF m 0 #[.val (.ref x0), .val (.ref x1), .val (.int x2), .val (.int x3), .val .null, .unset] [] := by first | (simp [entryFrame, mkF, argsToLocals, Value.category]; done) | rfl
theorem d_jdk_42_method_149_code_8 : decode jdk_42_method_149_code 8 = .ok (.aload_n 0, 1) := by decide +kernel
theorem d_jdk_42_method_149_code_9 : decode jdk_42_method_149_code 9 = .ok (.ldc 7, 2) := by decide +kernel
theorem hw_sA {Z : State} {a0 : Array Value} (hw : ∀ d ∈ tables_1, d.before a0 Z = true) : ∀ d ∈ Bundle.stringAtoms, d.before a0 Z = true := fun d hd => hw d ((by decide +kernel : ∀ d ∈ Bundle.stringAtoms, d ∈ tables_1) d hd)
theorem d_jdk_42_method_149_code_11 : decode jdk_42_method_149_code 11 = .ok (.getfield 9, 3) := by decide +kernel
theorem d_jdk_42_method_149_code_14 : decode jdk_42_method_149_code 14 = .ok (.putfield 9, 3) := by decide +kernel
theorem d_jdk_42_method_149_code_17 : decode jdk_42_method_149_code 17 = .ok (.aload_n 0, 1) := by decide +kernel
theorem d_jdk_42_method_149_code_18 : decode jdk_42_method_149_code 18 = .ok (.ldc 7, 2) := by decide +kernel
theorem d_jdk_42_method_149_code_20 : decode jdk_42_method_149_code 20 = .ok (.getfield 15, 3) := by decide +kernel
theorem d_jdk_42_method_149_code_23 : decode jdk_42_method_149_code 23 = .ok (.putfield 15, 3) := by decide +kernel
theorem d_jdk_42_method_149_code_26 : decode jdk_42_method_149_code 26 = .ok (.return_, 1) := by decide +kernel
set_option maxRecDepth 65536 in
set_option maxHeartbeats 40000000 in
theorem rm_initV0 (l : Launch) (Z : State) (a0 : Array Value) (hw : ∀ d ∈ tables_1, d.before a0 Z = true) (a1 a2 : Addr) (h0 : Heap) (E_a1 : Exa Z h0 a1 "java/lang/String") (F_value : Fld Z h0 a1 "java/lang/String" "value" "[B" .null) (F_coder : Fld Z h0 a1 "java/lang/String" "coder" "B" (.int (0 : Int32))) :
    MeetsH l Z consts_1 (⟨"java/lang/String", "<init>", "([CIILjava/lang/Void;)V"⟩ : MethodName) jdk_42_method_149_code 6 none ({ frames := 1, cells := 4, slots := 8, locals := 12 } : Room) #[(.ref a1), (.ref a2), (.int (0 : Int32)), (.int (0 : Int32)), .null] h0 (fun v h L => v = none ∧ Mv h0 h [a1] L ∧ ∃ t, Str Z h a1 t []) := by
  refine MeetsH.of (plainFor_of_name pn_java_lang_String) ?_
  intro p e s m below meth c s₁ P hx hby hml hZ hown hnm hret hlk X0 e0 hS RH K
  have hk : h0.size ≤ h0.size := Nat.le_refl _
  replace hZ : Z.Warmed39 (s.setVm s.vm).vm := hZ
  replace hown : (s.setVm s.vm).vm.findClass "java/lang/String" = some m.cls := hown
  have M0 : Mv h0 h0 [a1] [] := Mv.refl _ _
  refine Go.cast (ef_rm_initV0 m a1 a2 (0 : Int32) (0 : Int32) ) ?_
  have Sf_a1 := safeNull (EL := consts_1) hZ.alike E_a1 F_value
  refine Go.of (T' := s₁) (f' := (mkF m 1 #[.val (.ref a1), .val (.ref a2), .val (.int (0 : Int32)), .val (.int (0 : Int32)), .val .null, .unset] [(.ref a1)])) (fun _ k => XS.aloadN X0.here hx rfl (hb hby d_jdk_42_method_149_code_0) rfl rfl k) ?_
  obtain ⟨T1, X1, e1, st1⟩ := initO X0 hx hZ hown (hw _ (List.mem_of_getElem? (i := 19) rfl)) (hw _ (List.mem_of_getElem? (i := 20) rfl)) (hw _ (List.mem_of_getElem? (i := 21) rfl)) e0 (g := (mkF m 1 #[.val (.ref a1), .val (.ref a2), .val (.int (0 : Int32)), .val (.int (0 : Int32)), .val .null, .unset] [(.ref a1)])) rfl (by rw [hml]; rfl) rfl (hb hby d_jdk_42_method_149_code_1) (by decide) (W := 0) (by show 2 * 0 + _ ≤ _; exact Nat.le_of_eq rfl) (by decide)
  refine Go.of (T' := T1) (f' := (mkF m 4 #[.val (.ref a1), .val (.ref a2), .val (.int (0 : Int32)), .val (.int (0 : Int32)), .val .null, .unset] [])) st1 ?_
  refine Go.of (T' := T1) (f' := (mkF m 5 #[.val (.ref a1), .val (.ref a2), .val (.int (0 : Int32)), .val (.int (0 : Int32)), .val .null, .unset] [(.int (0 : Int32))])) (fun _ k => XS.iloadN X1.here hx rfl (hb hby d_jdk_42_method_149_code_4) rfl k) ?_
  refine Go.of (T' := T1) (f' := (mkF m 8 #[.val (.ref a1), .val (.ref a2), .val (.int (0 : Int32)), .val (.int (0 : Int32)), .val .null, .unset] [])) (fun _ k => XS.ifNo X1.here hx rfl (hb hby d_jdk_42_method_149_code_5) rfl (by decide) k) ?_
  refine Go.of (T' := T1) (f' := (mkF m 9 #[.val (.ref a1), .val (.ref a2), .val (.int (0 : Int32)), .val (.int (0 : Int32)), .val .null, .unset] [(.ref a1)])) (fun _ k => XS.aloadN X1.here hx rfl (hb hby d_jdk_42_method_149_code_8) rfl rfl k) ?_
  obtain ⟨sa2, T2, h2, k2, sb2, kb2, X2, e2, E2, hS2, hk2, hZ2, hown2, E_sa2, F_cd2, F_vl2, V_sb2, -, -, A2, -, hne2, st2⟩ := ldcCH X1 hx hZ hown (hw _ (List.mem_of_getElem? (i := 22) rfl)) (hw_sA hw) e1 hS hk (hEL_1 hw) (by decide) RH.1 (vs := []) (z := (0 : Int32)) ⟨by decide, by decide⟩ (by decide) (by decide) (g := (mkF m 9 #[.val (.ref a1), .val (.ref a2), .val (.int (0 : Int32)), .val (.int (0 : Int32)), .val .null, .unset] [(.ref a1)])) rfl (hb hby d_jdk_42_method_149_code_9) (n := 0) (by decide) (by decide) (by decide) (by decide)
  have K2 := keepE E2
  have M2 := M0.ext E2
  clear hS hk
  replace Sf_a1 := CHr.safe A2 E_a1.lt Sf_a1
  replace RH := RH.trans A2
  replace E_a1 := E_a1.keep K2
  replace F_value := F_value.keep K2 nin0
  replace F_coder := F_coder.keep K2 nin0
  have hS := hS2
  have hk := hk2
  replace hZ := hZ2
  replace hown := hown2
  have ne_a1_sa2 := (hne2 _ Sf_a1).1
  have ne_a1_sb2 := (hne2 _ Sf_a1).2
  refine Go.of (T' := T2) (f' := (mkF m 11 #[.val (.ref a1), .val (.ref a2), .val (.int (0 : Int32)), .val (.int (0 : Int32)), .val .null, .unset] [(.ref sa2), (.ref a1)])) st2 ?_
  obtain ⟨T3, X3, e3, st3⟩ := getF X2 hx hZ hown (host := "") (Or.inl (hw _ (List.mem_of_getElem? (i := 28) rfl))) Via.refl e2 F_vl2 (g := (mkF m 11 #[.val (.ref a1), .val (.ref a2), .val (.int (0 : Int32)), .val (.int (0 : Int32)), .val .null, .unset] [(.ref sa2), (.ref a1)])) rfl rfl (hb hby d_jdk_42_method_149_code_11)
  refine Go.of (T' := T3) (f' := (mkF m 14 #[.val (.ref a1), .val (.ref a2), .val (.int (0 : Int32)), .val (.int (0 : Int32)), .val .null, .unset] [(.ref sb2), (.ref a1)])) st3 ?_
  obtain ⟨T4, h4, X4, e4, W4, st4⟩ := putF X3 hx hZ hown (host := "") (Or.inl (hw _ (List.mem_of_getElem? (i := 28) rfl))) Via.refl e3 F_value E_a1 (Or.inr ⟨(hw _ (List.mem_of_getElem? (i := 24) rfl)), rfl, hnm⟩) (hw _ (List.mem_of_getElem? (i := 9) rfl)) (ty := (.array .byte)) (by decide) rfl rfl (g := (mkF m 14 #[.val (.ref a1), .val (.ref a2), .val (.int (0 : Int32)), .val (.int (0 : Int32)), .val .null, .unset] [(.ref sb2), (.ref a1)])) rfl rfl (hb hby d_jdk_42_method_149_code_14)
  have K4 := Keep.of_wr W4
  have M4 := M2.wr W4 (Or.inl (List.mem_of_getElem? (i := 0) rfl))
  replace F_value := F_value.same W4
  replace F_coder := F_coder.other W4 (Or.inr (slot_ne (Or.inr (hw _ (List.mem_of_getElem? (i := 25) rfl))) (Or.inr (hw _ (List.mem_of_getElem? (i := 24) rfl))) (by decide) (t := .byte) (t' := (.array .byte)) (by decide) (by decide)))
  replace hk := Nat.le_trans hk (K4).1
  have hq5 : ∀ x ∈ ([a1] : List Addr), Safe Z consts_1 T2.vm h2 x := (sfS Sf_a1 sf0)
  have hs5 := CHr.keep (K4) hq5 RH.1
  replace Sf_a1 := Safe.keep (K4) hq5 RH.1 Sf_a1
  replace RH := RH.trans hs5
  replace E_a1 := E_a1.keep K4
  replace E_sa2 := E_sa2.keep K4
  replace F_cd2 := F_cd2.keep K4 (ninS (Ne.symm ne_a1_sa2) nin0)
  replace F_vl2 := F_vl2.keep K4 (ninS (Ne.symm ne_a1_sa2) nin0)
  replace V_sb2 := V_sb2.keep K4 (ninS (Ne.symm ne_a1_sb2) nin0)
  refine Go.of (T' := T4) (f' := (mkF m 17 #[.val (.ref a1), .val (.ref a2), .val (.int (0 : Int32)), .val (.int (0 : Int32)), .val .null, .unset] [])) st4 ?_
  refine Go.of (T' := T4) (f' := (mkF m 18 #[.val (.ref a1), .val (.ref a2), .val (.int (0 : Int32)), .val (.int (0 : Int32)), .val .null, .unset] [(.ref a1)])) (fun _ k => XS.aloadN X4.here hx rfl (hb hby d_jdk_42_method_149_code_17) rfl rfl k) ?_
  obtain ⟨sa6, T6, h6, k6, sb6, kb6, X6, e6, E6, hS6, hk6, hZ6, hown6, E_sa6, F_cd6, F_vl6, V_sb6, -, -, A6, -, hne6, st6⟩ := ldcCH X4 hx hZ hown (hw _ (List.mem_of_getElem? (i := 22) rfl)) (hw_sA hw) e4 hS hk (hEL_1 hw) (by decide) RH.1 (vs := []) (z := (0 : Int32)) ⟨by decide, by decide⟩ (by decide) (by decide) (g := (mkF m 18 #[.val (.ref a1), .val (.ref a2), .val (.int (0 : Int32)), .val (.int (0 : Int32)), .val .null, .unset] [(.ref a1)])) rfl (hb hby d_jdk_42_method_149_code_18) (n := 0) (by decide) (by decide) (by decide) (by decide)
  have K6 := keepE E6
  have M6 := M4.ext E6
  clear hS hk
  replace Sf_a1 := CHr.safe A6 E_a1.lt Sf_a1
  replace RH := RH.trans A6
  replace E_a1 := E_a1.keep K6
  replace F_value := F_value.keep K6 nin0
  replace F_coder := F_coder.keep K6 nin0
  replace E_sa2 := E_sa2.keep K6
  replace F_cd2 := F_cd2.keep K6 nin0
  replace F_vl2 := F_vl2.keep K6 nin0
  replace V_sb2 := V_sb2.keep K6 nin0
  have hS := hS6
  have hk := hk6
  replace hZ := hZ6
  replace hown := hown6
  have ne_a1_sa6 := (hne6 _ Sf_a1).1
  have ne_a1_sb6 := (hne6 _ Sf_a1).2
  refine Go.of (T' := T6) (f' := (mkF m 20 #[.val (.ref a1), .val (.ref a2), .val (.int (0 : Int32)), .val (.int (0 : Int32)), .val .null, .unset] [(.ref sa6), (.ref a1)])) st6 ?_
  obtain ⟨T7, X7, e7, st7⟩ := getF X6 hx hZ hown (host := "") (Or.inl (hw _ (List.mem_of_getElem? (i := 29) rfl))) Via.refl e6 F_cd6 (g := (mkF m 20 #[.val (.ref a1), .val (.ref a2), .val (.int (0 : Int32)), .val (.int (0 : Int32)), .val .null, .unset] [(.ref sa6), (.ref a1)])) rfl rfl (hb hby d_jdk_42_method_149_code_20)
  refine Go.of (T' := T7) (f' := (mkF m 23 #[.val (.ref a1), .val (.ref a2), .val (.int (0 : Int32)), .val (.int (0 : Int32)), .val .null, .unset] [(.int (0 : Int32)), (.ref a1)])) st7 ?_
  obtain ⟨T8, h8, X8, e8, W8, st8⟩ := putF X7 hx hZ hown (host := "") (Or.inl (hw _ (List.mem_of_getElem? (i := 29) rfl))) Via.refl e7 F_coder E_a1 (Or.inr ⟨(hw _ (List.mem_of_getElem? (i := 25) rfl)), rfl, hnm⟩) (hw _ (List.mem_of_getElem? (i := 9) rfl)) (ty := .byte) (by decide) rfl rfl (g := (mkF m 23 #[.val (.ref a1), .val (.ref a2), .val (.int (0 : Int32)), .val (.int (0 : Int32)), .val .null, .unset] [(.int (0 : Int32)), (.ref a1)])) rfl rfl (hb hby d_jdk_42_method_149_code_23)
  have K8 := Keep.of_wr W8
  have M8 := M6.wr W8 (Or.inl (List.mem_of_getElem? (i := 0) rfl))
  replace F_value := F_value.other W8 (Or.inr (slot_ne (Or.inr (hw _ (List.mem_of_getElem? (i := 24) rfl))) (Or.inr (hw _ (List.mem_of_getElem? (i := 25) rfl))) (by decide) (t := (.array .byte)) (t' := .byte) (by decide) (by decide)))
  replace F_coder := F_coder.same W8
  replace hk := Nat.le_trans hk (K8).1
  have hq9 : ∀ x ∈ ([a1] : List Addr), Safe Z consts_1 T6.vm h6 x := (sfS Sf_a1 sf0)
  have hs9 := CHr.keep (K8) hq9 RH.1
  replace Sf_a1 := Safe.keep (K8) hq9 RH.1 Sf_a1
  replace RH := RH.trans hs9
  replace E_a1 := E_a1.keep K8
  replace E_sa2 := E_sa2.keep K8
  replace F_cd2 := F_cd2.keep K8 (ninS (Ne.symm ne_a1_sa2) nin0)
  replace F_vl2 := F_vl2.keep K8 (ninS (Ne.symm ne_a1_sa2) nin0)
  replace V_sb2 := V_sb2.keep K8 (ninS (Ne.symm ne_a1_sb2) nin0)
  replace E_sa6 := E_sa6.keep K8
  replace F_cd6 := F_cd6.keep K8 (ninS (Ne.symm ne_a1_sa6) nin0)
  replace F_vl6 := F_vl6.keep K8 (ninS (Ne.symm ne_a1_sa6) nin0)
  replace V_sb6 := V_sb6.keep K8 (ninS (Ne.symm ne_a1_sb6) nin0)
  refine Go.of (T' := T8) (f' := (mkF m 26 #[.val (.ref a1), .val (.ref a2), .val (.int (0 : Int32)), .val (.int (0 : Int32)), .val .null, .unset] [])) st8 ?_
  exact goRet0H (Q := fun v h L => v = none ∧ Mv h0 h [a1] L ∧ ∃ t, Str Z h a1 t []) X8 hx hZ hS hk (hEL_1 hw) RH hret hlk (hb hby d_jdk_42_method_149_code_26) K (by decide) (by decide) e8 (⟨rfl, M8, sb2, str0 E_a1 F_value F_coder V_sb2⟩)
theorem ef_rm_init0 (m : MethodId) (x0 : Addr) (x1 : Addr)  : entryFrame m #[(.ref x0), (.ref x1)] 2 = mkF m 0 #[.val (.ref x0), .val (.ref x1)] [] := by first | (simp [entryFrame, mkF, argsToLocals, Value.category]; done) | rfl
set_option maxRecDepth 65536 in
set_option maxHeartbeats 40000000 in
theorem rm_init0 (l : Launch) (Z : State) (a0 : Array Value) (hw : ∀ d ∈ tables_1, d.before a0 Z = true) (a1 a2 : Addr) (ka : ClassId) (h0 : Heap) (E_a1 : Exa Z h0 a1 "java/lang/String") (F_value : Fld Z h0 a1 "java/lang/String" "value" "[B" .null) (F_coder : Fld Z h0 a1 "java/lang/String" "coder" "B" (.int (0 : Int32))) (V_a2 : Arv Z h0 a2 ka .char (0 : Int32) [] (.int (0 : Int32))) :
    MeetsH l Z consts_1 (⟨"java/lang/String", "<init>", "([C)V"⟩ : MethodName) jdk_42_method_3_code 2 none ({ frames := 2, cells := 4, slots := 8, locals := 29 } : Room) #[(.ref a1), (.ref a2)] h0 (fun v h L => v = none ∧ Mv h0 h [a1] L ∧ ∃ t, Str Z h a1 t []) := by
  refine MeetsH.of (plainFor_of_name pn_java_lang_String) ?_
  intro p e s m below meth c s₁ P hx hby hml hZ hown hnm hret hlk X0 e0 hS RH K
  have hk : h0.size ≤ h0.size := Nat.le_refl _
  replace hZ : Z.Warmed39 (s.setVm s.vm).vm := hZ
  replace hown : (s.setVm s.vm).vm.findClass "java/lang/String" = some m.cls := hown
  have M0 : Mv h0 h0 [a1] [] := Mv.refl _ _
  refine Go.cast (ef_rm_init0 m a1 a2 ) ?_
  have Sf_a1 := safeNull (EL := consts_1) hZ.alike E_a1 F_value
  have ne_a2_a1 : a2 ≠ a1 := Ne.symm (Exa.neArv E_a1 V_a2 (hw _ (List.mem_of_getElem? (i := 9) rfl)))
  refine Go.of (T' := s₁) (f' := (mkF m 1 #[.val (.ref a1), .val (.ref a2)] [(.ref a1)])) (fun _ k => XS.aloadN X0.here hx rfl (hb hby d_jdk_42_method_3_code_0) rfl rfl k) ?_
  refine Go.of (T' := s₁) (f' := (mkF m 2 #[.val (.ref a1), .val (.ref a2)] [(.ref a2), (.ref a1)])) (fun _ k => XS.aloadN X0.here hx rfl (hb hby d_jdk_42_method_3_code_1) rfl rfl k) ?_
  refine Go.of (T' := s₁) (f' := (mkF m 3 #[.val (.ref a1), .val (.ref a2)] [(.int (0 : Int32)), (.ref a2), (.ref a1)])) (fun _ k => XS.iconst X0.here hx rfl (hb hby d_jdk_42_method_3_code_2) k) ?_
  refine Go.of (T' := s₁) (f' := (mkF m 4 #[.val (.ref a1), .val (.ref a2)] [(.ref a2), (.int (0 : Int32)), (.ref a2), (.ref a1)])) (fun _ k => XS.aloadN X0.here hx rfl (hb hby d_jdk_42_method_3_code_3) rfl rfl k) ?_
  obtain ⟨cl1, Ar1, -, Sz1, Nn1, -, -⟩ := id V_a2
  refine Go.of (T' := s₁) (f' := (mkF m 5 #[.val (.ref a1), .val (.ref a2)] [(.int (0 : Int32)), (.int (0 : Int32)), (.ref a2), (.ref a1)])) (fun _ k => X0.arraylength hx (by rw [e0]; exact Ar1.1) (State.isArrayOf_alike hZ.alike Ar1.2.1) (g := (mkF m 4 #[.val (.ref a1), .val (.ref a2)] [(.ref a2), (.int (0 : Int32)), (.ref a2), (.ref a1)])) rfl rfl (hb hby d_jdk_42_method_3_code_4) _ (by rw [len_of Sz1 Nn1]; exact k)) ?_
  refine Go.of (T' := s₁) (f' := (mkF m 6 #[.val (.ref a1), .val (.ref a2)] [.null, (.int (0 : Int32)), (.int (0 : Int32)), (.ref a2), (.ref a1)])) (fun _ k => XS.aconstNull X0.here hx rfl (hb hby d_jdk_42_method_3_code_5) k) ?_
  refine goIH X0 hx hZ rfl hown (hw _ (List.mem_of_getElem? (i := 15) rfl)) (hw _ (List.mem_of_getElem? (i := 16) rfl)) (hw _ (List.mem_of_getElem? (i := 10) rfl)) (hw _ (List.mem_of_getElem? (i := 18) rfl)) (by decide) (W := 0) (C := 4) (S := 8) (rm_initV0 l Z a0 hw a1 a2 h0 E_a1 F_value F_coder ) rfl rfl (by decide) (by decide) hS hk (hEL_1 hw) RH.1 e0 (argsL := [(.ref a2), (.int (0 : Int32)), (.int (0 : Int32)), .null]) (rest := []) (by rw [hml]; rfl) (lenOf pd___CIILjava_lang_Void__V rfl) rfl rfl (hb hby d_jdk_42_method_3_code_6) (Nat.le_of_eq rfl) (by decide) (by decide) ?_
  intro v2 T2 L2 X2 hQ2 hS2 hZ2 hown2 A2
  obtain ⟨h2, e2⟩ : ∃ z, T2.heap = z := ⟨_, rfl⟩
  rw [e2] at hQ2 hS2 A2
  obtain ⟨rfl, Mc2, t2, S2⟩ := hQ2
  have M2 := M0.app Mc2 (allS (Or.inl (List.mem_of_getElem? (i := 0) rfl)) all0)
  clear hS hk
  replace Sf_a1 := CHr.safe A2 E_a1.lt Sf_a1
  replace RH := RH.trans A2
  replace E_a1 := E_a1.keep Mc2.1
  replace V_a2 := V_a2.keep Mc2.1 (ninS ne_a2_a1 nin0)
  have S_a1 := S2
  have hS := hS2
  have hk : h2.size ≤ h2.size := Nat.le_refl _
  replace hZ := hZ2
  replace hown := hown2
  show Go p e below P T2 (mkF m 9 #[.val (.ref a1), .val (.ref a2)] [])
  exact goRet0H (Q := fun v h L => v = none ∧ Mv h0 h [a1] L ∧ ∃ t, Str Z h a1 t []) X2 hx hZ hS hk (hEL_1 hw) RH hret hlk (hb hby d_jdk_42_method_3_code_9) K (by decide) (by decide) e2 (⟨rfl, M2, t2, S_a1⟩)
def Ws (c : Int32) : Prop := c = (32 : Int32) ∨ c = (9 : Int32) ∨ c = (10 : Int32) ∨ c = (13 : Int32)
instance (c : Int32) : Decidable (Ws c) := by unfold Ws; infer_instance
def fst : List Int32 → Nat
  | [] => 0
  | c :: r => if Ws c then fst r + 1 else 0
theorem fst_le : ∀ cs : List Int32, fst cs ≤ cs.length
  | [] => Nat.le_refl _
  | c :: r => by have := fst_le r; unfold fst; split <;> simp <;> omega
theorem fstNil {cs : List Int32} {i : Nat} (h : cs.length ≤ i) : fst (cs.drop i) = 0 := by rw [List.drop_eq_nil_of_le h]; rfl
theorem getDe {cs : List Int32} {i : Nat} (h : i < cs.length) : cs.getD i 0 = cs[i] := by simp [List.getD_eq_getElem?_getD, h]
theorem fstStop {cs : List Int32} {i : Nat} (h : i < cs.length) (q : ¬ Ws (cs.getD i 0)) : fst (cs.drop i) = 0 := by
  rw [getDe h] at q
  rw [List.drop_eq_getElem_cons h, fst, if_neg q]
theorem fstStep {cs : List Int32} {i : Nat} (h : i < cs.length) (q : Ws (cs.getD i 0)) : fst (cs.drop i) = fst (cs.drop (i + 1)) + 1 := by
  rw [getDe h] at q
  rw [List.drop_eq_getElem_cons h, fst, if_pos q]
theorem fstIdem : ∀ cs : List Int32, fst (cs.drop (fst cs)) = 0
  | [] => rfl
  | c :: r => by
    by_cases q : Ws c
    · rw [show fst (c :: r) = fst r + 1 by rw [fst, if_pos q]]; exact fstIdem r
    · rw [show fst (c :: r) = 0 by rw [fst, if_neg q]]; rw [List.drop_zero, fst, if_neg q]
theorem nar_rng {c : Int32} (q : ¬ c < 0 ∧ ¬ (65535 : Int32) < c) : nar .char c = c := by
  have e0 : (0 : Int32).toInt = 0 := by decide
  have e1 : (65535 : Int32).toInt = 65535 := by decide
  rw [Int32.lt_iff_toInt_lt, Int32.lt_iff_toInt_lt, e0, e1] at q
  have h1 := c_i2c c
  show c.toUInt32.toUInt16.toUInt32.toInt32 = c
  apply Int32.toInt_inj.mp
  omega
theorem i2c_rng (x : Int32) : ¬ x.toUInt32.toUInt16.toUInt32.toInt32 < 0 ∧ ¬ (65535 : Int32) < x.toUInt32.toUInt16.toUInt32.toInt32 := by
  have h := c_i2c x
  have e0 : (0 : Int32).toInt = 0 := by decide
  have e1 : (65535 : Int32).toInt = 65535 := by decide
  rw [Int32.lt_iff_toInt_lt, Int32.lt_iff_toInt_lt, e0, e1]; omega
theorem memD {cs : List Int32} {i : Nat} {P : Int32 → Prop} (h : ∀ c ∈ cs, P c) (hi : i < cs.length) : P (cs.getD i 0) := by rw [getDe hi]; exact h _ (List.getElem_mem hi)
theorem latRt {x : Int32} (h0 : ¬ x < 0) (h1 : ¬ (255 : Int32) < x) : nar .char ((StrChars.lo8 x &&& (255 : Int32)).toUInt32.toUInt16.toUInt32.toInt32) = x := by rw [narC, i2c_mask, StrChars.lo8_mask h0 h1]
def WC (vs : List Value) (cs : List Int32) (i : Nat) : Prop := vs.length = cs.length ∧ ∀ j, j < i → vs[j]? = some (.int (cs.getD j 0))
theorem wc0 (cs : List Int32) (vs : List Value) (h : vs.length = cs.length) : WC vs cs 0 := ⟨h, fun j hj => absurd hj (Nat.not_lt_zero _)⟩
theorem wcStep {vs : List Value} {cs : List Int32} {i : Nat} (h : WC vs cs i) (hi : i < cs.length) : WC (vs.set i (.int (cs.getD i 0))) cs (i + 1) := by
  obtain ⟨h1, h2⟩ := h
  refine ⟨by simp [h1], fun j hj => ?_⟩
  by_cases q : j = i
  · subst q; rw [List.getElem?_set_self (by omega)]
  · rw [List.getElem?_set_ne (by omega)]; exact h2 j (by omega)
theorem wcEnd {vs : List Value} {cs : List Int32} {i : Nat} (h : WC vs cs i) (hi : cs.length ≤ i) : vs = cs.map Value.int := by
  obtain ⟨h1, h2⟩ := h
  apply List.ext_getElem?
  intro k
  by_cases hk : k < cs.length
  · rw [h2 k (by omega), getDe hk]; simp [hk]
  · rw [List.getElem?_eq_none (by omega), List.getElem?_eq_none (by simp; omega)]
theorem gtk {l : List Int32} {k i : Nat} (h : i < k) : (l.take k).getD i 0 = l.getD i 0 := by simp [List.getD_eq_getElem?_getD, List.getElem?_take, h]
theorem ofk {k j : Nat} (hk : k ≤ 4000) (hj : j ≤ 4000) (h : Int32.ofNat k = Int32.ofNat j) : k = j := Classical.byContradiction fun q => neN hk hj q h

theorem pn_java_lang_StringLatin1 : plainName "java/lang/StringLatin1" = true := by first | (simp [plainName, overriddenIn]; done) | decide +kernel
theorem ef_rm_infl (m : MethodId) (x0 : Addr) (x1 : Int32) (x2 : Addr) (x3 : Int32) (x4 : Int32)  : entryFrame m #[(.ref x0), (.int x1), (.ref x2), (.int x3), (.int x4)] 6 = mkF m 0 #[.val (.ref x0), .val (.int x1), .val (.ref x2), .val (.int x3), .val (.int x4), .unset] [] := by first | (simp [entryFrame, mkF, argsToLocals, Value.category]; done) | rfl
theorem d_jdk_43_method_49_code_0 : decode jdk_43_method_49_code 0 = .ok (.iconst 0, 1) := by decide +kernel
theorem d_jdk_43_method_49_code_1 : decode jdk_43_method_49_code 1 = .ok (.istore 5, 2) := by decide +kernel
theorem d_jdk_43_method_49_code_3 : decode jdk_43_method_49_code 3 = .ok (.iload 5, 2) := by decide +kernel
theorem d_jdk_43_method_49_code_5 : decode jdk_43_method_49_code 5 = .ok (.iload 4, 2) := by decide +kernel
theorem d_jdk_43_method_49_code_7 : decode jdk_43_method_49_code 7 = .ok (.if_icmp .ge 26, 3) := by decide +kernel
theorem d_jdk_43_method_49_code_33 : decode jdk_43_method_49_code 33 = .ok (.return_, 1) := by decide +kernel
theorem d_jdk_43_method_49_code_10 : decode jdk_43_method_49_code 10 = .ok (.aload_n 2, 1) := by decide +kernel
theorem d_jdk_43_method_49_code_11 : decode jdk_43_method_49_code 11 = .ok (.iload_n 3, 1) := by decide +kernel
theorem d_jdk_43_method_49_code_12 : decode jdk_43_method_49_code 12 = .ok (.iinc 3 1, 3) := by decide +kernel
theorem d_jdk_43_method_49_code_15 : decode jdk_43_method_49_code 15 = .ok (.aload_n 0, 1) := by decide +kernel
theorem d_jdk_43_method_49_code_16 : decode jdk_43_method_49_code 16 = .ok (.iload_n 1, 1) := by decide +kernel
theorem d_jdk_43_method_49_code_17 : decode jdk_43_method_49_code 17 = .ok (.iinc 1 1, 3) := by decide +kernel
theorem d_jdk_43_method_49_code_20 : decode jdk_43_method_49_code 20 = .ok (.baload, 1) := by decide +kernel
theorem d_jdk_43_method_49_code_21 : decode jdk_43_method_49_code 21 = .ok (.sipush 255, 3) := by decide +kernel
theorem d_jdk_43_method_49_code_24 : decode jdk_43_method_49_code 24 = .ok (.iand, 1) := by decide +kernel
theorem d_jdk_43_method_49_code_25 : decode jdk_43_method_49_code 25 = .ok (.i2c, 1) := by decide +kernel
theorem d_jdk_43_method_49_code_26 : decode jdk_43_method_49_code 26 = .ok (.castore, 1) := by decide +kernel
theorem d_jdk_43_method_49_code_27 : decode jdk_43_method_49_code 27 = .ok (.iinc 5 1, 3) := by decide +kernel
theorem d_jdk_43_method_49_code_30 : decode jdk_43_method_49_code 30 = .ok (.goto (-27), 3) := by decide +kernel
set_option maxRecDepth 65536 in
set_option maxHeartbeats 40000000 in
theorem rm_infl (l : Launch) (Z : State) (a0 : Array Value) (hw : ∀ d ∈ tables_1, d.before a0 Z = true) (a1 a2 : Addr) (ka kb : ClassId) (cs : List Int32) (vs : List Value) (h0 : Heap) (V_a1 : Arv Z h0 a1 ka .byte (Int32.ofNat cs.length) (cs.map fun c => Value.int (StrChars.lo8 c)) (.int (0 : Int32))) (hle8 : cs.length ≤ 8) (hbr : ∀ c ∈ cs, ¬ c < 0 ∧ ¬ (65535 : Int32) < c) (hla : ∀ c ∈ cs, ¬ (255 : Int32) < c) (V_a2 : Arv Z h0 a2 kb .char (Int32.ofNat cs.length) vs (.int (0 : Int32))) (hv : vs.length = cs.length) (hne : a1 ≠ a2) :
    MeetsW l Z (⟨"java/lang/StringLatin1", "inflate", "([BI[CII)V"⟩ : MethodName) jdk_43_method_49_code 6 none ({ frames := 0, cells := 0, slots := 0, locals := 0 } : Room) #[(.ref a1), (.int (0 : Int32)), (.ref a2), (.int (0 : Int32)), (.int (Int32.ofNat cs.length))] h0 (fun v h L => v = none ∧ Mv h0 h [a2] L ∧ Arv Z h a2 kb .char (Int32.ofNat cs.length) (cs.map Value.int) (.int (0 : Int32))) := by
  refine MeetsW.of (plainFor_of_name pn_java_lang_StringLatin1) ?_
  intro p e s m below meth c s₁ P hx hby hml hZ hown hnm hret hlk X0 e0 K
  have M0 : Mv h0 h0 [a2] [] := Mv.refl _ _
  refine Go.cast (ef_rm_infl m a1 (0 : Int32) a2 (0 : Int32) (Int32.ofNat cs.length) ) ?_
  refine Go.of (T' := s₁) (f' := (mkF m 1 #[.val (.ref a1), .val (.int (0 : Int32)), .val (.ref a2), .val (.int (0 : Int32)), .val (.int (Int32.ofNat cs.length)), .unset] [(.int (0 : Int32))])) (fun _ k => XS.iconst X0.here hx rfl (hb hby d_jdk_43_method_49_code_0) k) ?_
  refine Go.of (T' := s₁) (f' := (mkF m 3 #[.val (.ref a1), .val (.int (0 : Int32)), .val (.ref a2), .val (.int (0 : Int32)), .val (.int (Int32.ofNat cs.length)), .val (.int (0 : Int32))] [])) (fun _ k => XS.istore X0.here hx rfl (hb hby d_jdk_43_method_49_code_1) rfl (l' := #[.val (.ref a1), .val (.int (0 : Int32)), .val (.ref a2), .val (.int (0 : Int32)), .val (.int (Int32.ofNat cs.length)), .val (.int (0 : Int32))]) rfl k) ?_
  show Go p e below P s₁ (mkF m 3 #[.val (.ref a1), .val (.int (Int32.ofNat 0)), .val (.ref a2), .val (.int (Int32.ofNat 0)), .val (.int (Int32.ofNat cs.length)), .val (.int (Int32.ofNat 0))] [])
  have J : ∀ (n : Nat) (i : Nat) (vs : List Value) (Tj : State) (hj : Heap) (Lj : List Loc), cs.length ≤ i + n → i ≤ cs.length → (WC vs cs i) → Stand p l e ({ frames := 0, cells := 0, slots := 0, locals := 0 } : Room) s m #[(.ref a1), (.int (0 : Int32)), (.ref a2), (.int (0 : Int32)), (.int (Int32.ofNat cs.length))] below meth c Tj Lj 0 0 → Tj.heap = hj → Mv h0 hj [a2] Lj → Arv Z hj a1 ka (.byte) (Int32.ofNat cs.length) (cs.map fun c => Value.int (StrChars.lo8 c)) (.int (0 : Int32)) → Arv Z hj a2 kb (.char) (Int32.ofNat cs.length) vs (.int (0 : Int32)) → Go p e below P Tj (mkF m 3 #[.val (.ref a1), .val (.int (Int32.ofNat i)), .val (.ref a2), .val (.int (Int32.ofNat i)), .val (.int (Int32.ofNat cs.length)), .val (.int (Int32.ofNat i))] []) := by
    intro n
    induction n with
    | zero =>
      intro i vs Tj hj Lj hle hi1 hwc Xj ej Mj V_a1 V_a2
      refine Go.of (T' := Tj) (f' := (mkF m 5 #[.val (.ref a1), .val (.int (Int32.ofNat i)), .val (.ref a2), .val (.int (Int32.ofNat i)), .val (.int (Int32.ofNat cs.length)), .val (.int (Int32.ofNat i))] [(.int (Int32.ofNat i))])) (fun _ k => XS.iload Xj.here hx rfl (hb hby d_jdk_43_method_49_code_3) rfl k) ?_
      refine Go.of (T' := Tj) (f' := (mkF m 7 #[.val (.ref a1), .val (.int (Int32.ofNat i)), .val (.ref a2), .val (.int (Int32.ofNat i)), .val (.int (Int32.ofNat cs.length)), .val (.int (Int32.ofNat i))] [(.int (Int32.ofNat cs.length)), (.int (Int32.ofNat i))])) (fun _ k => XS.iload Xj.here hx rfl (hb hby d_jdk_43_method_49_code_5) rfl k) ?_
      have hc7 : ¬ ((Int32.ofNat i) < (Int32.ofNat cs.length)) := fun q => by have q := (ltN (by omega) (by omega)).mp q; omega
      refine Go.of (T' := Tj) (f' := (mkF m 33 #[.val (.ref a1), .val (.int (Int32.ofNat i)), .val (.ref a2), .val (.int (Int32.ofNat i)), .val (.int (Int32.ofNat cs.length)), .val (.int (Int32.ofNat i))] [])) (fun _ k => XS.icmpYes Xj.here hx rfl (pc0 := 7) (pc' := 33) rfl (hb hby d_jdk_43_method_49_code_7) rfl (flt hc7).2.1 (by decide) (by decide) k) ?_
      exact goRet0 (Q := fun v h L => v = none ∧ Mv h0 h [a2] L ∧ Arv Z h a2 kb .char (Int32.ofNat cs.length) (cs.map Value.int) (.int (0 : Int32))) Xj hx hret hlk (hb hby d_jdk_43_method_49_code_33) K (by decide) (by decide) ej (⟨rfl, Mj, (wcEnd hwc (by first | exact Nat.le_of_not_lt fun q => hc7 ((ltN (by omega) (by omega)).mpr q) | omega)) ▸ V_a2⟩)
    | succ n ih =>
      intro i vs Tj hj Lj hle hi1 hwc Xj ej Mj V_a1 V_a2
      refine Go.of (T' := Tj) (f' := (mkF m 5 #[.val (.ref a1), .val (.int (Int32.ofNat i)), .val (.ref a2), .val (.int (Int32.ofNat i)), .val (.int (Int32.ofNat cs.length)), .val (.int (Int32.ofNat i))] [(.int (Int32.ofNat i))])) (fun _ k => XS.iload Xj.here hx rfl (hb hby d_jdk_43_method_49_code_3) rfl k) ?_
      refine Go.of (T' := Tj) (f' := (mkF m 7 #[.val (.ref a1), .val (.int (Int32.ofNat i)), .val (.ref a2), .val (.int (Int32.ofNat i)), .val (.int (Int32.ofNat cs.length)), .val (.int (Int32.ofNat i))] [(.int (Int32.ofNat cs.length)), (.int (Int32.ofNat i))])) (fun _ k => XS.iload Xj.here hx rfl (hb hby d_jdk_43_method_49_code_5) rfl k) ?_
      by_cases hc7 : (Int32.ofNat i) < (Int32.ofNat cs.length)
      ·
        refine Go.of (T' := Tj) (f' := (mkF m 10 #[.val (.ref a1), .val (.int (Int32.ofNat i)), .val (.ref a2), .val (.int (Int32.ofNat i)), .val (.int (Int32.ofNat cs.length)), .val (.int (Int32.ofNat i))] [])) (fun _ k => XS.icmpNo Xj.here hx rfl (hb hby d_jdk_43_method_49_code_7) rfl (tlt hc7).2.1 k) ?_
        have hi : i < cs.length := (ltN (by omega) (by omega)).mp hc7
        refine Go.of (T' := Tj) (f' := (mkF m 11 #[.val (.ref a1), .val (.int (Int32.ofNat i)), .val (.ref a2), .val (.int (Int32.ofNat i)), .val (.int (Int32.ofNat cs.length)), .val (.int (Int32.ofNat i))] [(.ref a2)])) (fun _ k => XS.aloadN Xj.here hx rfl (hb hby d_jdk_43_method_49_code_10) rfl rfl k) ?_
        refine Go.of (T' := Tj) (f' := (mkF m 12 #[.val (.ref a1), .val (.int (Int32.ofNat i)), .val (.ref a2), .val (.int (Int32.ofNat i)), .val (.int (Int32.ofNat cs.length)), .val (.int (Int32.ofNat i))] [(.int (Int32.ofNat i)), (.ref a2)])) (fun _ k => XS.iloadN Xj.here hx rfl (hb hby d_jdk_43_method_49_code_11) rfl k) ?_
        refine Go.of (T' := Tj) (f' := (mkF m 15 #[.val (.ref a1), .val (.int (Int32.ofNat i)), .val (.ref a2), .val (.int ((Int32.ofNat i) + (1 : Int32))), .val (.int (Int32.ofNat cs.length)), .val (.int (Int32.ofNat i))] [(.int (Int32.ofNat i)), (.ref a2)])) (fun _ k => XS.iinc Xj.here hx rfl (hb hby d_jdk_43_method_49_code_12) rfl (l' := #[.val (.ref a1), .val (.int (Int32.ofNat i)), .val (.ref a2), .val (.int ((Int32.ofNat i) + (1 : Int32))), .val (.int (Int32.ofNat cs.length)), .val (.int (Int32.ofNat i))]) rfl k) ?_
        refine Go.of (T' := Tj) (f' := (mkF m 16 #[.val (.ref a1), .val (.int (Int32.ofNat i)), .val (.ref a2), .val (.int ((Int32.ofNat i) + (1 : Int32))), .val (.int (Int32.ofNat cs.length)), .val (.int (Int32.ofNat i))] [(.ref a1), (.int (Int32.ofNat i)), (.ref a2)])) (fun _ k => XS.aloadN Xj.here hx rfl (hb hby d_jdk_43_method_49_code_15) rfl rfl k) ?_
        refine Go.of (T' := Tj) (f' := (mkF m 17 #[.val (.ref a1), .val (.int (Int32.ofNat i)), .val (.ref a2), .val (.int ((Int32.ofNat i) + (1 : Int32))), .val (.int (Int32.ofNat cs.length)), .val (.int (Int32.ofNat i))] [(.int (Int32.ofNat i)), (.ref a1), (.int (Int32.ofNat i)), (.ref a2)])) (fun _ k => XS.iloadN Xj.here hx rfl (hb hby d_jdk_43_method_49_code_16) rfl k) ?_
        refine Go.of (T' := Tj) (f' := (mkF m 20 #[.val (.ref a1), .val (.int ((Int32.ofNat i) + (1 : Int32))), .val (.ref a2), .val (.int ((Int32.ofNat i) + (1 : Int32))), .val (.int (Int32.ofNat cs.length)), .val (.int (Int32.ofNat i))] [(.int (Int32.ofNat i)), (.ref a1), (.int (Int32.ofNat i)), (.ref a2)])) (fun _ k => XS.iinc Xj.here hx rfl (hb hby d_jdk_43_method_49_code_17) rfl (l' := #[.val (.ref a1), .val (.int ((Int32.ofNat i) + (1 : Int32))), .val (.ref a2), .val (.int ((Int32.ofNat i) + (1 : Int32))), .val (.int (Int32.ofNat cs.length)), .val (.int (Int32.ofNat i))]) rfl k) ?_
        obtain ⟨cl1, Ar1, cq1, Sz1, Nn1, Hs1, Gs1⟩ := id V_a1
        have hin1 : ¬ ((Int32.ofNat i) < 0 ∨ cl1.slots.size ≤ ((Int32.ofNat i)).toNatClampNeg) := inbN Sz1 hi (by omega)
        have hat1 : cl1.slots[((Int32.ofNat i)).toNatClampNeg]? = some (.int (StrChars.lo8 (cs.getD i 0))) := Has.at Hs1 hin1 (by rw [nat32 (by omega)]; exact StrChars.Road.low_at _ cs i hi)
        refine Go.of (T' := Tj) (f' := (mkF m 21 #[.val (.ref a1), .val (.int ((Int32.ofNat i) + (1 : Int32))), .val (.ref a2), .val (.int ((Int32.ofNat i) + (1 : Int32))), .val (.int (Int32.ofNat cs.length)), .val (.int (Int32.ofNat i))] [(.int (StrChars.lo8 (cs.getD i 0))), (.int (Int32.ofNat i)), (.ref a2)])) (fun _ k => Xj.baloadBytes hx (j := (Int32.ofNat i)) (v := (.int (StrChars.lo8 (cs.getD i 0)))) (by rw [ej]; exact Ar1.1) (State.isArrayOf_alike hZ.alike Ar1.2.1) Ar1.2.2 hin1 hat1 (g := (mkF m 20 #[.val (.ref a1), .val (.int ((Int32.ofNat i) + (1 : Int32))), .val (.ref a2), .val (.int ((Int32.ofNat i) + (1 : Int32))), .val (.int (Int32.ofNat cs.length)), .val (.int (Int32.ofNat i))] [(.int (Int32.ofNat i)), (.ref a1), (.int (Int32.ofNat i)), (.ref a2)])) rfl rfl (hb hby d_jdk_43_method_49_code_20) _ k) ?_
        refine Go.of (T' := Tj) (f' := (mkF m 24 #[.val (.ref a1), .val (.int ((Int32.ofNat i) + (1 : Int32))), .val (.ref a2), .val (.int ((Int32.ofNat i) + (1 : Int32))), .val (.int (Int32.ofNat cs.length)), .val (.int (Int32.ofNat i))] [(.int (255 : Int32)), (.int (StrChars.lo8 (cs.getD i 0))), (.int (Int32.ofNat i)), (.ref a2)])) (fun _ k => XS.sipush Xj.here hx rfl (hb hby d_jdk_43_method_49_code_21) k) ?_
        refine Go.of (T' := Tj) (f' := (mkF m 25 #[.val (.ref a1), .val (.int ((Int32.ofNat i) + (1 : Int32))), .val (.ref a2), .val (.int ((Int32.ofNat i) + (1 : Int32))), .val (.int (Int32.ofNat cs.length)), .val (.int (Int32.ofNat i))] [(.int ((StrChars.lo8 (cs.getD i 0)) &&& (255 : Int32))), (.int (Int32.ofNat i)), (.ref a2)])) (fun _ k => XS.iand Xj.here hx rfl (hb hby d_jdk_43_method_49_code_24) rfl k) ?_
        refine Go.of (T' := Tj) (f' := (mkF m 26 #[.val (.ref a1), .val (.int ((Int32.ofNat i) + (1 : Int32))), .val (.ref a2), .val (.int ((Int32.ofNat i) + (1 : Int32))), .val (.int (Int32.ofNat cs.length)), .val (.int (Int32.ofNat i))] [(.int (((StrChars.lo8 (cs.getD i 0)) &&& (255 : Int32)).toUInt32.toUInt16.toUInt32.toInt32)), (.int (Int32.ofNat i)), (.ref a2)])) (fun _ k => XS.i2c Xj.here hx rfl (hb hby d_jdk_43_method_49_code_25) rfl k) ?_
        obtain ⟨cl2, Ar2, cq2, Sz2, Nn2, Hs2, Gs2⟩ := id V_a2
        have hin2 : ¬ ((Int32.ofNat i) < 0 ∨ cl2.slots.size ≤ ((Int32.ofNat i)).toNatClampNeg) := by rw [inbS Sz2 (m := cs.length) (nat32 (by omega))]; exact ⟨nneg (by omega), by rw [nat32 (by omega)]; omega⟩
        obtain ⟨T2, h2, X2, e2, W2, st2⟩ := stC Xj hx hZ ej Ar2 (j := (Int32.ofNat i)) hin2 (g := (mkF m 26 #[.val (.ref a1), .val (.int ((Int32.ofNat i) + (1 : Int32))), .val (.ref a2), .val (.int ((Int32.ofNat i) + (1 : Int32))), .val (.int (Int32.ofNat cs.length)), .val (.int (Int32.ofNat i))] [(.int (((StrChars.lo8 (cs.getD i 0)) &&& (255 : Int32)).toUInt32.toUInt16.toUInt32.toInt32)), (.int (Int32.ofNat i)), (.ref a2)])) rfl rfl (hb hby d_jdk_43_method_49_code_26)
        have fq2 : fits .char (.int (nar .char (((StrChars.lo8 (cs.getD i 0)) &&& (255 : Int32)).toUInt32.toUInt16.toUInt32.toInt32))) = true := fits_nar_char _
        rw [show nar .char (((StrChars.lo8 (cs.getD i 0)) &&& (255 : Int32)).toUInt32.toUInt16.toUInt32.toInt32) = (cs.getD i 0) from latRt (memD hbr hi).1 (memD hla hi)] at W2 fq2
        have V2 := Arv.set Ar2 cq2 Sz2 Nn2 Hs2 Gs2 fq2 W2 (i) (nat32 (by omega)) (by have := hwc.1; omega)
        have K2 := Keep.of_wr W2
        have M2 := Mj.wr W2 (Or.inl (List.mem_of_getElem? (i := 0) rfl))
        replace V_a1 := V_a1.keep K2 (ninS hne nin0)
        replace V_a2 := V2
        refine Go.of (T' := T2) (f' := (mkF m 27 #[.val (.ref a1), .val (.int ((Int32.ofNat i) + (1 : Int32))), .val (.ref a2), .val (.int ((Int32.ofNat i) + (1 : Int32))), .val (.int (Int32.ofNat cs.length)), .val (.int (Int32.ofNat i))] [])) st2 ?_
        refine Go.of (T' := T2) (f' := (mkF m 30 #[.val (.ref a1), .val (.int ((Int32.ofNat i) + (1 : Int32))), .val (.ref a2), .val (.int ((Int32.ofNat i) + (1 : Int32))), .val (.int (Int32.ofNat cs.length)), .val (.int ((Int32.ofNat i) + (1 : Int32)))] [])) (fun _ k => XS.iinc X2.here hx rfl (hb hby d_jdk_43_method_49_code_27) rfl (l' := #[.val (.ref a1), .val (.int ((Int32.ofNat i) + (1 : Int32))), .val (.ref a2), .val (.int ((Int32.ofNat i) + (1 : Int32))), .val (.int (Int32.ofNat cs.length)), .val (.int ((Int32.ofNat i) + (1 : Int32)))]) rfl k) ?_
        refine Go.of (T' := T2) (f' := (mkF m 3 #[.val (.ref a1), .val (.int ((Int32.ofNat i) + (1 : Int32))), .val (.ref a2), .val (.int ((Int32.ofNat i) + (1 : Int32))), .val (.int (Int32.ofNat cs.length)), .val (.int ((Int32.ofNat i) + (1 : Int32)))] [])) (fun _ k => XS.goto X2.here hx rfl (pc0 := 30) (pc' := 3) rfl (hb hby d_jdk_43_method_49_code_30) (by decide) (by decide) k) ?_
        rw [show (Int32.ofNat i) + (1 : Int32) = Int32.ofNat (i + 1) from (Int32.ofNat_add _ _).symm]
        exact ih (i + 1) _ T2 h2 _ (by omega) hi (wcStep hwc hi) (standUp X2 (by decide) (by decide)) e2 M2 V_a1 V_a2
      ·
        refine Go.of (T' := Tj) (f' := (mkF m 33 #[.val (.ref a1), .val (.int (Int32.ofNat i)), .val (.ref a2), .val (.int (Int32.ofNat i)), .val (.int (Int32.ofNat cs.length)), .val (.int (Int32.ofNat i))] [])) (fun _ k => XS.icmpYes Xj.here hx rfl (pc0 := 7) (pc' := 33) rfl (hb hby d_jdk_43_method_49_code_7) rfl (flt hc7).2.1 (by decide) (by decide) k) ?_
        exact goRet0 (Q := fun v h L => v = none ∧ Mv h0 h [a2] L ∧ Arv Z h a2 kb .char (Int32.ofNat cs.length) (cs.map Value.int) (.int (0 : Int32))) Xj hx hret hlk (hb hby d_jdk_43_method_49_code_33) K (by decide) (by decide) ej (⟨rfl, Mj, (wcEnd hwc (by first | exact Nat.le_of_not_lt fun q => hc7 ((ltN (by omega) (by omega)).mpr q) | omega)) ▸ V_a2⟩)
  exact J cs.length 0 _ s₁ h0 _ (by omega) (by omega) (wc0 cs _ hv) (standUp X0 (by decide) (by decide)) e0 M0 V_a1 V_a2
theorem ef_rm_tcL (m : MethodId) (x0 : Addr)  : entryFrame m #[(.ref x0)] 2 = mkF m 0 #[.val (.ref x0), .unset] [] := by first | (simp [entryFrame, mkF, argsToLocals, Value.category]; done) | rfl
theorem d_jdk_43_method_9_code_0 : decode jdk_43_method_9_code 0 = .ok (.aload_n 0, 1) := by decide +kernel
theorem d_jdk_43_method_9_code_1 : decode jdk_43_method_9_code 1 = .ok (.arraylength, 1) := by decide +kernel
theorem d_jdk_43_method_9_code_2 : decode jdk_43_method_9_code 2 = .ok (.newarray .char, 2) := by decide +kernel
theorem d_jdk_43_method_9_code_4 : decode jdk_43_method_9_code 4 = .ok (.astore_n 1, 1) := by decide +kernel
theorem d_jdk_43_method_9_code_5 : decode jdk_43_method_9_code 5 = .ok (.aload_n 0, 1) := by decide +kernel
theorem d_jdk_43_method_9_code_6 : decode jdk_43_method_9_code 6 = .ok (.iconst 0, 1) := by decide +kernel
theorem d_jdk_43_method_9_code_7 : decode jdk_43_method_9_code 7 = .ok (.aload_n 1, 1) := by decide +kernel
theorem d_jdk_43_method_9_code_8 : decode jdk_43_method_9_code 8 = .ok (.iconst 0, 1) := by decide +kernel
theorem d_jdk_43_method_9_code_9 : decode jdk_43_method_9_code 9 = .ok (.aload_n 0, 1) := by decide +kernel
theorem d_jdk_43_method_9_code_10 : decode jdk_43_method_9_code 10 = .ok (.arraylength, 1) := by decide +kernel
theorem d_jdk_43_method_9_code_11 : decode jdk_43_method_9_code 11 = .ok (.invokestatic 13, 3) := by decide +kernel
theorem pd___BI_CII_V : parseMethodDescriptor "([BI[CII)V" = some ⟨[(.array .byte), .int, (.array .char), .int, .int], none⟩ := by decide +kernel
theorem d_jdk_43_method_9_code_14 : decode jdk_43_method_9_code 14 = .ok (.aload_n 1, 1) := by decide +kernel
theorem d_jdk_43_method_9_code_15 : decode jdk_43_method_9_code 15 = .ok (.areturn, 1) := by decide +kernel
set_option maxRecDepth 65536 in
set_option maxHeartbeats 40000000 in
theorem rm_tcL (l : Launch) (Z : State) (a0 : Array Value) (hw : ∀ d ∈ tables_1, d.before a0 Z = true) (a1 : Addr) (ka : ClassId) (cs : List Int32) (h0 : Heap) (V_a1 : Arv Z h0 a1 ka .byte (Int32.ofNat cs.length) (cs.map fun c => Value.int (StrChars.lo8 c)) (.int (0 : Int32))) (hle8 : cs.length ≤ 8) (hbr : ∀ c ∈ cs, ¬ c < 0 ∧ ¬ (65535 : Int32) < c) (hla : ∀ c ∈ cs, ¬ (255 : Int32) < c) :
    MeetsW l Z (⟨"java/lang/StringLatin1", "toChars", "([B)[C"⟩ : MethodName) jdk_43_method_9_code 2 (some (.array .char)) ({ frames := 1, cells := 1, slots := 8, locals := 17 } : Room) #[(.ref a1)] h0 (fun v h L => Mv h0 h [] L ∧ ∃ (b : Addr) (k : ClassId), v = some (.ref b) ∧ h0.size ≤ b ∧ Arv Z h b k .char (Int32.ofNat cs.length) (cs.map Value.int) (.int (0 : Int32))) := by
  refine MeetsW.of (plainFor_of_name pn_java_lang_StringLatin1) ?_
  intro p e s m below meth c s₁ P hx hby hml hZ hown hnm hret hlk X0 e0 K
  have M0 : Mv h0 h0 [] [] := Mv.refl _ _
  refine Go.cast (ef_rm_tcL m a1 ) ?_
  refine Go.of (T' := s₁) (f' := (mkF m 1 #[.val (.ref a1), .unset] [(.ref a1)])) (fun _ k => XS.aloadN X0.here hx rfl (hb hby d_jdk_43_method_9_code_0) rfl rfl k) ?_
  obtain ⟨cl1, Ar1, -, Sz1, Nn1, -, -⟩ := id V_a1
  refine Go.of (T' := s₁) (f' := (mkF m 2 #[.val (.ref a1), .unset] [(.int (Int32.ofNat cs.length))])) (fun _ k => X0.arraylength hx (by rw [e0]; exact Ar1.1) (State.isArrayOf_alike hZ.alike Ar1.2.1) (g := (mkF m 1 #[.val (.ref a1), .unset] [(.ref a1)])) rfl rfl (hb hby d_jdk_43_method_9_code_1) _ (by rw [len_of Sz1 Nn1]; exact k)) ?_
  obtain ⟨T2, h2, k2, X2, e2, E2, A2, st2⟩ := newP X0 hx hZ (hw _ (List.mem_of_getElem? (i := 11) rfl)) e0 (g := (mkF m 2 #[.val (.ref a1), .unset] [(.int (Int32.ofNat cs.length))])) rfl (hb hby d_jdk_43_method_9_code_2) rfl (nneg (by omega)) (cap := 8) (by rw [nat32 (by omega)]; omega) (by decide) (by decide) (by decide)
  obtain ⟨b2, g2⟩ : ∃ z, z = h0.size := ⟨_, rfl⟩
  rw [← g2] at A2 st2
  have ne_a1_b2 : a1 ≠ b2 := Nat.ne_of_lt (Nat.lt_of_lt_of_le V_a1.lt (Nat.le_of_eq g2.symm))
  have fr_b2 : h0.size ≤ b2 := Nat.le_trans M0.le (Nat.le_of_eq g2.symm)
  have K2 := keepE E2
  have M2 := M0.ext E2
  replace V_a1 := V_a1.keep K2 nin0
  have V_b2 : Arv Z h2 b2 k2 .char (Int32.ofNat cs.length) [] (.int (0 : Int32)) := Arv.new A2 (nneg (by omega))
  refine Go.of (T' := T2) (f' := (mkF m 4 #[.val (.ref a1), .unset] [(.ref b2)])) st2 ?_
  refine Go.of (T' := T2) (f' := (mkF m 5 #[.val (.ref a1), .val (.ref b2)] [])) (fun _ k => XS.astoreN X2.here hx rfl (hb hby d_jdk_43_method_9_code_4) rfl rfl (l' := #[.val (.ref a1), .val (.ref b2)]) rfl k) ?_
  refine Go.of (T' := T2) (f' := (mkF m 6 #[.val (.ref a1), .val (.ref b2)] [(.ref a1)])) (fun _ k => XS.aloadN X2.here hx rfl (hb hby d_jdk_43_method_9_code_5) rfl rfl k) ?_
  refine Go.of (T' := T2) (f' := (mkF m 7 #[.val (.ref a1), .val (.ref b2)] [(.int (0 : Int32)), (.ref a1)])) (fun _ k => XS.iconst X2.here hx rfl (hb hby d_jdk_43_method_9_code_6) k) ?_
  refine Go.of (T' := T2) (f' := (mkF m 8 #[.val (.ref a1), .val (.ref b2)] [(.ref b2), (.int (0 : Int32)), (.ref a1)])) (fun _ k => XS.aloadN X2.here hx rfl (hb hby d_jdk_43_method_9_code_7) rfl rfl k) ?_
  refine Go.of (T' := T2) (f' := (mkF m 9 #[.val (.ref a1), .val (.ref b2)] [(.int (0 : Int32)), (.ref b2), (.int (0 : Int32)), (.ref a1)])) (fun _ k => XS.iconst X2.here hx rfl (hb hby d_jdk_43_method_9_code_8) k) ?_
  refine Go.of (T' := T2) (f' := (mkF m 10 #[.val (.ref a1), .val (.ref b2)] [(.ref a1), (.int (0 : Int32)), (.ref b2), (.int (0 : Int32)), (.ref a1)])) (fun _ k => XS.aloadN X2.here hx rfl (hb hby d_jdk_43_method_9_code_9) rfl rfl k) ?_
  obtain ⟨cl3, Ar3, -, Sz3, Nn3, -, -⟩ := id V_a1
  refine Go.of (T' := T2) (f' := (mkF m 11 #[.val (.ref a1), .val (.ref b2)] [(.int (Int32.ofNat cs.length)), (.int (0 : Int32)), (.ref b2), (.int (0 : Int32)), (.ref a1)])) (fun _ k => X2.arraylength hx (by rw [e2]; exact Ar3.1) (State.isArrayOf_alike hZ.alike Ar3.2.1) (g := (mkF m 10 #[.val (.ref a1), .val (.ref b2)] [(.ref a1), (.int (0 : Int32)), (.ref b2), (.int (0 : Int32)), (.ref a1)])) rfl rfl (hb hby d_jdk_43_method_9_code_10) _ (by rw [len_of Sz3 Nn3]; exact k)) ?_
  refine goS X2 hx hZ hown (hw _ (List.mem_of_getElem? (i := 58) rfl)) (hw _ (List.mem_of_getElem? (i := 59) rfl)) (hw _ (List.mem_of_getElem? (i := 56) rfl)) (hw _ (List.mem_of_getElem? (i := 60) rfl)) (by decide) (C := 0) (S := 0) ((rm_infl l Z a0 hw a1 b2 ka k2 cs _ h2 V_a1 hle8 hbr hla (V_b2.pad (pad_rep [] _ cs.length)) (by simp) ne_a1_b2).bk (W := 0) hZ (hw _ (List.mem_of_getElem? (i := 60) rfl)) (hw _ (List.mem_of_getElem? (i := 56) rfl)) (by decide) (by decide)) e2 (argsL := [(.ref a1), (.int (0 : Int32)), (.ref b2), (.int (0 : Int32)), (.int (Int32.ofNat cs.length))]) (rest := []) (by rw [hml]; rfl) (lenOf pd___BI_CII_V rfl) rfl rfl (hb hby d_jdk_43_method_9_code_11) (Nat.le_of_eq rfl) (by decide) (by decide) ?_
  intro v4 T4 L4 X4 hQ4
  obtain ⟨h4, e4⟩ : ∃ z, T4.heap = z := ⟨_, rfl⟩
  rw [e4] at hQ4
  obtain ⟨rfl, Mc4, Vc4⟩ := hQ4
  have M4 := M2.app Mc4 (allS (Or.inr fr_b2) all0)
  replace V_a1 := V_a1.keep Mc4.1 (ninS ne_a1_b2 nin0)
  replace V_b2 := Vc4
  show Go p e below P T4 (mkF m 14 #[.val (.ref a1), .val (.ref b2)] [])
  refine Go.of (T' := T4) (f' := (mkF m 15 #[.val (.ref a1), .val (.ref b2)] [(.ref b2)])) (fun _ k => XS.aloadN X4.here hx rfl (hb hby d_jdk_43_method_9_code_14) rfl rfl k) ?_
  exact goRetR (Q := fun v h L => Mv h0 h [] L ∧ ∃ (b : Addr) (k : ClassId), v = some (.ref b) ∧ h0.size ≤ b ∧ Arv Z h b k .char (Int32.ofNat cs.length) (cs.map Value.int) (.int (0 : Int32))) X4 hx hret rfl hlk rfl rfl (hb hby d_jdk_43_method_9_code_15) K (by decide) (by decide) e4 (⟨M4, b2, _, rfl, fr_b2, V_b2⟩)
theorem cfisOr {m n : Nat} (hm : m ≤ n) (hn : n ≤ 4000) : ¬ ((Int32.ofNat n ||| (0 : Int32)) ||| Int32.ofNat m) < (0 : Int32) := by
  have a := nneg (i := n) (by omega)
  have b := nneg (i := m) (by omega)
  generalize Int32.ofNat n = x at *
  generalize Int32.ofNat m = y at *
  rw [Int32.lt_iff_toBitVec_slt] at *
  simp only [Int32.toBitVec_or, Int32.toBitVec_ofNat] at *
  have e : ∀ v : BitVec 32, v.slt 0#32 = v.msb := fun v => BitVec.slt_zero_eq_msb
  simp_all [BitVec.msb_or]
theorem pn_jdk_internal_util_Preconditions : plainName "jdk/internal/util/Preconditions" = true := by first | (simp [plainName, overriddenIn]; done) | decide +kernel
theorem ef_rm_cfis (m : MethodId) (x0 : Int32) (x1 : Int32) (x2 : Int32) (x3 : Value) (hx3 : x3.isRef = true) : entryFrame m #[(.int x0), (.int x1), (.int x2), x3] 4 = mkF m 0 #[.val (.int x0), .val (.int x1), .val (.int x2), .val x3] [] := by
  all_goals (rcases ref_cases hx3 with rfl | ⟨z3, rfl⟩)
  all_goals first | (simp [entryFrame, mkF, argsToLocals, Value.category]; done) | rfl
theorem d_jdk_41_method_13_code_0 : decode jdk_41_method_13_code 0 = .ok (.iload_n 2, 1) := by decide +kernel
theorem d_jdk_41_method_13_code_1 : decode jdk_41_method_13_code 1 = .ok (.iload_n 0, 1) := by decide +kernel
theorem d_jdk_41_method_13_code_2 : decode jdk_41_method_13_code 2 = .ok (.ior, 1) := by decide +kernel
theorem d_jdk_41_method_13_code_3 : decode jdk_41_method_13_code 3 = .ok (.iload_n 1, 1) := by decide +kernel
theorem d_jdk_41_method_13_code_4 : decode jdk_41_method_13_code 4 = .ok (.ior, 1) := by decide +kernel
theorem d_jdk_41_method_13_code_5 : decode jdk_41_method_13_code 5 = .ok (.ifCond .lt 10, 3) := by decide +kernel
theorem d_jdk_41_method_13_code_8 : decode jdk_41_method_13_code 8 = .ok (.iload_n 1, 1) := by decide +kernel
theorem d_jdk_41_method_13_code_9 : decode jdk_41_method_13_code 9 = .ok (.iload_n 2, 1) := by decide +kernel
theorem d_jdk_41_method_13_code_10 : decode jdk_41_method_13_code 10 = .ok (.iload_n 0, 1) := by decide +kernel
theorem d_jdk_41_method_13_code_11 : decode jdk_41_method_13_code 11 = .ok (.isub, 1) := by decide +kernel
theorem d_jdk_41_method_13_code_12 : decode jdk_41_method_13_code 12 = .ok (.if_icmp .le 11, 3) := by decide +kernel
theorem d_jdk_41_method_13_code_23 : decode jdk_41_method_13_code 23 = .ok (.iload_n 0, 1) := by decide +kernel
theorem d_jdk_41_method_13_code_24 : decode jdk_41_method_13_code 24 = .ok (.ireturn, 1) := by decide +kernel
set_option maxRecDepth 65536 in
set_option maxHeartbeats 40000000 in
theorem rm_cfis (l : Launch) (Z : State) (a0 : Array Value) (hw : ∀ d ∈ tables_1, d.before a0 Z = true) (mm n : Nat) (fm : Value) (h0 : Heap) (hfm : fm.isRef = true) (hm : mm ≤ n) (hn : n ≤ 4000) :
    MeetsW l Z (⟨"jdk/internal/util/Preconditions", "checkFromIndexSize", "(IIILjava/util/function/BiFunction;)I"⟩ : MethodName) jdk_41_method_13_code 4 (some .int) ({ frames := 0, cells := 0, slots := 0, locals := 0 } : Room) #[(.int (0 : Int32)), (.int (Int32.ofNat mm)), (.int (Int32.ofNat n)), fm] h0 (Pu h0 (fun v => v = some (.int 0))) := by
  refine MeetsW.of (plainFor_of_name pn_jdk_internal_util_Preconditions) ?_
  intro p e s m below meth c s₁ P hx hby hml hZ hown hnm hret hlk X0 e0 K
  have M0 : Mv h0 h0 [] [] := Mv.refl _ _
  refine Go.cast (ef_rm_cfis m (0 : Int32) (Int32.ofNat mm) (Int32.ofNat n) fm hfm) ?_
  refine Go.of (T' := s₁) (f' := (mkF m 1 #[.val (.int (0 : Int32)), .val (.int (Int32.ofNat mm)), .val (.int (Int32.ofNat n)), .val fm] [(.int (Int32.ofNat n))])) (fun _ k => XS.iloadN X0.here hx rfl (hb hby d_jdk_41_method_13_code_0) rfl k) ?_
  refine Go.of (T' := s₁) (f' := (mkF m 2 #[.val (.int (0 : Int32)), .val (.int (Int32.ofNat mm)), .val (.int (Int32.ofNat n)), .val fm] [(.int (0 : Int32)), (.int (Int32.ofNat n))])) (fun _ k => XS.iloadN X0.here hx rfl (hb hby d_jdk_41_method_13_code_1) rfl k) ?_
  refine Go.of (T' := s₁) (f' := (mkF m 3 #[.val (.int (0 : Int32)), .val (.int (Int32.ofNat mm)), .val (.int (Int32.ofNat n)), .val fm] [(.int ((Int32.ofNat n) ||| (0 : Int32)))])) (fun _ k => XS.ior X0.here hx rfl (hb hby d_jdk_41_method_13_code_2) rfl k) ?_
  refine Go.of (T' := s₁) (f' := (mkF m 4 #[.val (.int (0 : Int32)), .val (.int (Int32.ofNat mm)), .val (.int (Int32.ofNat n)), .val fm] [(.int (Int32.ofNat mm)), (.int ((Int32.ofNat n) ||| (0 : Int32)))])) (fun _ k => XS.iloadN X0.here hx rfl (hb hby d_jdk_41_method_13_code_3) rfl k) ?_
  refine Go.of (T' := s₁) (f' := (mkF m 5 #[.val (.int (0 : Int32)), .val (.int (Int32.ofNat mm)), .val (.int (Int32.ofNat n)), .val fm] [(.int (((Int32.ofNat n) ||| (0 : Int32)) ||| (Int32.ofNat mm)))])) (fun _ k => XS.ior X0.here hx rfl (hb hby d_jdk_41_method_13_code_4) rfl k) ?_
  have hc5 : ¬ ((((Int32.ofNat n) ||| (0 : Int32)) ||| (Int32.ofNat mm)) < (0 : Int32)) := cfisOr hm hn
  refine Go.of (T' := s₁) (f' := (mkF m 8 #[.val (.int (0 : Int32)), .val (.int (Int32.ofNat mm)), .val (.int (Int32.ofNat n)), .val fm] [])) (fun _ k => XS.ifNo X0.here hx rfl (hb hby d_jdk_41_method_13_code_5) rfl ((if0 _ _).trans (flt hc5).1) k) ?_
  refine Go.of (T' := s₁) (f' := (mkF m 9 #[.val (.int (0 : Int32)), .val (.int (Int32.ofNat mm)), .val (.int (Int32.ofNat n)), .val fm] [(.int (Int32.ofNat mm))])) (fun _ k => XS.iloadN X0.here hx rfl (hb hby d_jdk_41_method_13_code_8) rfl k) ?_
  refine Go.of (T' := s₁) (f' := (mkF m 10 #[.val (.int (0 : Int32)), .val (.int (Int32.ofNat mm)), .val (.int (Int32.ofNat n)), .val fm] [(.int (Int32.ofNat n)), (.int (Int32.ofNat mm))])) (fun _ k => XS.iloadN X0.here hx rfl (hb hby d_jdk_41_method_13_code_9) rfl k) ?_
  refine Go.of (T' := s₁) (f' := (mkF m 11 #[.val (.int (0 : Int32)), .val (.int (Int32.ofNat mm)), .val (.int (Int32.ofNat n)), .val fm] [(.int (0 : Int32)), (.int (Int32.ofNat n)), (.int (Int32.ofNat mm))])) (fun _ k => XS.iloadN X0.here hx rfl (hb hby d_jdk_41_method_13_code_10) rfl k) ?_
  refine Go.of (T' := s₁) (f' := (mkF m 12 #[.val (.int (0 : Int32)), .val (.int (Int32.ofNat mm)), .val (.int (Int32.ofNat n)), .val fm] [(.int ((Int32.ofNat n) - (0 : Int32))), (.int (Int32.ofNat mm))])) (fun _ k => XS.isub X0.here hx rfl (hb hby d_jdk_41_method_13_code_11) rfl k) ?_
  have hc12 : ¬ (((Int32.ofNat n) - (0 : Int32)) < (Int32.ofNat mm)) := fun q => by rw [Int32.sub_zero] at q; have q := (ltN (by omega) (by omega)).mp q; omega
  refine Go.of (T' := s₁) (f' := (mkF m 23 #[.val (.int (0 : Int32)), .val (.int (Int32.ofNat mm)), .val (.int (Int32.ofNat n)), .val fm] [])) (fun _ k => XS.icmpYes X0.here hx rfl (pc0 := 12) (pc' := 23) rfl (hb hby d_jdk_41_method_13_code_12) rfl (flt hc12).2.2.2 (by decide) (by decide) k) ?_
  refine Go.of (T' := s₁) (f' := (mkF m 24 #[.val (.int (0 : Int32)), .val (.int (Int32.ofNat mm)), .val (.int (Int32.ofNat n)), .val fm] [(.int (0 : Int32))])) (fun _ k => XS.iloadN X0.here hx rfl (hb hby d_jdk_41_method_13_code_23) rfl k) ?_
  exact goRetI (Q := Pu h0 (fun v => v = some (.int 0))) X0 hx (t := .int) hret hlk rfl (by simp) (hb hby d_jdk_41_method_13_code_24) K (by decide) (by decide) e0 (⟨rfl, rfl, rfl⟩)
theorem ef_rm_cboS (m : MethodId) (x0 : Int32) (x1 : Int32) (x2 : Int32)  : entryFrame m #[(.int x0), (.int x1), (.int x2)] 3 = mkF m 0 #[.val (.int x0), .val (.int x1), .val (.int x2)] [] := by first | (simp [entryFrame, mkF, argsToLocals, Value.category]; done) | rfl
theorem d_jdk_42_method_157_code_0 : decode jdk_42_method_157_code 0 = .ok (.iload_n 0, 1) := by decide +kernel
theorem d_jdk_42_method_157_code_1 : decode jdk_42_method_157_code 1 = .ok (.iload_n 1, 1) := by decide +kernel
theorem d_jdk_42_method_157_code_2 : decode jdk_42_method_157_code 2 = .ok (.iload_n 2, 1) := by decide +kernel
theorem d_jdk_42_method_157_code_3 : decode jdk_42_method_157_code 3 = .ok (.getstatic 1053, 3) := by decide +kernel
theorem d_jdk_42_method_157_code_6 : decode jdk_42_method_157_code 6 = .ok (.invokestatic 1065, 3) := by decide +kernel
theorem pd__IIILjava_util_function_BiFunction__I : parseMethodDescriptor "(IIILjava/util/function/BiFunction;)I" = some ⟨[.int, .int, .int, (.object "java/util/function/BiFunction")], some .int⟩ := by decide +kernel
theorem d_jdk_42_method_157_code_9 : decode jdk_42_method_157_code 9 = .ok (.ireturn, 1) := by decide +kernel
set_option maxRecDepth 65536 in
set_option maxHeartbeats 40000000 in
theorem rm_cboS (l : Launch) (Z : State) (a0 : Array Value) (hw : ∀ d ∈ tables_1, d.before a0 Z = true) (mm n : Nat) (fm : Value) (h0 : Heap) (Z_fm : Sta Z h0 "jdk/internal/util/Preconditions" "SIOOBE_FORMATTER" "Ljava/util/function/BiFunction;" fm) (hfm : fm.isRef = true) (hm : mm ≤ n) (hn : n ≤ 4000) :
    MeetsW l Z (⟨"java/lang/String", "checkBoundsOffCount", "(III)I"⟩ : MethodName) jdk_42_method_157_code 3 (some .int) ({ frames := 1, cells := 0, slots := 0, locals := 15 } : Room) #[(.int (0 : Int32)), (.int (Int32.ofNat mm)), (.int (Int32.ofNat n))] h0 (Pu h0 (fun v => v = some (.int 0))) := by
  refine MeetsW.of (plainFor_of_name pn_java_lang_String) ?_
  intro p e s m below meth c s₁ P hx hby hml hZ hown hnm hret hlk X0 e0 K
  have M0 : Mv h0 h0 [] [] := Mv.refl _ _
  refine Go.cast (ef_rm_cboS m (0 : Int32) (Int32.ofNat mm) (Int32.ofNat n) ) ?_
  refine Go.of (T' := s₁) (f' := (mkF m 1 #[.val (.int (0 : Int32)), .val (.int (Int32.ofNat mm)), .val (.int (Int32.ofNat n))] [(.int (0 : Int32))])) (fun _ k => XS.iloadN X0.here hx rfl (hb hby d_jdk_42_method_157_code_0) rfl k) ?_
  refine Go.of (T' := s₁) (f' := (mkF m 2 #[.val (.int (0 : Int32)), .val (.int (Int32.ofNat mm)), .val (.int (Int32.ofNat n))] [(.int (Int32.ofNat mm)), (.int (0 : Int32))])) (fun _ k => XS.iloadN X0.here hx rfl (hb hby d_jdk_42_method_157_code_1) rfl k) ?_
  refine Go.of (T' := s₁) (f' := (mkF m 3 #[.val (.int (0 : Int32)), .val (.int (Int32.ofNat mm)), .val (.int (Int32.ofNat n))] [(.int (Int32.ofNat n)), (.int (Int32.ofNat mm)), (.int (0 : Int32))])) (fun _ k => XS.iloadN X0.here hx rfl (hb hby d_jdk_42_method_157_code_2) rfl k) ?_
  obtain ⟨T1, X1, e1, st1⟩ := getS2 X0 hx hZ hown (host := "") (Or.inl (hw _ (List.mem_of_getElem? (i := 132) rfl))) Via.refl e0 Z_fm (g := (mkF m 3 #[.val (.int (0 : Int32)), .val (.int (Int32.ofNat mm)), .val (.int (Int32.ofNat n))] [(.int (Int32.ofNat n)), (.int (Int32.ofNat mm)), (.int (0 : Int32))])) rfl (hb hby d_jdk_42_method_157_code_3)
  refine Go.of (T' := T1) (f' := (mkF m 6 #[.val (.int (0 : Int32)), .val (.int (Int32.ofNat mm)), .val (.int (Int32.ofNat n))] [fm, (.int (Int32.ofNat n)), (.int (Int32.ofNat mm)), (.int (0 : Int32))])) st1 ?_
  refine goS X1 hx hZ hown (hw _ (List.mem_of_getElem? (i := 134) rfl)) (hw _ (List.mem_of_getElem? (i := 135) rfl)) (hw _ (List.mem_of_getElem? (i := 133) rfl)) (hw _ (List.mem_of_getElem? (i := 136) rfl)) (by decide) (C := 0) (S := 0) ((rm_cfis l Z a0 hw mm n fm h0 hfm hm hn).bk (W := 0) hZ (hw _ (List.mem_of_getElem? (i := 136) rfl)) (hw _ (List.mem_of_getElem? (i := 133) rfl)) (by decide) (by decide)) e1 (argsL := [(.int (0 : Int32)), (.int (Int32.ofNat mm)), (.int (Int32.ofNat n)), fm]) (rest := []) (by rw [hml]; rfl) (lenOf pd__IIILjava_util_function_BiFunction__I rfl) rfl rfl (hb hby d_jdk_42_method_157_code_6) (Nat.le_of_eq rfl) (by decide) (by decide) ?_
  intro v2 T2 L2 X2 hQ2
  obtain ⟨nq2, e2, rfl⟩ := hQ2
  replace X2 := standNil X2 nq2
  show Go p e below P T2 (mkF m 9 #[.val (.int (0 : Int32)), .val (.int (Int32.ofNat mm)), .val (.int (Int32.ofNat n))] [(.int (0 : Int32))])
  exact goRetI (Q := Pu h0 (fun v => v = some (.int 0))) X2 hx (t := .int) hret hlk rfl (by simp) (hb hby d_jdk_42_method_157_code_9) K (by decide) (by decide) e2 (⟨rfl, rfl, rfl⟩)
theorem ef_rm_cboU (m : MethodId) (x0 : Int32) (x1 : Int32) (x2 : Addr)  : entryFrame m #[(.int x0), (.int x1), (.ref x2)] 3 = mkF m 0 #[.val (.int x0), .val (.int x1), .val (.ref x2)] [] := by first | (simp [entryFrame, mkF, argsToLocals, Value.category]; done) | rfl
theorem d_jdk_52_method_94_code_0 : decode jdk_52_method_94_code 0 = .ok (.iload_n 0, 1) := by decide +kernel
theorem d_jdk_52_method_94_code_1 : decode jdk_52_method_94_code 1 = .ok (.iload_n 1, 1) := by decide +kernel
theorem d_jdk_52_method_94_code_2 : decode jdk_52_method_94_code 2 = .ok (.aload_n 2, 1) := by decide +kernel
theorem d_jdk_52_method_94_code_3 : decode jdk_52_method_94_code 3 = .ok (.invokestatic 48, 3) := by decide +kernel
theorem pd___B_I : parseMethodDescriptor "([B)I" = some ⟨[(.array .byte)], some .int⟩ := by decide +kernel
theorem d_jdk_52_method_94_code_6 : decode jdk_52_method_94_code 6 = .ok (.invokestatic 419, 3) := by decide +kernel
theorem pd__III_I : parseMethodDescriptor "(III)I" = some ⟨[.int, .int, .int], some .int⟩ := by decide +kernel
theorem d_jdk_52_method_94_code_9 : decode jdk_52_method_94_code 9 = .ok (.pop, 1) := by decide +kernel
theorem d_jdk_52_method_94_code_10 : decode jdk_52_method_94_code 10 = .ok (.return_, 1) := by decide +kernel
set_option maxRecDepth 65536 in
set_option maxHeartbeats 40000000 in
theorem rm_cboU (l : Launch) (Z : State) (a0 : Array Value) (hw : ∀ d ∈ tables_1, d.before a0 Z = true) (a1 : Addr) (ka : ClassId) (cs : List Int32) (mm : Nat) (fm : Value) (h0 : Heap) (V_a1 : Arv Z h0 a1 ka .byte (Int32.ofNat (2 * cs.length)) (StrChars.Road.wideBytes cs) (.int (0 : Int32))) (hle8 : cs.length ≤ 8) (hp1 : 1 ≤ cs.length) (hbr : ∀ c ∈ cs, ¬ c < 0 ∧ ¬ (65535 : Int32) < c) (hm : mm ≤ cs.length) (Z_fm : Sta Z h0 "jdk/internal/util/Preconditions" "SIOOBE_FORMATTER" "Ljava/util/function/BiFunction;" fm) (hfm : fm.isRef = true) :
    MeetsW l Z (⟨"java/lang/StringUTF16", "checkBoundsOffCount", "(II[B)V"⟩ : MethodName) jdk_52_method_94_code 3 none ({ frames := 2, cells := 0, slots := 0, locals := 29 } : Room) #[(.int (0 : Int32)), (.int (Int32.ofNat mm)), (.ref a1)] h0 (Pu h0 (fun v => v = none)) := by
  refine MeetsW.of (plainFor_of_name pn_java_lang_StringUTF16) ?_
  intro p e s m below meth c s₁ P hx hby hml hZ hown hnm hret hlk X0 e0 K
  have M0 : Mv h0 h0 [] [] := Mv.refl _ _
  refine Go.cast (ef_rm_cboU m (0 : Int32) (Int32.ofNat mm) a1 ) ?_
  have hl : cs.length ≤ 4000 := by omega
  refine Go.of (T' := s₁) (f' := (mkF m 1 #[.val (.int (0 : Int32)), .val (.int (Int32.ofNat mm)), .val (.ref a1)] [(.int (0 : Int32))])) (fun _ k => XS.iloadN X0.here hx rfl (hb hby d_jdk_52_method_94_code_0) rfl k) ?_
  refine Go.of (T' := s₁) (f' := (mkF m 2 #[.val (.int (0 : Int32)), .val (.int (Int32.ofNat mm)), .val (.ref a1)] [(.int (Int32.ofNat mm)), (.int (0 : Int32))])) (fun _ k => XS.iloadN X0.here hx rfl (hb hby d_jdk_52_method_94_code_1) rfl k) ?_
  refine Go.of (T' := s₁) (f' := (mkF m 3 #[.val (.int (0 : Int32)), .val (.int (Int32.ofNat mm)), .val (.ref a1)] [(.ref a1), (.int (Int32.ofNat mm)), (.int (0 : Int32))])) (fun _ k => XS.aloadN X0.here hx rfl (hb hby d_jdk_52_method_94_code_2) rfl rfl k) ?_
  refine goS X0 hx hZ hown (hw _ (List.mem_of_getElem? (i := 126) rfl)) (hw _ (List.mem_of_getElem? (i := 127) rfl)) (hw _ (List.mem_of_getElem? (i := 84) rfl)) (hw _ (List.mem_of_getElem? (i := 128) rfl)) (by decide) (C := 0) (S := 0) ((rm_len16 l Z a0 hw a1 ka cs h0 V_a1 hl).bk (W := 2) hZ (hw _ (List.mem_of_getElem? (i := 128) rfl)) (hw _ (List.mem_of_getElem? (i := 84) rfl)) (by decide) (by decide)) e0 (argsL := [(.ref a1)]) (rest := [(.int (Int32.ofNat mm)), (.int (0 : Int32))]) (by rw [hml]; rfl) (lenOf pd___B_I rfl) rfl rfl (hb hby d_jdk_52_method_94_code_3) (Nat.le_of_eq rfl) (by decide) (by decide) ?_
  intro v1 T1 L1 X1 hQ1
  obtain ⟨nq1, e1, rfl⟩ := hQ1
  replace X1 := standNil X1 nq1
  show Go p e below P T1 (mkF m 6 #[.val (.int (0 : Int32)), .val (.int (Int32.ofNat mm)), .val (.ref a1)] [(.int (Int32.ofNat cs.length)), (.int (Int32.ofNat mm)), (.int (0 : Int32))])
  refine goS X1 hx hZ hown (hw _ (List.mem_of_getElem? (i := 129) rfl)) (hw _ (List.mem_of_getElem? (i := 130) rfl)) (hw _ (List.mem_of_getElem? (i := 10) rfl)) (hw _ (List.mem_of_getElem? (i := 131) rfl)) (by decide) (C := 0) (S := 0) ((rm_cboS l Z a0 hw mm cs.length fm h0 Z_fm hfm hm hl).bk (W := 0) hZ (hw _ (List.mem_of_getElem? (i := 131) rfl)) (hw _ (List.mem_of_getElem? (i := 10) rfl)) (by decide) (by decide)) e1 (argsL := [(.int (0 : Int32)), (.int (Int32.ofNat mm)), (.int (Int32.ofNat cs.length))]) (rest := []) (by rw [hml]; rfl) (lenOf pd__III_I rfl) rfl rfl (hb hby d_jdk_52_method_94_code_6) (Nat.le_of_eq rfl) (by decide) (by decide) ?_
  intro v2 T2 L2 X2 hQ2
  obtain ⟨nq2, e2, rfl⟩ := hQ2
  replace X2 := standNil X2 nq2
  show Go p e below P T2 (mkF m 9 #[.val (.int (0 : Int32)), .val (.int (Int32.ofNat mm)), .val (.ref a1)] [(.int (0 : Int32))])
  refine Go.of (T' := T2) (f' := (mkF m 10 #[.val (.int (0 : Int32)), .val (.int (Int32.ofNat mm)), .val (.ref a1)] [])) (fun _ k => XS.pop X2.here hx rfl (hb hby d_jdk_52_method_94_code_9) rfl rfl k) ?_
  exact goRet0 (Q := Pu h0 (fun v => v = none)) X2 hx hret hlk (hb hby d_jdk_52_method_94_code_10) K (by decide) (by decide) e2 (⟨rfl, rfl, rfl⟩)
theorem ef_rm_gch (m : MethodId) (x0 : Addr) (x1 : Int32) (x2 : Int32) (x3 : Addr) (x4 : Int32)  : entryFrame m #[(.ref x0), (.int x1), (.int x2), (.ref x3), (.int x4)] 6 = mkF m 0 #[.val (.ref x0), .val (.int x1), .val (.int x2), .val (.ref x3), .val (.int x4), .unset] [] := by first | (simp [entryFrame, mkF, argsToLocals, Value.category]; done) | rfl
theorem d_jdk_52_method_26_code_0 : decode jdk_52_method_26_code 0 = .ok (.iload_n 1, 1) := by decide +kernel
theorem d_jdk_52_method_26_code_1 : decode jdk_52_method_26_code 1 = .ok (.iload_n 2, 1) := by decide +kernel
theorem d_jdk_52_method_26_code_2 : decode jdk_52_method_26_code 2 = .ok (.if_icmp .ge 11, 3) := by decide +kernel
theorem d_jdk_52_method_26_code_5 : decode jdk_52_method_26_code 5 = .ok (.iload_n 1, 1) := by decide +kernel
theorem d_jdk_52_method_26_code_6 : decode jdk_52_method_26_code 6 = .ok (.iload_n 2, 1) := by decide +kernel
theorem d_jdk_52_method_26_code_7 : decode jdk_52_method_26_code 7 = .ok (.iload_n 1, 1) := by decide +kernel
theorem d_jdk_52_method_26_code_8 : decode jdk_52_method_26_code 8 = .ok (.isub, 1) := by decide +kernel
theorem d_jdk_52_method_26_code_9 : decode jdk_52_method_26_code 9 = .ok (.aload_n 0, 1) := by decide +kernel
theorem d_jdk_52_method_26_code_10 : decode jdk_52_method_26_code 10 = .ok (.invokestatic 173, 3) := by decide +kernel
theorem pd__II_B_V : parseMethodDescriptor "(II[B)V" = some ⟨[.int, .int, (.array .byte)], none⟩ := by decide +kernel
theorem d_jdk_52_method_26_code_13 : decode jdk_52_method_26_code 13 = .ok (.iload_n 1, 1) := by decide +kernel
theorem d_jdk_52_method_26_code_14 : decode jdk_52_method_26_code 14 = .ok (.istore 5, 2) := by decide +kernel
theorem d_jdk_52_method_26_code_16 : decode jdk_52_method_26_code 16 = .ok (.iload 5, 2) := by decide +kernel
theorem d_jdk_52_method_26_code_18 : decode jdk_52_method_26_code 18 = .ok (.iload_n 2, 1) := by decide +kernel
theorem d_jdk_52_method_26_code_19 : decode jdk_52_method_26_code 19 = .ok (.if_icmp .ge 22, 3) := by decide +kernel
theorem d_jdk_52_method_26_code_41 : decode jdk_52_method_26_code 41 = .ok (.return_, 1) := by decide +kernel
theorem d_jdk_52_method_26_code_22 : decode jdk_52_method_26_code 22 = .ok (.aload_n 3, 1) := by decide +kernel
theorem d_jdk_52_method_26_code_23 : decode jdk_52_method_26_code 23 = .ok (.iload 4, 2) := by decide +kernel
theorem d_jdk_52_method_26_code_25 : decode jdk_52_method_26_code 25 = .ok (.iinc 4 1, 3) := by decide +kernel
theorem d_jdk_52_method_26_code_28 : decode jdk_52_method_26_code 28 = .ok (.aload_n 0, 1) := by decide +kernel
theorem d_jdk_52_method_26_code_29 : decode jdk_52_method_26_code 29 = .ok (.iload 5, 2) := by decide +kernel
theorem d_jdk_52_method_26_code_31 : decode jdk_52_method_26_code 31 = .ok (.invokestatic 71, 3) := by decide +kernel
theorem d_jdk_52_method_26_code_34 : decode jdk_52_method_26_code 34 = .ok (.castore, 1) := by decide +kernel
theorem d_jdk_52_method_26_code_35 : decode jdk_52_method_26_code 35 = .ok (.iinc 5 1, 3) := by decide +kernel
theorem d_jdk_52_method_26_code_38 : decode jdk_52_method_26_code 38 = .ok (.goto (-22), 3) := by decide +kernel
set_option maxRecDepth 65536 in
set_option maxHeartbeats 40000000 in
theorem rm_gch (l : Launch) (Z : State) (a0 : Array Value) (hw : ∀ d ∈ tables_1, d.before a0 Z = true) (a1 a2 : Addr) (ka kb : ClassId) (cs : List Int32) (vs : List Value) (fm : Value) (h0 : Heap) (V_a1 : Arv Z h0 a1 ka .byte (Int32.ofNat (2 * cs.length)) (StrChars.Road.wideBytes cs) (.int (0 : Int32))) (hle8 : cs.length ≤ 8) (hp1 : 1 ≤ cs.length) (hbr : ∀ c ∈ cs, ¬ c < 0 ∧ ¬ (65535 : Int32) < c) (V_a2 : Arv Z h0 a2 kb .char (Int32.ofNat cs.length) vs (.int (0 : Int32))) (hv : vs.length = cs.length) (hne : a1 ≠ a2) (Z_ad : Sta Z h0 "java/lang/StringUTF16" "$assertionsDisabled" "Z" (.int (1 : Int32))) (Z_hs : Sta Z h0 "java/lang/StringUTF16" "HI_BYTE_SHIFT" "I" (.int (0 : Int32))) (Z_ls : Sta Z h0 "java/lang/StringUTF16" "LO_BYTE_SHIFT" "I" (.int (8 : Int32))) (Z_fm : Sta Z h0 "jdk/internal/util/Preconditions" "SIOOBE_FORMATTER" "Ljava/util/function/BiFunction;" fm) (hfm : fm.isRef = true) :
    MeetsW l Z (⟨"java/lang/StringUTF16", "getChars", "([BII[CI)V"⟩ : MethodName) jdk_52_method_26_code 6 none ({ frames := 3, cells := 0, slots := 0, locals := 43 } : Room) #[(.ref a1), (.int (0 : Int32)), (.int (Int32.ofNat cs.length)), (.ref a2), (.int (0 : Int32))] h0 (fun v h L => v = none ∧ Mv h0 h [a2] L ∧ Arv Z h a2 kb .char (Int32.ofNat cs.length) (cs.map Value.int) (.int (0 : Int32))) := by
  refine MeetsW.of (plainFor_of_name pn_java_lang_StringUTF16) ?_
  intro p e s m below meth c s₁ P hx hby hml hZ hown hnm hret hlk X0 e0 K
  have M0 : Mv h0 h0 [a2] [] := Mv.refl _ _
  refine Go.cast (ef_rm_gch m a1 (0 : Int32) (Int32.ofNat cs.length) a2 (0 : Int32) ) ?_
  have hl : cs.length ≤ 4000 := by omega
  refine Go.of (T' := s₁) (f' := (mkF m 1 #[.val (.ref a1), .val (.int (0 : Int32)), .val (.int (Int32.ofNat cs.length)), .val (.ref a2), .val (.int (0 : Int32)), .unset] [(.int (0 : Int32))])) (fun _ k => XS.iloadN X0.here hx rfl (hb hby d_jdk_52_method_26_code_0) rfl k) ?_
  refine Go.of (T' := s₁) (f' := (mkF m 2 #[.val (.ref a1), .val (.int (0 : Int32)), .val (.int (Int32.ofNat cs.length)), .val (.ref a2), .val (.int (0 : Int32)), .unset] [(.int (Int32.ofNat cs.length)), (.int (0 : Int32))])) (fun _ k => XS.iloadN X0.here hx rfl (hb hby d_jdk_52_method_26_code_1) rfl k) ?_
  have hc2 : (0 : Int32) < (Int32.ofNat cs.length) := (ltN (i := 0) (by omega) (by omega)).mpr hp1
  refine Go.of (T' := s₁) (f' := (mkF m 5 #[.val (.ref a1), .val (.int (0 : Int32)), .val (.int (Int32.ofNat cs.length)), .val (.ref a2), .val (.int (0 : Int32)), .unset] [])) (fun _ k => XS.icmpNo X0.here hx rfl (hb hby d_jdk_52_method_26_code_2) rfl (tlt hc2).2.1 k) ?_
  refine Go.of (T' := s₁) (f' := (mkF m 6 #[.val (.ref a1), .val (.int (0 : Int32)), .val (.int (Int32.ofNat cs.length)), .val (.ref a2), .val (.int (0 : Int32)), .unset] [(.int (0 : Int32))])) (fun _ k => XS.iloadN X0.here hx rfl (hb hby d_jdk_52_method_26_code_5) rfl k) ?_
  refine Go.of (T' := s₁) (f' := (mkF m 7 #[.val (.ref a1), .val (.int (0 : Int32)), .val (.int (Int32.ofNat cs.length)), .val (.ref a2), .val (.int (0 : Int32)), .unset] [(.int (Int32.ofNat cs.length)), (.int (0 : Int32))])) (fun _ k => XS.iloadN X0.here hx rfl (hb hby d_jdk_52_method_26_code_6) rfl k) ?_
  refine Go.of (T' := s₁) (f' := (mkF m 8 #[.val (.ref a1), .val (.int (0 : Int32)), .val (.int (Int32.ofNat cs.length)), .val (.ref a2), .val (.int (0 : Int32)), .unset] [(.int (0 : Int32)), (.int (Int32.ofNat cs.length)), (.int (0 : Int32))])) (fun _ k => XS.iloadN X0.here hx rfl (hb hby d_jdk_52_method_26_code_7) rfl k) ?_
  refine Go.of (T' := s₁) (f' := (mkF m 9 #[.val (.ref a1), .val (.int (0 : Int32)), .val (.int (Int32.ofNat cs.length)), .val (.ref a2), .val (.int (0 : Int32)), .unset] [(.int ((Int32.ofNat cs.length) - (0 : Int32))), (.int (0 : Int32))])) (fun _ k => XS.isub X0.here hx rfl (hb hby d_jdk_52_method_26_code_8) rfl k) ?_
  rw [Int32.sub_zero]
  show Go p e below P s₁ (mkF m 9 #[.val (.ref a1), .val (.int (0 : Int32)), .val (.int (Int32.ofNat cs.length)), .val (.ref a2), .val (.int (0 : Int32)), .unset] [(.int (Int32.ofNat cs.length)), (.int (0 : Int32))])
  refine Go.of (T' := s₁) (f' := (mkF m 10 #[.val (.ref a1), .val (.int (0 : Int32)), .val (.int (Int32.ofNat cs.length)), .val (.ref a2), .val (.int (0 : Int32)), .unset] [(.ref a1), (.int (Int32.ofNat cs.length)), (.int (0 : Int32))])) (fun _ k => XS.aloadN X0.here hx rfl (hb hby d_jdk_52_method_26_code_9) rfl rfl k) ?_
  refine goS X0 hx hZ hown (hw _ (List.mem_of_getElem? (i := 123) rfl)) (hw _ (List.mem_of_getElem? (i := 124) rfl)) (hw _ (List.mem_of_getElem? (i := 84) rfl)) (hw _ (List.mem_of_getElem? (i := 125) rfl)) (by decide) (C := 0) (S := 0) ((rm_cboU l Z a0 hw a1 ka cs (cs.length) fm h0 V_a1 hle8 hp1 hbr (by omega) Z_fm hfm).bk (W := 0) hZ (hw _ (List.mem_of_getElem? (i := 125) rfl)) (hw _ (List.mem_of_getElem? (i := 84) rfl)) (by decide) (by decide)) e0 (argsL := [(.int (0 : Int32)), (.int (Int32.ofNat cs.length)), (.ref a1)]) (rest := []) (by rw [hml]; rfl) (lenOf pd__II_B_V rfl) rfl rfl (hb hby d_jdk_52_method_26_code_10) (Nat.le_of_eq rfl) (by decide) (by decide) ?_
  intro v1 T1 L1 X1 hQ1
  obtain ⟨nq1, e1, rfl⟩ := hQ1
  replace X1 := standNil X1 nq1
  show Go p e below P T1 (mkF m 13 #[.val (.ref a1), .val (.int (0 : Int32)), .val (.int (Int32.ofNat cs.length)), .val (.ref a2), .val (.int (0 : Int32)), .unset] [])
  refine Go.of (T' := T1) (f' := (mkF m 14 #[.val (.ref a1), .val (.int (0 : Int32)), .val (.int (Int32.ofNat cs.length)), .val (.ref a2), .val (.int (0 : Int32)), .unset] [(.int (0 : Int32))])) (fun _ k => XS.iloadN X1.here hx rfl (hb hby d_jdk_52_method_26_code_13) rfl k) ?_
  refine Go.of (T' := T1) (f' := (mkF m 16 #[.val (.ref a1), .val (.int (0 : Int32)), .val (.int (Int32.ofNat cs.length)), .val (.ref a2), .val (.int (0 : Int32)), .val (.int (0 : Int32))] [])) (fun _ k => XS.istore X1.here hx rfl (hb hby d_jdk_52_method_26_code_14) rfl (l' := #[.val (.ref a1), .val (.int (0 : Int32)), .val (.int (Int32.ofNat cs.length)), .val (.ref a2), .val (.int (0 : Int32)), .val (.int (0 : Int32))]) rfl k) ?_
  show Go p e below P T1 (mkF m 16 #[.val (.ref a1), .val (.int (0 : Int32)), .val (.int (Int32.ofNat cs.length)), .val (.ref a2), .val (.int (Int32.ofNat 0)), .val (.int (Int32.ofNat 0))] [])
  have J : ∀ (n : Nat) (i : Nat) (vs : List Value) (Tj : State) (hj : Heap) (Lj : List Loc), cs.length ≤ i + n → i ≤ cs.length → (WC vs cs i) → Stand p l e ({ frames := 3, cells := 0, slots := 0, locals := 43 } : Room) s m #[(.ref a1), (.int (0 : Int32)), (.int (Int32.ofNat cs.length)), (.ref a2), (.int (0 : Int32))] below meth c Tj Lj 0 0 → Tj.heap = hj → Mv h0 hj [a2] Lj → Arv Z hj a1 ka (.byte) (Int32.ofNat (2 * cs.length)) (StrChars.Road.wideBytes cs) (.int (0 : Int32)) → Arv Z hj a2 kb (.char) (Int32.ofNat cs.length) vs (.int (0 : Int32)) → Sta Z hj "java/lang/StringUTF16" "$assertionsDisabled" "Z" (.int (1 : Int32)) → Sta Z hj "java/lang/StringUTF16" "HI_BYTE_SHIFT" "I" (.int (0 : Int32)) → Sta Z hj "java/lang/StringUTF16" "LO_BYTE_SHIFT" "I" (.int (8 : Int32)) → Go p e below P Tj (mkF m 16 #[.val (.ref a1), .val (.int (0 : Int32)), .val (.int (Int32.ofNat cs.length)), .val (.ref a2), .val (.int (Int32.ofNat i)), .val (.int (Int32.ofNat i))] []) := by
    intro n
    induction n with
    | zero =>
      intro i vs Tj hj Lj hle hi1 hwc Xj ej Mj V_a1 V_a2 Z_ad Z_hs Z_ls
      refine Go.of (T' := Tj) (f' := (mkF m 18 #[.val (.ref a1), .val (.int (0 : Int32)), .val (.int (Int32.ofNat cs.length)), .val (.ref a2), .val (.int (Int32.ofNat i)), .val (.int (Int32.ofNat i))] [(.int (Int32.ofNat i))])) (fun _ k => XS.iload Xj.here hx rfl (hb hby d_jdk_52_method_26_code_16) rfl k) ?_
      refine Go.of (T' := Tj) (f' := (mkF m 19 #[.val (.ref a1), .val (.int (0 : Int32)), .val (.int (Int32.ofNat cs.length)), .val (.ref a2), .val (.int (Int32.ofNat i)), .val (.int (Int32.ofNat i))] [(.int (Int32.ofNat cs.length)), (.int (Int32.ofNat i))])) (fun _ k => XS.iloadN Xj.here hx rfl (hb hby d_jdk_52_method_26_code_18) rfl k) ?_
      have hc19 : ¬ ((Int32.ofNat i) < (Int32.ofNat cs.length)) := fun q => by have q := (ltN (by omega) (by omega)).mp q; omega
      refine Go.of (T' := Tj) (f' := (mkF m 41 #[.val (.ref a1), .val (.int (0 : Int32)), .val (.int (Int32.ofNat cs.length)), .val (.ref a2), .val (.int (Int32.ofNat i)), .val (.int (Int32.ofNat i))] [])) (fun _ k => XS.icmpYes Xj.here hx rfl (pc0 := 19) (pc' := 41) rfl (hb hby d_jdk_52_method_26_code_19) rfl (flt hc19).2.1 (by decide) (by decide) k) ?_
      exact goRet0 (Q := fun v h L => v = none ∧ Mv h0 h [a2] L ∧ Arv Z h a2 kb .char (Int32.ofNat cs.length) (cs.map Value.int) (.int (0 : Int32))) Xj hx hret hlk (hb hby d_jdk_52_method_26_code_41) K (by decide) (by decide) ej (⟨rfl, Mj, (wcEnd hwc (by first | exact Nat.le_of_not_lt fun q => hc19 ((ltN (by omega) (by omega)).mpr q) | omega)) ▸ V_a2⟩)
    | succ n ih =>
      intro i vs Tj hj Lj hle hi1 hwc Xj ej Mj V_a1 V_a2 Z_ad Z_hs Z_ls
      refine Go.of (T' := Tj) (f' := (mkF m 18 #[.val (.ref a1), .val (.int (0 : Int32)), .val (.int (Int32.ofNat cs.length)), .val (.ref a2), .val (.int (Int32.ofNat i)), .val (.int (Int32.ofNat i))] [(.int (Int32.ofNat i))])) (fun _ k => XS.iload Xj.here hx rfl (hb hby d_jdk_52_method_26_code_16) rfl k) ?_
      refine Go.of (T' := Tj) (f' := (mkF m 19 #[.val (.ref a1), .val (.int (0 : Int32)), .val (.int (Int32.ofNat cs.length)), .val (.ref a2), .val (.int (Int32.ofNat i)), .val (.int (Int32.ofNat i))] [(.int (Int32.ofNat cs.length)), (.int (Int32.ofNat i))])) (fun _ k => XS.iloadN Xj.here hx rfl (hb hby d_jdk_52_method_26_code_18) rfl k) ?_
      by_cases hc19 : (Int32.ofNat i) < (Int32.ofNat cs.length)
      ·
        refine Go.of (T' := Tj) (f' := (mkF m 22 #[.val (.ref a1), .val (.int (0 : Int32)), .val (.int (Int32.ofNat cs.length)), .val (.ref a2), .val (.int (Int32.ofNat i)), .val (.int (Int32.ofNat i))] [])) (fun _ k => XS.icmpNo Xj.here hx rfl (hb hby d_jdk_52_method_26_code_19) rfl (tlt hc19).2.1 k) ?_
        have hi : i < cs.length := (ltN (by omega) (by omega)).mp hc19
        refine Go.of (T' := Tj) (f' := (mkF m 23 #[.val (.ref a1), .val (.int (0 : Int32)), .val (.int (Int32.ofNat cs.length)), .val (.ref a2), .val (.int (Int32.ofNat i)), .val (.int (Int32.ofNat i))] [(.ref a2)])) (fun _ k => XS.aloadN Xj.here hx rfl (hb hby d_jdk_52_method_26_code_22) rfl rfl k) ?_
        refine Go.of (T' := Tj) (f' := (mkF m 25 #[.val (.ref a1), .val (.int (0 : Int32)), .val (.int (Int32.ofNat cs.length)), .val (.ref a2), .val (.int (Int32.ofNat i)), .val (.int (Int32.ofNat i))] [(.int (Int32.ofNat i)), (.ref a2)])) (fun _ k => XS.iload Xj.here hx rfl (hb hby d_jdk_52_method_26_code_23) rfl k) ?_
        refine Go.of (T' := Tj) (f' := (mkF m 28 #[.val (.ref a1), .val (.int (0 : Int32)), .val (.int (Int32.ofNat cs.length)), .val (.ref a2), .val (.int ((Int32.ofNat i) + (1 : Int32))), .val (.int (Int32.ofNat i))] [(.int (Int32.ofNat i)), (.ref a2)])) (fun _ k => XS.iinc Xj.here hx rfl (hb hby d_jdk_52_method_26_code_25) rfl (l' := #[.val (.ref a1), .val (.int (0 : Int32)), .val (.int (Int32.ofNat cs.length)), .val (.ref a2), .val (.int ((Int32.ofNat i) + (1 : Int32))), .val (.int (Int32.ofNat i))]) rfl k) ?_
        refine Go.of (T' := Tj) (f' := (mkF m 29 #[.val (.ref a1), .val (.int (0 : Int32)), .val (.int (Int32.ofNat cs.length)), .val (.ref a2), .val (.int ((Int32.ofNat i) + (1 : Int32))), .val (.int (Int32.ofNat i))] [(.ref a1), (.int (Int32.ofNat i)), (.ref a2)])) (fun _ k => XS.aloadN Xj.here hx rfl (hb hby d_jdk_52_method_26_code_28) rfl rfl k) ?_
        refine Go.of (T' := Tj) (f' := (mkF m 31 #[.val (.ref a1), .val (.int (0 : Int32)), .val (.int (Int32.ofNat cs.length)), .val (.ref a2), .val (.int ((Int32.ofNat i) + (1 : Int32))), .val (.int (Int32.ofNat i))] [(.int (Int32.ofNat i)), (.ref a1), (.int (Int32.ofNat i)), (.ref a2)])) (fun _ k => XS.iload Xj.here hx rfl (hb hby d_jdk_52_method_26_code_29) rfl k) ?_
        refine goS Xj hx hZ hown (hw _ (List.mem_of_getElem? (i := 114) rfl)) (hw _ (List.mem_of_getElem? (i := 115) rfl)) (hw _ (List.mem_of_getElem? (i := 84) rfl)) (hw _ (List.mem_of_getElem? (i := 116) rfl)) (by decide) (C := 0) (S := 0) ((rm_getChar l Z a0 hw a1 ka cs i hj V_a1 hl hi hbr Z_ad Z_hs Z_ls).bk (W := 2) hZ (hw _ (List.mem_of_getElem? (i := 116) rfl)) (hw _ (List.mem_of_getElem? (i := 84) rfl)) (by decide) (by decide)) ej (argsL := [(.ref a1), (.int (Int32.ofNat i))]) (rest := [(.int (Int32.ofNat i)), (.ref a2)]) (by rw [hml]; rfl) (lenOf pd___BI_C rfl) rfl rfl (hb hby d_jdk_52_method_26_code_31) (Nat.le_of_eq rfl) (by decide) (by decide) ?_
        intro v2 T2 L2 X2 hQ2
        obtain ⟨nq2, e2, rfl⟩ := hQ2
        replace X2 := standNil X2 nq2
        show Go p e below P T2 (mkF m 34 #[.val (.ref a1), .val (.int (0 : Int32)), .val (.int (Int32.ofNat cs.length)), .val (.ref a2), .val (.int ((Int32.ofNat i) + (1 : Int32))), .val (.int (Int32.ofNat i))] [(.int (cs.getD i 0)), (.int (Int32.ofNat i)), (.ref a2)])
        obtain ⟨cl3, Ar3, cq3, Sz3, Nn3, Hs3, Gs3⟩ := id V_a2
        have hin3 : ¬ ((Int32.ofNat i) < 0 ∨ cl3.slots.size ≤ ((Int32.ofNat i)).toNatClampNeg) := by rw [inbS Sz3 (m := cs.length) (nat32 (by omega))]; exact ⟨nneg (by omega), by rw [nat32 (by omega)]; omega⟩
        obtain ⟨T3, h3, X3, e3, W3, st3⟩ := stC X2 hx hZ e2 Ar3 (j := (Int32.ofNat i)) hin3 (g := (mkF m 34 #[.val (.ref a1), .val (.int (0 : Int32)), .val (.int (Int32.ofNat cs.length)), .val (.ref a2), .val (.int ((Int32.ofNat i) + (1 : Int32))), .val (.int (Int32.ofNat i))] [(.int (cs.getD i 0)), (.int (Int32.ofNat i)), (.ref a2)])) rfl rfl (hb hby d_jdk_52_method_26_code_34)
        have fq3 : fits .char (.int (nar .char (cs.getD i 0))) = true := fits_nar_char _
        rw [show nar .char (cs.getD i 0) = (cs.getD i 0) from nar_rng (memD hbr hi)] at W3 fq3
        have V3 := Arv.set Ar3 cq3 Sz3 Nn3 Hs3 Gs3 fq3 W3 (i) (nat32 (by omega)) (by have := hwc.1; omega)
        have V_a2_o := V_a2
        have K3 := Keep.of_wr W3
        have M3 := Mj.wr W3 (Or.inl (List.mem_of_getElem? (i := 0) rfl))
        replace V_a1 := V_a1.keep K3 (ninS hne nin0)
        replace Z_ad := StaKeep Z_ad K3 (allS (staArv V_a2_o) all0)
        replace Z_hs := StaKeep Z_hs K3 (allS (staArv V_a2_o) all0)
        replace Z_ls := StaKeep Z_ls K3 (allS (staArv V_a2_o) all0)
        replace V_a2 := V3
        refine Go.of (T' := T3) (f' := (mkF m 35 #[.val (.ref a1), .val (.int (0 : Int32)), .val (.int (Int32.ofNat cs.length)), .val (.ref a2), .val (.int ((Int32.ofNat i) + (1 : Int32))), .val (.int (Int32.ofNat i))] [])) st3 ?_
        refine Go.of (T' := T3) (f' := (mkF m 38 #[.val (.ref a1), .val (.int (0 : Int32)), .val (.int (Int32.ofNat cs.length)), .val (.ref a2), .val (.int ((Int32.ofNat i) + (1 : Int32))), .val (.int ((Int32.ofNat i) + (1 : Int32)))] [])) (fun _ k => XS.iinc X3.here hx rfl (hb hby d_jdk_52_method_26_code_35) rfl (l' := #[.val (.ref a1), .val (.int (0 : Int32)), .val (.int (Int32.ofNat cs.length)), .val (.ref a2), .val (.int ((Int32.ofNat i) + (1 : Int32))), .val (.int ((Int32.ofNat i) + (1 : Int32)))]) rfl k) ?_
        refine Go.of (T' := T3) (f' := (mkF m 16 #[.val (.ref a1), .val (.int (0 : Int32)), .val (.int (Int32.ofNat cs.length)), .val (.ref a2), .val (.int ((Int32.ofNat i) + (1 : Int32))), .val (.int ((Int32.ofNat i) + (1 : Int32)))] [])) (fun _ k => XS.goto X3.here hx rfl (pc0 := 38) (pc' := 16) rfl (hb hby d_jdk_52_method_26_code_38) (by decide) (by decide) k) ?_
        rw [show (Int32.ofNat i) + (1 : Int32) = Int32.ofNat (i + 1) from (Int32.ofNat_add _ _).symm]
        exact ih (i + 1) _ T3 h3 _ (by omega) hi (wcStep hwc hi) (standUp X3 (by decide) (by decide)) e3 M3 V_a1 V_a2 Z_ad Z_hs Z_ls
      ·
        refine Go.of (T' := Tj) (f' := (mkF m 41 #[.val (.ref a1), .val (.int (0 : Int32)), .val (.int (Int32.ofNat cs.length)), .val (.ref a2), .val (.int (Int32.ofNat i)), .val (.int (Int32.ofNat i))] [])) (fun _ k => XS.icmpYes Xj.here hx rfl (pc0 := 19) (pc' := 41) rfl (hb hby d_jdk_52_method_26_code_19) rfl (flt hc19).2.1 (by decide) (by decide) k) ?_
        exact goRet0 (Q := fun v h L => v = none ∧ Mv h0 h [a2] L ∧ Arv Z h a2 kb .char (Int32.ofNat cs.length) (cs.map Value.int) (.int (0 : Int32))) Xj hx hret hlk (hb hby d_jdk_52_method_26_code_41) K (by decide) (by decide) ej (⟨rfl, Mj, (wcEnd hwc (by first | exact Nat.le_of_not_lt fun q => hc19 ((ltN (by omega) (by omega)).mpr q) | omega)) ▸ V_a2⟩)
  exact J cs.length 0 _ T1 h0 _ (by omega) (by omega) (wc0 cs _ hv) (standUp X1 (by decide) (by decide)) e1 M0 V_a1 V_a2 Z_ad Z_hs Z_ls
theorem ef_rm_tcU (m : MethodId) (x0 : Addr)  : entryFrame m #[(.ref x0)] 2 = mkF m 0 #[.val (.ref x0), .unset] [] := by first | (simp [entryFrame, mkF, argsToLocals, Value.category]; done) | rfl
theorem d_jdk_52_method_13_code_0 : decode jdk_52_method_13_code 0 = .ok (.aload_n 0, 1) := by decide +kernel
theorem d_jdk_52_method_13_code_1 : decode jdk_52_method_13_code 1 = .ok (.arraylength, 1) := by decide +kernel
theorem d_jdk_52_method_13_code_2 : decode jdk_52_method_13_code 2 = .ok (.iconst 1, 1) := by decide +kernel
theorem d_jdk_52_method_13_code_3 : decode jdk_52_method_13_code 3 = .ok (.ishr, 1) := by decide +kernel
theorem d_jdk_52_method_13_code_4 : decode jdk_52_method_13_code 4 = .ok (.newarray .char, 2) := by decide +kernel
theorem d_jdk_52_method_13_code_6 : decode jdk_52_method_13_code 6 = .ok (.astore_n 1, 1) := by decide +kernel
theorem d_jdk_52_method_13_code_7 : decode jdk_52_method_13_code 7 = .ok (.aload_n 0, 1) := by decide +kernel
theorem d_jdk_52_method_13_code_8 : decode jdk_52_method_13_code 8 = .ok (.iconst 0, 1) := by decide +kernel
theorem d_jdk_52_method_13_code_9 : decode jdk_52_method_13_code 9 = .ok (.aload_n 1, 1) := by decide +kernel
theorem d_jdk_52_method_13_code_10 : decode jdk_52_method_13_code 10 = .ok (.arraylength, 1) := by decide +kernel
theorem d_jdk_52_method_13_code_11 : decode jdk_52_method_13_code 11 = .ok (.aload_n 1, 1) := by decide +kernel
theorem d_jdk_52_method_13_code_12 : decode jdk_52_method_13_code 12 = .ok (.iconst 0, 1) := by decide +kernel
theorem d_jdk_52_method_13_code_13 : decode jdk_52_method_13_code 13 = .ok (.invokestatic 103, 3) := by decide +kernel
theorem pd___BII_CI_V : parseMethodDescriptor "([BII[CI)V" = some ⟨[(.array .byte), .int, .int, (.array .char), .int], none⟩ := by decide +kernel
theorem d_jdk_52_method_13_code_16 : decode jdk_52_method_13_code 16 = .ok (.aload_n 1, 1) := by decide +kernel
theorem d_jdk_52_method_13_code_17 : decode jdk_52_method_13_code 17 = .ok (.areturn, 1) := by decide +kernel
set_option maxRecDepth 65536 in
set_option maxHeartbeats 40000000 in
theorem rm_tcU (l : Launch) (Z : State) (a0 : Array Value) (hw : ∀ d ∈ tables_1, d.before a0 Z = true) (a1 : Addr) (ka : ClassId) (cs : List Int32) (fm : Value) (h0 : Heap) (V_a1 : Arv Z h0 a1 ka .byte (Int32.ofNat (2 * cs.length)) (StrChars.Road.wideBytes cs) (.int (0 : Int32))) (hle8 : cs.length ≤ 8) (hp1 : 1 ≤ cs.length) (hbr : ∀ c ∈ cs, ¬ c < 0 ∧ ¬ (65535 : Int32) < c) (Z_ad : Sta Z h0 "java/lang/StringUTF16" "$assertionsDisabled" "Z" (.int (1 : Int32))) (Z_hs : Sta Z h0 "java/lang/StringUTF16" "HI_BYTE_SHIFT" "I" (.int (0 : Int32))) (Z_ls : Sta Z h0 "java/lang/StringUTF16" "LO_BYTE_SHIFT" "I" (.int (8 : Int32))) (Z_fm : Sta Z h0 "jdk/internal/util/Preconditions" "SIOOBE_FORMATTER" "Ljava/util/function/BiFunction;" fm) (hfm : fm.isRef = true) :
    MeetsW l Z (⟨"java/lang/StringUTF16", "toChars", "([B)[C"⟩ : MethodName) jdk_52_method_13_code 2 (some (.array .char)) ({ frames := 4, cells := 1, slots := 8, locals := 60 } : Room) #[(.ref a1)] h0 (fun v h L => Mv h0 h [] L ∧ ∃ (b : Addr) (k : ClassId), v = some (.ref b) ∧ h0.size ≤ b ∧ Arv Z h b k .char (Int32.ofNat cs.length) (cs.map Value.int) (.int (0 : Int32))) := by
  refine MeetsW.of (plainFor_of_name pn_java_lang_StringUTF16) ?_
  intro p e s m below meth c s₁ P hx hby hml hZ hown hnm hret hlk X0 e0 K
  have M0 : Mv h0 h0 [] [] := Mv.refl _ _
  refine Go.cast (ef_rm_tcU m a1 ) ?_
  refine Go.of (T' := s₁) (f' := (mkF m 1 #[.val (.ref a1), .unset] [(.ref a1)])) (fun _ k => XS.aloadN X0.here hx rfl (hb hby d_jdk_52_method_13_code_0) rfl rfl k) ?_
  obtain ⟨cl1, Ar1, -, Sz1, Nn1, -, -⟩ := id V_a1
  refine Go.of (T' := s₁) (f' := (mkF m 2 #[.val (.ref a1), .unset] [(.int (Int32.ofNat (2 * cs.length)))])) (fun _ k => X0.arraylength hx (by rw [e0]; exact Ar1.1) (State.isArrayOf_alike hZ.alike Ar1.2.1) (g := (mkF m 1 #[.val (.ref a1), .unset] [(.ref a1)])) rfl rfl (hb hby d_jdk_52_method_13_code_1) _ (by rw [len_of Sz1 Nn1]; exact k)) ?_
  refine Go.of (T' := s₁) (f' := (mkF m 3 #[.val (.ref a1), .unset] [(.int (1 : Int32)), (.int (Int32.ofNat (2 * cs.length)))])) (fun _ k => XS.iconst X0.here hx rfl (hb hby d_jdk_52_method_13_code_2) k) ?_
  refine Go.of (T' := s₁) (f' := (mkF m 4 #[.val (.ref a1), .unset] [(.int ((Int32.ofNat (2 * cs.length)) >>> ((1 : Int32) &&& 31)))])) (fun _ k => XS.ishr X0.here hx rfl (hb hby d_jdk_52_method_13_code_3) rfl k) ?_
  rw [sr1 (by omega)]
  show Go p e below P s₁ (mkF m 4 #[.val (.ref a1), .unset] [(.int (Int32.ofNat cs.length))])
  obtain ⟨T2, h2, k2, X2, e2, E2, A2, st2⟩ := newP X0 hx hZ (hw _ (List.mem_of_getElem? (i := 11) rfl)) e0 (g := (mkF m 4 #[.val (.ref a1), .unset] [(.int (Int32.ofNat cs.length))])) rfl (hb hby d_jdk_52_method_13_code_4) rfl (nneg (by omega)) (cap := 8) (by rw [nat32 (by omega)]; omega) (by decide) (by decide) (by decide)
  obtain ⟨b2, g2⟩ : ∃ z, z = h0.size := ⟨_, rfl⟩
  rw [← g2] at A2 st2
  have ne_a1_b2 : a1 ≠ b2 := Nat.ne_of_lt (Nat.lt_of_lt_of_le V_a1.lt (Nat.le_of_eq g2.symm))
  have fr_b2 : h0.size ≤ b2 := Nat.le_trans M0.le (Nat.le_of_eq g2.symm)
  have K2 := keepE E2
  have M2 := M0.ext E2
  replace V_a1 := V_a1.keep K2 nin0
  replace Z_ad := StaKeep Z_ad K2 all0
  replace Z_hs := StaKeep Z_hs K2 all0
  replace Z_ls := StaKeep Z_ls K2 all0
  replace Z_fm := StaKeep Z_fm K2 all0
  have V_b2 : Arv Z h2 b2 k2 .char (Int32.ofNat cs.length) [] (.int (0 : Int32)) := Arv.new A2 (nneg (by omega))
  refine Go.of (T' := T2) (f' := (mkF m 6 #[.val (.ref a1), .unset] [(.ref b2)])) st2 ?_
  refine Go.of (T' := T2) (f' := (mkF m 7 #[.val (.ref a1), .val (.ref b2)] [])) (fun _ k => XS.astoreN X2.here hx rfl (hb hby d_jdk_52_method_13_code_6) rfl rfl (l' := #[.val (.ref a1), .val (.ref b2)]) rfl k) ?_
  refine Go.of (T' := T2) (f' := (mkF m 8 #[.val (.ref a1), .val (.ref b2)] [(.ref a1)])) (fun _ k => XS.aloadN X2.here hx rfl (hb hby d_jdk_52_method_13_code_7) rfl rfl k) ?_
  refine Go.of (T' := T2) (f' := (mkF m 9 #[.val (.ref a1), .val (.ref b2)] [(.int (0 : Int32)), (.ref a1)])) (fun _ k => XS.iconst X2.here hx rfl (hb hby d_jdk_52_method_13_code_8) k) ?_
  refine Go.of (T' := T2) (f' := (mkF m 10 #[.val (.ref a1), .val (.ref b2)] [(.ref b2), (.int (0 : Int32)), (.ref a1)])) (fun _ k => XS.aloadN X2.here hx rfl (hb hby d_jdk_52_method_13_code_9) rfl rfl k) ?_
  obtain ⟨cl3, Ar3, -, Sz3, Nn3, -, -⟩ := id V_b2
  refine Go.of (T' := T2) (f' := (mkF m 11 #[.val (.ref a1), .val (.ref b2)] [(.int (Int32.ofNat cs.length)), (.int (0 : Int32)), (.ref a1)])) (fun _ k => X2.arraylength hx (by rw [e2]; exact Ar3.1) (State.isArrayOf_alike hZ.alike Ar3.2.1) (g := (mkF m 10 #[.val (.ref a1), .val (.ref b2)] [(.ref b2), (.int (0 : Int32)), (.ref a1)])) rfl rfl (hb hby d_jdk_52_method_13_code_10) _ (by rw [len_of Sz3 Nn3]; exact k)) ?_
  refine Go.of (T' := T2) (f' := (mkF m 12 #[.val (.ref a1), .val (.ref b2)] [(.ref b2), (.int (Int32.ofNat cs.length)), (.int (0 : Int32)), (.ref a1)])) (fun _ k => XS.aloadN X2.here hx rfl (hb hby d_jdk_52_method_13_code_11) rfl rfl k) ?_
  refine Go.of (T' := T2) (f' := (mkF m 13 #[.val (.ref a1), .val (.ref b2)] [(.int (0 : Int32)), (.ref b2), (.int (Int32.ofNat cs.length)), (.int (0 : Int32)), (.ref a1)])) (fun _ k => XS.iconst X2.here hx rfl (hb hby d_jdk_52_method_13_code_12) k) ?_
  refine goS X2 hx hZ hown (hw _ (List.mem_of_getElem? (i := 120) rfl)) (hw _ (List.mem_of_getElem? (i := 121) rfl)) (hw _ (List.mem_of_getElem? (i := 84) rfl)) (hw _ (List.mem_of_getElem? (i := 122) rfl)) (by decide) (C := 0) (S := 0) ((rm_gch l Z a0 hw a1 b2 ka k2 cs _ fm h2 V_a1 hle8 hp1 hbr (V_b2.pad (pad_rep [] _ cs.length)) (by simp) ne_a1_b2 Z_ad Z_hs Z_ls Z_fm hfm).bk (W := 0) hZ (hw _ (List.mem_of_getElem? (i := 122) rfl)) (hw _ (List.mem_of_getElem? (i := 84) rfl)) (by decide) (by decide)) e2 (argsL := [(.ref a1), (.int (0 : Int32)), (.int (Int32.ofNat cs.length)), (.ref b2), (.int (0 : Int32))]) (rest := []) (by rw [hml]; rfl) (lenOf pd___BII_CI_V rfl) rfl rfl (hb hby d_jdk_52_method_13_code_13) (Nat.le_of_eq rfl) (by decide) (by decide) ?_
  intro v4 T4 L4 X4 hQ4
  obtain ⟨h4, e4⟩ : ∃ z, T4.heap = z := ⟨_, rfl⟩
  rw [e4] at hQ4
  have V_b2_o := V_b2
  obtain ⟨rfl, Mc4, Vc4⟩ := hQ4
  have M4 := M2.app Mc4 (allS (Or.inr fr_b2) all0)
  replace V_a1 := V_a1.keep Mc4.1 (ninS ne_a1_b2 nin0)
  replace Z_ad := StaKeep Z_ad Mc4.1 (allS (staArv V_b2_o) all0)
  replace Z_hs := StaKeep Z_hs Mc4.1 (allS (staArv V_b2_o) all0)
  replace Z_ls := StaKeep Z_ls Mc4.1 (allS (staArv V_b2_o) all0)
  replace Z_fm := StaKeep Z_fm Mc4.1 (allS (staArv V_b2_o) all0)
  replace V_b2 := Vc4
  show Go p e below P T4 (mkF m 16 #[.val (.ref a1), .val (.ref b2)] [])
  refine Go.of (T' := T4) (f' := (mkF m 17 #[.val (.ref a1), .val (.ref b2)] [(.ref b2)])) (fun _ k => XS.aloadN X4.here hx rfl (hb hby d_jdk_52_method_13_code_16) rfl rfl k) ?_
  exact goRetR (Q := fun v h L => Mv h0 h [] L ∧ ∃ (b : Addr) (k : ClassId), v = some (.ref b) ∧ h0.size ≤ b ∧ Arv Z h b k .char (Int32.ofNat cs.length) (cs.map Value.int) (.int (0 : Int32))) X4 hx hret rfl hlk rfl rfl (hb hby d_jdk_52_method_13_code_17) K (by decide) (by decide) e4 (⟨M4, b2, _, rfl, fr_b2, V_b2⟩)
theorem ef_rm_isL0 (m : MethodId) (x0 : Addr)  : entryFrame m #[(.ref x0)] 1 = mkF m 0 #[.val (.ref x0)] [] := by first | (simp [entryFrame, mkF, argsToLocals, Value.category]; done) | rfl
theorem d_jdk_42_method_154_code_13 : decode jdk_42_method_154_code 13 = .ok (.iconst 1, 1) := by decide +kernel
theorem d_jdk_42_method_154_code_14 : decode jdk_42_method_154_code 14 = .ok (.goto 4, 3) := by decide +kernel
set_option maxRecDepth 65536 in
set_option maxHeartbeats 40000000 in
theorem rm_isL0 (l : Launch) (Z : State) (a0 : Array Value) (hw : ∀ d ∈ tables_1, d.before a0 Z = true) (a1 : Addr) (zc : Int32) (h0 : Heap) (F_coder : Fld Z h0 a1 "java/lang/String" "coder" "B" (.int (0 : Int32))) (Z_cs : Sta Z h0 "java/lang/String" "COMPACT_STRINGS" "Z" (.int zc)) (hz : ¬ zc = 0) :
    MeetsW l Z (⟨"java/lang/String", "isLatin1", "()Z"⟩ : MethodName) jdk_42_method_154_code 1 (some .boolean) ({ frames := 0, cells := 0, slots := 0, locals := 0 } : Room) #[(.ref a1)] h0 (Pu h0 (fun v => v = some (.int 1))) := by
  refine MeetsW.of (plainFor_of_name pn_java_lang_String) ?_
  intro p e s m below meth c s₁ P hx hby hml hZ hown hnm hret hlk X0 e0 K
  have M0 : Mv h0 h0 [] [] := Mv.refl _ _
  refine Go.cast (ef_rm_isL0 m a1 ) ?_
  obtain ⟨T1, X1, e1, st1⟩ := getS2 X0 hx hZ hown (host := "") (Or.inl (hw _ (List.mem_of_getElem? (i := 53) rfl))) Via.refl e0 Z_cs (g := (mkF m 0 #[.val (.ref a1)] [])) rfl (hb hby d_jdk_42_method_154_code_0)
  refine Go.of (T' := T1) (f' := (mkF m 3 #[.val (.ref a1)] [(.int zc)])) st1 ?_
  have hc3 : ¬ (zc = (0 : Int32)) := hz
  refine Go.of (T' := T1) (f' := (mkF m 6 #[.val (.ref a1)] [])) (fun _ k => XS.ifNo X1.here hx rfl (hb hby d_jdk_42_method_154_code_3) rfl ((if0 _ _).trans (feq hc3).1) k) ?_
  refine Go.of (T' := T1) (f' := (mkF m 7 #[.val (.ref a1)] [(.ref a1)])) (fun _ k => XS.aloadN X1.here hx rfl (hb hby d_jdk_42_method_154_code_6) rfl rfl k) ?_
  obtain ⟨T2, X2, e2, st2⟩ := getF X1 hx hZ hown (host := "") (Or.inl (hw _ (List.mem_of_getElem? (i := 29) rfl))) Via.refl e1 F_coder (g := (mkF m 7 #[.val (.ref a1)] [(.ref a1)])) rfl rfl (hb hby d_jdk_42_method_154_code_7)
  refine Go.of (T' := T2) (f' := (mkF m 10 #[.val (.ref a1)] [(.int (0 : Int32))])) st2 ?_
  refine Go.of (T' := T2) (f' := (mkF m 13 #[.val (.ref a1)] [])) (fun _ k => XS.ifNo X2.here hx rfl (hb hby d_jdk_42_method_154_code_10) rfl (by decide) k) ?_
  refine Go.of (T' := T2) (f' := (mkF m 14 #[.val (.ref a1)] [(.int (1 : Int32))])) (fun _ k => XS.iconst X2.here hx rfl (hb hby d_jdk_42_method_154_code_13) k) ?_
  refine Go.of (T' := T2) (f' := (mkF m 18 #[.val (.ref a1)] [(.int (1 : Int32))])) (fun _ k => XS.goto X2.here hx rfl (pc0 := 14) (pc' := 18) rfl (hb hby d_jdk_42_method_154_code_14) (by decide) (by decide) k) ?_
  exact goRetI (Q := Pu h0 (fun v => v = some (.int 1))) X2 hx (t := .boolean) hret hlk rfl (by simp) (hb hby d_jdk_42_method_154_code_18) K (by decide) (by decide) e2 (⟨rfl, rfl, rfl⟩)
theorem ef_rm_tca0 (m : MethodId) (x0 : Addr)  : entryFrame m #[(.ref x0)] 1 = mkF m 0 #[.val (.ref x0)] [] := by first | (simp [entryFrame, mkF, argsToLocals, Value.category]; done) | rfl
theorem d_jdk_42_method_129_code_0 : decode jdk_42_method_129_code 0 = .ok (.aload_n 0, 1) := by decide +kernel
theorem d_jdk_42_method_129_code_1 : decode jdk_42_method_129_code 1 = .ok (.invokevirtual 492, 3) := by decide +kernel
theorem pd___Z : parseMethodDescriptor "()Z" = some ⟨[], some .boolean⟩ := by decide +kernel
theorem d_jdk_42_method_129_code_4 : decode jdk_42_method_129_code 4 = .ok (.ifCond .eq 13, 3) := by decide +kernel
theorem d_jdk_42_method_129_code_7 : decode jdk_42_method_129_code 7 = .ok (.aload_n 0, 1) := by decide +kernel
theorem d_jdk_42_method_129_code_8 : decode jdk_42_method_129_code 8 = .ok (.getfield 9, 3) := by decide +kernel
theorem d_jdk_42_method_129_code_11 : decode jdk_42_method_129_code 11 = .ok (.invokestatic 299, 3) := by decide +kernel
theorem pd___B__C : parseMethodDescriptor "([B)[C" = some ⟨[(.array .byte)], some (.array .char)⟩ := by decide +kernel
theorem d_jdk_42_method_129_code_14 : decode jdk_42_method_129_code 14 = .ok (.goto 10, 3) := by decide +kernel
theorem d_jdk_42_method_129_code_24 : decode jdk_42_method_129_code 24 = .ok (.areturn, 1) := by decide +kernel
set_option maxRecDepth 65536 in
set_option maxHeartbeats 40000000 in
theorem rm_tca0 (l : Launch) (Z : State) (a0 : Array Value) (hw : ∀ d ∈ tables_1, d.before a0 Z = true) (a0_ a1 : Addr) (ka : ClassId) (cs : List Int32) (zc : Int32) (fm : Value) (h0 : Heap) (E_a0 : Exa Z h0 a0_ "java/lang/String") (F_value : Fld Z h0 a0_ "java/lang/String" "value" "[B" (.ref a1)) (F_coder : Fld Z h0 a0_ "java/lang/String" "coder" "B" (.int (0 : Int32))) (V_a1 : Arv Z h0 a1 ka .byte (Int32.ofNat cs.length) (cs.map fun c => Value.int (StrChars.lo8 c)) (.int (0 : Int32))) (hle8 : cs.length ≤ 8) (hbr : ∀ c ∈ cs, ¬ c < 0 ∧ ¬ (65535 : Int32) < c) (hla : ∀ c ∈ cs, ¬ (255 : Int32) < c) (Z_ad : Sta Z h0 "java/lang/StringUTF16" "$assertionsDisabled" "Z" (.int (1 : Int32))) (Z_hs : Sta Z h0 "java/lang/StringUTF16" "HI_BYTE_SHIFT" "I" (.int (0 : Int32))) (Z_ls : Sta Z h0 "java/lang/StringUTF16" "LO_BYTE_SHIFT" "I" (.int (8 : Int32))) (Z_fm : Sta Z h0 "jdk/internal/util/Preconditions" "SIOOBE_FORMATTER" "Ljava/util/function/BiFunction;" fm) (hfm : fm.isRef = true) (Z_cs : Sta Z h0 "java/lang/String" "COMPACT_STRINGS" "Z" (.int zc)) (hz : ¬ zc = 0) :
    MeetsW l Z (⟨"java/lang/String", "toCharArray", "()[C"⟩ : MethodName) jdk_42_method_129_code 1 (some (.array .char)) ({ frames := 2, cells := 1, slots := 8, locals := 30 } : Room) #[(.ref a0_)] h0 (fun v h L => Mv h0 h [] L ∧ ∃ (b : Addr) (k : ClassId), v = some (.ref b) ∧ h0.size ≤ b ∧ Arv Z h b k .char (Int32.ofNat cs.length) (cs.map Value.int) (.int (0 : Int32))) := by
  refine MeetsW.of (plainFor_of_name pn_java_lang_String) ?_
  intro p e s m below meth c s₁ P hx hby hml hZ hown hnm hret hlk X0 e0 K
  have M0 : Mv h0 h0 [] [] := Mv.refl _ _
  refine Go.cast (ef_rm_tca0 m a0_ ) ?_
  refine Go.of (T' := s₁) (f' := (mkF m 1 #[.val (.ref a0_)] [(.ref a0_)])) (fun _ k => XS.aloadN X0.here hx rfl (hb hby d_jdk_42_method_129_code_0) rfl rfl k) ?_
  refine goV X0 hx hZ (y := (⟨"java/lang/String", "isLatin1", "()Z"⟩ : MethodName)) (z := (⟨"java/lang/String", "isLatin1", "()Z"⟩ : MethodName)) hown (hw _ (List.mem_of_getElem? (i := 48) rfl)) (hw _ (List.mem_of_getElem? (i := 49) rfl)) (notFace_of_selects (args := #[]) (mvT hZ (hw _ (List.mem_of_getElem? (i := 51) rfl)))) (hw _ (List.mem_of_getElem? (i := 51) rfl)) (hw _ (List.mem_of_getElem? (i := 50) rfl)) (by decide) (C := 0) (S := 0) ((rm_isL0 l Z a0 hw a0_ zc h0 F_coder Z_cs hz).bk (W := 0) hZ (hw _ (List.mem_of_getElem? (i := 52) rfl)) (hw _ (List.mem_of_getElem? (i := 10) rfl)) (by decide) (by decide)) e0 E_a0 (argsL := []) (rest := []) (by rw [hml]; rfl) (lenOf pd___Z rfl) rfl rfl (hb hby d_jdk_42_method_129_code_1) (Nat.le_of_eq rfl) (by decide) (by decide) ?_
  intro v1 T1 L1 X1 hQ1
  obtain ⟨nq1, e1, rfl⟩ := hQ1
  replace X1 := standNil X1 nq1
  show Go p e below P T1 (mkF m 4 #[.val (.ref a0_)] [(.int (1 : Int32))])
  refine Go.of (T' := T1) (f' := (mkF m 7 #[.val (.ref a0_)] [])) (fun _ k => XS.ifNo X1.here hx rfl (hb hby d_jdk_42_method_129_code_4) rfl (by decide) k) ?_
  refine Go.of (T' := T1) (f' := (mkF m 8 #[.val (.ref a0_)] [(.ref a0_)])) (fun _ k => XS.aloadN X1.here hx rfl (hb hby d_jdk_42_method_129_code_7) rfl rfl k) ?_
  obtain ⟨T2, X2, e2, st2⟩ := getF X1 hx hZ hown (host := "") (Or.inl (hw _ (List.mem_of_getElem? (i := 28) rfl))) Via.refl e1 F_value (g := (mkF m 8 #[.val (.ref a0_)] [(.ref a0_)])) rfl rfl (hb hby d_jdk_42_method_129_code_8)
  refine Go.of (T' := T2) (f' := (mkF m 11 #[.val (.ref a0_)] [(.ref a1)])) st2 ?_
  refine goS X2 hx hZ hown (hw _ (List.mem_of_getElem? (i := 54) rfl)) (hw _ (List.mem_of_getElem? (i := 55) rfl)) (hw _ (List.mem_of_getElem? (i := 56) rfl)) (hw _ (List.mem_of_getElem? (i := 57) rfl)) (by decide) (C := 1) (S := 8) ((rm_tcL l Z a0 hw a1 ka cs h0 V_a1 hle8 hbr hla).bk (W := 0) hZ (hw _ (List.mem_of_getElem? (i := 57) rfl)) (hw _ (List.mem_of_getElem? (i := 56) rfl)) (by decide) (by decide)) e2 (argsL := [(.ref a1)]) (rest := []) (by rw [hml]; rfl) (lenOf pd___B__C rfl) rfl rfl (hb hby d_jdk_42_method_129_code_11) (Nat.le_of_eq rfl) (by decide) (by decide) ?_
  intro v3 T3 L3 X3 hQ3
  obtain ⟨h3, e3⟩ : ∃ z, T3.heap = z := ⟨_, rfl⟩
  rw [e3] at hQ3
  obtain ⟨Mc3, b3, k3, rfl, le3, V_b3⟩ := hQ3
  have ne_a0__b3 : a0_ ≠ b3 := Nat.ne_of_lt (Nat.lt_of_lt_of_le E_a0.lt le3)
  have ne_a1_b3 : a1 ≠ b3 := Nat.ne_of_lt (Nat.lt_of_lt_of_le V_a1.lt le3)
  have fr_b3 : h0.size ≤ b3 := Nat.le_trans M0.le le3
  have M3 := M0.app0 Mc3
  replace E_a0 := E_a0.keep Mc3.1
  replace F_value := F_value.keep Mc3.1 nin0
  replace F_coder := F_coder.keep Mc3.1 nin0
  replace V_a1 := V_a1.keep Mc3.1 nin0
  replace Z_ad := StaKeep Z_ad Mc3.1 all0
  replace Z_hs := StaKeep Z_hs Mc3.1 all0
  replace Z_ls := StaKeep Z_ls Mc3.1 all0
  replace Z_fm := StaKeep Z_fm Mc3.1 all0
  replace Z_cs := StaKeep Z_cs Mc3.1 all0
  show Go p e below P T3 (mkF m 14 #[.val (.ref a0_)] [(.ref b3)])
  refine Go.of (T' := T3) (f' := (mkF m 24 #[.val (.ref a0_)] [(.ref b3)])) (fun _ k => XS.goto X3.here hx rfl (pc0 := 14) (pc' := 24) rfl (hb hby d_jdk_42_method_129_code_14) (by decide) (by decide) k) ?_
  exact goRetR (Q := fun v h L => Mv h0 h [] L ∧ ∃ (b : Addr) (k : ClassId), v = some (.ref b) ∧ h0.size ≤ b ∧ Arv Z h b k .char (Int32.ofNat cs.length) (cs.map Value.int) (.int (0 : Int32))) X3 hx hret rfl hlk rfl rfl (hb hby d_jdk_42_method_129_code_24) K (by decide) (by decide) e3 (⟨M3, b3, _, rfl, fr_b3, V_b3⟩)
theorem ef_rm_tca1 (m : MethodId) (x0 : Addr)  : entryFrame m #[(.ref x0)] 1 = mkF m 0 #[.val (.ref x0)] [] := by first | (simp [entryFrame, mkF, argsToLocals, Value.category]; done) | rfl
theorem d_jdk_42_method_129_code_17 : decode jdk_42_method_129_code 17 = .ok (.aload_n 0, 1) := by decide +kernel
theorem d_jdk_42_method_129_code_18 : decode jdk_42_method_129_code 18 = .ok (.getfield 9, 3) := by decide +kernel
theorem d_jdk_42_method_129_code_21 : decode jdk_42_method_129_code 21 = .ok (.invokestatic 303, 3) := by decide +kernel
set_option maxRecDepth 65536 in
set_option maxHeartbeats 40000000 in
theorem rm_tca1 (l : Launch) (Z : State) (a0 : Array Value) (hw : ∀ d ∈ tables_1, d.before a0 Z = true) (a0_ a1 : Addr) (ka : ClassId) (cs : List Int32) (zc : Int32) (fm : Value) (h0 : Heap) (E_a0 : Exa Z h0 a0_ "java/lang/String") (F_value : Fld Z h0 a0_ "java/lang/String" "value" "[B" (.ref a1)) (F_coder : Fld Z h0 a0_ "java/lang/String" "coder" "B" (.int (1 : Int32))) (V_a1 : Arv Z h0 a1 ka .byte (Int32.ofNat (2 * cs.length)) (StrChars.Road.wideBytes cs) (.int (0 : Int32))) (hle8 : cs.length ≤ 8) (hp1 : 1 ≤ cs.length) (hbr : ∀ c ∈ cs, ¬ c < 0 ∧ ¬ (65535 : Int32) < c) (Z_ad : Sta Z h0 "java/lang/StringUTF16" "$assertionsDisabled" "Z" (.int (1 : Int32))) (Z_hs : Sta Z h0 "java/lang/StringUTF16" "HI_BYTE_SHIFT" "I" (.int (0 : Int32))) (Z_ls : Sta Z h0 "java/lang/StringUTF16" "LO_BYTE_SHIFT" "I" (.int (8 : Int32))) (Z_fm : Sta Z h0 "jdk/internal/util/Preconditions" "SIOOBE_FORMATTER" "Ljava/util/function/BiFunction;" fm) (hfm : fm.isRef = true) (Z_cs : Sta Z h0 "java/lang/String" "COMPACT_STRINGS" "Z" (.int zc)) (hz : ¬ zc = 0) :
    MeetsW l Z (⟨"java/lang/String", "toCharArray", "()[C"⟩ : MethodName) jdk_42_method_129_code 1 (some (.array .char)) ({ frames := 5, cells := 1, slots := 8, locals := 73 } : Room) #[(.ref a0_)] h0 (fun v h L => Mv h0 h [] L ∧ ∃ (b : Addr) (k : ClassId), v = some (.ref b) ∧ h0.size ≤ b ∧ Arv Z h b k .char (Int32.ofNat cs.length) (cs.map Value.int) (.int (0 : Int32))) := by
  refine MeetsW.of (plainFor_of_name pn_java_lang_String) ?_
  intro p e s m below meth c s₁ P hx hby hml hZ hown hnm hret hlk X0 e0 K
  have M0 : Mv h0 h0 [] [] := Mv.refl _ _
  refine Go.cast (ef_rm_tca1 m a0_ ) ?_
  refine Go.of (T' := s₁) (f' := (mkF m 1 #[.val (.ref a0_)] [(.ref a0_)])) (fun _ k => XS.aloadN X0.here hx rfl (hb hby d_jdk_42_method_129_code_0) rfl rfl k) ?_
  refine goV X0 hx hZ (y := (⟨"java/lang/String", "isLatin1", "()Z"⟩ : MethodName)) (z := (⟨"java/lang/String", "isLatin1", "()Z"⟩ : MethodName)) hown (hw _ (List.mem_of_getElem? (i := 48) rfl)) (hw _ (List.mem_of_getElem? (i := 49) rfl)) (notFace_of_selects (args := #[]) (mvT hZ (hw _ (List.mem_of_getElem? (i := 51) rfl)))) (hw _ (List.mem_of_getElem? (i := 51) rfl)) (hw _ (List.mem_of_getElem? (i := 50) rfl)) (by decide) (C := 0) (S := 0) ((rm_isL l Z a0 hw a0_ zc h0 F_coder Z_cs hz).bk (W := 0) hZ (hw _ (List.mem_of_getElem? (i := 52) rfl)) (hw _ (List.mem_of_getElem? (i := 10) rfl)) (by decide) (by decide)) e0 E_a0 (argsL := []) (rest := []) (by rw [hml]; rfl) (lenOf pd___Z rfl) rfl rfl (hb hby d_jdk_42_method_129_code_1) (Nat.le_of_eq rfl) (by decide) (by decide) ?_
  intro v1 T1 L1 X1 hQ1
  obtain ⟨nq1, e1, rfl⟩ := hQ1
  replace X1 := standNil X1 nq1
  show Go p e below P T1 (mkF m 4 #[.val (.ref a0_)] [(.int (0 : Int32))])
  refine Go.of (T' := T1) (f' := (mkF m 17 #[.val (.ref a0_)] [])) (fun _ k => XS.ifYes X1.here hx rfl (pc0 := 4) (pc' := 17) rfl (hb hby d_jdk_42_method_129_code_4) rfl (by decide) (by decide) (by decide) k) ?_
  refine Go.of (T' := T1) (f' := (mkF m 18 #[.val (.ref a0_)] [(.ref a0_)])) (fun _ k => XS.aloadN X1.here hx rfl (hb hby d_jdk_42_method_129_code_17) rfl rfl k) ?_
  obtain ⟨T2, X2, e2, st2⟩ := getF X1 hx hZ hown (host := "") (Or.inl (hw _ (List.mem_of_getElem? (i := 28) rfl))) Via.refl e1 F_value (g := (mkF m 18 #[.val (.ref a0_)] [(.ref a0_)])) rfl rfl (hb hby d_jdk_42_method_129_code_18)
  refine Go.of (T' := T2) (f' := (mkF m 21 #[.val (.ref a0_)] [(.ref a1)])) st2 ?_
  refine goS X2 hx hZ hown (hw _ (List.mem_of_getElem? (i := 117) rfl)) (hw _ (List.mem_of_getElem? (i := 118) rfl)) (hw _ (List.mem_of_getElem? (i := 84) rfl)) (hw _ (List.mem_of_getElem? (i := 119) rfl)) (by decide) (C := 1) (S := 8) ((rm_tcU l Z a0 hw a1 ka cs fm h0 V_a1 hle8 hp1 hbr Z_ad Z_hs Z_ls Z_fm hfm).bk (W := 0) hZ (hw _ (List.mem_of_getElem? (i := 119) rfl)) (hw _ (List.mem_of_getElem? (i := 84) rfl)) (by decide) (by decide)) e2 (argsL := [(.ref a1)]) (rest := []) (by rw [hml]; rfl) (lenOf pd___B__C rfl) rfl rfl (hb hby d_jdk_42_method_129_code_21) (Nat.le_of_eq rfl) (by decide) (by decide) ?_
  intro v3 T3 L3 X3 hQ3
  obtain ⟨h3, e3⟩ : ∃ z, T3.heap = z := ⟨_, rfl⟩
  rw [e3] at hQ3
  obtain ⟨Mc3, b3, k3, rfl, le3, V_b3⟩ := hQ3
  have ne_a0__b3 : a0_ ≠ b3 := Nat.ne_of_lt (Nat.lt_of_lt_of_le E_a0.lt le3)
  have ne_a1_b3 : a1 ≠ b3 := Nat.ne_of_lt (Nat.lt_of_lt_of_le V_a1.lt le3)
  have fr_b3 : h0.size ≤ b3 := Nat.le_trans M0.le le3
  have M3 := M0.app0 Mc3
  replace E_a0 := E_a0.keep Mc3.1
  replace F_value := F_value.keep Mc3.1 nin0
  replace F_coder := F_coder.keep Mc3.1 nin0
  replace V_a1 := V_a1.keep Mc3.1 nin0
  replace Z_ad := StaKeep Z_ad Mc3.1 all0
  replace Z_hs := StaKeep Z_hs Mc3.1 all0
  replace Z_ls := StaKeep Z_ls Mc3.1 all0
  replace Z_fm := StaKeep Z_fm Mc3.1 all0
  replace Z_cs := StaKeep Z_cs Mc3.1 all0
  show Go p e below P T3 (mkF m 24 #[.val (.ref a0_)] [(.ref b3)])
  exact goRetR (Q := fun v h L => Mv h0 h [] L ∧ ∃ (b : Addr) (k : ClassId), v = some (.ref b) ∧ h0.size ≤ b ∧ Arv Z h b k .char (Int32.ofNat cs.length) (cs.map Value.int) (.int (0 : Int32))) X3 hx hret rfl hlk rfl rfl (hb hby d_jdk_42_method_129_code_24) K (by decide) (by decide) e3 (⟨M3, b3, _, rfl, fr_b3, V_b3⟩)
theorem tcaAny {p : Program} {l : Launch} {e : Env} {R : Room} {s : State} {args : Array Value} {below : List Frame} {W : Nat} {Z : State} {a0 : Array Value} {h0 : Heap} (hw : ∀ d ∈ tables_1, d.before a0 Z = true) (hZ : Z.Warmed39 s.vm) {x t : Addr} {cs : List Int32} {zc : Int32} {fm : Value} (F : Str Z h0 x t cs) (hle8 : cs.length ≤ 8) (Z_ad : Sta Z h0 "java/lang/StringUTF16" "$assertionsDisabled" "Z" (.int (1 : Int32))) (Z_hs : Sta Z h0 "java/lang/StringUTF16" "HI_BYTE_SHIFT" "I" (.int (0 : Int32))) (Z_ls : Sta Z h0 "java/lang/StringUTF16" "LO_BYTE_SHIFT" "I" (.int (8 : Int32))) (Z_fm : Sta Z h0 "jdk/internal/util/Preconditions" "SIOOBE_FORMATTER" "Ljava/util/function/BiFunction;" fm) (hfm : fm.isRef = true) (Z_cs : Sta Z h0 "java/lang/String" "COMPACT_STRINGS" "Z" (.int zc)) (hz : ¬ zc = 0) (hfr : 6 ≤ R.frames) (hlo : W + 85 ≤ R.locals) :
    BK l R p e below s args (⟨"java/lang/String", "toCharArray", "()[C"⟩ : MethodName) W #[.ref x] h0 1 8 (fun v h L => Mv h0 h [] L ∧ ∃ (b : Addr) (k : ClassId), v = some (.ref b) ∧ h0.size ≤ b ∧ Arv Z h b k .char (Int32.ofNat cs.length) (cs.map Value.int) (.int (0 : Int32))) := by
  obtain ⟨kb, cd, N, vs, E, V, C, A, g1, g2, g3⟩ := id F
  rcases g1 with ⟨rfl, rfl, rfl, q⟩ | ⟨rfl, rfl, rfl, q⟩
  · exact (rm_tca0 l Z a0 hw x t kb cs zc fm h0 E V C A hle8 g2 q Z_ad Z_hs Z_ls Z_fm hfm Z_cs hz).bk (W := W) hZ (hw _ (List.mem_of_getElem? (i := 47) rfl)) (hw _ (List.mem_of_getElem? (i := 10) rfl)) (by show 3 ≤ _; omega) (by show W + 12 + 30 ≤ _; omega)
  · exact (rm_tca1 l Z a0 hw x t kb cs zc fm h0 E V C A hle8 (by obtain ⟨c, hc, -⟩ := q; exact List.length_pos_of_mem hc) g2 Z_ad Z_hs Z_ls Z_fm hfm Z_cs hz).bk (W := W) hZ (hw _ (List.mem_of_getElem? (i := 47) rfl)) (hw _ (List.mem_of_getElem? (i := 10) rfl)) (by show 6 ≤ _; omega) (by show W + 12 + 73 ≤ _; omega)
theorem pn_com_example_rezeptkern_rezeptkern_JsonCursor : plainName "com/example/rezeptkern/rezeptkern/JsonCursor" = true := by first | (simp [plainName, overriddenIn]; done) | decide +kernel
theorem ef_rm_cur (m : MethodId) (x0 : Addr) (x1 : Addr) (x2 : Addr)  : entryFrame m #[(.ref x0), (.ref x1), (.ref x2)] 3 = mkF m 0 #[.val (.ref x0), .val (.ref x1), .val (.ref x2)] [] := by first | (simp [entryFrame, mkF, argsToLocals, Value.category]; done) | rfl
theorem d_prog_33_method_1_code_0 : decode prog_33_method_1_code 0 = .ok (.aload_n 0, 1) := by decide +kernel
theorem d_prog_33_method_1_code_1 : decode prog_33_method_1_code 1 = .ok (.invokespecial 1, 3) := by decide +kernel
theorem d_prog_33_method_1_code_4 : decode prog_33_method_1_code 4 = .ok (.aload_n 0, 1) := by decide +kernel
theorem d_prog_33_method_1_code_5 : decode prog_33_method_1_code 5 = .ok (.aload_n 1, 1) := by decide +kernel
theorem d_prog_33_method_1_code_6 : decode prog_33_method_1_code 6 = .ok (.putfield 7, 3) := by decide +kernel
theorem d_prog_33_method_1_code_9 : decode prog_33_method_1_code 9 = .ok (.aload_n 0, 1) := by decide +kernel
theorem d_prog_33_method_1_code_10 : decode prog_33_method_1_code 10 = .ok (.aload_n 1, 1) := by decide +kernel
theorem d_prog_33_method_1_code_11 : decode prog_33_method_1_code 11 = .ok (.invokevirtual 13, 3) := by decide +kernel
theorem pd____C : parseMethodDescriptor "()[C" = some ⟨[], some (.array .char)⟩ := by decide +kernel
theorem d_prog_33_method_1_code_14 : decode prog_33_method_1_code 14 = .ok (.putfield 19, 3) := by decide +kernel
theorem d_prog_33_method_1_code_17 : decode prog_33_method_1_code 17 = .ok (.aload_n 0, 1) := by decide +kernel
theorem d_prog_33_method_1_code_18 : decode prog_33_method_1_code 18 = .ok (.aload_n 2, 1) := by decide +kernel
theorem d_prog_33_method_1_code_19 : decode prog_33_method_1_code 19 = .ok (.putfield 23, 3) := by decide +kernel
theorem d_prog_33_method_1_code_22 : decode prog_33_method_1_code 22 = .ok (.return_, 1) := by decide +kernel
set_option maxRecDepth 65536 in
set_option maxHeartbeats 40000000 in
theorem rm_cur (l : Launch) (Z : State) (a0 : Array Value) (hw : ∀ d ∈ tables_1, d.before a0 Z = true) (a1 a2 a3 t2 : Addr) (cs : List Int32) (zc : Int32) (fm : Value) (h0 : Heap) (E_a1 : Exa Z h0 a1 "com/example/rezeptkern/rezeptkern/JsonCursor") (F_text : Fld Z h0 a1 "com/example/rezeptkern/rezeptkern/JsonCursor" "text" "Ljava/lang/String;" .null) (F_chars : Fld Z h0 a1 "com/example/rezeptkern/rezeptkern/JsonCursor" "chars" "[C" .null) (F_name : Fld Z h0 a1 "com/example/rezeptkern/rezeptkern/JsonCursor" "name" "Ljava/lang/String;" .null) (F_position : Fld Z h0 a1 "com/example/rezeptkern/rezeptkern/JsonCursor" "position" "I" (.int (0 : Int32))) (S_a2 : Str Z h0 a2 t2 cs) (hle8 : cs.length ≤ 8) (Z_ad : Sta Z h0 "java/lang/StringUTF16" "$assertionsDisabled" "Z" (.int (1 : Int32))) (Z_hs : Sta Z h0 "java/lang/StringUTF16" "HI_BYTE_SHIFT" "I" (.int (0 : Int32))) (Z_ls : Sta Z h0 "java/lang/StringUTF16" "LO_BYTE_SHIFT" "I" (.int (8 : Int32))) (Z_fm : Sta Z h0 "jdk/internal/util/Preconditions" "SIOOBE_FORMATTER" "Ljava/util/function/BiFunction;" fm) (hfm : fm.isRef = true) (Z_cs : Sta Z h0 "java/lang/String" "COMPACT_STRINGS" "Z" (.int zc)) (hz : ¬ zc = 0) :
    MeetsW l Z (⟨"com/example/rezeptkern/rezeptkern/JsonCursor", "<init>", "(Ljava/lang/String;Ljava/lang/String;)V"⟩ : MethodName) prog_33_method_1_code 3 none ({ frames := 6, cells := 1, slots := 8, locals := 86 } : Room) #[(.ref a1), (.ref a2), (.ref a3)] h0 (fun v h L => v = none ∧ Mv h0 h [a1] L ∧ ∃ (b : Addr) (kb : ClassId), h0.size ≤ b ∧ Exa Z h a1 "com/example/rezeptkern/rezeptkern/JsonCursor" ∧ Fld Z h a1 "com/example/rezeptkern/rezeptkern/JsonCursor" "text" "Ljava/lang/String;" (.ref a2) ∧ Fld Z h a1 "com/example/rezeptkern/rezeptkern/JsonCursor" "chars" "[C" (.ref b) ∧ Fld Z h a1 "com/example/rezeptkern/rezeptkern/JsonCursor" "position" "I" (.int (Int32.ofNat 0)) ∧ Arv Z h b kb (.char) (Int32.ofNat cs.length) (cs.map Value.int) (.int (0 : Int32))) := by
  refine MeetsW.of (plainFor_of_name pn_com_example_rezeptkern_rezeptkern_JsonCursor) ?_
  intro p e s m below meth c s₁ P hx hby hml hZ hown hnm hret hlk X0 e0 K
  have M0 : Mv h0 h0 [a1] [] := Mv.refl _ _
  refine Go.cast (ef_rm_cur m a1 a2 a3 ) ?_
  have ne_a2_a1 := strA_ne S_a2 E_a1 (by decide)
  have ne_t2_a1 := strT_ne S_a2 E_a1 (hw _ (List.mem_of_getElem? (i := 34) rfl))
  refine Go.of (T' := s₁) (f' := (mkF m 1 #[.val (.ref a1), .val (.ref a2), .val (.ref a3)] [(.ref a1)])) (fun _ k => XS.aloadN X0.here hx rfl (hb hby d_prog_33_method_1_code_0) rfl rfl k) ?_
  obtain ⟨T1, X1, e1, st1⟩ := initO X0 hx hZ hown (hw _ (List.mem_of_getElem? (i := 40) rfl)) (hw _ (List.mem_of_getElem? (i := 20) rfl)) (hw _ (List.mem_of_getElem? (i := 21) rfl)) e0 (g := (mkF m 1 #[.val (.ref a1), .val (.ref a2), .val (.ref a3)] [(.ref a1)])) rfl (by rw [hml]; rfl) rfl (hb hby d_prog_33_method_1_code_1) (by decide) (W := 0) (by show 2 * 0 + _ ≤ _; exact Nat.le_of_eq rfl) (by decide)
  refine Go.of (T' := T1) (f' := (mkF m 4 #[.val (.ref a1), .val (.ref a2), .val (.ref a3)] [])) st1 ?_
  refine Go.of (T' := T1) (f' := (mkF m 5 #[.val (.ref a1), .val (.ref a2), .val (.ref a3)] [(.ref a1)])) (fun _ k => XS.aloadN X1.here hx rfl (hb hby d_prog_33_method_1_code_4) rfl rfl k) ?_
  refine Go.of (T' := T1) (f' := (mkF m 6 #[.val (.ref a1), .val (.ref a2), .val (.ref a3)] [(.ref a2), (.ref a1)])) (fun _ k => XS.aloadN X1.here hx rfl (hb hby d_prog_33_method_1_code_5) rfl rfl k) ?_
  obtain ⟨T2, h2, X2, e2, W2, st2⟩ := putF X1 hx hZ hown (host := "") (Or.inl (hw _ (List.mem_of_getElem? (i := 41) rfl))) Via.refl e1 F_text E_a1 (Or.inr ⟨(hw _ (List.mem_of_getElem? (i := 42) rfl)), rfl, hnm⟩) (hw _ (List.mem_of_getElem? (i := 34) rfl)) (ty := (.object "java/lang/String")) (by decide) rfl rfl (g := (mkF m 6 #[.val (.ref a1), .val (.ref a2), .val (.ref a3)] [(.ref a2), (.ref a1)])) rfl rfl (hb hby d_prog_33_method_1_code_6)
  have E_a1_o := E_a1
  have K2 := Keep.of_wr W2
  have M2 := M0.wr W2 (Or.inl (List.mem_of_getElem? (i := 0) rfl))
  replace F_text := F_text.same W2
  replace F_chars := F_chars.other W2 (Or.inr (slot_ne (Or.inr (hw _ (List.mem_of_getElem? (i := 62) rfl))) (Or.inr (hw _ (List.mem_of_getElem? (i := 42) rfl))) (by decide) (t := (.array .char)) (t' := (.object "java/lang/String")) (by decide) (by decide)))
  replace F_name := F_name.other W2 (Or.inr (slot_ne (Or.inr (hw _ (List.mem_of_getElem? (i := 64) rfl))) (Or.inr (hw _ (List.mem_of_getElem? (i := 42) rfl))) (by decide) (t := (.object "java/lang/String")) (t' := (.object "java/lang/String")) (by decide) (by decide)))
  replace F_position := F_position.other W2 (Or.inr (slot_ne (Or.inl (hw _ (List.mem_of_getElem? (i := 75) rfl))) (Or.inr (hw _ (List.mem_of_getElem? (i := 42) rfl))) (by decide) (t := .int) (t' := (.object "java/lang/String")) (by decide) (by decide)))
  replace E_a1 := E_a1.keep K2
  replace S_a2 := S_a2.keep K2 (ninS ne_a2_a1 nin0) (ninS ne_t2_a1 nin0)
  replace Z_ad := StaKeep Z_ad K2 (allS (staExa E_a1_o) all0)
  replace Z_hs := StaKeep Z_hs K2 (allS (staExa E_a1_o) all0)
  replace Z_ls := StaKeep Z_ls K2 (allS (staExa E_a1_o) all0)
  replace Z_fm := StaKeep Z_fm K2 (allS (staExa E_a1_o) all0)
  replace Z_cs := StaKeep Z_cs K2 (allS (staExa E_a1_o) all0)
  refine Go.of (T' := T2) (f' := (mkF m 9 #[.val (.ref a1), .val (.ref a2), .val (.ref a3)] [])) st2 ?_
  refine Go.of (T' := T2) (f' := (mkF m 10 #[.val (.ref a1), .val (.ref a2), .val (.ref a3)] [(.ref a1)])) (fun _ k => XS.aloadN X2.here hx rfl (hb hby d_prog_33_method_1_code_9) rfl rfl k) ?_
  refine Go.of (T' := T2) (f' := (mkF m 11 #[.val (.ref a1), .val (.ref a2), .val (.ref a3)] [(.ref a2), (.ref a1)])) (fun _ k => XS.aloadN X2.here hx rfl (hb hby d_prog_33_method_1_code_10) rfl rfl k) ?_
  refine goV X2 hx hZ (y := (⟨"java/lang/String", "toCharArray", "()[C"⟩ : MethodName)) (z := (⟨"java/lang/String", "toCharArray", "()[C"⟩ : MethodName)) hown (hw _ (List.mem_of_getElem? (i := 43) rfl)) (hw _ (List.mem_of_getElem? (i := 44) rfl)) (notFace_of_selects (args := #[]) (mvT hZ (hw _ (List.mem_of_getElem? (i := 46) rfl)))) (hw _ (List.mem_of_getElem? (i := 46) rfl)) (hw _ (List.mem_of_getElem? (i := 45) rfl)) (by decide) (C := 1) (S := 8) (tcaAny (W := 1) hw hZ S_a2 hle8 Z_ad Z_hs Z_ls Z_fm hfm Z_cs hz (by decide) (by decide)) e2 S_a2.exa (argsL := []) (rest := [(.ref a1)]) (by rw [hml]; rfl) (lenOf pd____C rfl) rfl rfl (hb hby d_prog_33_method_1_code_11) (Nat.le_of_eq rfl) (by decide) (by decide) ?_
  intro v3 T3 L3 X3 hQ3
  obtain ⟨h3, e3⟩ : ∃ z, T3.heap = z := ⟨_, rfl⟩
  rw [e3] at hQ3
  obtain ⟨Mc3, b3, k3, rfl, le3, V_b3⟩ := hQ3
  have ne_a1_b3 : a1 ≠ b3 := Nat.ne_of_lt (Nat.lt_of_lt_of_le E_a1.lt le3)
  have ne_a2_b3 : a2 ≠ b3 := Nat.ne_of_lt (Nat.lt_of_lt_of_le S_a2.lt1 le3)
  have ne_t2_b3 : t2 ≠ b3 := Nat.ne_of_lt (Nat.lt_of_lt_of_le S_a2.lt2 le3)
  have fr_b3 : h0.size ≤ b3 := Nat.le_trans M2.le le3
  have M3 := M2.app0 Mc3
  replace E_a1 := E_a1.keep Mc3.1
  replace F_text := F_text.keep Mc3.1 nin0
  replace F_chars := F_chars.keep Mc3.1 nin0
  replace F_name := F_name.keep Mc3.1 nin0
  replace F_position := F_position.keep Mc3.1 nin0
  replace S_a2 := S_a2.keep Mc3.1 nin0 nin0
  replace Z_ad := StaKeep Z_ad Mc3.1 all0
  replace Z_hs := StaKeep Z_hs Mc3.1 all0
  replace Z_ls := StaKeep Z_ls Mc3.1 all0
  replace Z_fm := StaKeep Z_fm Mc3.1 all0
  replace Z_cs := StaKeep Z_cs Mc3.1 all0
  show Go p e below P T3 (mkF m 14 #[.val (.ref a1), .val (.ref a2), .val (.ref a3)] [(.ref b3), (.ref a1)])
  obtain ⟨T4, h4, X4, e4, W4, st4⟩ := putF X3 hx hZ hown (host := "") (Or.inl (hw _ (List.mem_of_getElem? (i := 61) rfl))) Via.refl e3 F_chars E_a1 (Or.inr ⟨(hw _ (List.mem_of_getElem? (i := 62) rfl)), rfl, hnm⟩) (hw _ (List.mem_of_getElem? (i := 34) rfl)) (ty := (.array .char)) (by decide) rfl rfl (g := (mkF m 14 #[.val (.ref a1), .val (.ref a2), .val (.ref a3)] [(.ref b3), (.ref a1)])) rfl rfl (hb hby d_prog_33_method_1_code_14)
  have E_a1_o := E_a1
  have K4 := Keep.of_wr W4
  have M4 := M3.wr W4 (Or.inl (List.mem_of_getElem? (i := 0) rfl))
  replace F_text := F_text.other W4 (Or.inr (slot_ne (Or.inr (hw _ (List.mem_of_getElem? (i := 42) rfl))) (Or.inr (hw _ (List.mem_of_getElem? (i := 62) rfl))) (by decide) (t := (.object "java/lang/String")) (t' := (.array .char)) (by decide) (by decide)))
  replace F_chars := F_chars.same W4
  replace F_name := F_name.other W4 (Or.inr (slot_ne (Or.inr (hw _ (List.mem_of_getElem? (i := 64) rfl))) (Or.inr (hw _ (List.mem_of_getElem? (i := 62) rfl))) (by decide) (t := (.object "java/lang/String")) (t' := (.array .char)) (by decide) (by decide)))
  replace F_position := F_position.other W4 (Or.inr (slot_ne (Or.inl (hw _ (List.mem_of_getElem? (i := 75) rfl))) (Or.inr (hw _ (List.mem_of_getElem? (i := 62) rfl))) (by decide) (t := .int) (t' := (.array .char)) (by decide) (by decide)))
  replace E_a1 := E_a1.keep K4
  replace S_a2 := S_a2.keep K4 (ninS ne_a2_a1 nin0) (ninS ne_t2_a1 nin0)
  replace Z_ad := StaKeep Z_ad K4 (allS (staExa E_a1_o) all0)
  replace Z_hs := StaKeep Z_hs K4 (allS (staExa E_a1_o) all0)
  replace Z_ls := StaKeep Z_ls K4 (allS (staExa E_a1_o) all0)
  replace Z_fm := StaKeep Z_fm K4 (allS (staExa E_a1_o) all0)
  replace Z_cs := StaKeep Z_cs K4 (allS (staExa E_a1_o) all0)
  replace V_b3 := V_b3.keep K4 (ninS (Ne.symm ne_a1_b3) nin0)
  refine Go.of (T' := T4) (f' := (mkF m 17 #[.val (.ref a1), .val (.ref a2), .val (.ref a3)] [])) st4 ?_
  refine Go.of (T' := T4) (f' := (mkF m 18 #[.val (.ref a1), .val (.ref a2), .val (.ref a3)] [(.ref a1)])) (fun _ k => XS.aloadN X4.here hx rfl (hb hby d_prog_33_method_1_code_17) rfl rfl k) ?_
  refine Go.of (T' := T4) (f' := (mkF m 19 #[.val (.ref a1), .val (.ref a2), .val (.ref a3)] [(.ref a3), (.ref a1)])) (fun _ k => XS.aloadN X4.here hx rfl (hb hby d_prog_33_method_1_code_18) rfl rfl k) ?_
  obtain ⟨T5, h5, X5, e5, W5, st5⟩ := putF X4 hx hZ hown (host := "") (Or.inl (hw _ (List.mem_of_getElem? (i := 63) rfl))) Via.refl e4 F_name E_a1 (Or.inr ⟨(hw _ (List.mem_of_getElem? (i := 64) rfl)), rfl, hnm⟩) (hw _ (List.mem_of_getElem? (i := 34) rfl)) (ty := (.object "java/lang/String")) (by decide) rfl rfl (g := (mkF m 19 #[.val (.ref a1), .val (.ref a2), .val (.ref a3)] [(.ref a3), (.ref a1)])) rfl rfl (hb hby d_prog_33_method_1_code_19)
  have E_a1_o := E_a1
  have K5 := Keep.of_wr W5
  have M5 := M4.wr W5 (Or.inl (List.mem_of_getElem? (i := 0) rfl))
  replace F_text := F_text.other W5 (Or.inr (slot_ne (Or.inr (hw _ (List.mem_of_getElem? (i := 42) rfl))) (Or.inr (hw _ (List.mem_of_getElem? (i := 64) rfl))) (by decide) (t := (.object "java/lang/String")) (t' := (.object "java/lang/String")) (by decide) (by decide)))
  replace F_chars := F_chars.other W5 (Or.inr (slot_ne (Or.inr (hw _ (List.mem_of_getElem? (i := 62) rfl))) (Or.inr (hw _ (List.mem_of_getElem? (i := 64) rfl))) (by decide) (t := (.array .char)) (t' := (.object "java/lang/String")) (by decide) (by decide)))
  replace F_name := F_name.same W5
  replace F_position := F_position.other W5 (Or.inr (slot_ne (Or.inl (hw _ (List.mem_of_getElem? (i := 75) rfl))) (Or.inr (hw _ (List.mem_of_getElem? (i := 64) rfl))) (by decide) (t := .int) (t' := (.object "java/lang/String")) (by decide) (by decide)))
  replace E_a1 := E_a1.keep K5
  replace S_a2 := S_a2.keep K5 (ninS ne_a2_a1 nin0) (ninS ne_t2_a1 nin0)
  replace Z_ad := StaKeep Z_ad K5 (allS (staExa E_a1_o) all0)
  replace Z_hs := StaKeep Z_hs K5 (allS (staExa E_a1_o) all0)
  replace Z_ls := StaKeep Z_ls K5 (allS (staExa E_a1_o) all0)
  replace Z_fm := StaKeep Z_fm K5 (allS (staExa E_a1_o) all0)
  replace Z_cs := StaKeep Z_cs K5 (allS (staExa E_a1_o) all0)
  replace V_b3 := V_b3.keep K5 (ninS (Ne.symm ne_a1_b3) nin0)
  refine Go.of (T' := T5) (f' := (mkF m 22 #[.val (.ref a1), .val (.ref a2), .val (.ref a3)] [])) st5 ?_
  exact goRet0 (Q := fun v h L => v = none ∧ Mv h0 h [a1] L ∧ ∃ (b : Addr) (kb : ClassId), h0.size ≤ b ∧ Exa Z h a1 "com/example/rezeptkern/rezeptkern/JsonCursor" ∧ Fld Z h a1 "com/example/rezeptkern/rezeptkern/JsonCursor" "text" "Ljava/lang/String;" (.ref a2) ∧ Fld Z h a1 "com/example/rezeptkern/rezeptkern/JsonCursor" "chars" "[C" (.ref b) ∧ Fld Z h a1 "com/example/rezeptkern/rezeptkern/JsonCursor" "position" "I" (.int (Int32.ofNat 0)) ∧ Arv Z h b kb (.char) (Int32.ofNat cs.length) (cs.map Value.int) (.int (0 : Int32))) X5 hx hret hlk (hb hby d_prog_33_method_1_code_22) K (by decide) (by decide) e5 (⟨rfl, M5, b3, _, fr_b3, E_a1, F_text, F_chars, F_position, V_b3⟩)
theorem ef_rm_skw (m : MethodId) (x0 : Addr)  : entryFrame m #[(.ref x0)] 2 = mkF m 0 #[.val (.ref x0), .unset] [] := by first | (simp [entryFrame, mkF, argsToLocals, Value.category]; done) | rfl
theorem d_prog_33_method_15_code_0 : decode prog_33_method_15_code 0 = .ok (.aload_n 0, 1) := by decide +kernel
theorem d_prog_33_method_15_code_1 : decode prog_33_method_15_code 1 = .ok (.getfield 41, 3) := by decide +kernel
theorem d_prog_33_method_15_code_4 : decode prog_33_method_15_code 4 = .ok (.aload_n 0, 1) := by decide +kernel
theorem d_prog_33_method_15_code_5 : decode prog_33_method_15_code 5 = .ok (.getfield 19, 3) := by decide +kernel
theorem d_prog_33_method_15_code_8 : decode prog_33_method_15_code 8 = .ok (.arraylength, 1) := by decide +kernel
theorem d_prog_33_method_15_code_9 : decode prog_33_method_15_code 9 = .ok (.if_icmp .ge 51, 3) := by decide +kernel
theorem d_prog_33_method_15_code_60 : decode prog_33_method_15_code 60 = .ok (.return_, 1) := by decide +kernel
theorem d_prog_33_method_15_code_12 : decode prog_33_method_15_code 12 = .ok (.aload_n 0, 1) := by decide +kernel
theorem d_prog_33_method_15_code_13 : decode prog_33_method_15_code 13 = .ok (.getfield 19, 3) := by decide +kernel
theorem d_prog_33_method_15_code_16 : decode prog_33_method_15_code 16 = .ok (.aload_n 0, 1) := by decide +kernel
theorem d_prog_33_method_15_code_17 : decode prog_33_method_15_code 17 = .ok (.getfield 41, 3) := by decide +kernel
theorem d_prog_33_method_15_code_20 : decode prog_33_method_15_code 20 = .ok (.caload, 1) := by decide +kernel
theorem d_prog_33_method_15_code_21 : decode prog_33_method_15_code 21 = .ok (.istore_n 1, 1) := by decide +kernel
theorem d_prog_33_method_15_code_22 : decode prog_33_method_15_code 22 = .ok (.iload_n 1, 1) := by decide +kernel
theorem d_prog_33_method_15_code_23 : decode prog_33_method_15_code 23 = .ok (.bipush 32, 2) := by decide +kernel
theorem d_prog_33_method_15_code_25 : decode prog_33_method_15_code 25 = .ok (.if_icmp .eq 22, 3) := by decide +kernel
theorem d_prog_33_method_15_code_47 : decode prog_33_method_15_code 47 = .ok (.aload_n 0, 1) := by decide +kernel
theorem d_prog_33_method_15_code_48 : decode prog_33_method_15_code 48 = .ok (.dup, 1) := by decide +kernel
theorem d_prog_33_method_15_code_49 : decode prog_33_method_15_code 49 = .ok (.getfield 41, 3) := by decide +kernel
theorem d_prog_33_method_15_code_52 : decode prog_33_method_15_code 52 = .ok (.iconst 1, 1) := by decide +kernel
theorem d_prog_33_method_15_code_53 : decode prog_33_method_15_code 53 = .ok (.iadd, 1) := by decide +kernel
theorem d_prog_33_method_15_code_54 : decode prog_33_method_15_code 54 = .ok (.putfield 41, 3) := by decide +kernel
theorem d_prog_33_method_15_code_57 : decode prog_33_method_15_code 57 = .ok (.goto (-57), 3) := by decide +kernel
theorem d_prog_33_method_15_code_28 : decode prog_33_method_15_code 28 = .ok (.iload_n 1, 1) := by decide +kernel
theorem d_prog_33_method_15_code_29 : decode prog_33_method_15_code 29 = .ok (.bipush 9, 2) := by decide +kernel
theorem d_prog_33_method_15_code_31 : decode prog_33_method_15_code 31 = .ok (.if_icmp .eq 16, 3) := by decide +kernel
theorem d_prog_33_method_15_code_34 : decode prog_33_method_15_code 34 = .ok (.iload_n 1, 1) := by decide +kernel
theorem d_prog_33_method_15_code_35 : decode prog_33_method_15_code 35 = .ok (.bipush 10, 2) := by decide +kernel
theorem d_prog_33_method_15_code_37 : decode prog_33_method_15_code 37 = .ok (.if_icmp .eq 10, 3) := by decide +kernel
theorem d_prog_33_method_15_code_40 : decode prog_33_method_15_code 40 = .ok (.iload_n 1, 1) := by decide +kernel
theorem d_prog_33_method_15_code_41 : decode prog_33_method_15_code 41 = .ok (.bipush 13, 2) := by decide +kernel
theorem d_prog_33_method_15_code_43 : decode prog_33_method_15_code 43 = .ok (.if_icmp .eq 4, 3) := by decide +kernel
theorem d_prog_33_method_15_code_46 : decode prog_33_method_15_code 46 = .ok (.return_, 1) := by decide +kernel
set_option maxRecDepth 65536 in
set_option maxHeartbeats 40000000 in
theorem rm_skw (l : Launch) (Z : State) (a0 : Array Value) (hw : ∀ d ∈ tables_1, d.before a0 Z = true) (a1 tx b : Addr) (kb : ClassId) (cs : List Int32) (i0 j : Nat) (h0 : Heap) (E_a1 : Exa Z h0 a1 "com/example/rezeptkern/rezeptkern/JsonCursor") (F_text : Fld Z h0 a1 "com/example/rezeptkern/rezeptkern/JsonCursor" "text" "Ljava/lang/String;" (.ref tx)) (F_chars : Fld Z h0 a1 "com/example/rezeptkern/rezeptkern/JsonCursor" "chars" "[C" (.ref b)) (F_position : Fld Z h0 a1 "com/example/rezeptkern/rezeptkern/JsonCursor" "position" "I" (.int (Int32.ofNat i0))) (V_b : Arv Z h0 b kb (.char) (Int32.ofNat cs.length) (cs.map Value.int) (.int (0 : Int32))) (hle8 : cs.length ≤ 8) (hi0 : i0 ≤ cs.length) (hjq : i0 + fst (cs.drop i0) = j) :
    MeetsW l Z (⟨"com/example/rezeptkern/rezeptkern/JsonCursor", "skipWhitespace", "()V"⟩ : MethodName) prog_33_method_15_code 2 none ({ frames := 0, cells := 0, slots := 0, locals := 0 } : Room) #[(.ref a1)] h0 (fun v h L => v = none ∧ Mv h0 h [a1] L ∧ Exa Z h a1 "com/example/rezeptkern/rezeptkern/JsonCursor" ∧ Fld Z h a1 "com/example/rezeptkern/rezeptkern/JsonCursor" "text" "Ljava/lang/String;" (.ref tx) ∧ Fld Z h a1 "com/example/rezeptkern/rezeptkern/JsonCursor" "chars" "[C" (.ref b) ∧ Fld Z h a1 "com/example/rezeptkern/rezeptkern/JsonCursor" "position" "I" (.int (Int32.ofNat j)) ∧ Arv Z h b kb (.char) (Int32.ofNat cs.length) (cs.map Value.int) (.int (0 : Int32))) := by
  refine MeetsW.of (plainFor_of_name pn_com_example_rezeptkern_rezeptkern_JsonCursor) ?_
  intro p e s m below meth c s₁ P hx hby hml hZ hown hnm hret hlk X0 e0 K
  have M0 : Mv h0 h0 [a1] [] := Mv.refl _ _
  refine Go.cast (ef_rm_skw m a1 ) ?_
  have ne_b_a1 : b ≠ a1 := Ne.symm (Exa.neArv E_a1 V_b (hw _ (List.mem_of_getElem? (i := 34) rfl)))
  have J : ∀ (n : Nat) (i : Nat) (cj : Int32) (Tj : State) (hj : Heap) (Lj : List Loc), cs.length ≤ i + n → i ≤ cs.length → (i + fst (cs.drop i) = j) → Stand p l e ({ frames := 0, cells := 0, slots := 0, locals := 0 } : Room) s m #[(.ref a1)] below meth c Tj Lj 0 0 → Tj.heap = hj → Mv h0 hj [a1] Lj → Exa Z hj a1 "com/example/rezeptkern/rezeptkern/JsonCursor" → Fld Z hj a1 "com/example/rezeptkern/rezeptkern/JsonCursor" "text" "Ljava/lang/String;" (.ref tx) → Fld Z hj a1 "com/example/rezeptkern/rezeptkern/JsonCursor" "chars" "[C" (.ref b) → Fld Z hj a1 "com/example/rezeptkern/rezeptkern/JsonCursor" "position" "I" (.int (Int32.ofNat i)) → Arv Z hj b kb (.char) (Int32.ofNat cs.length) (cs.map Value.int) (.int (0 : Int32)) → Go p e below P Tj (mkF m 0 #[.val (.ref a1), .val (.int cj)] []) := by
    intro n
    induction n with
    | zero =>
      intro i cj Tj hj Lj hle hi1 hjq Xj ej Mj E_a1 F_text F_chars F_position V_b
      refine Go.of (T' := Tj) (f' := (mkF m 1 #[.val (.ref a1), .val (.int cj)] [(.ref a1)])) (fun _ k => XS.aloadN Xj.here hx rfl (hb hby d_prog_33_method_15_code_0) rfl rfl k) ?_
      obtain ⟨T1, X1, e1, st1⟩ := getF Xj hx hZ hown (host := "") (Or.inl (hw _ (List.mem_of_getElem? (i := 74) rfl))) Via.refl ej F_position (g := (mkF m 1 #[.val (.ref a1), .val (.int cj)] [(.ref a1)])) rfl rfl (hb hby d_prog_33_method_15_code_1)
      refine Go.of (T' := T1) (f' := (mkF m 4 #[.val (.ref a1), .val (.int cj)] [(.int (Int32.ofNat i))])) st1 ?_
      refine Go.of (T' := T1) (f' := (mkF m 5 #[.val (.ref a1), .val (.int cj)] [(.ref a1), (.int (Int32.ofNat i))])) (fun _ k => XS.aloadN X1.here hx rfl (hb hby d_prog_33_method_15_code_4) rfl rfl k) ?_
      obtain ⟨T2, X2, e2, st2⟩ := getF X1 hx hZ hown (host := "") (Or.inl (hw _ (List.mem_of_getElem? (i := 61) rfl))) Via.refl e1 F_chars (g := (mkF m 5 #[.val (.ref a1), .val (.int cj)] [(.ref a1), (.int (Int32.ofNat i))])) rfl rfl (hb hby d_prog_33_method_15_code_5)
      refine Go.of (T' := T2) (f' := (mkF m 8 #[.val (.ref a1), .val (.int cj)] [(.ref b), (.int (Int32.ofNat i))])) st2 ?_
      obtain ⟨cl3, Ar3, -, Sz3, Nn3, -, -⟩ := id V_b
      refine Go.of (T' := T2) (f' := (mkF m 9 #[.val (.ref a1), .val (.int cj)] [(.int (Int32.ofNat cs.length)), (.int (Int32.ofNat i))])) (fun _ k => X2.arraylength hx (by rw [e2]; exact Ar3.1) (State.isArrayOf_alike hZ.alike Ar3.2.1) (g := (mkF m 8 #[.val (.ref a1), .val (.int cj)] [(.ref b), (.int (Int32.ofNat i))])) rfl rfl (hb hby d_prog_33_method_15_code_8) _ (by rw [len_of Sz3 Nn3]; exact k)) ?_
      have hc9 : ¬ ((Int32.ofNat i) < (Int32.ofNat cs.length)) := fun q => by have q := (ltN (by omega) (by omega)).mp q; omega
      refine Go.of (T' := T2) (f' := (mkF m 60 #[.val (.ref a1), .val (.int cj)] [])) (fun _ k => XS.icmpYes X2.here hx rfl (pc0 := 9) (pc' := 60) rfl (hb hby d_prog_33_method_15_code_9) rfl (flt hc9).2.1 (by decide) (by decide) k) ?_
      exact goRet0 (Q := fun v h L => v = none ∧ Mv h0 h [a1] L ∧ Exa Z h a1 "com/example/rezeptkern/rezeptkern/JsonCursor" ∧ Fld Z h a1 "com/example/rezeptkern/rezeptkern/JsonCursor" "text" "Ljava/lang/String;" (.ref tx) ∧ Fld Z h a1 "com/example/rezeptkern/rezeptkern/JsonCursor" "chars" "[C" (.ref b) ∧ Fld Z h a1 "com/example/rezeptkern/rezeptkern/JsonCursor" "position" "I" (.int (Int32.ofNat j)) ∧ Arv Z h b kb (.char) (Int32.ofNat cs.length) (cs.map Value.int) (.int (0 : Int32))) X2 hx hret hlk (hb hby d_prog_33_method_15_code_60) K (by decide) (by decide) e2 (by
          have e0 := fstNil (cs := cs) (i := i) (by first | exact Nat.le_of_not_lt fun q => hc9 ((ltN (by omega) (by omega)).mpr q) | omega)
          have e1 : i = j := by omega
          rw [e1] at F_position
          exact ⟨rfl, Mj, E_a1, F_text, F_chars, F_position, V_b⟩)
    | succ n ih =>
      intro i cj Tj hj Lj hle hi1 hjq Xj ej Mj E_a1 F_text F_chars F_position V_b
      refine Go.of (T' := Tj) (f' := (mkF m 1 #[.val (.ref a1), .val (.int cj)] [(.ref a1)])) (fun _ k => XS.aloadN Xj.here hx rfl (hb hby d_prog_33_method_15_code_0) rfl rfl k) ?_
      obtain ⟨T4, X4, e4, st4⟩ := getF Xj hx hZ hown (host := "") (Or.inl (hw _ (List.mem_of_getElem? (i := 74) rfl))) Via.refl ej F_position (g := (mkF m 1 #[.val (.ref a1), .val (.int cj)] [(.ref a1)])) rfl rfl (hb hby d_prog_33_method_15_code_1)
      refine Go.of (T' := T4) (f' := (mkF m 4 #[.val (.ref a1), .val (.int cj)] [(.int (Int32.ofNat i))])) st4 ?_
      refine Go.of (T' := T4) (f' := (mkF m 5 #[.val (.ref a1), .val (.int cj)] [(.ref a1), (.int (Int32.ofNat i))])) (fun _ k => XS.aloadN X4.here hx rfl (hb hby d_prog_33_method_15_code_4) rfl rfl k) ?_
      obtain ⟨T5, X5, e5, st5⟩ := getF X4 hx hZ hown (host := "") (Or.inl (hw _ (List.mem_of_getElem? (i := 61) rfl))) Via.refl e4 F_chars (g := (mkF m 5 #[.val (.ref a1), .val (.int cj)] [(.ref a1), (.int (Int32.ofNat i))])) rfl rfl (hb hby d_prog_33_method_15_code_5)
      refine Go.of (T' := T5) (f' := (mkF m 8 #[.val (.ref a1), .val (.int cj)] [(.ref b), (.int (Int32.ofNat i))])) st5 ?_
      obtain ⟨cl6, Ar6, -, Sz6, Nn6, -, -⟩ := id V_b
      refine Go.of (T' := T5) (f' := (mkF m 9 #[.val (.ref a1), .val (.int cj)] [(.int (Int32.ofNat cs.length)), (.int (Int32.ofNat i))])) (fun _ k => X5.arraylength hx (by rw [e5]; exact Ar6.1) (State.isArrayOf_alike hZ.alike Ar6.2.1) (g := (mkF m 8 #[.val (.ref a1), .val (.int cj)] [(.ref b), (.int (Int32.ofNat i))])) rfl rfl (hb hby d_prog_33_method_15_code_8) _ (by rw [len_of Sz6 Nn6]; exact k)) ?_
      by_cases hc9 : (Int32.ofNat i) < (Int32.ofNat cs.length)
      ·
        refine Go.of (T' := T5) (f' := (mkF m 12 #[.val (.ref a1), .val (.int cj)] [])) (fun _ k => XS.icmpNo X5.here hx rfl (hb hby d_prog_33_method_15_code_9) rfl (tlt hc9).2.1 k) ?_
        have hi : i < cs.length := (ltN (by omega) (by omega)).mp hc9
        refine Go.of (T' := T5) (f' := (mkF m 13 #[.val (.ref a1), .val (.int cj)] [(.ref a1)])) (fun _ k => XS.aloadN X5.here hx rfl (hb hby d_prog_33_method_15_code_12) rfl rfl k) ?_
        obtain ⟨T7, X7, e7, st7⟩ := getF X5 hx hZ hown (host := "") (Or.inl (hw _ (List.mem_of_getElem? (i := 61) rfl))) Via.refl e5 F_chars (g := (mkF m 13 #[.val (.ref a1), .val (.int cj)] [(.ref a1)])) rfl rfl (hb hby d_prog_33_method_15_code_13)
        refine Go.of (T' := T7) (f' := (mkF m 16 #[.val (.ref a1), .val (.int cj)] [(.ref b)])) st7 ?_
        refine Go.of (T' := T7) (f' := (mkF m 17 #[.val (.ref a1), .val (.int cj)] [(.ref a1), (.ref b)])) (fun _ k => XS.aloadN X7.here hx rfl (hb hby d_prog_33_method_15_code_16) rfl rfl k) ?_
        obtain ⟨T8, X8, e8, st8⟩ := getF X7 hx hZ hown (host := "") (Or.inl (hw _ (List.mem_of_getElem? (i := 74) rfl))) Via.refl e7 F_position (g := (mkF m 17 #[.val (.ref a1), .val (.int cj)] [(.ref a1), (.ref b)])) rfl rfl (hb hby d_prog_33_method_15_code_17)
        refine Go.of (T' := T8) (f' := (mkF m 20 #[.val (.ref a1), .val (.int cj)] [(.int (Int32.ofNat i)), (.ref b)])) st8 ?_
        obtain ⟨cl9, Ar9, cq9, Sz9, Nn9, Hs9, Gs9⟩ := id V_b
        have hin9 : ¬ ((Int32.ofNat i) < 0 ∨ cl9.slots.size ≤ ((Int32.ofNat i)).toNatClampNeg) := inbN Sz9 hi (by omega)
        have hat9 : cl9.slots[((Int32.ofNat i)).toNatClampNeg]? = some (.int (cs.getD i 0)) := Has.at Hs9 hin9 (by rw [nat32 (by omega)]; exact mapGet hi)
        refine Go.of (T' := T8) (f' := (mkF m 21 #[.val (.ref a1), .val (.int cj)] [(.int (cs.getD i 0))])) (fun _ k => X8.caload hx (j := (Int32.ofNat i)) (v := (.int (cs.getD i 0))) (by rw [e8]; exact Ar9.1) (State.isArrayOf_alike hZ.alike Ar9.2.1) Ar9.2.2 hin9 hat9 (g := (mkF m 20 #[.val (.ref a1), .val (.int cj)] [(.int (Int32.ofNat i)), (.ref b)])) rfl rfl (hb hby d_prog_33_method_15_code_20) _ k) ?_
        refine Go.of (T' := T8) (f' := (mkF m 22 #[.val (.ref a1), .val (.int (cs.getD i 0))] [])) (fun _ k => XS.istoreN X8.here hx rfl (hb hby d_prog_33_method_15_code_21) rfl (l' := #[.val (.ref a1), .val (.int (cs.getD i 0))]) rfl k) ?_
        refine Go.of (T' := T8) (f' := (mkF m 23 #[.val (.ref a1), .val (.int (cs.getD i 0))] [(.int (cs.getD i 0))])) (fun _ k => XS.iloadN X8.here hx rfl (hb hby d_prog_33_method_15_code_22) rfl k) ?_
        refine Go.of (T' := T8) (f' := (mkF m 25 #[.val (.ref a1), .val (.int (cs.getD i 0))] [(.int (32 : Int32)), (.int (cs.getD i 0))])) (fun _ k => XS.bipush X8.here hx rfl (hb hby d_prog_33_method_15_code_23) k) ?_
        by_cases hc25 : (cs.getD i 0) = (32 : Int32)
        ·
          refine Go.of (T' := T8) (f' := (mkF m 47 #[.val (.ref a1), .val (.int (cs.getD i 0))] [])) (fun _ k => XS.icmpYes X8.here hx rfl (pc0 := 25) (pc' := 47) rfl (hb hby d_prog_33_method_15_code_25) rfl (teq hc25).1 (by decide) (by decide) k) ?_
          refine Go.of (T' := T8) (f' := (mkF m 48 #[.val (.ref a1), .val (.int (cs.getD i 0))] [(.ref a1)])) (fun _ k => XS.aloadN X8.here hx rfl (hb hby d_prog_33_method_15_code_47) rfl rfl k) ?_
          refine Go.of (T' := T8) (f' := (mkF m 49 #[.val (.ref a1), .val (.int (cs.getD i 0))] [(.ref a1), (.ref a1)])) (fun _ k => XS.dup X8.here hx rfl (hb hby d_prog_33_method_15_code_48) rfl rfl k) ?_
          obtain ⟨T10, X10, e10, st10⟩ := getF X8 hx hZ hown (host := "") (Or.inl (hw _ (List.mem_of_getElem? (i := 74) rfl))) Via.refl e8 F_position (g := (mkF m 49 #[.val (.ref a1), .val (.int (cs.getD i 0))] [(.ref a1), (.ref a1)])) rfl rfl (hb hby d_prog_33_method_15_code_49)
          refine Go.of (T' := T10) (f' := (mkF m 52 #[.val (.ref a1), .val (.int (cs.getD i 0))] [(.int (Int32.ofNat i)), (.ref a1)])) st10 ?_
          refine Go.of (T' := T10) (f' := (mkF m 53 #[.val (.ref a1), .val (.int (cs.getD i 0))] [(.int (1 : Int32)), (.int (Int32.ofNat i)), (.ref a1)])) (fun _ k => XS.iconst X10.here hx rfl (hb hby d_prog_33_method_15_code_52) k) ?_
          refine Go.of (T' := T10) (f' := (mkF m 54 #[.val (.ref a1), .val (.int (cs.getD i 0))] [(.int ((Int32.ofNat i) + (1 : Int32))), (.ref a1)])) (fun _ k => XS.iadd X10.here hx rfl (hb hby d_prog_33_method_15_code_53) rfl k) ?_
          obtain ⟨T11, h11, X11, e11, W11, st11⟩ := putF X10 hx hZ hown (host := "") (Or.inl (hw _ (List.mem_of_getElem? (i := 74) rfl))) Via.refl e10 F_position E_a1 (Or.inl (hw _ (List.mem_of_getElem? (i := 75) rfl))) (hw _ (List.mem_of_getElem? (i := 34) rfl)) (ty := .int) (by decide) rfl rfl (g := (mkF m 54 #[.val (.ref a1), .val (.int (cs.getD i 0))] [(.int ((Int32.ofNat i) + (1 : Int32))), (.ref a1)])) rfl rfl (hb hby d_prog_33_method_15_code_54)
          have K11 := Keep.of_wr W11
          have M11 := Mj.wr W11 (Or.inl (List.mem_of_getElem? (i := 0) rfl))
          replace F_text := F_text.other W11 (Or.inr (slot_ne (Or.inr (hw _ (List.mem_of_getElem? (i := 42) rfl))) (Or.inl (hw _ (List.mem_of_getElem? (i := 75) rfl))) (by decide) (t := (.object "java/lang/String")) (t' := .int) (by decide) (by decide)))
          replace F_chars := F_chars.other W11 (Or.inr (slot_ne (Or.inr (hw _ (List.mem_of_getElem? (i := 62) rfl))) (Or.inl (hw _ (List.mem_of_getElem? (i := 75) rfl))) (by decide) (t := (.array .char)) (t' := .int) (by decide) (by decide)))
          replace F_position := F_position.same W11
          replace E_a1 := E_a1.keep K11
          replace V_b := V_b.keep K11 (ninS ne_b_a1 nin0)
          refine Go.of (T' := T11) (f' := (mkF m 57 #[.val (.ref a1), .val (.int (cs.getD i 0))] [])) st11 ?_
          refine Go.of (T' := T11) (f' := (mkF m 0 #[.val (.ref a1), .val (.int (cs.getD i 0))] [])) (fun _ k => XS.goto X11.here hx rfl (pc0 := 57) (pc' := 0) rfl (hb hby d_prog_33_method_15_code_57) (by decide) (by decide) k) ?_
          rw [show (Int32.ofNat i) + (1 : Int32) = Int32.ofNat (i + 1) from (Int32.ofNat_add _ _).symm] at F_position
          have hws : Ws (cs.getD i 0) := by first | exact Or.inl hc25 | exact Or.inr (Or.inl hc31) | exact Or.inr (Or.inr (Or.inl hc37)) | exact Or.inr (Or.inr (Or.inr hc43))
          have hst := fstStep hi hws
          exact ih (i + 1) _ T11 h11 _ (by omega) hi (by omega) (standUp X11 (by decide) (by decide)) e11 M11 E_a1 F_text F_chars F_position V_b
        ·
          refine Go.of (T' := T8) (f' := (mkF m 28 #[.val (.ref a1), .val (.int (cs.getD i 0))] [])) (fun _ k => XS.icmpNo X8.here hx rfl (hb hby d_prog_33_method_15_code_25) rfl (feq hc25).1 k) ?_
          refine Go.of (T' := T8) (f' := (mkF m 29 #[.val (.ref a1), .val (.int (cs.getD i 0))] [(.int (cs.getD i 0))])) (fun _ k => XS.iloadN X8.here hx rfl (hb hby d_prog_33_method_15_code_28) rfl k) ?_
          refine Go.of (T' := T8) (f' := (mkF m 31 #[.val (.ref a1), .val (.int (cs.getD i 0))] [(.int (9 : Int32)), (.int (cs.getD i 0))])) (fun _ k => XS.bipush X8.here hx rfl (hb hby d_prog_33_method_15_code_29) k) ?_
          by_cases hc31 : (cs.getD i 0) = (9 : Int32)
          ·
            refine Go.of (T' := T8) (f' := (mkF m 47 #[.val (.ref a1), .val (.int (cs.getD i 0))] [])) (fun _ k => XS.icmpYes X8.here hx rfl (pc0 := 31) (pc' := 47) rfl (hb hby d_prog_33_method_15_code_31) rfl (teq hc31).1 (by decide) (by decide) k) ?_
            refine Go.of (T' := T8) (f' := (mkF m 48 #[.val (.ref a1), .val (.int (cs.getD i 0))] [(.ref a1)])) (fun _ k => XS.aloadN X8.here hx rfl (hb hby d_prog_33_method_15_code_47) rfl rfl k) ?_
            refine Go.of (T' := T8) (f' := (mkF m 49 #[.val (.ref a1), .val (.int (cs.getD i 0))] [(.ref a1), (.ref a1)])) (fun _ k => XS.dup X8.here hx rfl (hb hby d_prog_33_method_15_code_48) rfl rfl k) ?_
            obtain ⟨T12, X12, e12, st12⟩ := getF X8 hx hZ hown (host := "") (Or.inl (hw _ (List.mem_of_getElem? (i := 74) rfl))) Via.refl e8 F_position (g := (mkF m 49 #[.val (.ref a1), .val (.int (cs.getD i 0))] [(.ref a1), (.ref a1)])) rfl rfl (hb hby d_prog_33_method_15_code_49)
            refine Go.of (T' := T12) (f' := (mkF m 52 #[.val (.ref a1), .val (.int (cs.getD i 0))] [(.int (Int32.ofNat i)), (.ref a1)])) st12 ?_
            refine Go.of (T' := T12) (f' := (mkF m 53 #[.val (.ref a1), .val (.int (cs.getD i 0))] [(.int (1 : Int32)), (.int (Int32.ofNat i)), (.ref a1)])) (fun _ k => XS.iconst X12.here hx rfl (hb hby d_prog_33_method_15_code_52) k) ?_
            refine Go.of (T' := T12) (f' := (mkF m 54 #[.val (.ref a1), .val (.int (cs.getD i 0))] [(.int ((Int32.ofNat i) + (1 : Int32))), (.ref a1)])) (fun _ k => XS.iadd X12.here hx rfl (hb hby d_prog_33_method_15_code_53) rfl k) ?_
            obtain ⟨T13, h13, X13, e13, W13, st13⟩ := putF X12 hx hZ hown (host := "") (Or.inl (hw _ (List.mem_of_getElem? (i := 74) rfl))) Via.refl e12 F_position E_a1 (Or.inl (hw _ (List.mem_of_getElem? (i := 75) rfl))) (hw _ (List.mem_of_getElem? (i := 34) rfl)) (ty := .int) (by decide) rfl rfl (g := (mkF m 54 #[.val (.ref a1), .val (.int (cs.getD i 0))] [(.int ((Int32.ofNat i) + (1 : Int32))), (.ref a1)])) rfl rfl (hb hby d_prog_33_method_15_code_54)
            have K13 := Keep.of_wr W13
            have M13 := Mj.wr W13 (Or.inl (List.mem_of_getElem? (i := 0) rfl))
            replace F_text := F_text.other W13 (Or.inr (slot_ne (Or.inr (hw _ (List.mem_of_getElem? (i := 42) rfl))) (Or.inl (hw _ (List.mem_of_getElem? (i := 75) rfl))) (by decide) (t := (.object "java/lang/String")) (t' := .int) (by decide) (by decide)))
            replace F_chars := F_chars.other W13 (Or.inr (slot_ne (Or.inr (hw _ (List.mem_of_getElem? (i := 62) rfl))) (Or.inl (hw _ (List.mem_of_getElem? (i := 75) rfl))) (by decide) (t := (.array .char)) (t' := .int) (by decide) (by decide)))
            replace F_position := F_position.same W13
            replace E_a1 := E_a1.keep K13
            replace V_b := V_b.keep K13 (ninS ne_b_a1 nin0)
            refine Go.of (T' := T13) (f' := (mkF m 57 #[.val (.ref a1), .val (.int (cs.getD i 0))] [])) st13 ?_
            refine Go.of (T' := T13) (f' := (mkF m 0 #[.val (.ref a1), .val (.int (cs.getD i 0))] [])) (fun _ k => XS.goto X13.here hx rfl (pc0 := 57) (pc' := 0) rfl (hb hby d_prog_33_method_15_code_57) (by decide) (by decide) k) ?_
            rw [show (Int32.ofNat i) + (1 : Int32) = Int32.ofNat (i + 1) from (Int32.ofNat_add _ _).symm] at F_position
            have hws : Ws (cs.getD i 0) := by first | exact Or.inl hc25 | exact Or.inr (Or.inl hc31) | exact Or.inr (Or.inr (Or.inl hc37)) | exact Or.inr (Or.inr (Or.inr hc43))
            have hst := fstStep hi hws
            exact ih (i + 1) _ T13 h13 _ (by omega) hi (by omega) (standUp X13 (by decide) (by decide)) e13 M13 E_a1 F_text F_chars F_position V_b
          ·
            refine Go.of (T' := T8) (f' := (mkF m 34 #[.val (.ref a1), .val (.int (cs.getD i 0))] [])) (fun _ k => XS.icmpNo X8.here hx rfl (hb hby d_prog_33_method_15_code_31) rfl (feq hc31).1 k) ?_
            refine Go.of (T' := T8) (f' := (mkF m 35 #[.val (.ref a1), .val (.int (cs.getD i 0))] [(.int (cs.getD i 0))])) (fun _ k => XS.iloadN X8.here hx rfl (hb hby d_prog_33_method_15_code_34) rfl k) ?_
            refine Go.of (T' := T8) (f' := (mkF m 37 #[.val (.ref a1), .val (.int (cs.getD i 0))] [(.int (10 : Int32)), (.int (cs.getD i 0))])) (fun _ k => XS.bipush X8.here hx rfl (hb hby d_prog_33_method_15_code_35) k) ?_
            by_cases hc37 : (cs.getD i 0) = (10 : Int32)
            ·
              refine Go.of (T' := T8) (f' := (mkF m 47 #[.val (.ref a1), .val (.int (cs.getD i 0))] [])) (fun _ k => XS.icmpYes X8.here hx rfl (pc0 := 37) (pc' := 47) rfl (hb hby d_prog_33_method_15_code_37) rfl (teq hc37).1 (by decide) (by decide) k) ?_
              refine Go.of (T' := T8) (f' := (mkF m 48 #[.val (.ref a1), .val (.int (cs.getD i 0))] [(.ref a1)])) (fun _ k => XS.aloadN X8.here hx rfl (hb hby d_prog_33_method_15_code_47) rfl rfl k) ?_
              refine Go.of (T' := T8) (f' := (mkF m 49 #[.val (.ref a1), .val (.int (cs.getD i 0))] [(.ref a1), (.ref a1)])) (fun _ k => XS.dup X8.here hx rfl (hb hby d_prog_33_method_15_code_48) rfl rfl k) ?_
              obtain ⟨T14, X14, e14, st14⟩ := getF X8 hx hZ hown (host := "") (Or.inl (hw _ (List.mem_of_getElem? (i := 74) rfl))) Via.refl e8 F_position (g := (mkF m 49 #[.val (.ref a1), .val (.int (cs.getD i 0))] [(.ref a1), (.ref a1)])) rfl rfl (hb hby d_prog_33_method_15_code_49)
              refine Go.of (T' := T14) (f' := (mkF m 52 #[.val (.ref a1), .val (.int (cs.getD i 0))] [(.int (Int32.ofNat i)), (.ref a1)])) st14 ?_
              refine Go.of (T' := T14) (f' := (mkF m 53 #[.val (.ref a1), .val (.int (cs.getD i 0))] [(.int (1 : Int32)), (.int (Int32.ofNat i)), (.ref a1)])) (fun _ k => XS.iconst X14.here hx rfl (hb hby d_prog_33_method_15_code_52) k) ?_
              refine Go.of (T' := T14) (f' := (mkF m 54 #[.val (.ref a1), .val (.int (cs.getD i 0))] [(.int ((Int32.ofNat i) + (1 : Int32))), (.ref a1)])) (fun _ k => XS.iadd X14.here hx rfl (hb hby d_prog_33_method_15_code_53) rfl k) ?_
              obtain ⟨T15, h15, X15, e15, W15, st15⟩ := putF X14 hx hZ hown (host := "") (Or.inl (hw _ (List.mem_of_getElem? (i := 74) rfl))) Via.refl e14 F_position E_a1 (Or.inl (hw _ (List.mem_of_getElem? (i := 75) rfl))) (hw _ (List.mem_of_getElem? (i := 34) rfl)) (ty := .int) (by decide) rfl rfl (g := (mkF m 54 #[.val (.ref a1), .val (.int (cs.getD i 0))] [(.int ((Int32.ofNat i) + (1 : Int32))), (.ref a1)])) rfl rfl (hb hby d_prog_33_method_15_code_54)
              have K15 := Keep.of_wr W15
              have M15 := Mj.wr W15 (Or.inl (List.mem_of_getElem? (i := 0) rfl))
              replace F_text := F_text.other W15 (Or.inr (slot_ne (Or.inr (hw _ (List.mem_of_getElem? (i := 42) rfl))) (Or.inl (hw _ (List.mem_of_getElem? (i := 75) rfl))) (by decide) (t := (.object "java/lang/String")) (t' := .int) (by decide) (by decide)))
              replace F_chars := F_chars.other W15 (Or.inr (slot_ne (Or.inr (hw _ (List.mem_of_getElem? (i := 62) rfl))) (Or.inl (hw _ (List.mem_of_getElem? (i := 75) rfl))) (by decide) (t := (.array .char)) (t' := .int) (by decide) (by decide)))
              replace F_position := F_position.same W15
              replace E_a1 := E_a1.keep K15
              replace V_b := V_b.keep K15 (ninS ne_b_a1 nin0)
              refine Go.of (T' := T15) (f' := (mkF m 57 #[.val (.ref a1), .val (.int (cs.getD i 0))] [])) st15 ?_
              refine Go.of (T' := T15) (f' := (mkF m 0 #[.val (.ref a1), .val (.int (cs.getD i 0))] [])) (fun _ k => XS.goto X15.here hx rfl (pc0 := 57) (pc' := 0) rfl (hb hby d_prog_33_method_15_code_57) (by decide) (by decide) k) ?_
              rw [show (Int32.ofNat i) + (1 : Int32) = Int32.ofNat (i + 1) from (Int32.ofNat_add _ _).symm] at F_position
              have hws : Ws (cs.getD i 0) := by first | exact Or.inl hc25 | exact Or.inr (Or.inl hc31) | exact Or.inr (Or.inr (Or.inl hc37)) | exact Or.inr (Or.inr (Or.inr hc43))
              have hst := fstStep hi hws
              exact ih (i + 1) _ T15 h15 _ (by omega) hi (by omega) (standUp X15 (by decide) (by decide)) e15 M15 E_a1 F_text F_chars F_position V_b
            ·
              refine Go.of (T' := T8) (f' := (mkF m 40 #[.val (.ref a1), .val (.int (cs.getD i 0))] [])) (fun _ k => XS.icmpNo X8.here hx rfl (hb hby d_prog_33_method_15_code_37) rfl (feq hc37).1 k) ?_
              refine Go.of (T' := T8) (f' := (mkF m 41 #[.val (.ref a1), .val (.int (cs.getD i 0))] [(.int (cs.getD i 0))])) (fun _ k => XS.iloadN X8.here hx rfl (hb hby d_prog_33_method_15_code_40) rfl k) ?_
              refine Go.of (T' := T8) (f' := (mkF m 43 #[.val (.ref a1), .val (.int (cs.getD i 0))] [(.int (13 : Int32)), (.int (cs.getD i 0))])) (fun _ k => XS.bipush X8.here hx rfl (hb hby d_prog_33_method_15_code_41) k) ?_
              by_cases hc43 : (cs.getD i 0) = (13 : Int32)
              ·
                refine Go.of (T' := T8) (f' := (mkF m 47 #[.val (.ref a1), .val (.int (cs.getD i 0))] [])) (fun _ k => XS.icmpYes X8.here hx rfl (pc0 := 43) (pc' := 47) rfl (hb hby d_prog_33_method_15_code_43) rfl (teq hc43).1 (by decide) (by decide) k) ?_
                refine Go.of (T' := T8) (f' := (mkF m 48 #[.val (.ref a1), .val (.int (cs.getD i 0))] [(.ref a1)])) (fun _ k => XS.aloadN X8.here hx rfl (hb hby d_prog_33_method_15_code_47) rfl rfl k) ?_
                refine Go.of (T' := T8) (f' := (mkF m 49 #[.val (.ref a1), .val (.int (cs.getD i 0))] [(.ref a1), (.ref a1)])) (fun _ k => XS.dup X8.here hx rfl (hb hby d_prog_33_method_15_code_48) rfl rfl k) ?_
                obtain ⟨T16, X16, e16, st16⟩ := getF X8 hx hZ hown (host := "") (Or.inl (hw _ (List.mem_of_getElem? (i := 74) rfl))) Via.refl e8 F_position (g := (mkF m 49 #[.val (.ref a1), .val (.int (cs.getD i 0))] [(.ref a1), (.ref a1)])) rfl rfl (hb hby d_prog_33_method_15_code_49)
                refine Go.of (T' := T16) (f' := (mkF m 52 #[.val (.ref a1), .val (.int (cs.getD i 0))] [(.int (Int32.ofNat i)), (.ref a1)])) st16 ?_
                refine Go.of (T' := T16) (f' := (mkF m 53 #[.val (.ref a1), .val (.int (cs.getD i 0))] [(.int (1 : Int32)), (.int (Int32.ofNat i)), (.ref a1)])) (fun _ k => XS.iconst X16.here hx rfl (hb hby d_prog_33_method_15_code_52) k) ?_
                refine Go.of (T' := T16) (f' := (mkF m 54 #[.val (.ref a1), .val (.int (cs.getD i 0))] [(.int ((Int32.ofNat i) + (1 : Int32))), (.ref a1)])) (fun _ k => XS.iadd X16.here hx rfl (hb hby d_prog_33_method_15_code_53) rfl k) ?_
                obtain ⟨T17, h17, X17, e17, W17, st17⟩ := putF X16 hx hZ hown (host := "") (Or.inl (hw _ (List.mem_of_getElem? (i := 74) rfl))) Via.refl e16 F_position E_a1 (Or.inl (hw _ (List.mem_of_getElem? (i := 75) rfl))) (hw _ (List.mem_of_getElem? (i := 34) rfl)) (ty := .int) (by decide) rfl rfl (g := (mkF m 54 #[.val (.ref a1), .val (.int (cs.getD i 0))] [(.int ((Int32.ofNat i) + (1 : Int32))), (.ref a1)])) rfl rfl (hb hby d_prog_33_method_15_code_54)
                have K17 := Keep.of_wr W17
                have M17 := Mj.wr W17 (Or.inl (List.mem_of_getElem? (i := 0) rfl))
                replace F_text := F_text.other W17 (Or.inr (slot_ne (Or.inr (hw _ (List.mem_of_getElem? (i := 42) rfl))) (Or.inl (hw _ (List.mem_of_getElem? (i := 75) rfl))) (by decide) (t := (.object "java/lang/String")) (t' := .int) (by decide) (by decide)))
                replace F_chars := F_chars.other W17 (Or.inr (slot_ne (Or.inr (hw _ (List.mem_of_getElem? (i := 62) rfl))) (Or.inl (hw _ (List.mem_of_getElem? (i := 75) rfl))) (by decide) (t := (.array .char)) (t' := .int) (by decide) (by decide)))
                replace F_position := F_position.same W17
                replace E_a1 := E_a1.keep K17
                replace V_b := V_b.keep K17 (ninS ne_b_a1 nin0)
                refine Go.of (T' := T17) (f' := (mkF m 57 #[.val (.ref a1), .val (.int (cs.getD i 0))] [])) st17 ?_
                refine Go.of (T' := T17) (f' := (mkF m 0 #[.val (.ref a1), .val (.int (cs.getD i 0))] [])) (fun _ k => XS.goto X17.here hx rfl (pc0 := 57) (pc' := 0) rfl (hb hby d_prog_33_method_15_code_57) (by decide) (by decide) k) ?_
                rw [show (Int32.ofNat i) + (1 : Int32) = Int32.ofNat (i + 1) from (Int32.ofNat_add _ _).symm] at F_position
                have hws : Ws (cs.getD i 0) := by first | exact Or.inl hc25 | exact Or.inr (Or.inl hc31) | exact Or.inr (Or.inr (Or.inl hc37)) | exact Or.inr (Or.inr (Or.inr hc43))
                have hst := fstStep hi hws
                exact ih (i + 1) _ T17 h17 _ (by omega) hi (by omega) (standUp X17 (by decide) (by decide)) e17 M17 E_a1 F_text F_chars F_position V_b
              ·
                refine Go.of (T' := T8) (f' := (mkF m 46 #[.val (.ref a1), .val (.int (cs.getD i 0))] [])) (fun _ k => XS.icmpNo X8.here hx rfl (hb hby d_prog_33_method_15_code_43) rfl (feq hc43).1 k) ?_
                exact goRet0 (Q := fun v h L => v = none ∧ Mv h0 h [a1] L ∧ Exa Z h a1 "com/example/rezeptkern/rezeptkern/JsonCursor" ∧ Fld Z h a1 "com/example/rezeptkern/rezeptkern/JsonCursor" "text" "Ljava/lang/String;" (.ref tx) ∧ Fld Z h a1 "com/example/rezeptkern/rezeptkern/JsonCursor" "chars" "[C" (.ref b) ∧ Fld Z h a1 "com/example/rezeptkern/rezeptkern/JsonCursor" "position" "I" (.int (Int32.ofNat j)) ∧ Arv Z h b kb (.char) (Int32.ofNat cs.length) (cs.map Value.int) (.int (0 : Int32))) X8 hx hret hlk (hb hby d_prog_33_method_15_code_46) K (by decide) (by decide) e8 (by
                    have e0 := fstStop hi (fun q => by rcases q with q | q | q | q; exact hc25 q; exact hc31 q; exact hc37 q; exact hc43 q)
                    have e1 : i = j := by omega
                    rw [e1] at F_position
                    exact ⟨rfl, Mj, E_a1, F_text, F_chars, F_position, V_b⟩)
      ·
        refine Go.of (T' := T5) (f' := (mkF m 60 #[.val (.ref a1), .val (.int cj)] [])) (fun _ k => XS.icmpYes X5.here hx rfl (pc0 := 9) (pc' := 60) rfl (hb hby d_prog_33_method_15_code_9) rfl (flt hc9).2.1 (by decide) (by decide) k) ?_
        exact goRet0 (Q := fun v h L => v = none ∧ Mv h0 h [a1] L ∧ Exa Z h a1 "com/example/rezeptkern/rezeptkern/JsonCursor" ∧ Fld Z h a1 "com/example/rezeptkern/rezeptkern/JsonCursor" "text" "Ljava/lang/String;" (.ref tx) ∧ Fld Z h a1 "com/example/rezeptkern/rezeptkern/JsonCursor" "chars" "[C" (.ref b) ∧ Fld Z h a1 "com/example/rezeptkern/rezeptkern/JsonCursor" "position" "I" (.int (Int32.ofNat j)) ∧ Arv Z h b kb (.char) (Int32.ofNat cs.length) (cs.map Value.int) (.int (0 : Int32))) X5 hx hret hlk (hb hby d_prog_33_method_15_code_60) K (by decide) (by decide) e5 (by
            have e0 := fstNil (cs := cs) (i := i) (by first | exact Nat.le_of_not_lt fun q => hc9 ((ltN (by omega) (by omega)).mpr q) | omega)
            have e1 : i = j := by omega
            rw [e1] at F_position
            exact ⟨rfl, Mj, E_a1, F_text, F_chars, F_position, V_b⟩)
  refine Go.of (T' := s₁) (f' := (mkF m 1 #[.val (.ref a1), .unset] [(.ref a1)])) (fun _ k => XS.aloadN X0.here hx rfl (hb hby d_prog_33_method_15_code_0) rfl rfl k) ?_
  obtain ⟨T18, X18, e18, st18⟩ := getF X0 hx hZ hown (host := "") (Or.inl (hw _ (List.mem_of_getElem? (i := 74) rfl))) Via.refl e0 F_position (g := (mkF m 1 #[.val (.ref a1), .unset] [(.ref a1)])) rfl rfl (hb hby d_prog_33_method_15_code_1)
  refine Go.of (T' := T18) (f' := (mkF m 4 #[.val (.ref a1), .unset] [(.int (Int32.ofNat i0))])) st18 ?_
  refine Go.of (T' := T18) (f' := (mkF m 5 #[.val (.ref a1), .unset] [(.ref a1), (.int (Int32.ofNat i0))])) (fun _ k => XS.aloadN X18.here hx rfl (hb hby d_prog_33_method_15_code_4) rfl rfl k) ?_
  obtain ⟨T19, X19, e19, st19⟩ := getF X18 hx hZ hown (host := "") (Or.inl (hw _ (List.mem_of_getElem? (i := 61) rfl))) Via.refl e18 F_chars (g := (mkF m 5 #[.val (.ref a1), .unset] [(.ref a1), (.int (Int32.ofNat i0))])) rfl rfl (hb hby d_prog_33_method_15_code_5)
  refine Go.of (T' := T19) (f' := (mkF m 8 #[.val (.ref a1), .unset] [(.ref b), (.int (Int32.ofNat i0))])) st19 ?_
  obtain ⟨cl20, Ar20, -, Sz20, Nn20, -, -⟩ := id V_b
  refine Go.of (T' := T19) (f' := (mkF m 9 #[.val (.ref a1), .unset] [(.int (Int32.ofNat cs.length)), (.int (Int32.ofNat i0))])) (fun _ k => X19.arraylength hx (by rw [e19]; exact Ar20.1) (State.isArrayOf_alike hZ.alike Ar20.2.1) (g := (mkF m 8 #[.val (.ref a1), .unset] [(.ref b), (.int (Int32.ofNat i0))])) rfl rfl (hb hby d_prog_33_method_15_code_8) _ (by rw [len_of Sz20 Nn20]; exact k)) ?_
  by_cases hc9 : (Int32.ofNat i0) < (Int32.ofNat cs.length)
  ·
    refine Go.of (T' := T19) (f' := (mkF m 12 #[.val (.ref a1), .unset] [])) (fun _ k => XS.icmpNo X19.here hx rfl (hb hby d_prog_33_method_15_code_9) rfl (tlt hc9).2.1 k) ?_
    have hi : i0 < cs.length := (ltN (by omega) (by omega)).mp hc9
    refine Go.of (T' := T19) (f' := (mkF m 13 #[.val (.ref a1), .unset] [(.ref a1)])) (fun _ k => XS.aloadN X19.here hx rfl (hb hby d_prog_33_method_15_code_12) rfl rfl k) ?_
    obtain ⟨T21, X21, e21, st21⟩ := getF X19 hx hZ hown (host := "") (Or.inl (hw _ (List.mem_of_getElem? (i := 61) rfl))) Via.refl e19 F_chars (g := (mkF m 13 #[.val (.ref a1), .unset] [(.ref a1)])) rfl rfl (hb hby d_prog_33_method_15_code_13)
    refine Go.of (T' := T21) (f' := (mkF m 16 #[.val (.ref a1), .unset] [(.ref b)])) st21 ?_
    refine Go.of (T' := T21) (f' := (mkF m 17 #[.val (.ref a1), .unset] [(.ref a1), (.ref b)])) (fun _ k => XS.aloadN X21.here hx rfl (hb hby d_prog_33_method_15_code_16) rfl rfl k) ?_
    obtain ⟨T22, X22, e22, st22⟩ := getF X21 hx hZ hown (host := "") (Or.inl (hw _ (List.mem_of_getElem? (i := 74) rfl))) Via.refl e21 F_position (g := (mkF m 17 #[.val (.ref a1), .unset] [(.ref a1), (.ref b)])) rfl rfl (hb hby d_prog_33_method_15_code_17)
    refine Go.of (T' := T22) (f' := (mkF m 20 #[.val (.ref a1), .unset] [(.int (Int32.ofNat i0)), (.ref b)])) st22 ?_
    obtain ⟨cl23, Ar23, cq23, Sz23, Nn23, Hs23, Gs23⟩ := id V_b
    have hin23 : ¬ ((Int32.ofNat i0) < 0 ∨ cl23.slots.size ≤ ((Int32.ofNat i0)).toNatClampNeg) := inbN Sz23 hi (by omega)
    have hat23 : cl23.slots[((Int32.ofNat i0)).toNatClampNeg]? = some (.int (cs.getD i0 0)) := Has.at Hs23 hin23 (by rw [nat32 (by omega)]; exact mapGet hi)
    refine Go.of (T' := T22) (f' := (mkF m 21 #[.val (.ref a1), .unset] [(.int (cs.getD i0 0))])) (fun _ k => X22.caload hx (j := (Int32.ofNat i0)) (v := (.int (cs.getD i0 0))) (by rw [e22]; exact Ar23.1) (State.isArrayOf_alike hZ.alike Ar23.2.1) Ar23.2.2 hin23 hat23 (g := (mkF m 20 #[.val (.ref a1), .unset] [(.int (Int32.ofNat i0)), (.ref b)])) rfl rfl (hb hby d_prog_33_method_15_code_20) _ k) ?_
    refine Go.of (T' := T22) (f' := (mkF m 22 #[.val (.ref a1), .val (.int (cs.getD i0 0))] [])) (fun _ k => XS.istoreN X22.here hx rfl (hb hby d_prog_33_method_15_code_21) rfl (l' := #[.val (.ref a1), .val (.int (cs.getD i0 0))]) rfl k) ?_
    refine Go.of (T' := T22) (f' := (mkF m 23 #[.val (.ref a1), .val (.int (cs.getD i0 0))] [(.int (cs.getD i0 0))])) (fun _ k => XS.iloadN X22.here hx rfl (hb hby d_prog_33_method_15_code_22) rfl k) ?_
    refine Go.of (T' := T22) (f' := (mkF m 25 #[.val (.ref a1), .val (.int (cs.getD i0 0))] [(.int (32 : Int32)), (.int (cs.getD i0 0))])) (fun _ k => XS.bipush X22.here hx rfl (hb hby d_prog_33_method_15_code_23) k) ?_
    by_cases hc25 : (cs.getD i0 0) = (32 : Int32)
    ·
      refine Go.of (T' := T22) (f' := (mkF m 47 #[.val (.ref a1), .val (.int (cs.getD i0 0))] [])) (fun _ k => XS.icmpYes X22.here hx rfl (pc0 := 25) (pc' := 47) rfl (hb hby d_prog_33_method_15_code_25) rfl (teq hc25).1 (by decide) (by decide) k) ?_
      refine Go.of (T' := T22) (f' := (mkF m 48 #[.val (.ref a1), .val (.int (cs.getD i0 0))] [(.ref a1)])) (fun _ k => XS.aloadN X22.here hx rfl (hb hby d_prog_33_method_15_code_47) rfl rfl k) ?_
      refine Go.of (T' := T22) (f' := (mkF m 49 #[.val (.ref a1), .val (.int (cs.getD i0 0))] [(.ref a1), (.ref a1)])) (fun _ k => XS.dup X22.here hx rfl (hb hby d_prog_33_method_15_code_48) rfl rfl k) ?_
      obtain ⟨T24, X24, e24, st24⟩ := getF X22 hx hZ hown (host := "") (Or.inl (hw _ (List.mem_of_getElem? (i := 74) rfl))) Via.refl e22 F_position (g := (mkF m 49 #[.val (.ref a1), .val (.int (cs.getD i0 0))] [(.ref a1), (.ref a1)])) rfl rfl (hb hby d_prog_33_method_15_code_49)
      refine Go.of (T' := T24) (f' := (mkF m 52 #[.val (.ref a1), .val (.int (cs.getD i0 0))] [(.int (Int32.ofNat i0)), (.ref a1)])) st24 ?_
      refine Go.of (T' := T24) (f' := (mkF m 53 #[.val (.ref a1), .val (.int (cs.getD i0 0))] [(.int (1 : Int32)), (.int (Int32.ofNat i0)), (.ref a1)])) (fun _ k => XS.iconst X24.here hx rfl (hb hby d_prog_33_method_15_code_52) k) ?_
      refine Go.of (T' := T24) (f' := (mkF m 54 #[.val (.ref a1), .val (.int (cs.getD i0 0))] [(.int ((Int32.ofNat i0) + (1 : Int32))), (.ref a1)])) (fun _ k => XS.iadd X24.here hx rfl (hb hby d_prog_33_method_15_code_53) rfl k) ?_
      obtain ⟨T25, h25, X25, e25, W25, st25⟩ := putF X24 hx hZ hown (host := "") (Or.inl (hw _ (List.mem_of_getElem? (i := 74) rfl))) Via.refl e24 F_position E_a1 (Or.inl (hw _ (List.mem_of_getElem? (i := 75) rfl))) (hw _ (List.mem_of_getElem? (i := 34) rfl)) (ty := .int) (by decide) rfl rfl (g := (mkF m 54 #[.val (.ref a1), .val (.int (cs.getD i0 0))] [(.int ((Int32.ofNat i0) + (1 : Int32))), (.ref a1)])) rfl rfl (hb hby d_prog_33_method_15_code_54)
      have K25 := Keep.of_wr W25
      have M25 := M0.wr W25 (Or.inl (List.mem_of_getElem? (i := 0) rfl))
      replace F_text := F_text.other W25 (Or.inr (slot_ne (Or.inr (hw _ (List.mem_of_getElem? (i := 42) rfl))) (Or.inl (hw _ (List.mem_of_getElem? (i := 75) rfl))) (by decide) (t := (.object "java/lang/String")) (t' := .int) (by decide) (by decide)))
      replace F_chars := F_chars.other W25 (Or.inr (slot_ne (Or.inr (hw _ (List.mem_of_getElem? (i := 62) rfl))) (Or.inl (hw _ (List.mem_of_getElem? (i := 75) rfl))) (by decide) (t := (.array .char)) (t' := .int) (by decide) (by decide)))
      replace F_position := F_position.same W25
      replace E_a1 := E_a1.keep K25
      replace V_b := V_b.keep K25 (ninS ne_b_a1 nin0)
      refine Go.of (T' := T25) (f' := (mkF m 57 #[.val (.ref a1), .val (.int (cs.getD i0 0))] [])) st25 ?_
      refine Go.of (T' := T25) (f' := (mkF m 0 #[.val (.ref a1), .val (.int (cs.getD i0 0))] [])) (fun _ k => XS.goto X25.here hx rfl (pc0 := 57) (pc' := 0) rfl (hb hby d_prog_33_method_15_code_57) (by decide) (by decide) k) ?_
      rw [show (Int32.ofNat i0) + (1 : Int32) = Int32.ofNat (i0 + 1) from (Int32.ofNat_add _ _).symm] at F_position
      have hws : Ws (cs.getD i0 0) := by first | exact Or.inl hc25 | exact Or.inr (Or.inl hc31) | exact Or.inr (Or.inr (Or.inl hc37)) | exact Or.inr (Or.inr (Or.inr hc43))
      have hst := fstStep hi hws
      exact J cs.length (i0 + 1) _ T25 h25 _ (by omega) hi (by omega) (standUp X25 (by decide) (by decide)) e25 M25 E_a1 F_text F_chars F_position V_b
    ·
      refine Go.of (T' := T22) (f' := (mkF m 28 #[.val (.ref a1), .val (.int (cs.getD i0 0))] [])) (fun _ k => XS.icmpNo X22.here hx rfl (hb hby d_prog_33_method_15_code_25) rfl (feq hc25).1 k) ?_
      refine Go.of (T' := T22) (f' := (mkF m 29 #[.val (.ref a1), .val (.int (cs.getD i0 0))] [(.int (cs.getD i0 0))])) (fun _ k => XS.iloadN X22.here hx rfl (hb hby d_prog_33_method_15_code_28) rfl k) ?_
      refine Go.of (T' := T22) (f' := (mkF m 31 #[.val (.ref a1), .val (.int (cs.getD i0 0))] [(.int (9 : Int32)), (.int (cs.getD i0 0))])) (fun _ k => XS.bipush X22.here hx rfl (hb hby d_prog_33_method_15_code_29) k) ?_
      by_cases hc31 : (cs.getD i0 0) = (9 : Int32)
      ·
        refine Go.of (T' := T22) (f' := (mkF m 47 #[.val (.ref a1), .val (.int (cs.getD i0 0))] [])) (fun _ k => XS.icmpYes X22.here hx rfl (pc0 := 31) (pc' := 47) rfl (hb hby d_prog_33_method_15_code_31) rfl (teq hc31).1 (by decide) (by decide) k) ?_
        refine Go.of (T' := T22) (f' := (mkF m 48 #[.val (.ref a1), .val (.int (cs.getD i0 0))] [(.ref a1)])) (fun _ k => XS.aloadN X22.here hx rfl (hb hby d_prog_33_method_15_code_47) rfl rfl k) ?_
        refine Go.of (T' := T22) (f' := (mkF m 49 #[.val (.ref a1), .val (.int (cs.getD i0 0))] [(.ref a1), (.ref a1)])) (fun _ k => XS.dup X22.here hx rfl (hb hby d_prog_33_method_15_code_48) rfl rfl k) ?_
        obtain ⟨T26, X26, e26, st26⟩ := getF X22 hx hZ hown (host := "") (Or.inl (hw _ (List.mem_of_getElem? (i := 74) rfl))) Via.refl e22 F_position (g := (mkF m 49 #[.val (.ref a1), .val (.int (cs.getD i0 0))] [(.ref a1), (.ref a1)])) rfl rfl (hb hby d_prog_33_method_15_code_49)
        refine Go.of (T' := T26) (f' := (mkF m 52 #[.val (.ref a1), .val (.int (cs.getD i0 0))] [(.int (Int32.ofNat i0)), (.ref a1)])) st26 ?_
        refine Go.of (T' := T26) (f' := (mkF m 53 #[.val (.ref a1), .val (.int (cs.getD i0 0))] [(.int (1 : Int32)), (.int (Int32.ofNat i0)), (.ref a1)])) (fun _ k => XS.iconst X26.here hx rfl (hb hby d_prog_33_method_15_code_52) k) ?_
        refine Go.of (T' := T26) (f' := (mkF m 54 #[.val (.ref a1), .val (.int (cs.getD i0 0))] [(.int ((Int32.ofNat i0) + (1 : Int32))), (.ref a1)])) (fun _ k => XS.iadd X26.here hx rfl (hb hby d_prog_33_method_15_code_53) rfl k) ?_
        obtain ⟨T27, h27, X27, e27, W27, st27⟩ := putF X26 hx hZ hown (host := "") (Or.inl (hw _ (List.mem_of_getElem? (i := 74) rfl))) Via.refl e26 F_position E_a1 (Or.inl (hw _ (List.mem_of_getElem? (i := 75) rfl))) (hw _ (List.mem_of_getElem? (i := 34) rfl)) (ty := .int) (by decide) rfl rfl (g := (mkF m 54 #[.val (.ref a1), .val (.int (cs.getD i0 0))] [(.int ((Int32.ofNat i0) + (1 : Int32))), (.ref a1)])) rfl rfl (hb hby d_prog_33_method_15_code_54)
        have K27 := Keep.of_wr W27
        have M27 := M0.wr W27 (Or.inl (List.mem_of_getElem? (i := 0) rfl))
        replace F_text := F_text.other W27 (Or.inr (slot_ne (Or.inr (hw _ (List.mem_of_getElem? (i := 42) rfl))) (Or.inl (hw _ (List.mem_of_getElem? (i := 75) rfl))) (by decide) (t := (.object "java/lang/String")) (t' := .int) (by decide) (by decide)))
        replace F_chars := F_chars.other W27 (Or.inr (slot_ne (Or.inr (hw _ (List.mem_of_getElem? (i := 62) rfl))) (Or.inl (hw _ (List.mem_of_getElem? (i := 75) rfl))) (by decide) (t := (.array .char)) (t' := .int) (by decide) (by decide)))
        replace F_position := F_position.same W27
        replace E_a1 := E_a1.keep K27
        replace V_b := V_b.keep K27 (ninS ne_b_a1 nin0)
        refine Go.of (T' := T27) (f' := (mkF m 57 #[.val (.ref a1), .val (.int (cs.getD i0 0))] [])) st27 ?_
        refine Go.of (T' := T27) (f' := (mkF m 0 #[.val (.ref a1), .val (.int (cs.getD i0 0))] [])) (fun _ k => XS.goto X27.here hx rfl (pc0 := 57) (pc' := 0) rfl (hb hby d_prog_33_method_15_code_57) (by decide) (by decide) k) ?_
        rw [show (Int32.ofNat i0) + (1 : Int32) = Int32.ofNat (i0 + 1) from (Int32.ofNat_add _ _).symm] at F_position
        have hws : Ws (cs.getD i0 0) := by first | exact Or.inl hc25 | exact Or.inr (Or.inl hc31) | exact Or.inr (Or.inr (Or.inl hc37)) | exact Or.inr (Or.inr (Or.inr hc43))
        have hst := fstStep hi hws
        exact J cs.length (i0 + 1) _ T27 h27 _ (by omega) hi (by omega) (standUp X27 (by decide) (by decide)) e27 M27 E_a1 F_text F_chars F_position V_b
      ·
        refine Go.of (T' := T22) (f' := (mkF m 34 #[.val (.ref a1), .val (.int (cs.getD i0 0))] [])) (fun _ k => XS.icmpNo X22.here hx rfl (hb hby d_prog_33_method_15_code_31) rfl (feq hc31).1 k) ?_
        refine Go.of (T' := T22) (f' := (mkF m 35 #[.val (.ref a1), .val (.int (cs.getD i0 0))] [(.int (cs.getD i0 0))])) (fun _ k => XS.iloadN X22.here hx rfl (hb hby d_prog_33_method_15_code_34) rfl k) ?_
        refine Go.of (T' := T22) (f' := (mkF m 37 #[.val (.ref a1), .val (.int (cs.getD i0 0))] [(.int (10 : Int32)), (.int (cs.getD i0 0))])) (fun _ k => XS.bipush X22.here hx rfl (hb hby d_prog_33_method_15_code_35) k) ?_
        by_cases hc37 : (cs.getD i0 0) = (10 : Int32)
        ·
          refine Go.of (T' := T22) (f' := (mkF m 47 #[.val (.ref a1), .val (.int (cs.getD i0 0))] [])) (fun _ k => XS.icmpYes X22.here hx rfl (pc0 := 37) (pc' := 47) rfl (hb hby d_prog_33_method_15_code_37) rfl (teq hc37).1 (by decide) (by decide) k) ?_
          refine Go.of (T' := T22) (f' := (mkF m 48 #[.val (.ref a1), .val (.int (cs.getD i0 0))] [(.ref a1)])) (fun _ k => XS.aloadN X22.here hx rfl (hb hby d_prog_33_method_15_code_47) rfl rfl k) ?_
          refine Go.of (T' := T22) (f' := (mkF m 49 #[.val (.ref a1), .val (.int (cs.getD i0 0))] [(.ref a1), (.ref a1)])) (fun _ k => XS.dup X22.here hx rfl (hb hby d_prog_33_method_15_code_48) rfl rfl k) ?_
          obtain ⟨T28, X28, e28, st28⟩ := getF X22 hx hZ hown (host := "") (Or.inl (hw _ (List.mem_of_getElem? (i := 74) rfl))) Via.refl e22 F_position (g := (mkF m 49 #[.val (.ref a1), .val (.int (cs.getD i0 0))] [(.ref a1), (.ref a1)])) rfl rfl (hb hby d_prog_33_method_15_code_49)
          refine Go.of (T' := T28) (f' := (mkF m 52 #[.val (.ref a1), .val (.int (cs.getD i0 0))] [(.int (Int32.ofNat i0)), (.ref a1)])) st28 ?_
          refine Go.of (T' := T28) (f' := (mkF m 53 #[.val (.ref a1), .val (.int (cs.getD i0 0))] [(.int (1 : Int32)), (.int (Int32.ofNat i0)), (.ref a1)])) (fun _ k => XS.iconst X28.here hx rfl (hb hby d_prog_33_method_15_code_52) k) ?_
          refine Go.of (T' := T28) (f' := (mkF m 54 #[.val (.ref a1), .val (.int (cs.getD i0 0))] [(.int ((Int32.ofNat i0) + (1 : Int32))), (.ref a1)])) (fun _ k => XS.iadd X28.here hx rfl (hb hby d_prog_33_method_15_code_53) rfl k) ?_
          obtain ⟨T29, h29, X29, e29, W29, st29⟩ := putF X28 hx hZ hown (host := "") (Or.inl (hw _ (List.mem_of_getElem? (i := 74) rfl))) Via.refl e28 F_position E_a1 (Or.inl (hw _ (List.mem_of_getElem? (i := 75) rfl))) (hw _ (List.mem_of_getElem? (i := 34) rfl)) (ty := .int) (by decide) rfl rfl (g := (mkF m 54 #[.val (.ref a1), .val (.int (cs.getD i0 0))] [(.int ((Int32.ofNat i0) + (1 : Int32))), (.ref a1)])) rfl rfl (hb hby d_prog_33_method_15_code_54)
          have K29 := Keep.of_wr W29
          have M29 := M0.wr W29 (Or.inl (List.mem_of_getElem? (i := 0) rfl))
          replace F_text := F_text.other W29 (Or.inr (slot_ne (Or.inr (hw _ (List.mem_of_getElem? (i := 42) rfl))) (Or.inl (hw _ (List.mem_of_getElem? (i := 75) rfl))) (by decide) (t := (.object "java/lang/String")) (t' := .int) (by decide) (by decide)))
          replace F_chars := F_chars.other W29 (Or.inr (slot_ne (Or.inr (hw _ (List.mem_of_getElem? (i := 62) rfl))) (Or.inl (hw _ (List.mem_of_getElem? (i := 75) rfl))) (by decide) (t := (.array .char)) (t' := .int) (by decide) (by decide)))
          replace F_position := F_position.same W29
          replace E_a1 := E_a1.keep K29
          replace V_b := V_b.keep K29 (ninS ne_b_a1 nin0)
          refine Go.of (T' := T29) (f' := (mkF m 57 #[.val (.ref a1), .val (.int (cs.getD i0 0))] [])) st29 ?_
          refine Go.of (T' := T29) (f' := (mkF m 0 #[.val (.ref a1), .val (.int (cs.getD i0 0))] [])) (fun _ k => XS.goto X29.here hx rfl (pc0 := 57) (pc' := 0) rfl (hb hby d_prog_33_method_15_code_57) (by decide) (by decide) k) ?_
          rw [show (Int32.ofNat i0) + (1 : Int32) = Int32.ofNat (i0 + 1) from (Int32.ofNat_add _ _).symm] at F_position
          have hws : Ws (cs.getD i0 0) := by first | exact Or.inl hc25 | exact Or.inr (Or.inl hc31) | exact Or.inr (Or.inr (Or.inl hc37)) | exact Or.inr (Or.inr (Or.inr hc43))
          have hst := fstStep hi hws
          exact J cs.length (i0 + 1) _ T29 h29 _ (by omega) hi (by omega) (standUp X29 (by decide) (by decide)) e29 M29 E_a1 F_text F_chars F_position V_b
        ·
          refine Go.of (T' := T22) (f' := (mkF m 40 #[.val (.ref a1), .val (.int (cs.getD i0 0))] [])) (fun _ k => XS.icmpNo X22.here hx rfl (hb hby d_prog_33_method_15_code_37) rfl (feq hc37).1 k) ?_
          refine Go.of (T' := T22) (f' := (mkF m 41 #[.val (.ref a1), .val (.int (cs.getD i0 0))] [(.int (cs.getD i0 0))])) (fun _ k => XS.iloadN X22.here hx rfl (hb hby d_prog_33_method_15_code_40) rfl k) ?_
          refine Go.of (T' := T22) (f' := (mkF m 43 #[.val (.ref a1), .val (.int (cs.getD i0 0))] [(.int (13 : Int32)), (.int (cs.getD i0 0))])) (fun _ k => XS.bipush X22.here hx rfl (hb hby d_prog_33_method_15_code_41) k) ?_
          by_cases hc43 : (cs.getD i0 0) = (13 : Int32)
          ·
            refine Go.of (T' := T22) (f' := (mkF m 47 #[.val (.ref a1), .val (.int (cs.getD i0 0))] [])) (fun _ k => XS.icmpYes X22.here hx rfl (pc0 := 43) (pc' := 47) rfl (hb hby d_prog_33_method_15_code_43) rfl (teq hc43).1 (by decide) (by decide) k) ?_
            refine Go.of (T' := T22) (f' := (mkF m 48 #[.val (.ref a1), .val (.int (cs.getD i0 0))] [(.ref a1)])) (fun _ k => XS.aloadN X22.here hx rfl (hb hby d_prog_33_method_15_code_47) rfl rfl k) ?_
            refine Go.of (T' := T22) (f' := (mkF m 49 #[.val (.ref a1), .val (.int (cs.getD i0 0))] [(.ref a1), (.ref a1)])) (fun _ k => XS.dup X22.here hx rfl (hb hby d_prog_33_method_15_code_48) rfl rfl k) ?_
            obtain ⟨T30, X30, e30, st30⟩ := getF X22 hx hZ hown (host := "") (Or.inl (hw _ (List.mem_of_getElem? (i := 74) rfl))) Via.refl e22 F_position (g := (mkF m 49 #[.val (.ref a1), .val (.int (cs.getD i0 0))] [(.ref a1), (.ref a1)])) rfl rfl (hb hby d_prog_33_method_15_code_49)
            refine Go.of (T' := T30) (f' := (mkF m 52 #[.val (.ref a1), .val (.int (cs.getD i0 0))] [(.int (Int32.ofNat i0)), (.ref a1)])) st30 ?_
            refine Go.of (T' := T30) (f' := (mkF m 53 #[.val (.ref a1), .val (.int (cs.getD i0 0))] [(.int (1 : Int32)), (.int (Int32.ofNat i0)), (.ref a1)])) (fun _ k => XS.iconst X30.here hx rfl (hb hby d_prog_33_method_15_code_52) k) ?_
            refine Go.of (T' := T30) (f' := (mkF m 54 #[.val (.ref a1), .val (.int (cs.getD i0 0))] [(.int ((Int32.ofNat i0) + (1 : Int32))), (.ref a1)])) (fun _ k => XS.iadd X30.here hx rfl (hb hby d_prog_33_method_15_code_53) rfl k) ?_
            obtain ⟨T31, h31, X31, e31, W31, st31⟩ := putF X30 hx hZ hown (host := "") (Or.inl (hw _ (List.mem_of_getElem? (i := 74) rfl))) Via.refl e30 F_position E_a1 (Or.inl (hw _ (List.mem_of_getElem? (i := 75) rfl))) (hw _ (List.mem_of_getElem? (i := 34) rfl)) (ty := .int) (by decide) rfl rfl (g := (mkF m 54 #[.val (.ref a1), .val (.int (cs.getD i0 0))] [(.int ((Int32.ofNat i0) + (1 : Int32))), (.ref a1)])) rfl rfl (hb hby d_prog_33_method_15_code_54)
            have K31 := Keep.of_wr W31
            have M31 := M0.wr W31 (Or.inl (List.mem_of_getElem? (i := 0) rfl))
            replace F_text := F_text.other W31 (Or.inr (slot_ne (Or.inr (hw _ (List.mem_of_getElem? (i := 42) rfl))) (Or.inl (hw _ (List.mem_of_getElem? (i := 75) rfl))) (by decide) (t := (.object "java/lang/String")) (t' := .int) (by decide) (by decide)))
            replace F_chars := F_chars.other W31 (Or.inr (slot_ne (Or.inr (hw _ (List.mem_of_getElem? (i := 62) rfl))) (Or.inl (hw _ (List.mem_of_getElem? (i := 75) rfl))) (by decide) (t := (.array .char)) (t' := .int) (by decide) (by decide)))
            replace F_position := F_position.same W31
            replace E_a1 := E_a1.keep K31
            replace V_b := V_b.keep K31 (ninS ne_b_a1 nin0)
            refine Go.of (T' := T31) (f' := (mkF m 57 #[.val (.ref a1), .val (.int (cs.getD i0 0))] [])) st31 ?_
            refine Go.of (T' := T31) (f' := (mkF m 0 #[.val (.ref a1), .val (.int (cs.getD i0 0))] [])) (fun _ k => XS.goto X31.here hx rfl (pc0 := 57) (pc' := 0) rfl (hb hby d_prog_33_method_15_code_57) (by decide) (by decide) k) ?_
            rw [show (Int32.ofNat i0) + (1 : Int32) = Int32.ofNat (i0 + 1) from (Int32.ofNat_add _ _).symm] at F_position
            have hws : Ws (cs.getD i0 0) := by first | exact Or.inl hc25 | exact Or.inr (Or.inl hc31) | exact Or.inr (Or.inr (Or.inl hc37)) | exact Or.inr (Or.inr (Or.inr hc43))
            have hst := fstStep hi hws
            exact J cs.length (i0 + 1) _ T31 h31 _ (by omega) hi (by omega) (standUp X31 (by decide) (by decide)) e31 M31 E_a1 F_text F_chars F_position V_b
          ·
            refine Go.of (T' := T22) (f' := (mkF m 46 #[.val (.ref a1), .val (.int (cs.getD i0 0))] [])) (fun _ k => XS.icmpNo X22.here hx rfl (hb hby d_prog_33_method_15_code_43) rfl (feq hc43).1 k) ?_
            exact goRet0 (Q := fun v h L => v = none ∧ Mv h0 h [a1] L ∧ Exa Z h a1 "com/example/rezeptkern/rezeptkern/JsonCursor" ∧ Fld Z h a1 "com/example/rezeptkern/rezeptkern/JsonCursor" "text" "Ljava/lang/String;" (.ref tx) ∧ Fld Z h a1 "com/example/rezeptkern/rezeptkern/JsonCursor" "chars" "[C" (.ref b) ∧ Fld Z h a1 "com/example/rezeptkern/rezeptkern/JsonCursor" "position" "I" (.int (Int32.ofNat j)) ∧ Arv Z h b kb (.char) (Int32.ofNat cs.length) (cs.map Value.int) (.int (0 : Int32))) X22 hx hret hlk (hb hby d_prog_33_method_15_code_46) K (by decide) (by decide) e22 (by
                have e0 := fstStop hi (fun q => by rcases q with q | q | q | q; exact hc25 q; exact hc31 q; exact hc37 q; exact hc43 q)
                have e1 : i0 = j := by omega
                rw [e1] at F_position
                exact ⟨rfl, M0, E_a1, F_text, F_chars, F_position, V_b⟩)
  ·
    refine Go.of (T' := T19) (f' := (mkF m 60 #[.val (.ref a1), .unset] [])) (fun _ k => XS.icmpYes X19.here hx rfl (pc0 := 9) (pc' := 60) rfl (hb hby d_prog_33_method_15_code_9) rfl (flt hc9).2.1 (by decide) (by decide) k) ?_
    exact goRet0 (Q := fun v h L => v = none ∧ Mv h0 h [a1] L ∧ Exa Z h a1 "com/example/rezeptkern/rezeptkern/JsonCursor" ∧ Fld Z h a1 "com/example/rezeptkern/rezeptkern/JsonCursor" "text" "Ljava/lang/String;" (.ref tx) ∧ Fld Z h a1 "com/example/rezeptkern/rezeptkern/JsonCursor" "chars" "[C" (.ref b) ∧ Fld Z h a1 "com/example/rezeptkern/rezeptkern/JsonCursor" "position" "I" (.int (Int32.ofNat j)) ∧ Arv Z h b kb (.char) (Int32.ofNat cs.length) (cs.map Value.int) (.int (0 : Int32))) X19 hx hret hlk (hb hby d_prog_33_method_15_code_60) K (by decide) (by decide) e19 (by
        have e0 := fstNil (cs := cs) (i := i0) (by first | exact Nat.le_of_not_lt fun q => hc9 ((ltN (by omega) (by omega)).mpr q) | omega)
        have e1 : i0 = j := by omega
        rw [e1] at F_position
        exact ⟨rfl, M0, E_a1, F_text, F_chars, F_position, V_b⟩)
theorem pn_com_example_rezeptkern_rezeptkern_JsonCursorPeekPinLaw : plainName "com/example/rezeptkern/rezeptkern/JsonCursorPeekPinLaw" = true := by first | (simp [plainName, overriddenIn]; done) | decide +kernel
theorem ef_rm_pick (m : MethodId) (x0 : Int32)  : entryFrame m #[(.int x0)] 2 = mkF m 0 #[.val (.int x0), .unset] [] := by first | (simp [entryFrame, mkF, argsToLocals, Value.category]; done) | rfl
theorem d_method_2_code_0 : decode method_2_code 0 = .ok (.iload_n 0, 1) := by decide +kernel
theorem d_method_2_code_1 : decode method_2_code 1 = .ok (.bipush 7, 2) := by decide +kernel
theorem d_method_2_code_3 : decode method_2_code 3 = .ok (.iand, 1) := by decide +kernel
theorem d_method_2_code_4 : decode method_2_code 4 = .ok (.istore_n 1, 1) := by decide +kernel
theorem d_method_2_code_5 : decode method_2_code 5 = .ok (.iload_n 1, 1) := by decide +kernel
theorem d_method_2_code_6 : decode method_2_code 6 = .ok (.ifCond .ne 6, 3) := by decide +kernel
theorem d_method_2_code_9 : decode method_2_code 9 = .ok (.bipush 32, 2) := by decide +kernel
theorem d_method_2_code_11 : decode method_2_code 11 = .ok (.ireturn, 1) := by decide +kernel
theorem d_method_2_code_12 : decode method_2_code 12 = .ok (.iload_n 1, 1) := by decide +kernel
theorem d_method_2_code_13 : decode method_2_code 13 = .ok (.iconst 1, 1) := by decide +kernel
theorem d_method_2_code_14 : decode method_2_code 14 = .ok (.if_icmp .ne 6, 3) := by decide +kernel
theorem d_method_2_code_17 : decode method_2_code 17 = .ok (.bipush 9, 2) := by decide +kernel
theorem d_method_2_code_19 : decode method_2_code 19 = .ok (.ireturn, 1) := by decide +kernel
theorem d_method_2_code_20 : decode method_2_code 20 = .ok (.iload_n 1, 1) := by decide +kernel
theorem d_method_2_code_21 : decode method_2_code 21 = .ok (.iconst 2, 1) := by decide +kernel
theorem d_method_2_code_22 : decode method_2_code 22 = .ok (.if_icmp .ne 6, 3) := by decide +kernel
theorem d_method_2_code_25 : decode method_2_code 25 = .ok (.bipush 10, 2) := by decide +kernel
theorem d_method_2_code_27 : decode method_2_code 27 = .ok (.ireturn, 1) := by decide +kernel
theorem d_method_2_code_28 : decode method_2_code 28 = .ok (.iload_n 1, 1) := by decide +kernel
theorem d_method_2_code_29 : decode method_2_code 29 = .ok (.iconst 3, 1) := by decide +kernel
theorem d_method_2_code_30 : decode method_2_code 30 = .ok (.if_icmp .ne 6, 3) := by decide +kernel
theorem d_method_2_code_33 : decode method_2_code 33 = .ok (.bipush 13, 2) := by decide +kernel
theorem d_method_2_code_35 : decode method_2_code 35 = .ok (.ireturn, 1) := by decide +kernel
theorem d_method_2_code_36 : decode method_2_code 36 = .ok (.iload_n 0, 1) := by decide +kernel
theorem d_method_2_code_37 : decode method_2_code 37 = .ok (.iconst 3, 1) := by decide +kernel
theorem d_method_2_code_38 : decode method_2_code 38 = .ok (.iushr, 1) := by decide +kernel
theorem d_method_2_code_39 : decode method_2_code 39 = .ok (.ldc 7, 2) := by decide +kernel
theorem d_method_2_code_41 : decode method_2_code 41 = .ok (.iand, 1) := by decide +kernel
theorem d_method_2_code_42 : decode method_2_code 42 = .ok (.i2c, 1) := by decide +kernel
theorem d_method_2_code_43 : decode method_2_code 43 = .ok (.ireturn, 1) := by decide +kernel
set_option maxRecDepth 65536 in
set_option maxHeartbeats 40000000 in
theorem rm_pick (l : Launch) (Z : State) (a0 : Array Value) (hw : ∀ d ∈ tables_1, d.before a0 Z = true) (p1 : Int32) (h0 : Heap)  :
    MeetsW l Z (⟨"com/example/rezeptkern/rezeptkern/JsonCursorPeekPinLaw", "pick", "(I)C"⟩ : MethodName) method_2_code 2 (some .char) ({ frames := 0, cells := 0, slots := 0, locals := 0 } : Room) #[(.int p1)] h0 (Pu h0 (fun v => ∃ c : Int32, v = some (.int c) ∧ ¬ c < 0 ∧ ¬ (65535 : Int32) < c)) := by
  refine MeetsW.of (plainFor_of_name pn_com_example_rezeptkern_rezeptkern_JsonCursorPeekPinLaw) ?_
  intro p e s m below meth c s₁ P hx hby hml hZ hown hnm hret hlk X0 e0 K
  have M0 : Mv h0 h0 [] [] := Mv.refl _ _
  refine Go.cast (ef_rm_pick m p1 ) ?_
  refine Go.of (T' := s₁) (f' := (mkF m 1 #[.val (.int p1), .unset] [(.int p1)])) (fun _ k => XS.iloadN X0.here hx rfl (hb hby d_method_2_code_0) rfl k) ?_
  refine Go.of (T' := s₁) (f' := (mkF m 3 #[.val (.int p1), .unset] [(.int (7 : Int32)), (.int p1)])) (fun _ k => XS.bipush X0.here hx rfl (hb hby d_method_2_code_1) k) ?_
  refine Go.of (T' := s₁) (f' := (mkF m 4 #[.val (.int p1), .unset] [(.int (p1 &&& (7 : Int32)))])) (fun _ k => XS.iand X0.here hx rfl (hb hby d_method_2_code_3) rfl k) ?_
  refine Go.of (T' := s₁) (f' := (mkF m 5 #[.val (.int p1), .val (.int (p1 &&& (7 : Int32)))] [])) (fun _ k => XS.istoreN X0.here hx rfl (hb hby d_method_2_code_4) rfl (l' := #[.val (.int p1), .val (.int (p1 &&& (7 : Int32)))]) rfl k) ?_
  refine Go.of (T' := s₁) (f' := (mkF m 6 #[.val (.int p1), .val (.int (p1 &&& (7 : Int32)))] [(.int (p1 &&& (7 : Int32)))])) (fun _ k => XS.iloadN X0.here hx rfl (hb hby d_method_2_code_5) rfl k) ?_
  by_cases hc6 : (p1 &&& (7 : Int32)) = (0 : Int32)
  ·
    refine Go.of (T' := s₁) (f' := (mkF m 9 #[.val (.int p1), .val (.int (p1 &&& (7 : Int32)))] [])) (fun _ k => XS.ifNo X0.here hx rfl (hb hby d_method_2_code_6) rfl ((if0 _ _).trans (teq hc6).2) k) ?_
    refine Go.of (T' := s₁) (f' := (mkF m 11 #[.val (.int p1), .val (.int (p1 &&& (7 : Int32)))] [(.int (32 : Int32))])) (fun _ k => XS.bipush X0.here hx rfl (hb hby d_method_2_code_9) k) ?_
    exact goRetI (Q := Pu h0 (fun v => ∃ c : Int32, v = some (.int c) ∧ ¬ c < 0 ∧ ¬ (65535 : Int32) < c)) X0 hx (t := .char) hret hlk rfl (by simp) (hb hby d_method_2_code_11) K (by decide) (by decide) e0 (⟨rfl, rfl, _, rfl, by decide⟩)
  ·
    refine Go.of (T' := s₁) (f' := (mkF m 12 #[.val (.int p1), .val (.int (p1 &&& (7 : Int32)))] [])) (fun _ k => XS.ifYes X0.here hx rfl (pc0 := 6) (pc' := 12) rfl (hb hby d_method_2_code_6) rfl ((if0 _ _).trans (feq hc6).2) (by decide) (by decide) k) ?_
    refine Go.of (T' := s₁) (f' := (mkF m 13 #[.val (.int p1), .val (.int (p1 &&& (7 : Int32)))] [(.int (p1 &&& (7 : Int32)))])) (fun _ k => XS.iloadN X0.here hx rfl (hb hby d_method_2_code_12) rfl k) ?_
    refine Go.of (T' := s₁) (f' := (mkF m 14 #[.val (.int p1), .val (.int (p1 &&& (7 : Int32)))] [(.int (1 : Int32)), (.int (p1 &&& (7 : Int32)))])) (fun _ k => XS.iconst X0.here hx rfl (hb hby d_method_2_code_13) k) ?_
    by_cases hc14 : (p1 &&& (7 : Int32)) = (1 : Int32)
    ·
      refine Go.of (T' := s₁) (f' := (mkF m 17 #[.val (.int p1), .val (.int (p1 &&& (7 : Int32)))] [])) (fun _ k => XS.icmpNo X0.here hx rfl (hb hby d_method_2_code_14) rfl (teq hc14).2 k) ?_
      refine Go.of (T' := s₁) (f' := (mkF m 19 #[.val (.int p1), .val (.int (p1 &&& (7 : Int32)))] [(.int (9 : Int32))])) (fun _ k => XS.bipush X0.here hx rfl (hb hby d_method_2_code_17) k) ?_
      exact goRetI (Q := Pu h0 (fun v => ∃ c : Int32, v = some (.int c) ∧ ¬ c < 0 ∧ ¬ (65535 : Int32) < c)) X0 hx (t := .char) hret hlk rfl (by simp) (hb hby d_method_2_code_19) K (by decide) (by decide) e0 (⟨rfl, rfl, _, rfl, by decide⟩)
    ·
      refine Go.of (T' := s₁) (f' := (mkF m 20 #[.val (.int p1), .val (.int (p1 &&& (7 : Int32)))] [])) (fun _ k => XS.icmpYes X0.here hx rfl (pc0 := 14) (pc' := 20) rfl (hb hby d_method_2_code_14) rfl (feq hc14).2 (by decide) (by decide) k) ?_
      refine Go.of (T' := s₁) (f' := (mkF m 21 #[.val (.int p1), .val (.int (p1 &&& (7 : Int32)))] [(.int (p1 &&& (7 : Int32)))])) (fun _ k => XS.iloadN X0.here hx rfl (hb hby d_method_2_code_20) rfl k) ?_
      refine Go.of (T' := s₁) (f' := (mkF m 22 #[.val (.int p1), .val (.int (p1 &&& (7 : Int32)))] [(.int (2 : Int32)), (.int (p1 &&& (7 : Int32)))])) (fun _ k => XS.iconst X0.here hx rfl (hb hby d_method_2_code_21) k) ?_
      by_cases hc22 : (p1 &&& (7 : Int32)) = (2 : Int32)
      ·
        refine Go.of (T' := s₁) (f' := (mkF m 25 #[.val (.int p1), .val (.int (p1 &&& (7 : Int32)))] [])) (fun _ k => XS.icmpNo X0.here hx rfl (hb hby d_method_2_code_22) rfl (teq hc22).2 k) ?_
        refine Go.of (T' := s₁) (f' := (mkF m 27 #[.val (.int p1), .val (.int (p1 &&& (7 : Int32)))] [(.int (10 : Int32))])) (fun _ k => XS.bipush X0.here hx rfl (hb hby d_method_2_code_25) k) ?_
        exact goRetI (Q := Pu h0 (fun v => ∃ c : Int32, v = some (.int c) ∧ ¬ c < 0 ∧ ¬ (65535 : Int32) < c)) X0 hx (t := .char) hret hlk rfl (by simp) (hb hby d_method_2_code_27) K (by decide) (by decide) e0 (⟨rfl, rfl, _, rfl, by decide⟩)
      ·
        refine Go.of (T' := s₁) (f' := (mkF m 28 #[.val (.int p1), .val (.int (p1 &&& (7 : Int32)))] [])) (fun _ k => XS.icmpYes X0.here hx rfl (pc0 := 22) (pc' := 28) rfl (hb hby d_method_2_code_22) rfl (feq hc22).2 (by decide) (by decide) k) ?_
        refine Go.of (T' := s₁) (f' := (mkF m 29 #[.val (.int p1), .val (.int (p1 &&& (7 : Int32)))] [(.int (p1 &&& (7 : Int32)))])) (fun _ k => XS.iloadN X0.here hx rfl (hb hby d_method_2_code_28) rfl k) ?_
        refine Go.of (T' := s₁) (f' := (mkF m 30 #[.val (.int p1), .val (.int (p1 &&& (7 : Int32)))] [(.int (3 : Int32)), (.int (p1 &&& (7 : Int32)))])) (fun _ k => XS.iconst X0.here hx rfl (hb hby d_method_2_code_29) k) ?_
        by_cases hc30 : (p1 &&& (7 : Int32)) = (3 : Int32)
        ·
          refine Go.of (T' := s₁) (f' := (mkF m 33 #[.val (.int p1), .val (.int (p1 &&& (7 : Int32)))] [])) (fun _ k => XS.icmpNo X0.here hx rfl (hb hby d_method_2_code_30) rfl (teq hc30).2 k) ?_
          refine Go.of (T' := s₁) (f' := (mkF m 35 #[.val (.int p1), .val (.int (p1 &&& (7 : Int32)))] [(.int (13 : Int32))])) (fun _ k => XS.bipush X0.here hx rfl (hb hby d_method_2_code_33) k) ?_
          exact goRetI (Q := Pu h0 (fun v => ∃ c : Int32, v = some (.int c) ∧ ¬ c < 0 ∧ ¬ (65535 : Int32) < c)) X0 hx (t := .char) hret hlk rfl (by simp) (hb hby d_method_2_code_35) K (by decide) (by decide) e0 (⟨rfl, rfl, _, rfl, by decide⟩)
        ·
          refine Go.of (T' := s₁) (f' := (mkF m 36 #[.val (.int p1), .val (.int (p1 &&& (7 : Int32)))] [])) (fun _ k => XS.icmpYes X0.here hx rfl (pc0 := 30) (pc' := 36) rfl (hb hby d_method_2_code_30) rfl (feq hc30).2 (by decide) (by decide) k) ?_
          refine Go.of (T' := s₁) (f' := (mkF m 37 #[.val (.int p1), .val (.int (p1 &&& (7 : Int32)))] [(.int p1)])) (fun _ k => XS.iloadN X0.here hx rfl (hb hby d_method_2_code_36) rfl k) ?_
          refine Go.of (T' := s₁) (f' := (mkF m 38 #[.val (.int p1), .val (.int (p1 &&& (7 : Int32)))] [(.int (3 : Int32)), (.int p1)])) (fun _ k => XS.iconst X0.here hx rfl (hb hby d_method_2_code_37) k) ?_
          refine Go.of (T' := s₁) (f' := (mkF m 39 #[.val (.int p1), .val (.int (p1 &&& (7 : Int32)))] [(.int ((p1.toUInt32 >>> ((3 : Int32) &&& 31).toUInt32).toInt32))])) (fun _ k => XS.iushr X0.here hx rfl (hb hby d_method_2_code_38) rfl k) ?_
          refine Go.of (T' := s₁) (f' := (mkF m 41 #[.val (.int p1), .val (.int (p1 &&& (7 : Int32)))] [(.int (65535 : Int32)), (.int ((p1.toUInt32 >>> ((3 : Int32) &&& 31).toUInt32).toInt32))])) (fun _ k => X0.ldcInt hx hown (mvT hZ (hw _ (List.mem_of_getElem? (i := 81) rfl))) (g := (mkF m 39 #[.val (.int p1), .val (.int (p1 &&& (7 : Int32)))] [(.int ((p1.toUInt32 >>> ((3 : Int32) &&& 31).toUInt32).toInt32))])) rfl (hb hby d_method_2_code_39) _ k) ?_
          refine Go.of (T' := s₁) (f' := (mkF m 42 #[.val (.int p1), .val (.int (p1 &&& (7 : Int32)))] [(.int (((p1.toUInt32 >>> ((3 : Int32) &&& 31).toUInt32).toInt32) &&& (65535 : Int32)))])) (fun _ k => XS.iand X0.here hx rfl (hb hby d_method_2_code_41) rfl k) ?_
          refine Go.of (T' := s₁) (f' := (mkF m 43 #[.val (.int p1), .val (.int (p1 &&& (7 : Int32)))] [(.int ((((p1.toUInt32 >>> ((3 : Int32) &&& 31).toUInt32).toInt32) &&& (65535 : Int32)).toUInt32.toUInt16.toUInt32.toInt32))])) (fun _ k => XS.i2c X0.here hx rfl (hb hby d_method_2_code_42) rfl k) ?_
          exact goRetI (Q := Pu h0 (fun v => ∃ c : Int32, v = some (.int c) ∧ ¬ c < 0 ∧ ¬ (65535 : Int32) < c)) X0 hx (t := .char) hret hlk (congrArg Value.int (narC _)) (by simp) (hb hby d_method_2_code_43) K (by decide) (by decide) e0 (⟨rfl, rfl, _, rfl, i2c_rng _⟩)
theorem ef_rm_ws (m : MethodId) (x0 : Int32)  : entryFrame m #[(.int x0)] 1 = mkF m 0 #[.val (.int x0)] [] := by first | (simp [entryFrame, mkF, argsToLocals, Value.category]; done) | rfl
theorem d_method_3_code_0 : decode method_3_code 0 = .ok (.iload_n 0, 1) := by decide +kernel
theorem d_method_3_code_1 : decode method_3_code 1 = .ok (.bipush 32, 2) := by decide +kernel
theorem d_method_3_code_3 : decode method_3_code 3 = .ok (.if_icmp .eq 21, 3) := by decide +kernel
theorem d_method_3_code_24 : decode method_3_code 24 = .ok (.iconst 1, 1) := by decide +kernel
theorem d_method_3_code_25 : decode method_3_code 25 = .ok (.goto 4, 3) := by decide +kernel
theorem d_method_3_code_29 : decode method_3_code 29 = .ok (.ireturn, 1) := by decide +kernel
theorem d_method_3_code_6 : decode method_3_code 6 = .ok (.iload_n 0, 1) := by decide +kernel
theorem d_method_3_code_7 : decode method_3_code 7 = .ok (.bipush 9, 2) := by decide +kernel
theorem d_method_3_code_9 : decode method_3_code 9 = .ok (.if_icmp .eq 15, 3) := by decide +kernel
theorem d_method_3_code_12 : decode method_3_code 12 = .ok (.iload_n 0, 1) := by decide +kernel
theorem d_method_3_code_13 : decode method_3_code 13 = .ok (.bipush 10, 2) := by decide +kernel
theorem d_method_3_code_15 : decode method_3_code 15 = .ok (.if_icmp .eq 9, 3) := by decide +kernel
theorem d_method_3_code_18 : decode method_3_code 18 = .ok (.iload_n 0, 1) := by decide +kernel
theorem d_method_3_code_19 : decode method_3_code 19 = .ok (.bipush 13, 2) := by decide +kernel
theorem d_method_3_code_21 : decode method_3_code 21 = .ok (.if_icmp .ne 7, 3) := by decide +kernel
theorem d_method_3_code_28 : decode method_3_code 28 = .ok (.iconst 0, 1) := by decide +kernel
set_option maxRecDepth 65536 in
set_option maxHeartbeats 40000000 in
theorem rm_ws (l : Launch) (Z : State) (a0 : Array Value) (hw : ∀ d ∈ tables_1, d.before a0 Z = true) (p1 : Int32) (h0 : Heap)  :
    MeetsW l Z (⟨"com/example/rezeptkern/rezeptkern/JsonCursorPeekPinLaw", "ws", "(C)Z"⟩ : MethodName) method_3_code 1 (some .boolean) ({ frames := 0, cells := 0, slots := 0, locals := 0 } : Room) #[(.int p1)] h0 (Pu h0 (fun v => v = some (.int (bi (Ws p1))))) := by
  refine MeetsW.of (plainFor_of_name pn_com_example_rezeptkern_rezeptkern_JsonCursorPeekPinLaw) ?_
  intro p e s m below meth c s₁ P hx hby hml hZ hown hnm hret hlk X0 e0 K
  have M0 : Mv h0 h0 [] [] := Mv.refl _ _
  refine Go.cast (ef_rm_ws m p1 ) ?_
  refine Go.of (T' := s₁) (f' := (mkF m 1 #[.val (.int p1)] [(.int p1)])) (fun _ k => XS.iloadN X0.here hx rfl (hb hby d_method_3_code_0) rfl k) ?_
  refine Go.of (T' := s₁) (f' := (mkF m 3 #[.val (.int p1)] [(.int (32 : Int32)), (.int p1)])) (fun _ k => XS.bipush X0.here hx rfl (hb hby d_method_3_code_1) k) ?_
  by_cases hc3 : p1 = (32 : Int32)
  ·
    refine Go.of (T' := s₁) (f' := (mkF m 24 #[.val (.int p1)] [])) (fun _ k => XS.icmpYes X0.here hx rfl (pc0 := 3) (pc' := 24) rfl (hb hby d_method_3_code_3) rfl (teq hc3).1 (by decide) (by decide) k) ?_
    refine Go.of (T' := s₁) (f' := (mkF m 25 #[.val (.int p1)] [(.int (1 : Int32))])) (fun _ k => XS.iconst X0.here hx rfl (hb hby d_method_3_code_24) k) ?_
    refine Go.of (T' := s₁) (f' := (mkF m 29 #[.val (.int p1)] [(.int (1 : Int32))])) (fun _ k => XS.goto X0.here hx rfl (pc0 := 25) (pc' := 29) rfl (hb hby d_method_3_code_25) (by decide) (by decide) k) ?_
    exact goRetI (Q := Pu h0 (fun v => v = some (.int (bi (Ws p1))))) X0 hx (t := .boolean) hret hlk rfl (by simp) (hb hby d_method_3_code_29) K (by decide) (by decide) e0 (⟨rfl, rfl, by rw [bi_t (by first | exact Or.inl hc3 | exact Or.inr (Or.inl hc9) | exact Or.inr (Or.inr (Or.inl hc15)) | exact Or.inr (Or.inr (Or.inr hc21)))]⟩)
  ·
    refine Go.of (T' := s₁) (f' := (mkF m 6 #[.val (.int p1)] [])) (fun _ k => XS.icmpNo X0.here hx rfl (hb hby d_method_3_code_3) rfl (feq hc3).1 k) ?_
    refine Go.of (T' := s₁) (f' := (mkF m 7 #[.val (.int p1)] [(.int p1)])) (fun _ k => XS.iloadN X0.here hx rfl (hb hby d_method_3_code_6) rfl k) ?_
    refine Go.of (T' := s₁) (f' := (mkF m 9 #[.val (.int p1)] [(.int (9 : Int32)), (.int p1)])) (fun _ k => XS.bipush X0.here hx rfl (hb hby d_method_3_code_7) k) ?_
    by_cases hc9 : p1 = (9 : Int32)
    ·
      refine Go.of (T' := s₁) (f' := (mkF m 24 #[.val (.int p1)] [])) (fun _ k => XS.icmpYes X0.here hx rfl (pc0 := 9) (pc' := 24) rfl (hb hby d_method_3_code_9) rfl (teq hc9).1 (by decide) (by decide) k) ?_
      refine Go.of (T' := s₁) (f' := (mkF m 25 #[.val (.int p1)] [(.int (1 : Int32))])) (fun _ k => XS.iconst X0.here hx rfl (hb hby d_method_3_code_24) k) ?_
      refine Go.of (T' := s₁) (f' := (mkF m 29 #[.val (.int p1)] [(.int (1 : Int32))])) (fun _ k => XS.goto X0.here hx rfl (pc0 := 25) (pc' := 29) rfl (hb hby d_method_3_code_25) (by decide) (by decide) k) ?_
      exact goRetI (Q := Pu h0 (fun v => v = some (.int (bi (Ws p1))))) X0 hx (t := .boolean) hret hlk rfl (by simp) (hb hby d_method_3_code_29) K (by decide) (by decide) e0 (⟨rfl, rfl, by rw [bi_t (by first | exact Or.inl hc3 | exact Or.inr (Or.inl hc9) | exact Or.inr (Or.inr (Or.inl hc15)) | exact Or.inr (Or.inr (Or.inr hc21)))]⟩)
    ·
      refine Go.of (T' := s₁) (f' := (mkF m 12 #[.val (.int p1)] [])) (fun _ k => XS.icmpNo X0.here hx rfl (hb hby d_method_3_code_9) rfl (feq hc9).1 k) ?_
      refine Go.of (T' := s₁) (f' := (mkF m 13 #[.val (.int p1)] [(.int p1)])) (fun _ k => XS.iloadN X0.here hx rfl (hb hby d_method_3_code_12) rfl k) ?_
      refine Go.of (T' := s₁) (f' := (mkF m 15 #[.val (.int p1)] [(.int (10 : Int32)), (.int p1)])) (fun _ k => XS.bipush X0.here hx rfl (hb hby d_method_3_code_13) k) ?_
      by_cases hc15 : p1 = (10 : Int32)
      ·
        refine Go.of (T' := s₁) (f' := (mkF m 24 #[.val (.int p1)] [])) (fun _ k => XS.icmpYes X0.here hx rfl (pc0 := 15) (pc' := 24) rfl (hb hby d_method_3_code_15) rfl (teq hc15).1 (by decide) (by decide) k) ?_
        refine Go.of (T' := s₁) (f' := (mkF m 25 #[.val (.int p1)] [(.int (1 : Int32))])) (fun _ k => XS.iconst X0.here hx rfl (hb hby d_method_3_code_24) k) ?_
        refine Go.of (T' := s₁) (f' := (mkF m 29 #[.val (.int p1)] [(.int (1 : Int32))])) (fun _ k => XS.goto X0.here hx rfl (pc0 := 25) (pc' := 29) rfl (hb hby d_method_3_code_25) (by decide) (by decide) k) ?_
        exact goRetI (Q := Pu h0 (fun v => v = some (.int (bi (Ws p1))))) X0 hx (t := .boolean) hret hlk rfl (by simp) (hb hby d_method_3_code_29) K (by decide) (by decide) e0 (⟨rfl, rfl, by rw [bi_t (by first | exact Or.inl hc3 | exact Or.inr (Or.inl hc9) | exact Or.inr (Or.inr (Or.inl hc15)) | exact Or.inr (Or.inr (Or.inr hc21)))]⟩)
      ·
        refine Go.of (T' := s₁) (f' := (mkF m 18 #[.val (.int p1)] [])) (fun _ k => XS.icmpNo X0.here hx rfl (hb hby d_method_3_code_15) rfl (feq hc15).1 k) ?_
        refine Go.of (T' := s₁) (f' := (mkF m 19 #[.val (.int p1)] [(.int p1)])) (fun _ k => XS.iloadN X0.here hx rfl (hb hby d_method_3_code_18) rfl k) ?_
        refine Go.of (T' := s₁) (f' := (mkF m 21 #[.val (.int p1)] [(.int (13 : Int32)), (.int p1)])) (fun _ k => XS.bipush X0.here hx rfl (hb hby d_method_3_code_19) k) ?_
        by_cases hc21 : p1 = (13 : Int32)
        ·
          refine Go.of (T' := s₁) (f' := (mkF m 24 #[.val (.int p1)] [])) (fun _ k => XS.icmpNo X0.here hx rfl (hb hby d_method_3_code_21) rfl (teq hc21).2 k) ?_
          refine Go.of (T' := s₁) (f' := (mkF m 25 #[.val (.int p1)] [(.int (1 : Int32))])) (fun _ k => XS.iconst X0.here hx rfl (hb hby d_method_3_code_24) k) ?_
          refine Go.of (T' := s₁) (f' := (mkF m 29 #[.val (.int p1)] [(.int (1 : Int32))])) (fun _ k => XS.goto X0.here hx rfl (pc0 := 25) (pc' := 29) rfl (hb hby d_method_3_code_25) (by decide) (by decide) k) ?_
          exact goRetI (Q := Pu h0 (fun v => v = some (.int (bi (Ws p1))))) X0 hx (t := .boolean) hret hlk rfl (by simp) (hb hby d_method_3_code_29) K (by decide) (by decide) e0 (⟨rfl, rfl, by rw [bi_t (by first | exact Or.inl hc3 | exact Or.inr (Or.inl hc9) | exact Or.inr (Or.inr (Or.inl hc15)) | exact Or.inr (Or.inr (Or.inr hc21)))]⟩)
        ·
          refine Go.of (T' := s₁) (f' := (mkF m 28 #[.val (.int p1)] [])) (fun _ k => XS.icmpYes X0.here hx rfl (pc0 := 21) (pc' := 28) rfl (hb hby d_method_3_code_21) rfl (feq hc21).2 (by decide) (by decide) k) ?_
          refine Go.of (T' := s₁) (f' := (mkF m 29 #[.val (.int p1)] [(.int (0 : Int32))])) (fun _ k => XS.iconst X0.here hx rfl (hb hby d_method_3_code_28) k) ?_
          exact goRetI (Q := Pu h0 (fun v => v = some (.int (bi (Ws p1))))) X0 hx (t := .boolean) hret hlk rfl (by simp) (hb hby d_method_3_code_29) K (by decide) (by decide) e0 (⟨rfl, rfl, by rw [bi_f (by rintro (q | q | q | q); exact hc3 q; exact hc9 q; exact hc15 q; exact hc21 q)]⟩)
theorem ltK {k j : Nat} (hk : k < 5) (hj : j < 5) : Int32.ofNat j < Int32.ofNat k ↔ j < k := ltN (by omega) (by omega)
theorem k5 {k : Nat} (hk : k < 5) : k = 0 ∨ k = 1 ∨ k = 2 ∨ k = 3 ∨ k = 4 := by omega
theorem fn0 {k : Nat} {c0 c1 c2 c3 : Int32} (h : 0 < k) (q : ¬ Ws c0) : fst (List.take k [c0, c1, c2, c3]) = 0 := by
  obtain ⟨k, rfl⟩ : ∃ m, k = m + 1 := ⟨k - 1, by omega⟩
  rw [List.take_succ_cons, fst, if_neg q]
theorem fn1 {k : Nat} {c0 c1 c2 c3 : Int32} (h : 1 < k) (q0 : 0 < k → Ws c0) (q : ¬ Ws c1) : fst (List.take k [c0, c1, c2, c3]) = 1 := by
  obtain ⟨k, rfl⟩ : ∃ m, k = m + 1 := ⟨k - 1, by omega⟩
  rw [List.take_succ_cons, fst, if_pos (q0 (by omega))]
  obtain ⟨k, rfl⟩ : ∃ m, k = m + 1 := ⟨k - 1, by omega⟩
  rw [List.take_succ_cons, fst, if_neg q]
theorem fn2 {k : Nat} {c0 c1 c2 c3 : Int32} (h : 2 < k) (q0 : 0 < k → Ws c0) (q1 : 1 < k → Ws c1) (q : ¬ Ws c2) : fst (List.take k [c0, c1, c2, c3]) = 2 := by
  obtain ⟨k, rfl⟩ : ∃ m, k = m + 1 := ⟨k - 1, by omega⟩
  rw [List.take_succ_cons, fst, if_pos (q0 (by omega))]
  obtain ⟨k, rfl⟩ : ∃ m, k = m + 1 := ⟨k - 1, by omega⟩
  rw [List.take_succ_cons, fst, if_pos (q1 (by omega))]
  obtain ⟨k, rfl⟩ : ∃ m, k = m + 1 := ⟨k - 1, by omega⟩
  rw [List.take_succ_cons, fst, if_neg q]
theorem fn3 {k : Nat} {c0 c1 c2 c3 : Int32} (h : 3 < k) (q0 : 0 < k → Ws c0) (q1 : 1 < k → Ws c1) (q2 : 2 < k → Ws c2) (q : ¬ Ws c3) : fst (List.take k [c0, c1, c2, c3]) = 3 := by
  obtain ⟨k, rfl⟩ : ∃ m, k = m + 1 := ⟨k - 1, by omega⟩
  rw [List.take_succ_cons, fst, if_pos (q0 (by omega))]
  obtain ⟨k, rfl⟩ : ∃ m, k = m + 1 := ⟨k - 1, by omega⟩
  rw [List.take_succ_cons, fst, if_pos (q1 (by omega))]
  obtain ⟨k, rfl⟩ : ∃ m, k = m + 1 := ⟨k - 1, by omega⟩
  rw [List.take_succ_cons, fst, if_pos (q2 (by omega))]
  obtain ⟨k, rfl⟩ : ∃ m, k = m + 1 := ⟨k - 1, by omega⟩
  rw [List.take_succ_cons, fst, if_neg q]
theorem fst_all : ∀ {l : List Int32}, (∀ c ∈ l, Ws c) → fst l = l.length
  | [], _ => rfl
  | c :: r, h => by rw [fst, if_pos (h c (List.mem_cons_self ..)), fst_all fun d hd => h d (List.mem_cons_of_mem _ hd)]; rfl
theorem fn4 {k : Nat} {c0 c1 c2 c3 : Int32} (hk : k < 5) (q0 : 0 < k → Ws c0) (q1 : 1 < k → Ws c1) (q2 : 2 < k → Ws c2) (q3 : 3 < k → Ws c3) : fst (List.take k [c0, c1, c2, c3]) = k := by
  rw [fst_all, List.length_take]
  · simp; omega
  · rcases k5 hk with rfl | rfl | rfl | rfl | rfl <;> simp_all
theorem ef_rm_fnw (m : MethodId) (x0 : Int32) (x1 : Int32) (x2 : Int32) (x3 : Int32) (x4 : Int32)  : entryFrame m #[(.int x0), (.int x1), (.int x2), (.int x3), (.int x4)] 5 = mkF m 0 #[.val (.int x0), .val (.int x1), .val (.int x2), .val (.int x3), .val (.int x4)] [] := by first | (simp [entryFrame, mkF, argsToLocals, Value.category]; done) | rfl
theorem d_method_4_code_0 : decode method_4_code 0 = .ok (.iload_n 0, 1) := by decide +kernel
theorem d_method_4_code_13 : decode method_4_code 13 = .ok (.iload_n 0, 1) := by decide +kernel
theorem d_method_4_code_14 : decode method_4_code 14 = .ok (.iconst 1, 1) := by decide +kernel
theorem d_method_4_code_27 : decode method_4_code 27 = .ok (.iload_n 0, 1) := by decide +kernel
theorem d_method_4_code_28 : decode method_4_code 28 = .ok (.iconst 2, 1) := by decide +kernel
theorem d_method_4_code_41 : decode method_4_code 41 = .ok (.iload_n 0, 1) := by decide +kernel
theorem d_method_4_code_42 : decode method_4_code 42 = .ok (.iconst 3, 1) := by decide +kernel
theorem d_method_4_code_56 : decode method_4_code 56 = .ok (.iload_n 0, 1) := by decide +kernel
theorem d_method_4_code_57 : decode method_4_code 57 = .ok (.ireturn, 1) := by decide +kernel
theorem d_method_4_code_43 : decode method_4_code 43 = .ok (.if_icmp .le 13, 3) := by decide +kernel
theorem d_method_4_code_46 : decode method_4_code 46 = .ok (.iload 4, 2) := by decide +kernel
theorem d_method_4_code_48 : decode method_4_code 48 = .ok (.invokestatic 8, 3) := by decide +kernel
theorem pd__C_Z : parseMethodDescriptor "(C)Z" = some ⟨[.char], some .boolean⟩ := by decide +kernel
theorem d_method_4_code_51 : decode method_4_code 51 = .ok (.ifCond .ne 5, 3) := by decide +kernel
theorem d_method_4_code_54 : decode method_4_code 54 = .ok (.iconst 3, 1) := by decide +kernel
theorem d_method_4_code_55 : decode method_4_code 55 = .ok (.ireturn, 1) := by decide +kernel
theorem d_method_4_code_29 : decode method_4_code 29 = .ok (.if_icmp .le 12, 3) := by decide +kernel
theorem d_method_4_code_32 : decode method_4_code 32 = .ok (.iload_n 3, 1) := by decide +kernel
theorem d_method_4_code_33 : decode method_4_code 33 = .ok (.invokestatic 8, 3) := by decide +kernel
theorem d_method_4_code_36 : decode method_4_code 36 = .ok (.ifCond .ne 5, 3) := by decide +kernel
theorem d_method_4_code_39 : decode method_4_code 39 = .ok (.iconst 2, 1) := by decide +kernel
theorem d_method_4_code_40 : decode method_4_code 40 = .ok (.ireturn, 1) := by decide +kernel
theorem d_method_4_code_15 : decode method_4_code 15 = .ok (.if_icmp .le 12, 3) := by decide +kernel
theorem d_method_4_code_18 : decode method_4_code 18 = .ok (.iload_n 2, 1) := by decide +kernel
theorem d_method_4_code_19 : decode method_4_code 19 = .ok (.invokestatic 8, 3) := by decide +kernel
theorem d_method_4_code_22 : decode method_4_code 22 = .ok (.ifCond .ne 5, 3) := by decide +kernel
theorem d_method_4_code_25 : decode method_4_code 25 = .ok (.iconst 1, 1) := by decide +kernel
theorem d_method_4_code_26 : decode method_4_code 26 = .ok (.ireturn, 1) := by decide +kernel
theorem d_method_4_code_1 : decode method_4_code 1 = .ok (.ifCond .le 12, 3) := by decide +kernel
theorem d_method_4_code_4 : decode method_4_code 4 = .ok (.iload_n 1, 1) := by decide +kernel
theorem d_method_4_code_5 : decode method_4_code 5 = .ok (.invokestatic 8, 3) := by decide +kernel
theorem d_method_4_code_8 : decode method_4_code 8 = .ok (.ifCond .ne 5, 3) := by decide +kernel
theorem d_method_4_code_11 : decode method_4_code 11 = .ok (.iconst 0, 1) := by decide +kernel
theorem d_method_4_code_12 : decode method_4_code 12 = .ok (.ireturn, 1) := by decide +kernel
set_option maxRecDepth 65536 in
set_option maxHeartbeats 40000000 in
theorem rm_fnw (l : Launch) (Z : State) (a0 : Array Value) (hw : ∀ d ∈ tables_1, d.before a0 Z = true) (nk : Nat) (c0 c1 c2 c3 : Int32) (h0 : Heap) (hnk : nk < 5) :
    MeetsW l Z (⟨"com/example/rezeptkern/rezeptkern/JsonCursorPeekPinLaw", "firstNonWs", "(ICCCC)I"⟩ : MethodName) method_4_code 5 (some .int) ({ frames := 1, cells := 0, slots := 0, locals := 12 } : Room) #[(.int (Int32.ofNat nk)), (.int c0), (.int c1), (.int c2), (.int c3)] h0 (Pu h0 (fun v => v = some (.int (Int32.ofNat (fst (List.take nk [c0, c1, c2, c3])))))) := by
  refine MeetsW.of (plainFor_of_name pn_com_example_rezeptkern_rezeptkern_JsonCursorPeekPinLaw) ?_
  intro p e s m below meth c s₁ P hx hby hml hZ hown hnm hret hlk X0 e0 K
  have M0 : Mv h0 h0 [] [] := Mv.refl _ _
  refine Go.cast (ef_rm_fnw m (Int32.ofNat nk) c0 c1 c2 c3 ) ?_
  refine Go.of (T' := s₁) (f' := (mkF m 1 #[.val (.int (Int32.ofNat nk)), .val (.int c0), .val (.int c1), .val (.int c2), .val (.int c3)] [(.int (Int32.ofNat nk))])) (fun _ k => XS.iloadN X0.here hx rfl (hb hby d_method_4_code_0) rfl k) ?_
  have J1 : ∀ (Tj1 : State) , Stand p l e ({ frames := 1, cells := 0, slots := 0, locals := 12 } : Room) s m #[(.int (Int32.ofNat nk)), (.int c0), (.int c1), (.int c2), (.int c3)] below meth c Tj1 [] 0 0 → Tj1.heap = h0 → (0 < nk → Ws c0) → Go p e below P Tj1 (mkF m 13 #[.val (.int (Int32.ofNat nk)), .val (.int c0), .val (.int c1), .val (.int c2), .val (.int c3)] []) := by
    intro Tj1  Xj1 ej1 jw0
    refine Go.of (T' := Tj1) (f' := (mkF m 14 #[.val (.int (Int32.ofNat nk)), .val (.int c0), .val (.int c1), .val (.int c2), .val (.int c3)] [(.int (Int32.ofNat nk))])) (fun _ k => XS.iloadN Xj1.here hx rfl (hb hby d_method_4_code_13) rfl k) ?_
    refine Go.of (T' := Tj1) (f' := (mkF m 15 #[.val (.int (Int32.ofNat nk)), .val (.int c0), .val (.int c1), .val (.int c2), .val (.int c3)] [(.int (1 : Int32)), (.int (Int32.ofNat nk))])) (fun _ k => XS.iconst Xj1.here hx rfl (hb hby d_method_4_code_14) k) ?_
    have J2 : ∀ (Tj2 : State) , Stand p l e ({ frames := 1, cells := 0, slots := 0, locals := 12 } : Room) s m #[(.int (Int32.ofNat nk)), (.int c0), (.int c1), (.int c2), (.int c3)] below meth c Tj2 [] 0 0 → Tj2.heap = h0 → (1 < nk → Ws c1) → Go p e below P Tj2 (mkF m 27 #[.val (.int (Int32.ofNat nk)), .val (.int c0), .val (.int c1), .val (.int c2), .val (.int c3)] []) := by
      intro Tj2  Xj2 ej2 jw1
      refine Go.of (T' := Tj2) (f' := (mkF m 28 #[.val (.int (Int32.ofNat nk)), .val (.int c0), .val (.int c1), .val (.int c2), .val (.int c3)] [(.int (Int32.ofNat nk))])) (fun _ k => XS.iloadN Xj2.here hx rfl (hb hby d_method_4_code_27) rfl k) ?_
      refine Go.of (T' := Tj2) (f' := (mkF m 29 #[.val (.int (Int32.ofNat nk)), .val (.int c0), .val (.int c1), .val (.int c2), .val (.int c3)] [(.int (2 : Int32)), (.int (Int32.ofNat nk))])) (fun _ k => XS.iconst Xj2.here hx rfl (hb hby d_method_4_code_28) k) ?_
      have J3 : ∀ (Tj3 : State) , Stand p l e ({ frames := 1, cells := 0, slots := 0, locals := 12 } : Room) s m #[(.int (Int32.ofNat nk)), (.int c0), (.int c1), (.int c2), (.int c3)] below meth c Tj3 [] 0 0 → Tj3.heap = h0 → (2 < nk → Ws c2) → Go p e below P Tj3 (mkF m 41 #[.val (.int (Int32.ofNat nk)), .val (.int c0), .val (.int c1), .val (.int c2), .val (.int c3)] []) := by
        intro Tj3  Xj3 ej3 jw2
        refine Go.of (T' := Tj3) (f' := (mkF m 42 #[.val (.int (Int32.ofNat nk)), .val (.int c0), .val (.int c1), .val (.int c2), .val (.int c3)] [(.int (Int32.ofNat nk))])) (fun _ k => XS.iloadN Xj3.here hx rfl (hb hby d_method_4_code_41) rfl k) ?_
        refine Go.of (T' := Tj3) (f' := (mkF m 43 #[.val (.int (Int32.ofNat nk)), .val (.int c0), .val (.int c1), .val (.int c2), .val (.int c3)] [(.int (3 : Int32)), (.int (Int32.ofNat nk))])) (fun _ k => XS.iconst Xj3.here hx rfl (hb hby d_method_4_code_42) k) ?_
        have J4 : ∀ (Tj4 : State) , Stand p l e ({ frames := 1, cells := 0, slots := 0, locals := 12 } : Room) s m #[(.int (Int32.ofNat nk)), (.int c0), (.int c1), (.int c2), (.int c3)] below meth c Tj4 [] 0 0 → Tj4.heap = h0 → (3 < nk → Ws c3) → Go p e below P Tj4 (mkF m 56 #[.val (.int (Int32.ofNat nk)), .val (.int c0), .val (.int c1), .val (.int c2), .val (.int c3)] []) := by
          intro Tj4  Xj4 ej4 jw3
          refine Go.of (T' := Tj4) (f' := (mkF m 57 #[.val (.int (Int32.ofNat nk)), .val (.int c0), .val (.int c1), .val (.int c2), .val (.int c3)] [(.int (Int32.ofNat nk))])) (fun _ k => XS.iloadN Xj4.here hx rfl (hb hby d_method_4_code_56) rfl k) ?_
          exact goRetI (Q := Pu h0 (fun v => v = some (.int (Int32.ofNat (fst (List.take nk [c0, c1, c2, c3])))))) Xj4 hx (t := .int) hret hlk rfl (by simp) (hb hby d_method_4_code_57) K (by decide) (by decide) ej4 (⟨rfl, rfl, by rw [fn4 hnk jw0 jw1 jw2 jw3]⟩)
        by_cases hc43 : (3 : Int32) < (Int32.ofNat nk)
        ·
          refine Go.of (T' := Tj3) (f' := (mkF m 46 #[.val (.int (Int32.ofNat nk)), .val (.int c0), .val (.int c1), .val (.int c2), .val (.int c3)] [])) (fun _ k => XS.icmpNo Xj3.here hx rfl (hb hby d_method_4_code_43) rfl (tlt hc43).2.2.2 k) ?_
          refine Go.of (T' := Tj3) (f' := (mkF m 48 #[.val (.int (Int32.ofNat nk)), .val (.int c0), .val (.int c1), .val (.int c2), .val (.int c3)] [(.int c3)])) (fun _ k => XS.iload Xj3.here hx rfl (hb hby d_method_4_code_46) rfl k) ?_
          refine goS Xj3 hx hZ hown (hw _ (List.mem_of_getElem? (i := 92) rfl)) (hw _ (List.mem_of_getElem? (i := 93) rfl)) (hw _ (List.mem_of_getElem? (i := 3) rfl)) (hw _ (List.mem_of_getElem? (i := 94) rfl)) (by decide) (C := 0) (S := 0) ((rm_ws l Z a0 hw c3 h0 ).bk (W := 0) hZ (hw _ (List.mem_of_getElem? (i := 94) rfl)) (hw _ (List.mem_of_getElem? (i := 3) rfl)) (by decide) (by decide)) ej3 (argsL := [(.int c3)]) (rest := []) (by rw [hml]; rfl) (lenOf pd__C_Z rfl) rfl rfl (hb hby d_method_4_code_48) (Nat.le_of_eq rfl) (by decide) (by decide) ?_
          intro v5 T5 L5 X5 hQ5
          obtain ⟨nq5, e5, rfl⟩ := hQ5
          replace X5 := standNil X5 nq5
          show Go p e below P T5 (mkF m 51 #[.val (.int (Int32.ofNat nk)), .val (.int c0), .val (.int c1), .val (.int c2), .val (.int c3)] [(.int (bi (Ws c3)))])
          by_cases hc51 : Ws c3
          ·
            refine Go.of (T' := T5) (f' := (mkF m 56 #[.val (.int (Int32.ofNat nk)), .val (.int c0), .val (.int c1), .val (.int c2), .val (.int c3)] [])) (fun _ k => XS.ifYes X5.here hx rfl (pc0 := 51) (pc' := 56) rfl (hb hby d_method_4_code_51) rfl ((if0 _ _).trans (feq (bi_ne hc51)).2) (by decide) (by decide) k) ?_
            exact J4 T5  X5 e5 (fun _ => hc51)
          ·
            refine Go.of (T' := T5) (f' := (mkF m 54 #[.val (.int (Int32.ofNat nk)), .val (.int c0), .val (.int c1), .val (.int c2), .val (.int c3)] [])) (fun _ k => XS.ifNo X5.here hx rfl (hb hby d_method_4_code_51) rfl ((if0 _ _).trans (teq (bi_f hc51)).2) k) ?_
            refine Go.of (T' := T5) (f' := (mkF m 55 #[.val (.int (Int32.ofNat nk)), .val (.int c0), .val (.int c1), .val (.int c2), .val (.int c3)] [(.int (3 : Int32))])) (fun _ k => XS.iconst X5.here hx rfl (hb hby d_method_4_code_54) k) ?_
            exact goRetI (Q := Pu h0 (fun v => v = some (.int (Int32.ofNat (fst (List.take nk [c0, c1, c2, c3])))))) X5 hx (t := .int) hret hlk rfl (by simp) (hb hby d_method_4_code_55) K (by decide) (by decide) e5 (⟨rfl, rfl, by rw [fn3 ((ltK (j := 3) hnk (by omega)).mp hc43) jw0 jw1 jw2 hc51]; rfl⟩)
        ·
          refine Go.of (T' := Tj3) (f' := (mkF m 56 #[.val (.int (Int32.ofNat nk)), .val (.int c0), .val (.int c1), .val (.int c2), .val (.int c3)] [])) (fun _ k => XS.icmpYes Xj3.here hx rfl (pc0 := 43) (pc' := 56) rfl (hb hby d_method_4_code_43) rfl (flt hc43).2.2.2 (by decide) (by decide) k) ?_
          exact J4 Tj3  Xj3 ej3 (fun q => absurd ((ltK (j := 3) hnk (by omega)).mpr q) hc43)
      by_cases hc29 : (2 : Int32) < (Int32.ofNat nk)
      ·
        refine Go.of (T' := Tj2) (f' := (mkF m 32 #[.val (.int (Int32.ofNat nk)), .val (.int c0), .val (.int c1), .val (.int c2), .val (.int c3)] [])) (fun _ k => XS.icmpNo Xj2.here hx rfl (hb hby d_method_4_code_29) rfl (tlt hc29).2.2.2 k) ?_
        refine Go.of (T' := Tj2) (f' := (mkF m 33 #[.val (.int (Int32.ofNat nk)), .val (.int c0), .val (.int c1), .val (.int c2), .val (.int c3)] [(.int c2)])) (fun _ k => XS.iloadN Xj2.here hx rfl (hb hby d_method_4_code_32) rfl k) ?_
        refine goS Xj2 hx hZ hown (hw _ (List.mem_of_getElem? (i := 92) rfl)) (hw _ (List.mem_of_getElem? (i := 93) rfl)) (hw _ (List.mem_of_getElem? (i := 3) rfl)) (hw _ (List.mem_of_getElem? (i := 94) rfl)) (by decide) (C := 0) (S := 0) ((rm_ws l Z a0 hw c2 h0 ).bk (W := 0) hZ (hw _ (List.mem_of_getElem? (i := 94) rfl)) (hw _ (List.mem_of_getElem? (i := 3) rfl)) (by decide) (by decide)) ej2 (argsL := [(.int c2)]) (rest := []) (by rw [hml]; rfl) (lenOf pd__C_Z rfl) rfl rfl (hb hby d_method_4_code_33) (Nat.le_of_eq rfl) (by decide) (by decide) ?_
        intro v6 T6 L6 X6 hQ6
        obtain ⟨nq6, e6, rfl⟩ := hQ6
        replace X6 := standNil X6 nq6
        show Go p e below P T6 (mkF m 36 #[.val (.int (Int32.ofNat nk)), .val (.int c0), .val (.int c1), .val (.int c2), .val (.int c3)] [(.int (bi (Ws c2)))])
        by_cases hc36 : Ws c2
        ·
          refine Go.of (T' := T6) (f' := (mkF m 41 #[.val (.int (Int32.ofNat nk)), .val (.int c0), .val (.int c1), .val (.int c2), .val (.int c3)] [])) (fun _ k => XS.ifYes X6.here hx rfl (pc0 := 36) (pc' := 41) rfl (hb hby d_method_4_code_36) rfl ((if0 _ _).trans (feq (bi_ne hc36)).2) (by decide) (by decide) k) ?_
          exact J3 T6  X6 e6 (fun _ => hc36)
        ·
          refine Go.of (T' := T6) (f' := (mkF m 39 #[.val (.int (Int32.ofNat nk)), .val (.int c0), .val (.int c1), .val (.int c2), .val (.int c3)] [])) (fun _ k => XS.ifNo X6.here hx rfl (hb hby d_method_4_code_36) rfl ((if0 _ _).trans (teq (bi_f hc36)).2) k) ?_
          refine Go.of (T' := T6) (f' := (mkF m 40 #[.val (.int (Int32.ofNat nk)), .val (.int c0), .val (.int c1), .val (.int c2), .val (.int c3)] [(.int (2 : Int32))])) (fun _ k => XS.iconst X6.here hx rfl (hb hby d_method_4_code_39) k) ?_
          exact goRetI (Q := Pu h0 (fun v => v = some (.int (Int32.ofNat (fst (List.take nk [c0, c1, c2, c3])))))) X6 hx (t := .int) hret hlk rfl (by simp) (hb hby d_method_4_code_40) K (by decide) (by decide) e6 (⟨rfl, rfl, by rw [fn2 ((ltK (j := 2) hnk (by omega)).mp hc29) jw0 jw1 hc36]; rfl⟩)
      ·
        refine Go.of (T' := Tj2) (f' := (mkF m 41 #[.val (.int (Int32.ofNat nk)), .val (.int c0), .val (.int c1), .val (.int c2), .val (.int c3)] [])) (fun _ k => XS.icmpYes Xj2.here hx rfl (pc0 := 29) (pc' := 41) rfl (hb hby d_method_4_code_29) rfl (flt hc29).2.2.2 (by decide) (by decide) k) ?_
        exact J3 Tj2  Xj2 ej2 (fun q => absurd ((ltK (j := 2) hnk (by omega)).mpr q) hc29)
    by_cases hc15 : (1 : Int32) < (Int32.ofNat nk)
    ·
      refine Go.of (T' := Tj1) (f' := (mkF m 18 #[.val (.int (Int32.ofNat nk)), .val (.int c0), .val (.int c1), .val (.int c2), .val (.int c3)] [])) (fun _ k => XS.icmpNo Xj1.here hx rfl (hb hby d_method_4_code_15) rfl (tlt hc15).2.2.2 k) ?_
      refine Go.of (T' := Tj1) (f' := (mkF m 19 #[.val (.int (Int32.ofNat nk)), .val (.int c0), .val (.int c1), .val (.int c2), .val (.int c3)] [(.int c1)])) (fun _ k => XS.iloadN Xj1.here hx rfl (hb hby d_method_4_code_18) rfl k) ?_
      refine goS Xj1 hx hZ hown (hw _ (List.mem_of_getElem? (i := 92) rfl)) (hw _ (List.mem_of_getElem? (i := 93) rfl)) (hw _ (List.mem_of_getElem? (i := 3) rfl)) (hw _ (List.mem_of_getElem? (i := 94) rfl)) (by decide) (C := 0) (S := 0) ((rm_ws l Z a0 hw c1 h0 ).bk (W := 0) hZ (hw _ (List.mem_of_getElem? (i := 94) rfl)) (hw _ (List.mem_of_getElem? (i := 3) rfl)) (by decide) (by decide)) ej1 (argsL := [(.int c1)]) (rest := []) (by rw [hml]; rfl) (lenOf pd__C_Z rfl) rfl rfl (hb hby d_method_4_code_19) (Nat.le_of_eq rfl) (by decide) (by decide) ?_
      intro v7 T7 L7 X7 hQ7
      obtain ⟨nq7, e7, rfl⟩ := hQ7
      replace X7 := standNil X7 nq7
      show Go p e below P T7 (mkF m 22 #[.val (.int (Int32.ofNat nk)), .val (.int c0), .val (.int c1), .val (.int c2), .val (.int c3)] [(.int (bi (Ws c1)))])
      by_cases hc22 : Ws c1
      ·
        refine Go.of (T' := T7) (f' := (mkF m 27 #[.val (.int (Int32.ofNat nk)), .val (.int c0), .val (.int c1), .val (.int c2), .val (.int c3)] [])) (fun _ k => XS.ifYes X7.here hx rfl (pc0 := 22) (pc' := 27) rfl (hb hby d_method_4_code_22) rfl ((if0 _ _).trans (feq (bi_ne hc22)).2) (by decide) (by decide) k) ?_
        exact J2 T7  X7 e7 (fun _ => hc22)
      ·
        refine Go.of (T' := T7) (f' := (mkF m 25 #[.val (.int (Int32.ofNat nk)), .val (.int c0), .val (.int c1), .val (.int c2), .val (.int c3)] [])) (fun _ k => XS.ifNo X7.here hx rfl (hb hby d_method_4_code_22) rfl ((if0 _ _).trans (teq (bi_f hc22)).2) k) ?_
        refine Go.of (T' := T7) (f' := (mkF m 26 #[.val (.int (Int32.ofNat nk)), .val (.int c0), .val (.int c1), .val (.int c2), .val (.int c3)] [(.int (1 : Int32))])) (fun _ k => XS.iconst X7.here hx rfl (hb hby d_method_4_code_25) k) ?_
        exact goRetI (Q := Pu h0 (fun v => v = some (.int (Int32.ofNat (fst (List.take nk [c0, c1, c2, c3])))))) X7 hx (t := .int) hret hlk rfl (by simp) (hb hby d_method_4_code_26) K (by decide) (by decide) e7 (⟨rfl, rfl, by rw [fn1 ((ltK (j := 1) hnk (by omega)).mp hc15) jw0 hc22]; rfl⟩)
    ·
      refine Go.of (T' := Tj1) (f' := (mkF m 27 #[.val (.int (Int32.ofNat nk)), .val (.int c0), .val (.int c1), .val (.int c2), .val (.int c3)] [])) (fun _ k => XS.icmpYes Xj1.here hx rfl (pc0 := 15) (pc' := 27) rfl (hb hby d_method_4_code_15) rfl (flt hc15).2.2.2 (by decide) (by decide) k) ?_
      exact J2 Tj1  Xj1 ej1 (fun q => absurd ((ltK (j := 1) hnk (by omega)).mpr q) hc15)
  by_cases hc1 : (0 : Int32) < (Int32.ofNat nk)
  ·
    refine Go.of (T' := s₁) (f' := (mkF m 4 #[.val (.int (Int32.ofNat nk)), .val (.int c0), .val (.int c1), .val (.int c2), .val (.int c3)] [])) (fun _ k => XS.ifNo X0.here hx rfl (hb hby d_method_4_code_1) rfl ((if0 _ _).trans (tlt hc1).2.2.2) k) ?_
    refine Go.of (T' := s₁) (f' := (mkF m 5 #[.val (.int (Int32.ofNat nk)), .val (.int c0), .val (.int c1), .val (.int c2), .val (.int c3)] [(.int c0)])) (fun _ k => XS.iloadN X0.here hx rfl (hb hby d_method_4_code_4) rfl k) ?_
    refine goS X0 hx hZ hown (hw _ (List.mem_of_getElem? (i := 92) rfl)) (hw _ (List.mem_of_getElem? (i := 93) rfl)) (hw _ (List.mem_of_getElem? (i := 3) rfl)) (hw _ (List.mem_of_getElem? (i := 94) rfl)) (by decide) (C := 0) (S := 0) ((rm_ws l Z a0 hw c0 h0 ).bk (W := 0) hZ (hw _ (List.mem_of_getElem? (i := 94) rfl)) (hw _ (List.mem_of_getElem? (i := 3) rfl)) (by decide) (by decide)) e0 (argsL := [(.int c0)]) (rest := []) (by rw [hml]; rfl) (lenOf pd__C_Z rfl) rfl rfl (hb hby d_method_4_code_5) (Nat.le_of_eq rfl) (by decide) (by decide) ?_
    intro v8 T8 L8 X8 hQ8
    obtain ⟨nq8, e8, rfl⟩ := hQ8
    replace X8 := standNil X8 nq8
    show Go p e below P T8 (mkF m 8 #[.val (.int (Int32.ofNat nk)), .val (.int c0), .val (.int c1), .val (.int c2), .val (.int c3)] [(.int (bi (Ws c0)))])
    by_cases hc8 : Ws c0
    ·
      refine Go.of (T' := T8) (f' := (mkF m 13 #[.val (.int (Int32.ofNat nk)), .val (.int c0), .val (.int c1), .val (.int c2), .val (.int c3)] [])) (fun _ k => XS.ifYes X8.here hx rfl (pc0 := 8) (pc' := 13) rfl (hb hby d_method_4_code_8) rfl ((if0 _ _).trans (feq (bi_ne hc8)).2) (by decide) (by decide) k) ?_
      exact J1 T8  X8 e8 (fun _ => hc8)
    ·
      refine Go.of (T' := T8) (f' := (mkF m 11 #[.val (.int (Int32.ofNat nk)), .val (.int c0), .val (.int c1), .val (.int c2), .val (.int c3)] [])) (fun _ k => XS.ifNo X8.here hx rfl (hb hby d_method_4_code_8) rfl ((if0 _ _).trans (teq (bi_f hc8)).2) k) ?_
      refine Go.of (T' := T8) (f' := (mkF m 12 #[.val (.int (Int32.ofNat nk)), .val (.int c0), .val (.int c1), .val (.int c2), .val (.int c3)] [(.int (0 : Int32))])) (fun _ k => XS.iconst X8.here hx rfl (hb hby d_method_4_code_11) k) ?_
      exact goRetI (Q := Pu h0 (fun v => v = some (.int (Int32.ofNat (fst (List.take nk [c0, c1, c2, c3])))))) X8 hx (t := .int) hret hlk rfl (by simp) (hb hby d_method_4_code_12) K (by decide) (by decide) e8 (⟨rfl, rfl, by rw [fn0 ((ltK (j := 0) hnk (by omega)).mp hc1)  hc8]; rfl⟩)
  ·
    refine Go.of (T' := s₁) (f' := (mkF m 13 #[.val (.int (Int32.ofNat nk)), .val (.int c0), .val (.int c1), .val (.int c2), .val (.int c3)] [])) (fun _ k => XS.ifYes X0.here hx rfl (pc0 := 1) (pc' := 13) rfl (hb hby d_method_4_code_1) rfl ((if0 _ _).trans (flt hc1).2.2.2) (by decide) (by decide) k) ?_
    exact J1 s₁  X0 e0 (fun q => absurd ((ltK (j := 0) hnk (by omega)).mpr q) hc1)
theorem at3 {i : Nat} {c0 c1 c2 c3 : Int32} (hi : i < 4) (h0 : ¬ Int32.ofNat i = (0 : Int32)) (h1 : ¬ Int32.ofNat i = (1 : Int32)) (h2 : ¬ Int32.ofNat i = (2 : Int32)) : i = 3 := by
  have a0 : i ≠ 0 := fun q => h0 (by rw [q]; rfl)
  have a1 : i ≠ 1 := fun q => h1 (by rw [q]; rfl)
  have a2 : i ≠ 2 := fun q => h2 (by rw [q]; rfl)
  omega
theorem n5 (p : Int32) : ∃ k : Nat, k < 5 ∧ ((p &&& (2147483647 : Int32)) % (5 : Int32)) = Int32.ofNat k := by
  have h := c_mask p 2147483647 31 (by decide) (by decide)
  have r := c_irem (p &&& (2147483647 : Int32)) 5 5 (by decide)
  refine ⟨((p &&& (2147483647 : Int32)) % (5 : Int32)).toInt.toNat, by omega, ?_⟩
  apply Int32.toInt_inj.mp
  rw [n32i (by omega)]; omega
theorem ef_rm_at (m : MethodId) (x0 : Int32) (x1 : Int32) (x2 : Int32) (x3 : Int32) (x4 : Int32)  : entryFrame m #[(.int x0), (.int x1), (.int x2), (.int x3), (.int x4)] 5 = mkF m 0 #[.val (.int x0), .val (.int x1), .val (.int x2), .val (.int x3), .val (.int x4)] [] := by first | (simp [entryFrame, mkF, argsToLocals, Value.category]; done) | rfl
theorem d_method_5_code_0 : decode method_5_code 0 = .ok (.iload_n 0, 1) := by decide +kernel
theorem d_method_5_code_1 : decode method_5_code 1 = .ok (.ifCond .ne 5, 3) := by decide +kernel
theorem d_method_5_code_4 : decode method_5_code 4 = .ok (.iload_n 1, 1) := by decide +kernel
theorem d_method_5_code_5 : decode method_5_code 5 = .ok (.ireturn, 1) := by decide +kernel
theorem d_method_5_code_6 : decode method_5_code 6 = .ok (.iload_n 0, 1) := by decide +kernel
theorem d_method_5_code_7 : decode method_5_code 7 = .ok (.iconst 1, 1) := by decide +kernel
theorem d_method_5_code_8 : decode method_5_code 8 = .ok (.if_icmp .ne 5, 3) := by decide +kernel
theorem d_method_5_code_11 : decode method_5_code 11 = .ok (.iload_n 2, 1) := by decide +kernel
theorem d_method_5_code_12 : decode method_5_code 12 = .ok (.ireturn, 1) := by decide +kernel
theorem d_method_5_code_13 : decode method_5_code 13 = .ok (.iload_n 0, 1) := by decide +kernel
theorem d_method_5_code_14 : decode method_5_code 14 = .ok (.iconst 2, 1) := by decide +kernel
theorem d_method_5_code_15 : decode method_5_code 15 = .ok (.if_icmp .ne 5, 3) := by decide +kernel
theorem d_method_5_code_18 : decode method_5_code 18 = .ok (.iload_n 3, 1) := by decide +kernel
theorem d_method_5_code_19 : decode method_5_code 19 = .ok (.ireturn, 1) := by decide +kernel
theorem d_method_5_code_20 : decode method_5_code 20 = .ok (.iload 4, 2) := by decide +kernel
theorem d_method_5_code_22 : decode method_5_code 22 = .ok (.ireturn, 1) := by decide +kernel
set_option maxRecDepth 65536 in
set_option maxHeartbeats 40000000 in
theorem rm_at (l : Launch) (Z : State) (a0 : Array Value) (hw : ∀ d ∈ tables_1, d.before a0 Z = true) (i : Nat) (c0 c1 c2 c3 : Int32) (h0 : Heap) (hi : i < 4) :
    MeetsW l Z (⟨"com/example/rezeptkern/rezeptkern/JsonCursorPeekPinLaw", "at", "(ICCCC)I"⟩ : MethodName) method_5_code 5 (some .int) ({ frames := 0, cells := 0, slots := 0, locals := 0 } : Room) #[(.int (Int32.ofNat i)), (.int c0), (.int c1), (.int c2), (.int c3)] h0 (Pu h0 (fun v => v = some (.int (([c0, c1, c2, c3] : List Int32).getD i 0)))) := by
  refine MeetsW.of (plainFor_of_name pn_com_example_rezeptkern_rezeptkern_JsonCursorPeekPinLaw) ?_
  intro p e s m below meth c s₁ P hx hby hml hZ hown hnm hret hlk X0 e0 K
  have M0 : Mv h0 h0 [] [] := Mv.refl _ _
  refine Go.cast (ef_rm_at m (Int32.ofNat i) c0 c1 c2 c3 ) ?_
  refine Go.of (T' := s₁) (f' := (mkF m 1 #[.val (.int (Int32.ofNat i)), .val (.int c0), .val (.int c1), .val (.int c2), .val (.int c3)] [(.int (Int32.ofNat i))])) (fun _ k => XS.iloadN X0.here hx rfl (hb hby d_method_5_code_0) rfl k) ?_
  by_cases hc1 : (Int32.ofNat i) = (0 : Int32)
  ·
    refine Go.of (T' := s₁) (f' := (mkF m 4 #[.val (.int (Int32.ofNat i)), .val (.int c0), .val (.int c1), .val (.int c2), .val (.int c3)] [])) (fun _ k => XS.ifNo X0.here hx rfl (hb hby d_method_5_code_1) rfl ((if0 _ _).trans (teq hc1).2) k) ?_
    refine Go.of (T' := s₁) (f' := (mkF m 5 #[.val (.int (Int32.ofNat i)), .val (.int c0), .val (.int c1), .val (.int c2), .val (.int c3)] [(.int c0)])) (fun _ k => XS.iloadN X0.here hx rfl (hb hby d_method_5_code_4) rfl k) ?_
    exact goRetI (Q := Pu h0 (fun v => v = some (.int (([c0, c1, c2, c3] : List Int32).getD i 0)))) X0 hx (t := .int) hret hlk rfl (by simp) (hb hby d_method_5_code_5) K (by decide) (by decide) e0 (⟨rfl, rfl, by rw [show i = 0 from ofk (j := 0) (by omega) (by omega) hc1]; rfl⟩)
  ·
    refine Go.of (T' := s₁) (f' := (mkF m 6 #[.val (.int (Int32.ofNat i)), .val (.int c0), .val (.int c1), .val (.int c2), .val (.int c3)] [])) (fun _ k => XS.ifYes X0.here hx rfl (pc0 := 1) (pc' := 6) rfl (hb hby d_method_5_code_1) rfl ((if0 _ _).trans (feq hc1).2) (by decide) (by decide) k) ?_
    refine Go.of (T' := s₁) (f' := (mkF m 7 #[.val (.int (Int32.ofNat i)), .val (.int c0), .val (.int c1), .val (.int c2), .val (.int c3)] [(.int (Int32.ofNat i))])) (fun _ k => XS.iloadN X0.here hx rfl (hb hby d_method_5_code_6) rfl k) ?_
    refine Go.of (T' := s₁) (f' := (mkF m 8 #[.val (.int (Int32.ofNat i)), .val (.int c0), .val (.int c1), .val (.int c2), .val (.int c3)] [(.int (1 : Int32)), (.int (Int32.ofNat i))])) (fun _ k => XS.iconst X0.here hx rfl (hb hby d_method_5_code_7) k) ?_
    by_cases hc8 : (Int32.ofNat i) = (1 : Int32)
    ·
      refine Go.of (T' := s₁) (f' := (mkF m 11 #[.val (.int (Int32.ofNat i)), .val (.int c0), .val (.int c1), .val (.int c2), .val (.int c3)] [])) (fun _ k => XS.icmpNo X0.here hx rfl (hb hby d_method_5_code_8) rfl (teq hc8).2 k) ?_
      refine Go.of (T' := s₁) (f' := (mkF m 12 #[.val (.int (Int32.ofNat i)), .val (.int c0), .val (.int c1), .val (.int c2), .val (.int c3)] [(.int c1)])) (fun _ k => XS.iloadN X0.here hx rfl (hb hby d_method_5_code_11) rfl k) ?_
      exact goRetI (Q := Pu h0 (fun v => v = some (.int (([c0, c1, c2, c3] : List Int32).getD i 0)))) X0 hx (t := .int) hret hlk rfl (by simp) (hb hby d_method_5_code_12) K (by decide) (by decide) e0 (⟨rfl, rfl, by rw [show i = 1 from ofk (j := 1) (by omega) (by omega) hc8]; rfl⟩)
    ·
      refine Go.of (T' := s₁) (f' := (mkF m 13 #[.val (.int (Int32.ofNat i)), .val (.int c0), .val (.int c1), .val (.int c2), .val (.int c3)] [])) (fun _ k => XS.icmpYes X0.here hx rfl (pc0 := 8) (pc' := 13) rfl (hb hby d_method_5_code_8) rfl (feq hc8).2 (by decide) (by decide) k) ?_
      refine Go.of (T' := s₁) (f' := (mkF m 14 #[.val (.int (Int32.ofNat i)), .val (.int c0), .val (.int c1), .val (.int c2), .val (.int c3)] [(.int (Int32.ofNat i))])) (fun _ k => XS.iloadN X0.here hx rfl (hb hby d_method_5_code_13) rfl k) ?_
      refine Go.of (T' := s₁) (f' := (mkF m 15 #[.val (.int (Int32.ofNat i)), .val (.int c0), .val (.int c1), .val (.int c2), .val (.int c3)] [(.int (2 : Int32)), (.int (Int32.ofNat i))])) (fun _ k => XS.iconst X0.here hx rfl (hb hby d_method_5_code_14) k) ?_
      by_cases hc15 : (Int32.ofNat i) = (2 : Int32)
      ·
        refine Go.of (T' := s₁) (f' := (mkF m 18 #[.val (.int (Int32.ofNat i)), .val (.int c0), .val (.int c1), .val (.int c2), .val (.int c3)] [])) (fun _ k => XS.icmpNo X0.here hx rfl (hb hby d_method_5_code_15) rfl (teq hc15).2 k) ?_
        refine Go.of (T' := s₁) (f' := (mkF m 19 #[.val (.int (Int32.ofNat i)), .val (.int c0), .val (.int c1), .val (.int c2), .val (.int c3)] [(.int c2)])) (fun _ k => XS.iloadN X0.here hx rfl (hb hby d_method_5_code_18) rfl k) ?_
        exact goRetI (Q := Pu h0 (fun v => v = some (.int (([c0, c1, c2, c3] : List Int32).getD i 0)))) X0 hx (t := .int) hret hlk rfl (by simp) (hb hby d_method_5_code_19) K (by decide) (by decide) e0 (⟨rfl, rfl, by rw [show i = 2 from ofk (j := 2) (by omega) (by omega) hc15]; rfl⟩)
      ·
        refine Go.of (T' := s₁) (f' := (mkF m 20 #[.val (.int (Int32.ofNat i)), .val (.int c0), .val (.int c1), .val (.int c2), .val (.int c3)] [])) (fun _ k => XS.icmpYes X0.here hx rfl (pc0 := 15) (pc' := 20) rfl (hb hby d_method_5_code_15) rfl (feq hc15).2 (by decide) (by decide) k) ?_
        refine Go.of (T' := s₁) (f' := (mkF m 22 #[.val (.int (Int32.ofNat i)), .val (.int c0), .val (.int c1), .val (.int c2), .val (.int c3)] [(.int c3)])) (fun _ k => XS.iload X0.here hx rfl (hb hby d_method_5_code_20) rfl k) ?_
        exact goRetI (Q := Pu h0 (fun v => v = some (.int (([c0, c1, c2, c3] : List Int32).getD i 0)))) X0 hx (t := .int) hret hlk rfl (by simp) (hb hby d_method_5_code_22) K (by decide) (by decide) e0 (⟨rfl, rfl, by rw [show i = 3 from at3 (c0 := c0) (c1 := c1) (c2 := c2) (c3 := c3) hi hc1 hc8 hc15]; rfl⟩)
theorem mk4 {k : Nat} (hk : k < 5) (h0 : ¬ Int32.ofNat k = (0 : Int32)) (h1 : ¬ Int32.ofNat k = (1 : Int32)) (h2 : ¬ Int32.ofNat k = (2 : Int32)) (h3 : ¬ Int32.ofNat k = (3 : Int32)) : k = 4 := by
  have a0 : k ≠ 0 := fun q => h0 (by rw [q]; rfl)
  have a1 : k ≠ 1 := fun q => h1 (by rw [q]; rfl)
  have a2 : k ≠ 2 := fun q => h2 (by rw [q]; rfl)
  have a3 : k ≠ 3 := fun q => h3 (by rw [q]; rfl)
  omega
theorem ef_rm_make (m : MethodId) (x0 : Int32) (x1 : Int32) (x2 : Int32) (x3 : Int32) (x4 : Int32)  : entryFrame m #[(.int x0), (.int x1), (.int x2), (.int x3), (.int x4)] 5 = mkF m 0 #[.val (.int x0), .val (.int x1), .val (.int x2), .val (.int x3), .val (.int x4)] [] := by first | (simp [entryFrame, mkF, argsToLocals, Value.category]; done) | rfl
theorem d_method_6_code_0 : decode method_6_code 0 = .ok (.iload_n 0, 1) := by decide +kernel
theorem d_method_6_code_1 : decode method_6_code 1 = .ok (.ifCond .ne 14, 3) := by decide +kernel
theorem d_method_6_code_4 : decode method_6_code 4 = .ok (.new 14, 3) := by decide +kernel
theorem d_method_6_code_7 : decode method_6_code 7 = .ok (.dup, 1) := by decide +kernel
theorem d_method_6_code_8 : decode method_6_code 8 = .ok (.iconst 0, 1) := by decide +kernel
theorem d_method_6_code_9 : decode method_6_code 9 = .ok (.newarray .char, 2) := by decide +kernel
theorem d_method_6_code_11 : decode method_6_code 11 = .ok (.invokespecial 16, 3) := by decide +kernel
theorem pd___C_V : parseMethodDescriptor "([C)V" = some ⟨[(.array .char)], none⟩ := by decide +kernel
theorem d_method_6_code_14 : decode method_6_code 14 = .ok (.areturn, 1) := by decide +kernel
theorem d_method_6_code_15 : decode method_6_code 15 = .ok (.iload_n 0, 1) := by decide +kernel
theorem d_method_6_code_16 : decode method_6_code 16 = .ok (.iconst 1, 1) := by decide +kernel
theorem d_method_6_code_17 : decode method_6_code 17 = .ok (.if_icmp .ne 18, 3) := by decide +kernel
theorem d_method_6_code_20 : decode method_6_code 20 = .ok (.new 14, 3) := by decide +kernel
theorem d_method_6_code_23 : decode method_6_code 23 = .ok (.dup, 1) := by decide +kernel
theorem d_method_6_code_24 : decode method_6_code 24 = .ok (.iconst 1, 1) := by decide +kernel
theorem d_method_6_code_25 : decode method_6_code 25 = .ok (.newarray .char, 2) := by decide +kernel
theorem d_method_6_code_27 : decode method_6_code 27 = .ok (.dup, 1) := by decide +kernel
theorem d_method_6_code_28 : decode method_6_code 28 = .ok (.iconst 0, 1) := by decide +kernel
theorem d_method_6_code_29 : decode method_6_code 29 = .ok (.iload_n 1, 1) := by decide +kernel
theorem d_method_6_code_30 : decode method_6_code 30 = .ok (.castore, 1) := by decide +kernel
theorem d_method_6_code_31 : decode method_6_code 31 = .ok (.invokespecial 16, 3) := by decide +kernel
theorem hw_words {Z : State} {a0 : Array Value} (hw : ∀ d ∈ tables_1, d.before a0 Z = true) : ∀ d ∈ StrChars.Road.words, d.before a0 Z = true := fun d hd => hw d ((by decide +kernel : ∀ d ∈ StrChars.Road.words, d ∈ tables_1) d hd)
theorem d_method_6_code_34 : decode method_6_code 34 = .ok (.areturn, 1) := by decide +kernel
theorem d_method_6_code_35 : decode method_6_code 35 = .ok (.iload_n 0, 1) := by decide +kernel
theorem d_method_6_code_36 : decode method_6_code 36 = .ok (.iconst 2, 1) := by decide +kernel
theorem d_method_6_code_37 : decode method_6_code 37 = .ok (.if_icmp .ne 22, 3) := by decide +kernel
theorem d_method_6_code_40 : decode method_6_code 40 = .ok (.new 14, 3) := by decide +kernel
theorem d_method_6_code_43 : decode method_6_code 43 = .ok (.dup, 1) := by decide +kernel
theorem d_method_6_code_44 : decode method_6_code 44 = .ok (.iconst 2, 1) := by decide +kernel
theorem d_method_6_code_45 : decode method_6_code 45 = .ok (.newarray .char, 2) := by decide +kernel
theorem d_method_6_code_47 : decode method_6_code 47 = .ok (.dup, 1) := by decide +kernel
theorem d_method_6_code_48 : decode method_6_code 48 = .ok (.iconst 0, 1) := by decide +kernel
theorem d_method_6_code_49 : decode method_6_code 49 = .ok (.iload_n 1, 1) := by decide +kernel
theorem d_method_6_code_50 : decode method_6_code 50 = .ok (.castore, 1) := by decide +kernel
theorem d_method_6_code_51 : decode method_6_code 51 = .ok (.dup, 1) := by decide +kernel
theorem d_method_6_code_52 : decode method_6_code 52 = .ok (.iconst 1, 1) := by decide +kernel
theorem d_method_6_code_53 : decode method_6_code 53 = .ok (.iload_n 2, 1) := by decide +kernel
theorem d_method_6_code_54 : decode method_6_code 54 = .ok (.castore, 1) := by decide +kernel
theorem d_method_6_code_55 : decode method_6_code 55 = .ok (.invokespecial 16, 3) := by decide +kernel
theorem d_method_6_code_58 : decode method_6_code 58 = .ok (.areturn, 1) := by decide +kernel
theorem d_method_6_code_59 : decode method_6_code 59 = .ok (.iload_n 0, 1) := by decide +kernel
theorem d_method_6_code_60 : decode method_6_code 60 = .ok (.iconst 3, 1) := by decide +kernel
theorem d_method_6_code_61 : decode method_6_code 61 = .ok (.if_icmp .ne 26, 3) := by decide +kernel
theorem d_method_6_code_64 : decode method_6_code 64 = .ok (.new 14, 3) := by decide +kernel
theorem d_method_6_code_67 : decode method_6_code 67 = .ok (.dup, 1) := by decide +kernel
theorem d_method_6_code_68 : decode method_6_code 68 = .ok (.iconst 3, 1) := by decide +kernel
theorem d_method_6_code_69 : decode method_6_code 69 = .ok (.newarray .char, 2) := by decide +kernel
theorem d_method_6_code_71 : decode method_6_code 71 = .ok (.dup, 1) := by decide +kernel
theorem d_method_6_code_72 : decode method_6_code 72 = .ok (.iconst 0, 1) := by decide +kernel
theorem d_method_6_code_73 : decode method_6_code 73 = .ok (.iload_n 1, 1) := by decide +kernel
theorem d_method_6_code_74 : decode method_6_code 74 = .ok (.castore, 1) := by decide +kernel
theorem d_method_6_code_75 : decode method_6_code 75 = .ok (.dup, 1) := by decide +kernel
theorem d_method_6_code_76 : decode method_6_code 76 = .ok (.iconst 1, 1) := by decide +kernel
theorem d_method_6_code_77 : decode method_6_code 77 = .ok (.iload_n 2, 1) := by decide +kernel
theorem d_method_6_code_78 : decode method_6_code 78 = .ok (.castore, 1) := by decide +kernel
theorem d_method_6_code_79 : decode method_6_code 79 = .ok (.dup, 1) := by decide +kernel
theorem d_method_6_code_80 : decode method_6_code 80 = .ok (.iconst 2, 1) := by decide +kernel
theorem d_method_6_code_81 : decode method_6_code 81 = .ok (.iload_n 3, 1) := by decide +kernel
theorem d_method_6_code_82 : decode method_6_code 82 = .ok (.castore, 1) := by decide +kernel
theorem d_method_6_code_83 : decode method_6_code 83 = .ok (.invokespecial 16, 3) := by decide +kernel
theorem d_method_6_code_86 : decode method_6_code 86 = .ok (.areturn, 1) := by decide +kernel
theorem d_method_6_code_87 : decode method_6_code 87 = .ok (.new 14, 3) := by decide +kernel
theorem d_method_6_code_90 : decode method_6_code 90 = .ok (.dup, 1) := by decide +kernel
theorem d_method_6_code_91 : decode method_6_code 91 = .ok (.iconst 4, 1) := by decide +kernel
theorem d_method_6_code_92 : decode method_6_code 92 = .ok (.newarray .char, 2) := by decide +kernel
theorem d_method_6_code_94 : decode method_6_code 94 = .ok (.dup, 1) := by decide +kernel
theorem d_method_6_code_95 : decode method_6_code 95 = .ok (.iconst 0, 1) := by decide +kernel
theorem d_method_6_code_96 : decode method_6_code 96 = .ok (.iload_n 1, 1) := by decide +kernel
theorem d_method_6_code_97 : decode method_6_code 97 = .ok (.castore, 1) := by decide +kernel
theorem d_method_6_code_98 : decode method_6_code 98 = .ok (.dup, 1) := by decide +kernel
theorem d_method_6_code_99 : decode method_6_code 99 = .ok (.iconst 1, 1) := by decide +kernel
theorem d_method_6_code_100 : decode method_6_code 100 = .ok (.iload_n 2, 1) := by decide +kernel
theorem d_method_6_code_101 : decode method_6_code 101 = .ok (.castore, 1) := by decide +kernel
theorem d_method_6_code_102 : decode method_6_code 102 = .ok (.dup, 1) := by decide +kernel
theorem d_method_6_code_103 : decode method_6_code 103 = .ok (.iconst 2, 1) := by decide +kernel
theorem d_method_6_code_104 : decode method_6_code 104 = .ok (.iload_n 3, 1) := by decide +kernel
theorem d_method_6_code_105 : decode method_6_code 105 = .ok (.castore, 1) := by decide +kernel
theorem d_method_6_code_106 : decode method_6_code 106 = .ok (.dup, 1) := by decide +kernel
theorem d_method_6_code_107 : decode method_6_code 107 = .ok (.iconst 3, 1) := by decide +kernel
theorem d_method_6_code_108 : decode method_6_code 108 = .ok (.iload 4, 2) := by decide +kernel
theorem d_method_6_code_110 : decode method_6_code 110 = .ok (.castore, 1) := by decide +kernel
theorem d_method_6_code_111 : decode method_6_code 111 = .ok (.invokespecial 16, 3) := by decide +kernel
theorem d_method_6_code_114 : decode method_6_code 114 = .ok (.areturn, 1) := by decide +kernel
set_option maxRecDepth 65536 in
set_option maxHeartbeats 40000000 in
theorem rm_make (l : Launch) (Z : State) (a0 : Array Value) (hw : ∀ d ∈ tables_1, d.before a0 Z = true) (nk : Nat) (c0 c1 c2 c3 : Int32) (zc : Int32) (h0 : Heap) (hnk : nk < 5) (hb4 : ∀ c ∈ ([c0, c1, c2, c3] : List Int32), ¬ c < 0 ∧ ¬ (65535 : Int32) < c) (Z_ad : Sta Z h0 "java/lang/StringUTF16" "$assertionsDisabled" "Z" (.int (1 : Int32))) (Z_hs : Sta Z h0 "java/lang/StringUTF16" "HI_BYTE_SHIFT" "I" (.int (0 : Int32))) (Z_ls : Sta Z h0 "java/lang/StringUTF16" "LO_BYTE_SHIFT" "I" (.int (8 : Int32))) (Z_cs : Sta Z h0 "java/lang/String" "COMPACT_STRINGS" "Z" (.int zc)) (hz : ¬ zc = 0) :
    MeetsH l Z consts_1 (⟨"com/example/rezeptkern/rezeptkern/JsonCursorPeekPinLaw", "make", "(ICCCC)Ljava/lang/String;"⟩ : MethodName) method_6_code 5 (some (.object "java/lang/String")) ({ frames := 6, cells := 6, slots := 32, locals := 88 } : Room) #[(.int (Int32.ofNat nk)), (.int c0), (.int c1), (.int c2), (.int c3)] h0 (fun v h L => Mv h0 h [] L ∧ ∃ a t : Addr, v = some (.ref a) ∧ h0.size ≤ a ∧ Str Z h a t (List.take nk [c0, c1, c2, c3])) := by
  refine MeetsH.of (plainFor_of_name pn_com_example_rezeptkern_rezeptkern_JsonCursorPeekPinLaw) ?_
  intro p e s m below meth c s₁ P hx hby hml hZ hown hnm hret hlk X0 e0 hS RH K
  have hk : h0.size ≤ h0.size := Nat.le_refl _
  replace hZ : Z.Warmed39 (s.setVm s.vm).vm := hZ
  replace hown : (s.setVm s.vm).vm.findClass "com/example/rezeptkern/rezeptkern/JsonCursorPeekPinLaw" = some m.cls := hown
  have M0 : Mv h0 h0 [] [] := Mv.refl _ _
  refine Go.cast (ef_rm_make m (Int32.ofNat nk) c0 c1 c2 c3 ) ?_
  refine Go.of (T' := s₁) (f' := (mkF m 1 #[.val (.int (Int32.ofNat nk)), .val (.int c0), .val (.int c1), .val (.int c2), .val (.int c3)] [(.int (Int32.ofNat nk))])) (fun _ k => XS.iloadN X0.here hx rfl (hb hby d_method_6_code_0) rfl k) ?_
  by_cases hc1 : (Int32.ofNat nk) = (0 : Int32)
  ·
    refine Go.of (T' := s₁) (f' := (mkF m 4 #[.val (.int (Int32.ofNat nk)), .val (.int c0), .val (.int c1), .val (.int c2), .val (.int c3)] [])) (fun _ k => XS.ifNo X0.here hx rfl (hb hby d_method_6_code_1) rfl ((if0 _ _).trans (teq hc1).2) k) ?_
    obtain ⟨T1, h1, X1, e1, E1, A1, D1, -, st1⟩ := newO X0 hx hZ hown (hw _ (List.mem_of_getElem? (i := 8) rfl)) (hw _ (List.mem_of_getElem? (i := 9) rfl)) (hw _ (List.mem_of_getElem? (i := 10) rfl)) e0 (g := (mkF m 4 #[.val (.int (Int32.ofNat nk)), .val (.int c0), .val (.int c1), .val (.int c2), .val (.int c3)] [])) rfl (hb hby d_method_6_code_4) (by decide) (by decide)
    obtain ⟨b1, g1⟩ : ∃ z, z = h0.size := ⟨_, rfl⟩
    rw [← g1] at A1 D1 st1
    have fr_b1 : h0.size ≤ b1 := Nat.le_trans M0.le (Nat.le_of_eq g1.symm)
    have Sf_b1 := Safe.new (Z := Z) (EL := consts_1) (vm := s.vm) (Nat.le_of_eq g1.symm)
    have K1 := keepE E1
    have M1 := M0.ext E1
    replace hk := Nat.le_trans hk (K1).1
    have hs2 := CHr.keep (K1) sf0 RH.1
    replace Sf_b1 := Safe.keep (K1) sf0 RH.1 Sf_b1
    replace RH := RH.trans hs2
    replace Z_ad := StaKeep Z_ad K1 all0
    replace Z_hs := StaKeep Z_hs K1 all0
    replace Z_ls := StaKeep Z_ls K1 all0
    replace Z_cs := StaKeep Z_cs K1 all0
    have E_b1 := A1
    have F_value_b1 : Fld Z h1 b1 "java/lang/String" "value" "[B" .null := D1 (Or.inr (hw _ (List.mem_of_getElem? (i := 24) rfl))) (ty := (.array .byte)) (by decide)
    have F_coder_b1 : Fld Z h1 b1 "java/lang/String" "coder" "B" (.int (0 : Int32)) := D1 (Or.inr (hw _ (List.mem_of_getElem? (i := 25) rfl))) (ty := .byte) (by decide)
    refine Go.of (T' := T1) (f' := (mkF m 7 #[.val (.int (Int32.ofNat nk)), .val (.int c0), .val (.int c1), .val (.int c2), .val (.int c3)] [(.ref b1)])) st1 ?_
    refine Go.of (T' := T1) (f' := (mkF m 8 #[.val (.int (Int32.ofNat nk)), .val (.int c0), .val (.int c1), .val (.int c2), .val (.int c3)] [(.ref b1), (.ref b1)])) (fun _ k => XS.dup X1.here hx rfl (hb hby d_method_6_code_7) rfl rfl k) ?_
    refine Go.of (T' := T1) (f' := (mkF m 9 #[.val (.int (Int32.ofNat nk)), .val (.int c0), .val (.int c1), .val (.int c2), .val (.int c3)] [(.int (0 : Int32)), (.ref b1), (.ref b1)])) (fun _ k => XS.iconst X1.here hx rfl (hb hby d_method_6_code_8) k) ?_
    obtain ⟨T3, h3, k3, X3, e3, E3, A3, st3⟩ := newP X1 hx hZ (hw _ (List.mem_of_getElem? (i := 11) rfl)) e1 (g := (mkF m 9 #[.val (.int (Int32.ofNat nk)), .val (.int c0), .val (.int c1), .val (.int c2), .val (.int c3)] [(.int (0 : Int32)), (.ref b1), (.ref b1)])) rfl (hb hby d_method_6_code_9) rfl (by decide) (cap := 0) (by decide) (by decide) (by decide) (by decide)
    obtain ⟨b3, g3⟩ : ∃ z, z = h1.size := ⟨_, rfl⟩
    rw [← g3] at A3 st3
    have ne_b1_b3 : b1 ≠ b3 := Nat.ne_of_lt (Nat.lt_of_lt_of_le E_b1.lt (Nat.le_of_eq g3.symm))
    have fr_b3 : h0.size ≤ b3 := Nat.le_trans M1.le (Nat.le_of_eq g3.symm)
    have Sf_b3 := Safe.new (Z := Z) (EL := consts_1) (vm := s.vm) (Nat.le_of_eq g3.symm)
    have K3 := keepE E3
    have M3 := M1.ext E3
    replace hk := Nat.le_trans hk (K3).1
    have hs4 := CHr.keep (K3) sf0 RH.1
    replace Sf_b1 := Safe.keep (K3) sf0 RH.1 Sf_b1
    replace Sf_b3 := Safe.keep (K3) sf0 RH.1 Sf_b3
    replace RH := RH.trans hs4
    replace Z_ad := StaKeep Z_ad K3 all0
    replace Z_hs := StaKeep Z_hs K3 all0
    replace Z_ls := StaKeep Z_ls K3 all0
    replace Z_cs := StaKeep Z_cs K3 all0
    replace E_b1 := E_b1.keep K3
    replace F_value_b1 := F_value_b1.keep K3 nin0
    replace F_coder_b1 := F_coder_b1.keep K3 nin0
    have V_b3 : Arv Z h3 b3 k3 .char (0 : Int32) [] (.int (0 : Int32)) := (Arv.new A3 (by decide)).pad (pad_rep [] (.int (0 : Int32)) 0)
    refine Go.of (T' := T3) (f' := (mkF m 11 #[.val (.int (Int32.ofNat nk)), .val (.int c0), .val (.int c1), .val (.int c2), .val (.int c3)] [(.ref b3), (.ref b1), (.ref b1)])) st3 ?_
    refine goIH X3 hx hZ rfl hown (hw _ (List.mem_of_getElem? (i := 12) rfl)) (hw _ (List.mem_of_getElem? (i := 13) rfl)) (hw _ (List.mem_of_getElem? (i := 10) rfl)) (hw _ (List.mem_of_getElem? (i := 14) rfl)) (by decide) (W := 1) (C := 4) (S := 8) (rm_init0 l Z a0 hw b1 b3 _ h3 E_b1 F_value_b1 F_coder_b1 V_b3) rfl rfl (by decide) (by decide) hS hk (hEL_1 hw) RH.1 e3 (argsL := [(.ref b3)]) (rest := [(.ref b1)]) (by rw [hml]; rfl) (lenOf pd___C_V rfl) rfl rfl (hb hby d_method_6_code_11) (Nat.le_of_eq rfl) (by decide) (by decide) ?_
    intro v5 T5 L5 X5 hQ5 hS5 hZ5 hown5 A5
    obtain ⟨h5, e5⟩ : ∃ z, T5.heap = z := ⟨_, rfl⟩
    rw [e5] at hQ5 hS5 A5
    have E_b1_o := E_b1
    obtain ⟨rfl, Mc5, t5, S5⟩ := hQ5
    have M5 := M3.app Mc5 (allS (Or.inr fr_b1) all0)
    clear hS hk
    replace Sf_b1 := CHr.safe A5 E_b1.lt Sf_b1
    replace Sf_b3 := CHr.safe A5 V_b3.lt Sf_b3
    replace RH := RH.trans A5
    replace Z_ad := StaKeep Z_ad Mc5.1 (allS (staExa E_b1_o) all0)
    replace Z_hs := StaKeep Z_hs Mc5.1 (allS (staExa E_b1_o) all0)
    replace Z_ls := StaKeep Z_ls Mc5.1 (allS (staExa E_b1_o) all0)
    replace Z_cs := StaKeep Z_cs Mc5.1 (allS (staExa E_b1_o) all0)
    replace E_b1 := E_b1.keep Mc5.1
    replace V_b3 := V_b3.keep Mc5.1 (ninS (Ne.symm ne_b1_b3) nin0)
    have S_b1 := S5
    have hS := hS5
    have hk : h5.size ≤ h5.size := Nat.le_refl _
    replace hZ := hZ5
    replace hown := hown5
    show Go p e below P T5 (mkF m 14 #[.val (.int (Int32.ofNat nk)), .val (.int c0), .val (.int c1), .val (.int c2), .val (.int c3)] [(.ref b1)])
    exact goRetRH (Q := fun v h L => Mv h0 h [] L ∧ ∃ a t : Addr, v = some (.ref a) ∧ h0.size ≤ a ∧ Str Z h a t (List.take nk [c0, c1, c2, c3])) X5 hx hZ hS hk (hEL_1 hw) RH hret rfl hlk rfl rfl (hb hby d_method_6_code_14) K (by decide) (by decide) e5 (⟨M5, b1, t5, rfl, fr_b1, by rw [show nk = 0 from ofk (j := 0) (by omega) (by omega) hc1]; exact S_b1⟩)
  ·
    refine Go.of (T' := s₁) (f' := (mkF m 15 #[.val (.int (Int32.ofNat nk)), .val (.int c0), .val (.int c1), .val (.int c2), .val (.int c3)] [])) (fun _ k => XS.ifYes X0.here hx rfl (pc0 := 1) (pc' := 15) rfl (hb hby d_method_6_code_1) rfl ((if0 _ _).trans (feq hc1).2) (by decide) (by decide) k) ?_
    refine Go.of (T' := s₁) (f' := (mkF m 16 #[.val (.int (Int32.ofNat nk)), .val (.int c0), .val (.int c1), .val (.int c2), .val (.int c3)] [(.int (Int32.ofNat nk))])) (fun _ k => XS.iloadN X0.here hx rfl (hb hby d_method_6_code_15) rfl k) ?_
    refine Go.of (T' := s₁) (f' := (mkF m 17 #[.val (.int (Int32.ofNat nk)), .val (.int c0), .val (.int c1), .val (.int c2), .val (.int c3)] [(.int (1 : Int32)), (.int (Int32.ofNat nk))])) (fun _ k => XS.iconst X0.here hx rfl (hb hby d_method_6_code_16) k) ?_
    by_cases hc17 : (Int32.ofNat nk) = (1 : Int32)
    ·
      refine Go.of (T' := s₁) (f' := (mkF m 20 #[.val (.int (Int32.ofNat nk)), .val (.int c0), .val (.int c1), .val (.int c2), .val (.int c3)] [])) (fun _ k => XS.icmpNo X0.here hx rfl (hb hby d_method_6_code_17) rfl (teq hc17).2 k) ?_
      obtain ⟨T6, h6, X6, e6, E6, A6, D6, -, st6⟩ := newO X0 hx hZ hown (hw _ (List.mem_of_getElem? (i := 8) rfl)) (hw _ (List.mem_of_getElem? (i := 9) rfl)) (hw _ (List.mem_of_getElem? (i := 10) rfl)) e0 (g := (mkF m 20 #[.val (.int (Int32.ofNat nk)), .val (.int c0), .val (.int c1), .val (.int c2), .val (.int c3)] [])) rfl (hb hby d_method_6_code_20) (by decide) (by decide)
      obtain ⟨b6, g6⟩ : ∃ z, z = h0.size := ⟨_, rfl⟩
      rw [← g6] at A6 D6 st6
      have fr_b6 : h0.size ≤ b6 := Nat.le_trans M0.le (Nat.le_of_eq g6.symm)
      have Sf_b6 := Safe.new (Z := Z) (EL := consts_1) (vm := s.vm) (Nat.le_of_eq g6.symm)
      have K6 := keepE E6
      have M6 := M0.ext E6
      replace hk := Nat.le_trans hk (K6).1
      have hs7 := CHr.keep (K6) sf0 RH.1
      replace Sf_b6 := Safe.keep (K6) sf0 RH.1 Sf_b6
      replace RH := RH.trans hs7
      replace Z_ad := StaKeep Z_ad K6 all0
      replace Z_hs := StaKeep Z_hs K6 all0
      replace Z_ls := StaKeep Z_ls K6 all0
      replace Z_cs := StaKeep Z_cs K6 all0
      have E_b6 := A6
      have F_value_b6 : Fld Z h6 b6 "java/lang/String" "value" "[B" .null := D6 (Or.inr (hw _ (List.mem_of_getElem? (i := 24) rfl))) (ty := (.array .byte)) (by decide)
      have F_coder_b6 : Fld Z h6 b6 "java/lang/String" "coder" "B" (.int (0 : Int32)) := D6 (Or.inr (hw _ (List.mem_of_getElem? (i := 25) rfl))) (ty := .byte) (by decide)
      refine Go.of (T' := T6) (f' := (mkF m 23 #[.val (.int (Int32.ofNat nk)), .val (.int c0), .val (.int c1), .val (.int c2), .val (.int c3)] [(.ref b6)])) st6 ?_
      refine Go.of (T' := T6) (f' := (mkF m 24 #[.val (.int (Int32.ofNat nk)), .val (.int c0), .val (.int c1), .val (.int c2), .val (.int c3)] [(.ref b6), (.ref b6)])) (fun _ k => XS.dup X6.here hx rfl (hb hby d_method_6_code_23) rfl rfl k) ?_
      refine Go.of (T' := T6) (f' := (mkF m 25 #[.val (.int (Int32.ofNat nk)), .val (.int c0), .val (.int c1), .val (.int c2), .val (.int c3)] [(.int (1 : Int32)), (.ref b6), (.ref b6)])) (fun _ k => XS.iconst X6.here hx rfl (hb hby d_method_6_code_24) k) ?_
      obtain ⟨T8, h8, k8, X8, e8, E8, A8, st8⟩ := newP X6 hx hZ (hw _ (List.mem_of_getElem? (i := 11) rfl)) e6 (g := (mkF m 25 #[.val (.int (Int32.ofNat nk)), .val (.int c0), .val (.int c1), .val (.int c2), .val (.int c3)] [(.int (1 : Int32)), (.ref b6), (.ref b6)])) rfl (hb hby d_method_6_code_25) rfl (by decide) (cap := 1) (by decide) (by decide) (by decide) (by decide)
      obtain ⟨b8, g8⟩ : ∃ z, z = h6.size := ⟨_, rfl⟩
      rw [← g8] at A8 st8
      have ne_b6_b8 : b6 ≠ b8 := Nat.ne_of_lt (Nat.lt_of_lt_of_le E_b6.lt (Nat.le_of_eq g8.symm))
      have fr_b8 : h0.size ≤ b8 := Nat.le_trans M6.le (Nat.le_of_eq g8.symm)
      have Sf_b8 := Safe.new (Z := Z) (EL := consts_1) (vm := s.vm) (Nat.le_of_eq g8.symm)
      have K8 := keepE E8
      have M8 := M6.ext E8
      replace hk := Nat.le_trans hk (K8).1
      have hs9 := CHr.keep (K8) sf0 RH.1
      replace Sf_b6 := Safe.keep (K8) sf0 RH.1 Sf_b6
      replace Sf_b8 := Safe.keep (K8) sf0 RH.1 Sf_b8
      replace RH := RH.trans hs9
      replace Z_ad := StaKeep Z_ad K8 all0
      replace Z_hs := StaKeep Z_hs K8 all0
      replace Z_ls := StaKeep Z_ls K8 all0
      replace Z_cs := StaKeep Z_cs K8 all0
      replace E_b6 := E_b6.keep K8
      replace F_value_b6 := F_value_b6.keep K8 nin0
      replace F_coder_b6 := F_coder_b6.keep K8 nin0
      have V_b8 : Arv Z h8 b8 k8 .char (1 : Int32) [(.int (0 : Int32))] (.int (0 : Int32)) := (Arv.new A8 (by decide)).pad (pad_rep [] (.int (0 : Int32)) 1)
      refine Go.of (T' := T8) (f' := (mkF m 27 #[.val (.int (Int32.ofNat nk)), .val (.int c0), .val (.int c1), .val (.int c2), .val (.int c3)] [(.ref b8), (.ref b6), (.ref b6)])) st8 ?_
      refine Go.of (T' := T8) (f' := (mkF m 28 #[.val (.int (Int32.ofNat nk)), .val (.int c0), .val (.int c1), .val (.int c2), .val (.int c3)] [(.ref b8), (.ref b8), (.ref b6), (.ref b6)])) (fun _ k => XS.dup X8.here hx rfl (hb hby d_method_6_code_27) rfl rfl k) ?_
      refine Go.of (T' := T8) (f' := (mkF m 29 #[.val (.int (Int32.ofNat nk)), .val (.int c0), .val (.int c1), .val (.int c2), .val (.int c3)] [(.int (0 : Int32)), (.ref b8), (.ref b8), (.ref b6), (.ref b6)])) (fun _ k => XS.iconst X8.here hx rfl (hb hby d_method_6_code_28) k) ?_
      refine Go.of (T' := T8) (f' := (mkF m 30 #[.val (.int (Int32.ofNat nk)), .val (.int c0), .val (.int c1), .val (.int c2), .val (.int c3)] [(.int c0), (.int (0 : Int32)), (.ref b8), (.ref b8), (.ref b6), (.ref b6)])) (fun _ k => XS.iloadN X8.here hx rfl (hb hby d_method_6_code_29) rfl k) ?_
      obtain ⟨cl10, Ar10, cq10, Sz10, Nn10, Hs10, Gs10⟩ := id V_b8
      have hin10 : ¬ ((0 : Int32) < 0 ∨ cl10.slots.size ≤ ((0 : Int32)).toNatClampNeg) := inb_of Sz10 ⟨by decide, by decide⟩
      obtain ⟨T10, h10, X10, e10, W10, st10⟩ := stC X8 hx hZ e8 Ar10 (j := (0 : Int32)) hin10 (g := (mkF m 30 #[.val (.int (Int32.ofNat nk)), .val (.int c0), .val (.int c1), .val (.int c2), .val (.int c3)] [(.int c0), (.int (0 : Int32)), (.ref b8), (.ref b8), (.ref b6), (.ref b6)])) rfl rfl (hb hby d_method_6_code_30)
      have fq10 : fits .char (.int (nar .char c0)) = true := fits_nar_char _
      rw [show nar .char c0 = c0 from nar_rng (hb4 _ (by simp))] at W10 fq10
      have V10 := Arv.set Ar10 cq10 Sz10 Nn10 Hs10 Gs10 fq10 W10 0 rfl (Nat.le_of_ble_eq_true rfl)
      have V_b8_o := V_b8
      have K10 := Keep.of_wr W10
      have M10 := M8.wr W10 (Or.inr fr_b8)
      replace hk := Nat.le_trans hk (K10).1
      have hq11 : ∀ x ∈ ([b8] : List Addr), Safe Z consts_1 s.vm h8 x := (sfS Sf_b8 sf0)
      have hs11 := CHr.keep (K10) hq11 RH.1
      replace Sf_b6 := Safe.keep (K10) hq11 RH.1 Sf_b6
      replace Sf_b8 := Safe.keep (K10) hq11 RH.1 Sf_b8
      replace RH := RH.trans hs11
      replace Z_ad := StaKeep Z_ad K10 (allS (staArv V_b8_o) all0)
      replace Z_hs := StaKeep Z_hs K10 (allS (staArv V_b8_o) all0)
      replace Z_ls := StaKeep Z_ls K10 (allS (staArv V_b8_o) all0)
      replace Z_cs := StaKeep Z_cs K10 (allS (staArv V_b8_o) all0)
      replace E_b6 := E_b6.keep K10
      replace F_value_b6 := F_value_b6.keep K10 (ninS ne_b6_b8 nin0)
      replace F_coder_b6 := F_coder_b6.keep K10 (ninS ne_b6_b8 nin0)
      replace V_b8 : Arv Z h10 b8 k8 .char (1 : Int32) [(.int c0)] (.int (0 : Int32)) := V10
      refine Go.of (T' := T10) (f' := (mkF m 31 #[.val (.int (Int32.ofNat nk)), .val (.int c0), .val (.int c1), .val (.int c2), .val (.int c3)] [(.ref b8), (.ref b6), (.ref b6)])) st10 ?_
      have hbr : ∀ c ∈ ([c0] : List Int32), ¬ c < 0 ∧ ¬ (65535 : Int32) < c := fun c hc => hb4 c (List.mem_of_mem_take (i := 1) (show c ∈ List.take 1 [c0, c1, c2, c3] from hc))
      by_cases hal : ∀ c ∈ ([c0] : List Int32), ¬ (255 : Int32) < c
      ·
        refine goI X10 hx hZ rfl hown (hw _ (List.mem_of_getElem? (i := 12) rfl)) (hw _ (List.mem_of_getElem? (i := 13) rfl)) (hw _ (List.mem_of_getElem? (i := 14) rfl)) (by decide) (C := 1) (S := 1) (newStr (W := 1) hZ (hw_words hw) (hw _ (List.mem_of_getElem? (i := 9) rfl)) (cs := [c0]) E_b6 F_value_b6 F_coder_b6 V_b8 rfl Z_cs hz (n := 1) rfl rfl (by decide) (by decide) (fun c hc => ⟨(hbr c hc).1, hal c hc⟩) (by decide) (by decide)) e10 (argsL := [(.ref b8)]) (rest := [(.ref b6)]) (by rw [hml]; rfl) (lenOf pd___C_V rfl) rfl rfl (hb hby d_method_6_code_31) (Nat.le_of_eq rfl) (by decide) (by decide) ?_
        intro v12 T12 L12 X12 hQ12
        obtain ⟨h12, e12⟩ : ∃ z, T12.heap = z := ⟨_, rfl⟩
        rw [e12] at hQ12
        have E_b6_o := E_b6
        obtain ⟨rfl, Mc12, t12, le12, S12⟩ := hQ12
        have ne_b6_t12 : b6 ≠ t12 := Nat.ne_of_lt (Nat.lt_of_lt_of_le E_b6.lt le12)
        have ne_b8_t12 : b8 ≠ t12 := Nat.ne_of_lt (Nat.lt_of_lt_of_le V_b8.lt le12)
        have fr_t12 : h0.size ≤ t12 := Nat.le_trans M10.le le12
        have Sf_t12 := Safe.new (Z := Z) (EL := consts_1) (vm := s.vm) le12
        have M12 := M10.app Mc12 (allS (Or.inr fr_b6) all0)
        replace hk := Nat.le_trans hk (Mc12.1).1
        have hq13 : ∀ x ∈ ([b6] : List Addr), Safe Z consts_1 s.vm h10 x := (sfS Sf_b6 sf0)
        have hs13 := CHr.keep (Mc12.1) hq13 RH.1
        replace Sf_b6 := Safe.keep (Mc12.1) hq13 RH.1 Sf_b6
        replace Sf_b8 := Safe.keep (Mc12.1) hq13 RH.1 Sf_b8
        replace Sf_t12 := Safe.keep (Mc12.1) hq13 RH.1 Sf_t12
        replace RH := RH.trans hs13
        replace Z_ad := StaKeep Z_ad Mc12.1 (allS (staExa E_b6_o) all0)
        replace Z_hs := StaKeep Z_hs Mc12.1 (allS (staExa E_b6_o) all0)
        replace Z_ls := StaKeep Z_ls Mc12.1 (allS (staExa E_b6_o) all0)
        replace Z_cs := StaKeep Z_cs Mc12.1 (allS (staExa E_b6_o) all0)
        replace E_b6 := E_b6.keep Mc12.1
        replace V_b8 := V_b8.keep Mc12.1 (ninS (Ne.symm ne_b6_b8) nin0)
        have S_b6 := S12
        show Go p e below P T12 (mkF m 34 #[.val (.int (Int32.ofNat nk)), .val (.int c0), .val (.int c1), .val (.int c2), .val (.int c3)] [(.ref b6)])
        exact goRetRH (Q := fun v h L => Mv h0 h [] L ∧ ∃ a t : Addr, v = some (.ref a) ∧ h0.size ≤ a ∧ Str Z h a t (List.take nk [c0, c1, c2, c3])) X12 hx hZ hS hk (hEL_1 hw) RH hret rfl hlk rfl rfl (hb hby d_method_6_code_34) K (by decide) (by decide) e12 (⟨M12, b6, t12, rfl, fr_b6, by rw [show nk = 1 from ofk (j := 1) (by omega) (by omega) hc17]; exact S_b6⟩)
      ·
        have hwd : ∃ c ∈ ([c0] : List Int32), (255 : Int32) < c := Classical.byContradiction fun q => hal fun c hc r => q ⟨c, hc, r⟩
        refine goI X10 hx hZ rfl hown (hw _ (List.mem_of_getElem? (i := 12) rfl)) (hw _ (List.mem_of_getElem? (i := 13) rfl)) (hw _ (List.mem_of_getElem? (i := 14) rfl)) (by decide) (C := 2) (S := 24) ((rm_in l Z a0 hw b6 b8 k8 [c0] zc h10 E_b6 F_value_b6 F_coder_b6 V_b8 (Nat.le_of_ble_eq_true rfl) (by simp) (Ne.symm ne_b6_b8) hwd hbr Z_ad Z_hs Z_ls Z_cs hz).bk (W := 1) hZ (hw _ (List.mem_of_getElem? (i := 14) rfl)) (hw _ (List.mem_of_getElem? (i := 10) rfl)) (by decide) (by decide)) e10 (argsL := [(.ref b8)]) (rest := [(.ref b6)]) (by rw [hml]; rfl) (lenOf pd___C_V rfl) rfl rfl (hb hby d_method_6_code_31) (Nat.le_of_eq rfl) (by decide) (by decide) ?_
        intro v14 T14 L14 X14 hQ14
        obtain ⟨h14, e14⟩ : ∃ z, T14.heap = z := ⟨_, rfl⟩
        rw [e14] at hQ14
        have E_b6_o := E_b6
        obtain ⟨rfl, Mc14, t14, le14, S14⟩ := hQ14
        have ne_b6_t14 : b6 ≠ t14 := Nat.ne_of_lt (Nat.lt_of_lt_of_le E_b6.lt le14)
        have ne_b8_t14 : b8 ≠ t14 := Nat.ne_of_lt (Nat.lt_of_lt_of_le V_b8.lt le14)
        have fr_t14 : h0.size ≤ t14 := Nat.le_trans M10.le le14
        have Sf_t14 := Safe.new (Z := Z) (EL := consts_1) (vm := s.vm) le14
        have M14 := M10.app Mc14 (allS (Or.inr fr_b6) all0)
        replace hk := Nat.le_trans hk (Mc14.1).1
        have hq15 : ∀ x ∈ ([b6] : List Addr), Safe Z consts_1 s.vm h10 x := (sfS Sf_b6 sf0)
        have hs15 := CHr.keep (Mc14.1) hq15 RH.1
        replace Sf_b6 := Safe.keep (Mc14.1) hq15 RH.1 Sf_b6
        replace Sf_b8 := Safe.keep (Mc14.1) hq15 RH.1 Sf_b8
        replace Sf_t14 := Safe.keep (Mc14.1) hq15 RH.1 Sf_t14
        replace RH := RH.trans hs15
        replace Z_ad := StaKeep Z_ad Mc14.1 (allS (staExa E_b6_o) all0)
        replace Z_hs := StaKeep Z_hs Mc14.1 (allS (staExa E_b6_o) all0)
        replace Z_ls := StaKeep Z_ls Mc14.1 (allS (staExa E_b6_o) all0)
        replace Z_cs := StaKeep Z_cs Mc14.1 (allS (staExa E_b6_o) all0)
        replace E_b6 := E_b6.keep Mc14.1
        replace V_b8 := V_b8.keep Mc14.1 (ninS (Ne.symm ne_b6_b8) nin0)
        have S_b6 := S14
        show Go p e below P T14 (mkF m 34 #[.val (.int (Int32.ofNat nk)), .val (.int c0), .val (.int c1), .val (.int c2), .val (.int c3)] [(.ref b6)])
        exact goRetRH (Q := fun v h L => Mv h0 h [] L ∧ ∃ a t : Addr, v = some (.ref a) ∧ h0.size ≤ a ∧ Str Z h a t (List.take nk [c0, c1, c2, c3])) X14 hx hZ hS hk (hEL_1 hw) RH hret rfl hlk rfl rfl (hb hby d_method_6_code_34) K (by decide) (by decide) e14 (⟨M14, b6, t14, rfl, fr_b6, by rw [show nk = 1 from ofk (j := 1) (by omega) (by omega) hc17]; exact S_b6⟩)
    ·
      refine Go.of (T' := s₁) (f' := (mkF m 35 #[.val (.int (Int32.ofNat nk)), .val (.int c0), .val (.int c1), .val (.int c2), .val (.int c3)] [])) (fun _ k => XS.icmpYes X0.here hx rfl (pc0 := 17) (pc' := 35) rfl (hb hby d_method_6_code_17) rfl (feq hc17).2 (by decide) (by decide) k) ?_
      refine Go.of (T' := s₁) (f' := (mkF m 36 #[.val (.int (Int32.ofNat nk)), .val (.int c0), .val (.int c1), .val (.int c2), .val (.int c3)] [(.int (Int32.ofNat nk))])) (fun _ k => XS.iloadN X0.here hx rfl (hb hby d_method_6_code_35) rfl k) ?_
      refine Go.of (T' := s₁) (f' := (mkF m 37 #[.val (.int (Int32.ofNat nk)), .val (.int c0), .val (.int c1), .val (.int c2), .val (.int c3)] [(.int (2 : Int32)), (.int (Int32.ofNat nk))])) (fun _ k => XS.iconst X0.here hx rfl (hb hby d_method_6_code_36) k) ?_
      by_cases hc37 : (Int32.ofNat nk) = (2 : Int32)
      ·
        refine Go.of (T' := s₁) (f' := (mkF m 40 #[.val (.int (Int32.ofNat nk)), .val (.int c0), .val (.int c1), .val (.int c2), .val (.int c3)] [])) (fun _ k => XS.icmpNo X0.here hx rfl (hb hby d_method_6_code_37) rfl (teq hc37).2 k) ?_
        obtain ⟨T16, h16, X16, e16, E16, A16, D16, -, st16⟩ := newO X0 hx hZ hown (hw _ (List.mem_of_getElem? (i := 8) rfl)) (hw _ (List.mem_of_getElem? (i := 9) rfl)) (hw _ (List.mem_of_getElem? (i := 10) rfl)) e0 (g := (mkF m 40 #[.val (.int (Int32.ofNat nk)), .val (.int c0), .val (.int c1), .val (.int c2), .val (.int c3)] [])) rfl (hb hby d_method_6_code_40) (by decide) (by decide)
        obtain ⟨b16, g16⟩ : ∃ z, z = h0.size := ⟨_, rfl⟩
        rw [← g16] at A16 D16 st16
        have fr_b16 : h0.size ≤ b16 := Nat.le_trans M0.le (Nat.le_of_eq g16.symm)
        have Sf_b16 := Safe.new (Z := Z) (EL := consts_1) (vm := s.vm) (Nat.le_of_eq g16.symm)
        have K16 := keepE E16
        have M16 := M0.ext E16
        replace hk := Nat.le_trans hk (K16).1
        have hs17 := CHr.keep (K16) sf0 RH.1
        replace Sf_b16 := Safe.keep (K16) sf0 RH.1 Sf_b16
        replace RH := RH.trans hs17
        replace Z_ad := StaKeep Z_ad K16 all0
        replace Z_hs := StaKeep Z_hs K16 all0
        replace Z_ls := StaKeep Z_ls K16 all0
        replace Z_cs := StaKeep Z_cs K16 all0
        have E_b16 := A16
        have F_value_b16 : Fld Z h16 b16 "java/lang/String" "value" "[B" .null := D16 (Or.inr (hw _ (List.mem_of_getElem? (i := 24) rfl))) (ty := (.array .byte)) (by decide)
        have F_coder_b16 : Fld Z h16 b16 "java/lang/String" "coder" "B" (.int (0 : Int32)) := D16 (Or.inr (hw _ (List.mem_of_getElem? (i := 25) rfl))) (ty := .byte) (by decide)
        refine Go.of (T' := T16) (f' := (mkF m 43 #[.val (.int (Int32.ofNat nk)), .val (.int c0), .val (.int c1), .val (.int c2), .val (.int c3)] [(.ref b16)])) st16 ?_
        refine Go.of (T' := T16) (f' := (mkF m 44 #[.val (.int (Int32.ofNat nk)), .val (.int c0), .val (.int c1), .val (.int c2), .val (.int c3)] [(.ref b16), (.ref b16)])) (fun _ k => XS.dup X16.here hx rfl (hb hby d_method_6_code_43) rfl rfl k) ?_
        refine Go.of (T' := T16) (f' := (mkF m 45 #[.val (.int (Int32.ofNat nk)), .val (.int c0), .val (.int c1), .val (.int c2), .val (.int c3)] [(.int (2 : Int32)), (.ref b16), (.ref b16)])) (fun _ k => XS.iconst X16.here hx rfl (hb hby d_method_6_code_44) k) ?_
        obtain ⟨T18, h18, k18, X18, e18, E18, A18, st18⟩ := newP X16 hx hZ (hw _ (List.mem_of_getElem? (i := 11) rfl)) e16 (g := (mkF m 45 #[.val (.int (Int32.ofNat nk)), .val (.int c0), .val (.int c1), .val (.int c2), .val (.int c3)] [(.int (2 : Int32)), (.ref b16), (.ref b16)])) rfl (hb hby d_method_6_code_45) rfl (by decide) (cap := 2) (by decide) (by decide) (by decide) (by decide)
        obtain ⟨b18, g18⟩ : ∃ z, z = h16.size := ⟨_, rfl⟩
        rw [← g18] at A18 st18
        have ne_b16_b18 : b16 ≠ b18 := Nat.ne_of_lt (Nat.lt_of_lt_of_le E_b16.lt (Nat.le_of_eq g18.symm))
        have fr_b18 : h0.size ≤ b18 := Nat.le_trans M16.le (Nat.le_of_eq g18.symm)
        have Sf_b18 := Safe.new (Z := Z) (EL := consts_1) (vm := s.vm) (Nat.le_of_eq g18.symm)
        have K18 := keepE E18
        have M18 := M16.ext E18
        replace hk := Nat.le_trans hk (K18).1
        have hs19 := CHr.keep (K18) sf0 RH.1
        replace Sf_b16 := Safe.keep (K18) sf0 RH.1 Sf_b16
        replace Sf_b18 := Safe.keep (K18) sf0 RH.1 Sf_b18
        replace RH := RH.trans hs19
        replace Z_ad := StaKeep Z_ad K18 all0
        replace Z_hs := StaKeep Z_hs K18 all0
        replace Z_ls := StaKeep Z_ls K18 all0
        replace Z_cs := StaKeep Z_cs K18 all0
        replace E_b16 := E_b16.keep K18
        replace F_value_b16 := F_value_b16.keep K18 nin0
        replace F_coder_b16 := F_coder_b16.keep K18 nin0
        have V_b18 : Arv Z h18 b18 k18 .char (2 : Int32) [(.int (0 : Int32)), (.int (0 : Int32))] (.int (0 : Int32)) := (Arv.new A18 (by decide)).pad (pad_rep [] (.int (0 : Int32)) 2)
        refine Go.of (T' := T18) (f' := (mkF m 47 #[.val (.int (Int32.ofNat nk)), .val (.int c0), .val (.int c1), .val (.int c2), .val (.int c3)] [(.ref b18), (.ref b16), (.ref b16)])) st18 ?_
        refine Go.of (T' := T18) (f' := (mkF m 48 #[.val (.int (Int32.ofNat nk)), .val (.int c0), .val (.int c1), .val (.int c2), .val (.int c3)] [(.ref b18), (.ref b18), (.ref b16), (.ref b16)])) (fun _ k => XS.dup X18.here hx rfl (hb hby d_method_6_code_47) rfl rfl k) ?_
        refine Go.of (T' := T18) (f' := (mkF m 49 #[.val (.int (Int32.ofNat nk)), .val (.int c0), .val (.int c1), .val (.int c2), .val (.int c3)] [(.int (0 : Int32)), (.ref b18), (.ref b18), (.ref b16), (.ref b16)])) (fun _ k => XS.iconst X18.here hx rfl (hb hby d_method_6_code_48) k) ?_
        refine Go.of (T' := T18) (f' := (mkF m 50 #[.val (.int (Int32.ofNat nk)), .val (.int c0), .val (.int c1), .val (.int c2), .val (.int c3)] [(.int c0), (.int (0 : Int32)), (.ref b18), (.ref b18), (.ref b16), (.ref b16)])) (fun _ k => XS.iloadN X18.here hx rfl (hb hby d_method_6_code_49) rfl k) ?_
        obtain ⟨cl20, Ar20, cq20, Sz20, Nn20, Hs20, Gs20⟩ := id V_b18
        have hin20 : ¬ ((0 : Int32) < 0 ∨ cl20.slots.size ≤ ((0 : Int32)).toNatClampNeg) := inb_of Sz20 ⟨by decide, by decide⟩
        obtain ⟨T20, h20, X20, e20, W20, st20⟩ := stC X18 hx hZ e18 Ar20 (j := (0 : Int32)) hin20 (g := (mkF m 50 #[.val (.int (Int32.ofNat nk)), .val (.int c0), .val (.int c1), .val (.int c2), .val (.int c3)] [(.int c0), (.int (0 : Int32)), (.ref b18), (.ref b18), (.ref b16), (.ref b16)])) rfl rfl (hb hby d_method_6_code_50)
        have fq20 : fits .char (.int (nar .char c0)) = true := fits_nar_char _
        rw [show nar .char c0 = c0 from nar_rng (hb4 _ (by simp))] at W20 fq20
        have V20 := Arv.set Ar20 cq20 Sz20 Nn20 Hs20 Gs20 fq20 W20 0 rfl (Nat.le_of_ble_eq_true rfl)
        have V_b18_o := V_b18
        have K20 := Keep.of_wr W20
        have M20 := M18.wr W20 (Or.inr fr_b18)
        replace hk := Nat.le_trans hk (K20).1
        have hq21 : ∀ x ∈ ([b18] : List Addr), Safe Z consts_1 s.vm h18 x := (sfS Sf_b18 sf0)
        have hs21 := CHr.keep (K20) hq21 RH.1
        replace Sf_b16 := Safe.keep (K20) hq21 RH.1 Sf_b16
        replace Sf_b18 := Safe.keep (K20) hq21 RH.1 Sf_b18
        replace RH := RH.trans hs21
        replace Z_ad := StaKeep Z_ad K20 (allS (staArv V_b18_o) all0)
        replace Z_hs := StaKeep Z_hs K20 (allS (staArv V_b18_o) all0)
        replace Z_ls := StaKeep Z_ls K20 (allS (staArv V_b18_o) all0)
        replace Z_cs := StaKeep Z_cs K20 (allS (staArv V_b18_o) all0)
        replace E_b16 := E_b16.keep K20
        replace F_value_b16 := F_value_b16.keep K20 (ninS ne_b16_b18 nin0)
        replace F_coder_b16 := F_coder_b16.keep K20 (ninS ne_b16_b18 nin0)
        replace V_b18 : Arv Z h20 b18 k18 .char (2 : Int32) [(.int c0), (.int (0 : Int32))] (.int (0 : Int32)) := V20
        refine Go.of (T' := T20) (f' := (mkF m 51 #[.val (.int (Int32.ofNat nk)), .val (.int c0), .val (.int c1), .val (.int c2), .val (.int c3)] [(.ref b18), (.ref b16), (.ref b16)])) st20 ?_
        refine Go.of (T' := T20) (f' := (mkF m 52 #[.val (.int (Int32.ofNat nk)), .val (.int c0), .val (.int c1), .val (.int c2), .val (.int c3)] [(.ref b18), (.ref b18), (.ref b16), (.ref b16)])) (fun _ k => XS.dup X20.here hx rfl (hb hby d_method_6_code_51) rfl rfl k) ?_
        refine Go.of (T' := T20) (f' := (mkF m 53 #[.val (.int (Int32.ofNat nk)), .val (.int c0), .val (.int c1), .val (.int c2), .val (.int c3)] [(.int (1 : Int32)), (.ref b18), (.ref b18), (.ref b16), (.ref b16)])) (fun _ k => XS.iconst X20.here hx rfl (hb hby d_method_6_code_52) k) ?_
        refine Go.of (T' := T20) (f' := (mkF m 54 #[.val (.int (Int32.ofNat nk)), .val (.int c0), .val (.int c1), .val (.int c2), .val (.int c3)] [(.int c1), (.int (1 : Int32)), (.ref b18), (.ref b18), (.ref b16), (.ref b16)])) (fun _ k => XS.iloadN X20.here hx rfl (hb hby d_method_6_code_53) rfl k) ?_
        obtain ⟨cl22, Ar22, cq22, Sz22, Nn22, Hs22, Gs22⟩ := id V_b18
        have hin22 : ¬ ((1 : Int32) < 0 ∨ cl22.slots.size ≤ ((1 : Int32)).toNatClampNeg) := inb_of Sz22 ⟨by decide, by decide⟩
        obtain ⟨T22, h22, X22, e22, W22, st22⟩ := stC X20 hx hZ e20 Ar22 (j := (1 : Int32)) hin22 (g := (mkF m 54 #[.val (.int (Int32.ofNat nk)), .val (.int c0), .val (.int c1), .val (.int c2), .val (.int c3)] [(.int c1), (.int (1 : Int32)), (.ref b18), (.ref b18), (.ref b16), (.ref b16)])) rfl rfl (hb hby d_method_6_code_54)
        have fq22 : fits .char (.int (nar .char c1)) = true := fits_nar_char _
        rw [show nar .char c1 = c1 from nar_rng (hb4 _ (by simp))] at W22 fq22
        have V22 := Arv.set Ar22 cq22 Sz22 Nn22 Hs22 Gs22 fq22 W22 1 rfl (Nat.le_of_ble_eq_true rfl)
        have V_b18_o := V_b18
        have K22 := Keep.of_wr W22
        have M22 := M20.wr W22 (Or.inr fr_b18)
        replace hk := Nat.le_trans hk (K22).1
        have hq23 : ∀ x ∈ ([b18] : List Addr), Safe Z consts_1 s.vm h20 x := (sfS Sf_b18 sf0)
        have hs23 := CHr.keep (K22) hq23 RH.1
        replace Sf_b16 := Safe.keep (K22) hq23 RH.1 Sf_b16
        replace Sf_b18 := Safe.keep (K22) hq23 RH.1 Sf_b18
        replace RH := RH.trans hs23
        replace Z_ad := StaKeep Z_ad K22 (allS (staArv V_b18_o) all0)
        replace Z_hs := StaKeep Z_hs K22 (allS (staArv V_b18_o) all0)
        replace Z_ls := StaKeep Z_ls K22 (allS (staArv V_b18_o) all0)
        replace Z_cs := StaKeep Z_cs K22 (allS (staArv V_b18_o) all0)
        replace E_b16 := E_b16.keep K22
        replace F_value_b16 := F_value_b16.keep K22 (ninS ne_b16_b18 nin0)
        replace F_coder_b16 := F_coder_b16.keep K22 (ninS ne_b16_b18 nin0)
        replace V_b18 : Arv Z h22 b18 k18 .char (2 : Int32) [(.int c0), (.int c1)] (.int (0 : Int32)) := V22
        refine Go.of (T' := T22) (f' := (mkF m 55 #[.val (.int (Int32.ofNat nk)), .val (.int c0), .val (.int c1), .val (.int c2), .val (.int c3)] [(.ref b18), (.ref b16), (.ref b16)])) st22 ?_
        have hbr : ∀ c ∈ ([c0, c1] : List Int32), ¬ c < 0 ∧ ¬ (65535 : Int32) < c := fun c hc => hb4 c (List.mem_of_mem_take (i := 2) (show c ∈ List.take 2 [c0, c1, c2, c3] from hc))
        by_cases hal : ∀ c ∈ ([c0, c1] : List Int32), ¬ (255 : Int32) < c
        ·
          refine goI X22 hx hZ rfl hown (hw _ (List.mem_of_getElem? (i := 12) rfl)) (hw _ (List.mem_of_getElem? (i := 13) rfl)) (hw _ (List.mem_of_getElem? (i := 14) rfl)) (by decide) (C := 1) (S := 2) (newStr (W := 1) hZ (hw_words hw) (hw _ (List.mem_of_getElem? (i := 9) rfl)) (cs := [c0, c1]) E_b16 F_value_b16 F_coder_b16 V_b18 rfl Z_cs hz (n := 2) rfl rfl (by decide) (by decide) (fun c hc => ⟨(hbr c hc).1, hal c hc⟩) (by decide) (by decide)) e22 (argsL := [(.ref b18)]) (rest := [(.ref b16)]) (by rw [hml]; rfl) (lenOf pd___C_V rfl) rfl rfl (hb hby d_method_6_code_55) (Nat.le_of_eq rfl) (by decide) (by decide) ?_
          intro v24 T24 L24 X24 hQ24
          obtain ⟨h24, e24⟩ : ∃ z, T24.heap = z := ⟨_, rfl⟩
          rw [e24] at hQ24
          have E_b16_o := E_b16
          obtain ⟨rfl, Mc24, t24, le24, S24⟩ := hQ24
          have ne_b16_t24 : b16 ≠ t24 := Nat.ne_of_lt (Nat.lt_of_lt_of_le E_b16.lt le24)
          have ne_b18_t24 : b18 ≠ t24 := Nat.ne_of_lt (Nat.lt_of_lt_of_le V_b18.lt le24)
          have fr_t24 : h0.size ≤ t24 := Nat.le_trans M22.le le24
          have Sf_t24 := Safe.new (Z := Z) (EL := consts_1) (vm := s.vm) le24
          have M24 := M22.app Mc24 (allS (Or.inr fr_b16) all0)
          replace hk := Nat.le_trans hk (Mc24.1).1
          have hq25 : ∀ x ∈ ([b16] : List Addr), Safe Z consts_1 s.vm h22 x := (sfS Sf_b16 sf0)
          have hs25 := CHr.keep (Mc24.1) hq25 RH.1
          replace Sf_b16 := Safe.keep (Mc24.1) hq25 RH.1 Sf_b16
          replace Sf_b18 := Safe.keep (Mc24.1) hq25 RH.1 Sf_b18
          replace Sf_t24 := Safe.keep (Mc24.1) hq25 RH.1 Sf_t24
          replace RH := RH.trans hs25
          replace Z_ad := StaKeep Z_ad Mc24.1 (allS (staExa E_b16_o) all0)
          replace Z_hs := StaKeep Z_hs Mc24.1 (allS (staExa E_b16_o) all0)
          replace Z_ls := StaKeep Z_ls Mc24.1 (allS (staExa E_b16_o) all0)
          replace Z_cs := StaKeep Z_cs Mc24.1 (allS (staExa E_b16_o) all0)
          replace E_b16 := E_b16.keep Mc24.1
          replace V_b18 := V_b18.keep Mc24.1 (ninS (Ne.symm ne_b16_b18) nin0)
          have S_b16 := S24
          show Go p e below P T24 (mkF m 58 #[.val (.int (Int32.ofNat nk)), .val (.int c0), .val (.int c1), .val (.int c2), .val (.int c3)] [(.ref b16)])
          exact goRetRH (Q := fun v h L => Mv h0 h [] L ∧ ∃ a t : Addr, v = some (.ref a) ∧ h0.size ≤ a ∧ Str Z h a t (List.take nk [c0, c1, c2, c3])) X24 hx hZ hS hk (hEL_1 hw) RH hret rfl hlk rfl rfl (hb hby d_method_6_code_58) K (by decide) (by decide) e24 (⟨M24, b16, t24, rfl, fr_b16, by rw [show nk = 2 from ofk (j := 2) (by omega) (by omega) hc37]; exact S_b16⟩)
        ·
          have hwd : ∃ c ∈ ([c0, c1] : List Int32), (255 : Int32) < c := Classical.byContradiction fun q => hal fun c hc r => q ⟨c, hc, r⟩
          refine goI X22 hx hZ rfl hown (hw _ (List.mem_of_getElem? (i := 12) rfl)) (hw _ (List.mem_of_getElem? (i := 13) rfl)) (hw _ (List.mem_of_getElem? (i := 14) rfl)) (by decide) (C := 2) (S := 24) ((rm_in l Z a0 hw b16 b18 k18 [c0, c1] zc h22 E_b16 F_value_b16 F_coder_b16 V_b18 (Nat.le_of_ble_eq_true rfl) (by simp) (Ne.symm ne_b16_b18) hwd hbr Z_ad Z_hs Z_ls Z_cs hz).bk (W := 1) hZ (hw _ (List.mem_of_getElem? (i := 14) rfl)) (hw _ (List.mem_of_getElem? (i := 10) rfl)) (by decide) (by decide)) e22 (argsL := [(.ref b18)]) (rest := [(.ref b16)]) (by rw [hml]; rfl) (lenOf pd___C_V rfl) rfl rfl (hb hby d_method_6_code_55) (Nat.le_of_eq rfl) (by decide) (by decide) ?_
          intro v26 T26 L26 X26 hQ26
          obtain ⟨h26, e26⟩ : ∃ z, T26.heap = z := ⟨_, rfl⟩
          rw [e26] at hQ26
          have E_b16_o := E_b16
          obtain ⟨rfl, Mc26, t26, le26, S26⟩ := hQ26
          have ne_b16_t26 : b16 ≠ t26 := Nat.ne_of_lt (Nat.lt_of_lt_of_le E_b16.lt le26)
          have ne_b18_t26 : b18 ≠ t26 := Nat.ne_of_lt (Nat.lt_of_lt_of_le V_b18.lt le26)
          have fr_t26 : h0.size ≤ t26 := Nat.le_trans M22.le le26
          have Sf_t26 := Safe.new (Z := Z) (EL := consts_1) (vm := s.vm) le26
          have M26 := M22.app Mc26 (allS (Or.inr fr_b16) all0)
          replace hk := Nat.le_trans hk (Mc26.1).1
          have hq27 : ∀ x ∈ ([b16] : List Addr), Safe Z consts_1 s.vm h22 x := (sfS Sf_b16 sf0)
          have hs27 := CHr.keep (Mc26.1) hq27 RH.1
          replace Sf_b16 := Safe.keep (Mc26.1) hq27 RH.1 Sf_b16
          replace Sf_b18 := Safe.keep (Mc26.1) hq27 RH.1 Sf_b18
          replace Sf_t26 := Safe.keep (Mc26.1) hq27 RH.1 Sf_t26
          replace RH := RH.trans hs27
          replace Z_ad := StaKeep Z_ad Mc26.1 (allS (staExa E_b16_o) all0)
          replace Z_hs := StaKeep Z_hs Mc26.1 (allS (staExa E_b16_o) all0)
          replace Z_ls := StaKeep Z_ls Mc26.1 (allS (staExa E_b16_o) all0)
          replace Z_cs := StaKeep Z_cs Mc26.1 (allS (staExa E_b16_o) all0)
          replace E_b16 := E_b16.keep Mc26.1
          replace V_b18 := V_b18.keep Mc26.1 (ninS (Ne.symm ne_b16_b18) nin0)
          have S_b16 := S26
          show Go p e below P T26 (mkF m 58 #[.val (.int (Int32.ofNat nk)), .val (.int c0), .val (.int c1), .val (.int c2), .val (.int c3)] [(.ref b16)])
          exact goRetRH (Q := fun v h L => Mv h0 h [] L ∧ ∃ a t : Addr, v = some (.ref a) ∧ h0.size ≤ a ∧ Str Z h a t (List.take nk [c0, c1, c2, c3])) X26 hx hZ hS hk (hEL_1 hw) RH hret rfl hlk rfl rfl (hb hby d_method_6_code_58) K (by decide) (by decide) e26 (⟨M26, b16, t26, rfl, fr_b16, by rw [show nk = 2 from ofk (j := 2) (by omega) (by omega) hc37]; exact S_b16⟩)
      ·
        refine Go.of (T' := s₁) (f' := (mkF m 59 #[.val (.int (Int32.ofNat nk)), .val (.int c0), .val (.int c1), .val (.int c2), .val (.int c3)] [])) (fun _ k => XS.icmpYes X0.here hx rfl (pc0 := 37) (pc' := 59) rfl (hb hby d_method_6_code_37) rfl (feq hc37).2 (by decide) (by decide) k) ?_
        refine Go.of (T' := s₁) (f' := (mkF m 60 #[.val (.int (Int32.ofNat nk)), .val (.int c0), .val (.int c1), .val (.int c2), .val (.int c3)] [(.int (Int32.ofNat nk))])) (fun _ k => XS.iloadN X0.here hx rfl (hb hby d_method_6_code_59) rfl k) ?_
        refine Go.of (T' := s₁) (f' := (mkF m 61 #[.val (.int (Int32.ofNat nk)), .val (.int c0), .val (.int c1), .val (.int c2), .val (.int c3)] [(.int (3 : Int32)), (.int (Int32.ofNat nk))])) (fun _ k => XS.iconst X0.here hx rfl (hb hby d_method_6_code_60) k) ?_
        by_cases hc61 : (Int32.ofNat nk) = (3 : Int32)
        ·
          refine Go.of (T' := s₁) (f' := (mkF m 64 #[.val (.int (Int32.ofNat nk)), .val (.int c0), .val (.int c1), .val (.int c2), .val (.int c3)] [])) (fun _ k => XS.icmpNo X0.here hx rfl (hb hby d_method_6_code_61) rfl (teq hc61).2 k) ?_
          obtain ⟨T28, h28, X28, e28, E28, A28, D28, -, st28⟩ := newO X0 hx hZ hown (hw _ (List.mem_of_getElem? (i := 8) rfl)) (hw _ (List.mem_of_getElem? (i := 9) rfl)) (hw _ (List.mem_of_getElem? (i := 10) rfl)) e0 (g := (mkF m 64 #[.val (.int (Int32.ofNat nk)), .val (.int c0), .val (.int c1), .val (.int c2), .val (.int c3)] [])) rfl (hb hby d_method_6_code_64) (by decide) (by decide)
          obtain ⟨b28, g28⟩ : ∃ z, z = h0.size := ⟨_, rfl⟩
          rw [← g28] at A28 D28 st28
          have fr_b28 : h0.size ≤ b28 := Nat.le_trans M0.le (Nat.le_of_eq g28.symm)
          have Sf_b28 := Safe.new (Z := Z) (EL := consts_1) (vm := s.vm) (Nat.le_of_eq g28.symm)
          have K28 := keepE E28
          have M28 := M0.ext E28
          replace hk := Nat.le_trans hk (K28).1
          have hs29 := CHr.keep (K28) sf0 RH.1
          replace Sf_b28 := Safe.keep (K28) sf0 RH.1 Sf_b28
          replace RH := RH.trans hs29
          replace Z_ad := StaKeep Z_ad K28 all0
          replace Z_hs := StaKeep Z_hs K28 all0
          replace Z_ls := StaKeep Z_ls K28 all0
          replace Z_cs := StaKeep Z_cs K28 all0
          have E_b28 := A28
          have F_value_b28 : Fld Z h28 b28 "java/lang/String" "value" "[B" .null := D28 (Or.inr (hw _ (List.mem_of_getElem? (i := 24) rfl))) (ty := (.array .byte)) (by decide)
          have F_coder_b28 : Fld Z h28 b28 "java/lang/String" "coder" "B" (.int (0 : Int32)) := D28 (Or.inr (hw _ (List.mem_of_getElem? (i := 25) rfl))) (ty := .byte) (by decide)
          refine Go.of (T' := T28) (f' := (mkF m 67 #[.val (.int (Int32.ofNat nk)), .val (.int c0), .val (.int c1), .val (.int c2), .val (.int c3)] [(.ref b28)])) st28 ?_
          refine Go.of (T' := T28) (f' := (mkF m 68 #[.val (.int (Int32.ofNat nk)), .val (.int c0), .val (.int c1), .val (.int c2), .val (.int c3)] [(.ref b28), (.ref b28)])) (fun _ k => XS.dup X28.here hx rfl (hb hby d_method_6_code_67) rfl rfl k) ?_
          refine Go.of (T' := T28) (f' := (mkF m 69 #[.val (.int (Int32.ofNat nk)), .val (.int c0), .val (.int c1), .val (.int c2), .val (.int c3)] [(.int (3 : Int32)), (.ref b28), (.ref b28)])) (fun _ k => XS.iconst X28.here hx rfl (hb hby d_method_6_code_68) k) ?_
          obtain ⟨T30, h30, k30, X30, e30, E30, A30, st30⟩ := newP X28 hx hZ (hw _ (List.mem_of_getElem? (i := 11) rfl)) e28 (g := (mkF m 69 #[.val (.int (Int32.ofNat nk)), .val (.int c0), .val (.int c1), .val (.int c2), .val (.int c3)] [(.int (3 : Int32)), (.ref b28), (.ref b28)])) rfl (hb hby d_method_6_code_69) rfl (by decide) (cap := 3) (by decide) (by decide) (by decide) (by decide)
          obtain ⟨b30, g30⟩ : ∃ z, z = h28.size := ⟨_, rfl⟩
          rw [← g30] at A30 st30
          have ne_b28_b30 : b28 ≠ b30 := Nat.ne_of_lt (Nat.lt_of_lt_of_le E_b28.lt (Nat.le_of_eq g30.symm))
          have fr_b30 : h0.size ≤ b30 := Nat.le_trans M28.le (Nat.le_of_eq g30.symm)
          have Sf_b30 := Safe.new (Z := Z) (EL := consts_1) (vm := s.vm) (Nat.le_of_eq g30.symm)
          have K30 := keepE E30
          have M30 := M28.ext E30
          replace hk := Nat.le_trans hk (K30).1
          have hs31 := CHr.keep (K30) sf0 RH.1
          replace Sf_b28 := Safe.keep (K30) sf0 RH.1 Sf_b28
          replace Sf_b30 := Safe.keep (K30) sf0 RH.1 Sf_b30
          replace RH := RH.trans hs31
          replace Z_ad := StaKeep Z_ad K30 all0
          replace Z_hs := StaKeep Z_hs K30 all0
          replace Z_ls := StaKeep Z_ls K30 all0
          replace Z_cs := StaKeep Z_cs K30 all0
          replace E_b28 := E_b28.keep K30
          replace F_value_b28 := F_value_b28.keep K30 nin0
          replace F_coder_b28 := F_coder_b28.keep K30 nin0
          have V_b30 : Arv Z h30 b30 k30 .char (3 : Int32) [(.int (0 : Int32)), (.int (0 : Int32)), (.int (0 : Int32))] (.int (0 : Int32)) := (Arv.new A30 (by decide)).pad (pad_rep [] (.int (0 : Int32)) 3)
          refine Go.of (T' := T30) (f' := (mkF m 71 #[.val (.int (Int32.ofNat nk)), .val (.int c0), .val (.int c1), .val (.int c2), .val (.int c3)] [(.ref b30), (.ref b28), (.ref b28)])) st30 ?_
          refine Go.of (T' := T30) (f' := (mkF m 72 #[.val (.int (Int32.ofNat nk)), .val (.int c0), .val (.int c1), .val (.int c2), .val (.int c3)] [(.ref b30), (.ref b30), (.ref b28), (.ref b28)])) (fun _ k => XS.dup X30.here hx rfl (hb hby d_method_6_code_71) rfl rfl k) ?_
          refine Go.of (T' := T30) (f' := (mkF m 73 #[.val (.int (Int32.ofNat nk)), .val (.int c0), .val (.int c1), .val (.int c2), .val (.int c3)] [(.int (0 : Int32)), (.ref b30), (.ref b30), (.ref b28), (.ref b28)])) (fun _ k => XS.iconst X30.here hx rfl (hb hby d_method_6_code_72) k) ?_
          refine Go.of (T' := T30) (f' := (mkF m 74 #[.val (.int (Int32.ofNat nk)), .val (.int c0), .val (.int c1), .val (.int c2), .val (.int c3)] [(.int c0), (.int (0 : Int32)), (.ref b30), (.ref b30), (.ref b28), (.ref b28)])) (fun _ k => XS.iloadN X30.here hx rfl (hb hby d_method_6_code_73) rfl k) ?_
          obtain ⟨cl32, Ar32, cq32, Sz32, Nn32, Hs32, Gs32⟩ := id V_b30
          have hin32 : ¬ ((0 : Int32) < 0 ∨ cl32.slots.size ≤ ((0 : Int32)).toNatClampNeg) := inb_of Sz32 ⟨by decide, by decide⟩
          obtain ⟨T32, h32, X32, e32, W32, st32⟩ := stC X30 hx hZ e30 Ar32 (j := (0 : Int32)) hin32 (g := (mkF m 74 #[.val (.int (Int32.ofNat nk)), .val (.int c0), .val (.int c1), .val (.int c2), .val (.int c3)] [(.int c0), (.int (0 : Int32)), (.ref b30), (.ref b30), (.ref b28), (.ref b28)])) rfl rfl (hb hby d_method_6_code_74)
          have fq32 : fits .char (.int (nar .char c0)) = true := fits_nar_char _
          rw [show nar .char c0 = c0 from nar_rng (hb4 _ (by simp))] at W32 fq32
          have V32 := Arv.set Ar32 cq32 Sz32 Nn32 Hs32 Gs32 fq32 W32 0 rfl (Nat.le_of_ble_eq_true rfl)
          have V_b30_o := V_b30
          have K32 := Keep.of_wr W32
          have M32 := M30.wr W32 (Or.inr fr_b30)
          replace hk := Nat.le_trans hk (K32).1
          have hq33 : ∀ x ∈ ([b30] : List Addr), Safe Z consts_1 s.vm h30 x := (sfS Sf_b30 sf0)
          have hs33 := CHr.keep (K32) hq33 RH.1
          replace Sf_b28 := Safe.keep (K32) hq33 RH.1 Sf_b28
          replace Sf_b30 := Safe.keep (K32) hq33 RH.1 Sf_b30
          replace RH := RH.trans hs33
          replace Z_ad := StaKeep Z_ad K32 (allS (staArv V_b30_o) all0)
          replace Z_hs := StaKeep Z_hs K32 (allS (staArv V_b30_o) all0)
          replace Z_ls := StaKeep Z_ls K32 (allS (staArv V_b30_o) all0)
          replace Z_cs := StaKeep Z_cs K32 (allS (staArv V_b30_o) all0)
          replace E_b28 := E_b28.keep K32
          replace F_value_b28 := F_value_b28.keep K32 (ninS ne_b28_b30 nin0)
          replace F_coder_b28 := F_coder_b28.keep K32 (ninS ne_b28_b30 nin0)
          replace V_b30 : Arv Z h32 b30 k30 .char (3 : Int32) [(.int c0), (.int (0 : Int32)), (.int (0 : Int32))] (.int (0 : Int32)) := V32
          refine Go.of (T' := T32) (f' := (mkF m 75 #[.val (.int (Int32.ofNat nk)), .val (.int c0), .val (.int c1), .val (.int c2), .val (.int c3)] [(.ref b30), (.ref b28), (.ref b28)])) st32 ?_
          refine Go.of (T' := T32) (f' := (mkF m 76 #[.val (.int (Int32.ofNat nk)), .val (.int c0), .val (.int c1), .val (.int c2), .val (.int c3)] [(.ref b30), (.ref b30), (.ref b28), (.ref b28)])) (fun _ k => XS.dup X32.here hx rfl (hb hby d_method_6_code_75) rfl rfl k) ?_
          refine Go.of (T' := T32) (f' := (mkF m 77 #[.val (.int (Int32.ofNat nk)), .val (.int c0), .val (.int c1), .val (.int c2), .val (.int c3)] [(.int (1 : Int32)), (.ref b30), (.ref b30), (.ref b28), (.ref b28)])) (fun _ k => XS.iconst X32.here hx rfl (hb hby d_method_6_code_76) k) ?_
          refine Go.of (T' := T32) (f' := (mkF m 78 #[.val (.int (Int32.ofNat nk)), .val (.int c0), .val (.int c1), .val (.int c2), .val (.int c3)] [(.int c1), (.int (1 : Int32)), (.ref b30), (.ref b30), (.ref b28), (.ref b28)])) (fun _ k => XS.iloadN X32.here hx rfl (hb hby d_method_6_code_77) rfl k) ?_
          obtain ⟨cl34, Ar34, cq34, Sz34, Nn34, Hs34, Gs34⟩ := id V_b30
          have hin34 : ¬ ((1 : Int32) < 0 ∨ cl34.slots.size ≤ ((1 : Int32)).toNatClampNeg) := inb_of Sz34 ⟨by decide, by decide⟩
          obtain ⟨T34, h34, X34, e34, W34, st34⟩ := stC X32 hx hZ e32 Ar34 (j := (1 : Int32)) hin34 (g := (mkF m 78 #[.val (.int (Int32.ofNat nk)), .val (.int c0), .val (.int c1), .val (.int c2), .val (.int c3)] [(.int c1), (.int (1 : Int32)), (.ref b30), (.ref b30), (.ref b28), (.ref b28)])) rfl rfl (hb hby d_method_6_code_78)
          have fq34 : fits .char (.int (nar .char c1)) = true := fits_nar_char _
          rw [show nar .char c1 = c1 from nar_rng (hb4 _ (by simp))] at W34 fq34
          have V34 := Arv.set Ar34 cq34 Sz34 Nn34 Hs34 Gs34 fq34 W34 1 rfl (Nat.le_of_ble_eq_true rfl)
          have V_b30_o := V_b30
          have K34 := Keep.of_wr W34
          have M34 := M32.wr W34 (Or.inr fr_b30)
          replace hk := Nat.le_trans hk (K34).1
          have hq35 : ∀ x ∈ ([b30] : List Addr), Safe Z consts_1 s.vm h32 x := (sfS Sf_b30 sf0)
          have hs35 := CHr.keep (K34) hq35 RH.1
          replace Sf_b28 := Safe.keep (K34) hq35 RH.1 Sf_b28
          replace Sf_b30 := Safe.keep (K34) hq35 RH.1 Sf_b30
          replace RH := RH.trans hs35
          replace Z_ad := StaKeep Z_ad K34 (allS (staArv V_b30_o) all0)
          replace Z_hs := StaKeep Z_hs K34 (allS (staArv V_b30_o) all0)
          replace Z_ls := StaKeep Z_ls K34 (allS (staArv V_b30_o) all0)
          replace Z_cs := StaKeep Z_cs K34 (allS (staArv V_b30_o) all0)
          replace E_b28 := E_b28.keep K34
          replace F_value_b28 := F_value_b28.keep K34 (ninS ne_b28_b30 nin0)
          replace F_coder_b28 := F_coder_b28.keep K34 (ninS ne_b28_b30 nin0)
          replace V_b30 : Arv Z h34 b30 k30 .char (3 : Int32) [(.int c0), (.int c1), (.int (0 : Int32))] (.int (0 : Int32)) := V34
          refine Go.of (T' := T34) (f' := (mkF m 79 #[.val (.int (Int32.ofNat nk)), .val (.int c0), .val (.int c1), .val (.int c2), .val (.int c3)] [(.ref b30), (.ref b28), (.ref b28)])) st34 ?_
          refine Go.of (T' := T34) (f' := (mkF m 80 #[.val (.int (Int32.ofNat nk)), .val (.int c0), .val (.int c1), .val (.int c2), .val (.int c3)] [(.ref b30), (.ref b30), (.ref b28), (.ref b28)])) (fun _ k => XS.dup X34.here hx rfl (hb hby d_method_6_code_79) rfl rfl k) ?_
          refine Go.of (T' := T34) (f' := (mkF m 81 #[.val (.int (Int32.ofNat nk)), .val (.int c0), .val (.int c1), .val (.int c2), .val (.int c3)] [(.int (2 : Int32)), (.ref b30), (.ref b30), (.ref b28), (.ref b28)])) (fun _ k => XS.iconst X34.here hx rfl (hb hby d_method_6_code_80) k) ?_
          refine Go.of (T' := T34) (f' := (mkF m 82 #[.val (.int (Int32.ofNat nk)), .val (.int c0), .val (.int c1), .val (.int c2), .val (.int c3)] [(.int c2), (.int (2 : Int32)), (.ref b30), (.ref b30), (.ref b28), (.ref b28)])) (fun _ k => XS.iloadN X34.here hx rfl (hb hby d_method_6_code_81) rfl k) ?_
          obtain ⟨cl36, Ar36, cq36, Sz36, Nn36, Hs36, Gs36⟩ := id V_b30
          have hin36 : ¬ ((2 : Int32) < 0 ∨ cl36.slots.size ≤ ((2 : Int32)).toNatClampNeg) := inb_of Sz36 ⟨by decide, by decide⟩
          obtain ⟨T36, h36, X36, e36, W36, st36⟩ := stC X34 hx hZ e34 Ar36 (j := (2 : Int32)) hin36 (g := (mkF m 82 #[.val (.int (Int32.ofNat nk)), .val (.int c0), .val (.int c1), .val (.int c2), .val (.int c3)] [(.int c2), (.int (2 : Int32)), (.ref b30), (.ref b30), (.ref b28), (.ref b28)])) rfl rfl (hb hby d_method_6_code_82)
          have fq36 : fits .char (.int (nar .char c2)) = true := fits_nar_char _
          rw [show nar .char c2 = c2 from nar_rng (hb4 _ (by simp))] at W36 fq36
          have V36 := Arv.set Ar36 cq36 Sz36 Nn36 Hs36 Gs36 fq36 W36 2 rfl (Nat.le_of_ble_eq_true rfl)
          have V_b30_o := V_b30
          have K36 := Keep.of_wr W36
          have M36 := M34.wr W36 (Or.inr fr_b30)
          replace hk := Nat.le_trans hk (K36).1
          have hq37 : ∀ x ∈ ([b30] : List Addr), Safe Z consts_1 s.vm h34 x := (sfS Sf_b30 sf0)
          have hs37 := CHr.keep (K36) hq37 RH.1
          replace Sf_b28 := Safe.keep (K36) hq37 RH.1 Sf_b28
          replace Sf_b30 := Safe.keep (K36) hq37 RH.1 Sf_b30
          replace RH := RH.trans hs37
          replace Z_ad := StaKeep Z_ad K36 (allS (staArv V_b30_o) all0)
          replace Z_hs := StaKeep Z_hs K36 (allS (staArv V_b30_o) all0)
          replace Z_ls := StaKeep Z_ls K36 (allS (staArv V_b30_o) all0)
          replace Z_cs := StaKeep Z_cs K36 (allS (staArv V_b30_o) all0)
          replace E_b28 := E_b28.keep K36
          replace F_value_b28 := F_value_b28.keep K36 (ninS ne_b28_b30 nin0)
          replace F_coder_b28 := F_coder_b28.keep K36 (ninS ne_b28_b30 nin0)
          replace V_b30 : Arv Z h36 b30 k30 .char (3 : Int32) [(.int c0), (.int c1), (.int c2)] (.int (0 : Int32)) := V36
          refine Go.of (T' := T36) (f' := (mkF m 83 #[.val (.int (Int32.ofNat nk)), .val (.int c0), .val (.int c1), .val (.int c2), .val (.int c3)] [(.ref b30), (.ref b28), (.ref b28)])) st36 ?_
          have hbr : ∀ c ∈ ([c0, c1, c2] : List Int32), ¬ c < 0 ∧ ¬ (65535 : Int32) < c := fun c hc => hb4 c (List.mem_of_mem_take (i := 3) (show c ∈ List.take 3 [c0, c1, c2, c3] from hc))
          by_cases hal : ∀ c ∈ ([c0, c1, c2] : List Int32), ¬ (255 : Int32) < c
          ·
            refine goI X36 hx hZ rfl hown (hw _ (List.mem_of_getElem? (i := 12) rfl)) (hw _ (List.mem_of_getElem? (i := 13) rfl)) (hw _ (List.mem_of_getElem? (i := 14) rfl)) (by decide) (C := 1) (S := 3) (newStr (W := 1) hZ (hw_words hw) (hw _ (List.mem_of_getElem? (i := 9) rfl)) (cs := [c0, c1, c2]) E_b28 F_value_b28 F_coder_b28 V_b30 rfl Z_cs hz (n := 3) rfl rfl (by decide) (by decide) (fun c hc => ⟨(hbr c hc).1, hal c hc⟩) (by decide) (by decide)) e36 (argsL := [(.ref b30)]) (rest := [(.ref b28)]) (by rw [hml]; rfl) (lenOf pd___C_V rfl) rfl rfl (hb hby d_method_6_code_83) (Nat.le_of_eq rfl) (by decide) (by decide) ?_
            intro v38 T38 L38 X38 hQ38
            obtain ⟨h38, e38⟩ : ∃ z, T38.heap = z := ⟨_, rfl⟩
            rw [e38] at hQ38
            have E_b28_o := E_b28
            obtain ⟨rfl, Mc38, t38, le38, S38⟩ := hQ38
            have ne_b28_t38 : b28 ≠ t38 := Nat.ne_of_lt (Nat.lt_of_lt_of_le E_b28.lt le38)
            have ne_b30_t38 : b30 ≠ t38 := Nat.ne_of_lt (Nat.lt_of_lt_of_le V_b30.lt le38)
            have fr_t38 : h0.size ≤ t38 := Nat.le_trans M36.le le38
            have Sf_t38 := Safe.new (Z := Z) (EL := consts_1) (vm := s.vm) le38
            have M38 := M36.app Mc38 (allS (Or.inr fr_b28) all0)
            replace hk := Nat.le_trans hk (Mc38.1).1
            have hq39 : ∀ x ∈ ([b28] : List Addr), Safe Z consts_1 s.vm h36 x := (sfS Sf_b28 sf0)
            have hs39 := CHr.keep (Mc38.1) hq39 RH.1
            replace Sf_b28 := Safe.keep (Mc38.1) hq39 RH.1 Sf_b28
            replace Sf_b30 := Safe.keep (Mc38.1) hq39 RH.1 Sf_b30
            replace Sf_t38 := Safe.keep (Mc38.1) hq39 RH.1 Sf_t38
            replace RH := RH.trans hs39
            replace Z_ad := StaKeep Z_ad Mc38.1 (allS (staExa E_b28_o) all0)
            replace Z_hs := StaKeep Z_hs Mc38.1 (allS (staExa E_b28_o) all0)
            replace Z_ls := StaKeep Z_ls Mc38.1 (allS (staExa E_b28_o) all0)
            replace Z_cs := StaKeep Z_cs Mc38.1 (allS (staExa E_b28_o) all0)
            replace E_b28 := E_b28.keep Mc38.1
            replace V_b30 := V_b30.keep Mc38.1 (ninS (Ne.symm ne_b28_b30) nin0)
            have S_b28 := S38
            show Go p e below P T38 (mkF m 86 #[.val (.int (Int32.ofNat nk)), .val (.int c0), .val (.int c1), .val (.int c2), .val (.int c3)] [(.ref b28)])
            exact goRetRH (Q := fun v h L => Mv h0 h [] L ∧ ∃ a t : Addr, v = some (.ref a) ∧ h0.size ≤ a ∧ Str Z h a t (List.take nk [c0, c1, c2, c3])) X38 hx hZ hS hk (hEL_1 hw) RH hret rfl hlk rfl rfl (hb hby d_method_6_code_86) K (by decide) (by decide) e38 (⟨M38, b28, t38, rfl, fr_b28, by rw [show nk = 3 from ofk (j := 3) (by omega) (by omega) hc61]; exact S_b28⟩)
          ·
            have hwd : ∃ c ∈ ([c0, c1, c2] : List Int32), (255 : Int32) < c := Classical.byContradiction fun q => hal fun c hc r => q ⟨c, hc, r⟩
            refine goI X36 hx hZ rfl hown (hw _ (List.mem_of_getElem? (i := 12) rfl)) (hw _ (List.mem_of_getElem? (i := 13) rfl)) (hw _ (List.mem_of_getElem? (i := 14) rfl)) (by decide) (C := 2) (S := 24) ((rm_in l Z a0 hw b28 b30 k30 [c0, c1, c2] zc h36 E_b28 F_value_b28 F_coder_b28 V_b30 (Nat.le_of_ble_eq_true rfl) (by simp) (Ne.symm ne_b28_b30) hwd hbr Z_ad Z_hs Z_ls Z_cs hz).bk (W := 1) hZ (hw _ (List.mem_of_getElem? (i := 14) rfl)) (hw _ (List.mem_of_getElem? (i := 10) rfl)) (by decide) (by decide)) e36 (argsL := [(.ref b30)]) (rest := [(.ref b28)]) (by rw [hml]; rfl) (lenOf pd___C_V rfl) rfl rfl (hb hby d_method_6_code_83) (Nat.le_of_eq rfl) (by decide) (by decide) ?_
            intro v40 T40 L40 X40 hQ40
            obtain ⟨h40, e40⟩ : ∃ z, T40.heap = z := ⟨_, rfl⟩
            rw [e40] at hQ40
            have E_b28_o := E_b28
            obtain ⟨rfl, Mc40, t40, le40, S40⟩ := hQ40
            have ne_b28_t40 : b28 ≠ t40 := Nat.ne_of_lt (Nat.lt_of_lt_of_le E_b28.lt le40)
            have ne_b30_t40 : b30 ≠ t40 := Nat.ne_of_lt (Nat.lt_of_lt_of_le V_b30.lt le40)
            have fr_t40 : h0.size ≤ t40 := Nat.le_trans M36.le le40
            have Sf_t40 := Safe.new (Z := Z) (EL := consts_1) (vm := s.vm) le40
            have M40 := M36.app Mc40 (allS (Or.inr fr_b28) all0)
            replace hk := Nat.le_trans hk (Mc40.1).1
            have hq41 : ∀ x ∈ ([b28] : List Addr), Safe Z consts_1 s.vm h36 x := (sfS Sf_b28 sf0)
            have hs41 := CHr.keep (Mc40.1) hq41 RH.1
            replace Sf_b28 := Safe.keep (Mc40.1) hq41 RH.1 Sf_b28
            replace Sf_b30 := Safe.keep (Mc40.1) hq41 RH.1 Sf_b30
            replace Sf_t40 := Safe.keep (Mc40.1) hq41 RH.1 Sf_t40
            replace RH := RH.trans hs41
            replace Z_ad := StaKeep Z_ad Mc40.1 (allS (staExa E_b28_o) all0)
            replace Z_hs := StaKeep Z_hs Mc40.1 (allS (staExa E_b28_o) all0)
            replace Z_ls := StaKeep Z_ls Mc40.1 (allS (staExa E_b28_o) all0)
            replace Z_cs := StaKeep Z_cs Mc40.1 (allS (staExa E_b28_o) all0)
            replace E_b28 := E_b28.keep Mc40.1
            replace V_b30 := V_b30.keep Mc40.1 (ninS (Ne.symm ne_b28_b30) nin0)
            have S_b28 := S40
            show Go p e below P T40 (mkF m 86 #[.val (.int (Int32.ofNat nk)), .val (.int c0), .val (.int c1), .val (.int c2), .val (.int c3)] [(.ref b28)])
            exact goRetRH (Q := fun v h L => Mv h0 h [] L ∧ ∃ a t : Addr, v = some (.ref a) ∧ h0.size ≤ a ∧ Str Z h a t (List.take nk [c0, c1, c2, c3])) X40 hx hZ hS hk (hEL_1 hw) RH hret rfl hlk rfl rfl (hb hby d_method_6_code_86) K (by decide) (by decide) e40 (⟨M40, b28, t40, rfl, fr_b28, by rw [show nk = 3 from ofk (j := 3) (by omega) (by omega) hc61]; exact S_b28⟩)
        ·
          refine Go.of (T' := s₁) (f' := (mkF m 87 #[.val (.int (Int32.ofNat nk)), .val (.int c0), .val (.int c1), .val (.int c2), .val (.int c3)] [])) (fun _ k => XS.icmpYes X0.here hx rfl (pc0 := 61) (pc' := 87) rfl (hb hby d_method_6_code_61) rfl (feq hc61).2 (by decide) (by decide) k) ?_
          obtain ⟨T42, h42, X42, e42, E42, A42, D42, -, st42⟩ := newO X0 hx hZ hown (hw _ (List.mem_of_getElem? (i := 8) rfl)) (hw _ (List.mem_of_getElem? (i := 9) rfl)) (hw _ (List.mem_of_getElem? (i := 10) rfl)) e0 (g := (mkF m 87 #[.val (.int (Int32.ofNat nk)), .val (.int c0), .val (.int c1), .val (.int c2), .val (.int c3)] [])) rfl (hb hby d_method_6_code_87) (by decide) (by decide)
          obtain ⟨b42, g42⟩ : ∃ z, z = h0.size := ⟨_, rfl⟩
          rw [← g42] at A42 D42 st42
          have fr_b42 : h0.size ≤ b42 := Nat.le_trans M0.le (Nat.le_of_eq g42.symm)
          have Sf_b42 := Safe.new (Z := Z) (EL := consts_1) (vm := s.vm) (Nat.le_of_eq g42.symm)
          have K42 := keepE E42
          have M42 := M0.ext E42
          replace hk := Nat.le_trans hk (K42).1
          have hs43 := CHr.keep (K42) sf0 RH.1
          replace Sf_b42 := Safe.keep (K42) sf0 RH.1 Sf_b42
          replace RH := RH.trans hs43
          replace Z_ad := StaKeep Z_ad K42 all0
          replace Z_hs := StaKeep Z_hs K42 all0
          replace Z_ls := StaKeep Z_ls K42 all0
          replace Z_cs := StaKeep Z_cs K42 all0
          have E_b42 := A42
          have F_value_b42 : Fld Z h42 b42 "java/lang/String" "value" "[B" .null := D42 (Or.inr (hw _ (List.mem_of_getElem? (i := 24) rfl))) (ty := (.array .byte)) (by decide)
          have F_coder_b42 : Fld Z h42 b42 "java/lang/String" "coder" "B" (.int (0 : Int32)) := D42 (Or.inr (hw _ (List.mem_of_getElem? (i := 25) rfl))) (ty := .byte) (by decide)
          refine Go.of (T' := T42) (f' := (mkF m 90 #[.val (.int (Int32.ofNat nk)), .val (.int c0), .val (.int c1), .val (.int c2), .val (.int c3)] [(.ref b42)])) st42 ?_
          refine Go.of (T' := T42) (f' := (mkF m 91 #[.val (.int (Int32.ofNat nk)), .val (.int c0), .val (.int c1), .val (.int c2), .val (.int c3)] [(.ref b42), (.ref b42)])) (fun _ k => XS.dup X42.here hx rfl (hb hby d_method_6_code_90) rfl rfl k) ?_
          refine Go.of (T' := T42) (f' := (mkF m 92 #[.val (.int (Int32.ofNat nk)), .val (.int c0), .val (.int c1), .val (.int c2), .val (.int c3)] [(.int (4 : Int32)), (.ref b42), (.ref b42)])) (fun _ k => XS.iconst X42.here hx rfl (hb hby d_method_6_code_91) k) ?_
          obtain ⟨T44, h44, k44, X44, e44, E44, A44, st44⟩ := newP X42 hx hZ (hw _ (List.mem_of_getElem? (i := 11) rfl)) e42 (g := (mkF m 92 #[.val (.int (Int32.ofNat nk)), .val (.int c0), .val (.int c1), .val (.int c2), .val (.int c3)] [(.int (4 : Int32)), (.ref b42), (.ref b42)])) rfl (hb hby d_method_6_code_92) rfl (by decide) (cap := 4) (by decide) (by decide) (by decide) (by decide)
          obtain ⟨b44, g44⟩ : ∃ z, z = h42.size := ⟨_, rfl⟩
          rw [← g44] at A44 st44
          have ne_b42_b44 : b42 ≠ b44 := Nat.ne_of_lt (Nat.lt_of_lt_of_le E_b42.lt (Nat.le_of_eq g44.symm))
          have fr_b44 : h0.size ≤ b44 := Nat.le_trans M42.le (Nat.le_of_eq g44.symm)
          have Sf_b44 := Safe.new (Z := Z) (EL := consts_1) (vm := s.vm) (Nat.le_of_eq g44.symm)
          have K44 := keepE E44
          have M44 := M42.ext E44
          replace hk := Nat.le_trans hk (K44).1
          have hs45 := CHr.keep (K44) sf0 RH.1
          replace Sf_b42 := Safe.keep (K44) sf0 RH.1 Sf_b42
          replace Sf_b44 := Safe.keep (K44) sf0 RH.1 Sf_b44
          replace RH := RH.trans hs45
          replace Z_ad := StaKeep Z_ad K44 all0
          replace Z_hs := StaKeep Z_hs K44 all0
          replace Z_ls := StaKeep Z_ls K44 all0
          replace Z_cs := StaKeep Z_cs K44 all0
          replace E_b42 := E_b42.keep K44
          replace F_value_b42 := F_value_b42.keep K44 nin0
          replace F_coder_b42 := F_coder_b42.keep K44 nin0
          have V_b44 : Arv Z h44 b44 k44 .char (4 : Int32) [(.int (0 : Int32)), (.int (0 : Int32)), (.int (0 : Int32)), (.int (0 : Int32))] (.int (0 : Int32)) := (Arv.new A44 (by decide)).pad (pad_rep [] (.int (0 : Int32)) 4)
          refine Go.of (T' := T44) (f' := (mkF m 94 #[.val (.int (Int32.ofNat nk)), .val (.int c0), .val (.int c1), .val (.int c2), .val (.int c3)] [(.ref b44), (.ref b42), (.ref b42)])) st44 ?_
          refine Go.of (T' := T44) (f' := (mkF m 95 #[.val (.int (Int32.ofNat nk)), .val (.int c0), .val (.int c1), .val (.int c2), .val (.int c3)] [(.ref b44), (.ref b44), (.ref b42), (.ref b42)])) (fun _ k => XS.dup X44.here hx rfl (hb hby d_method_6_code_94) rfl rfl k) ?_
          refine Go.of (T' := T44) (f' := (mkF m 96 #[.val (.int (Int32.ofNat nk)), .val (.int c0), .val (.int c1), .val (.int c2), .val (.int c3)] [(.int (0 : Int32)), (.ref b44), (.ref b44), (.ref b42), (.ref b42)])) (fun _ k => XS.iconst X44.here hx rfl (hb hby d_method_6_code_95) k) ?_
          refine Go.of (T' := T44) (f' := (mkF m 97 #[.val (.int (Int32.ofNat nk)), .val (.int c0), .val (.int c1), .val (.int c2), .val (.int c3)] [(.int c0), (.int (0 : Int32)), (.ref b44), (.ref b44), (.ref b42), (.ref b42)])) (fun _ k => XS.iloadN X44.here hx rfl (hb hby d_method_6_code_96) rfl k) ?_
          obtain ⟨cl46, Ar46, cq46, Sz46, Nn46, Hs46, Gs46⟩ := id V_b44
          have hin46 : ¬ ((0 : Int32) < 0 ∨ cl46.slots.size ≤ ((0 : Int32)).toNatClampNeg) := inb_of Sz46 ⟨by decide, by decide⟩
          obtain ⟨T46, h46, X46, e46, W46, st46⟩ := stC X44 hx hZ e44 Ar46 (j := (0 : Int32)) hin46 (g := (mkF m 97 #[.val (.int (Int32.ofNat nk)), .val (.int c0), .val (.int c1), .val (.int c2), .val (.int c3)] [(.int c0), (.int (0 : Int32)), (.ref b44), (.ref b44), (.ref b42), (.ref b42)])) rfl rfl (hb hby d_method_6_code_97)
          have fq46 : fits .char (.int (nar .char c0)) = true := fits_nar_char _
          rw [show nar .char c0 = c0 from nar_rng (hb4 _ (by simp))] at W46 fq46
          have V46 := Arv.set Ar46 cq46 Sz46 Nn46 Hs46 Gs46 fq46 W46 0 rfl (Nat.le_of_ble_eq_true rfl)
          have V_b44_o := V_b44
          have K46 := Keep.of_wr W46
          have M46 := M44.wr W46 (Or.inr fr_b44)
          replace hk := Nat.le_trans hk (K46).1
          have hq47 : ∀ x ∈ ([b44] : List Addr), Safe Z consts_1 s.vm h44 x := (sfS Sf_b44 sf0)
          have hs47 := CHr.keep (K46) hq47 RH.1
          replace Sf_b42 := Safe.keep (K46) hq47 RH.1 Sf_b42
          replace Sf_b44 := Safe.keep (K46) hq47 RH.1 Sf_b44
          replace RH := RH.trans hs47
          replace Z_ad := StaKeep Z_ad K46 (allS (staArv V_b44_o) all0)
          replace Z_hs := StaKeep Z_hs K46 (allS (staArv V_b44_o) all0)
          replace Z_ls := StaKeep Z_ls K46 (allS (staArv V_b44_o) all0)
          replace Z_cs := StaKeep Z_cs K46 (allS (staArv V_b44_o) all0)
          replace E_b42 := E_b42.keep K46
          replace F_value_b42 := F_value_b42.keep K46 (ninS ne_b42_b44 nin0)
          replace F_coder_b42 := F_coder_b42.keep K46 (ninS ne_b42_b44 nin0)
          replace V_b44 : Arv Z h46 b44 k44 .char (4 : Int32) [(.int c0), (.int (0 : Int32)), (.int (0 : Int32)), (.int (0 : Int32))] (.int (0 : Int32)) := V46
          refine Go.of (T' := T46) (f' := (mkF m 98 #[.val (.int (Int32.ofNat nk)), .val (.int c0), .val (.int c1), .val (.int c2), .val (.int c3)] [(.ref b44), (.ref b42), (.ref b42)])) st46 ?_
          refine Go.of (T' := T46) (f' := (mkF m 99 #[.val (.int (Int32.ofNat nk)), .val (.int c0), .val (.int c1), .val (.int c2), .val (.int c3)] [(.ref b44), (.ref b44), (.ref b42), (.ref b42)])) (fun _ k => XS.dup X46.here hx rfl (hb hby d_method_6_code_98) rfl rfl k) ?_
          refine Go.of (T' := T46) (f' := (mkF m 100 #[.val (.int (Int32.ofNat nk)), .val (.int c0), .val (.int c1), .val (.int c2), .val (.int c3)] [(.int (1 : Int32)), (.ref b44), (.ref b44), (.ref b42), (.ref b42)])) (fun _ k => XS.iconst X46.here hx rfl (hb hby d_method_6_code_99) k) ?_
          refine Go.of (T' := T46) (f' := (mkF m 101 #[.val (.int (Int32.ofNat nk)), .val (.int c0), .val (.int c1), .val (.int c2), .val (.int c3)] [(.int c1), (.int (1 : Int32)), (.ref b44), (.ref b44), (.ref b42), (.ref b42)])) (fun _ k => XS.iloadN X46.here hx rfl (hb hby d_method_6_code_100) rfl k) ?_
          obtain ⟨cl48, Ar48, cq48, Sz48, Nn48, Hs48, Gs48⟩ := id V_b44
          have hin48 : ¬ ((1 : Int32) < 0 ∨ cl48.slots.size ≤ ((1 : Int32)).toNatClampNeg) := inb_of Sz48 ⟨by decide, by decide⟩
          obtain ⟨T48, h48, X48, e48, W48, st48⟩ := stC X46 hx hZ e46 Ar48 (j := (1 : Int32)) hin48 (g := (mkF m 101 #[.val (.int (Int32.ofNat nk)), .val (.int c0), .val (.int c1), .val (.int c2), .val (.int c3)] [(.int c1), (.int (1 : Int32)), (.ref b44), (.ref b44), (.ref b42), (.ref b42)])) rfl rfl (hb hby d_method_6_code_101)
          have fq48 : fits .char (.int (nar .char c1)) = true := fits_nar_char _
          rw [show nar .char c1 = c1 from nar_rng (hb4 _ (by simp))] at W48 fq48
          have V48 := Arv.set Ar48 cq48 Sz48 Nn48 Hs48 Gs48 fq48 W48 1 rfl (Nat.le_of_ble_eq_true rfl)
          have V_b44_o := V_b44
          have K48 := Keep.of_wr W48
          have M48 := M46.wr W48 (Or.inr fr_b44)
          replace hk := Nat.le_trans hk (K48).1
          have hq49 : ∀ x ∈ ([b44] : List Addr), Safe Z consts_1 s.vm h46 x := (sfS Sf_b44 sf0)
          have hs49 := CHr.keep (K48) hq49 RH.1
          replace Sf_b42 := Safe.keep (K48) hq49 RH.1 Sf_b42
          replace Sf_b44 := Safe.keep (K48) hq49 RH.1 Sf_b44
          replace RH := RH.trans hs49
          replace Z_ad := StaKeep Z_ad K48 (allS (staArv V_b44_o) all0)
          replace Z_hs := StaKeep Z_hs K48 (allS (staArv V_b44_o) all0)
          replace Z_ls := StaKeep Z_ls K48 (allS (staArv V_b44_o) all0)
          replace Z_cs := StaKeep Z_cs K48 (allS (staArv V_b44_o) all0)
          replace E_b42 := E_b42.keep K48
          replace F_value_b42 := F_value_b42.keep K48 (ninS ne_b42_b44 nin0)
          replace F_coder_b42 := F_coder_b42.keep K48 (ninS ne_b42_b44 nin0)
          replace V_b44 : Arv Z h48 b44 k44 .char (4 : Int32) [(.int c0), (.int c1), (.int (0 : Int32)), (.int (0 : Int32))] (.int (0 : Int32)) := V48
          refine Go.of (T' := T48) (f' := (mkF m 102 #[.val (.int (Int32.ofNat nk)), .val (.int c0), .val (.int c1), .val (.int c2), .val (.int c3)] [(.ref b44), (.ref b42), (.ref b42)])) st48 ?_
          refine Go.of (T' := T48) (f' := (mkF m 103 #[.val (.int (Int32.ofNat nk)), .val (.int c0), .val (.int c1), .val (.int c2), .val (.int c3)] [(.ref b44), (.ref b44), (.ref b42), (.ref b42)])) (fun _ k => XS.dup X48.here hx rfl (hb hby d_method_6_code_102) rfl rfl k) ?_
          refine Go.of (T' := T48) (f' := (mkF m 104 #[.val (.int (Int32.ofNat nk)), .val (.int c0), .val (.int c1), .val (.int c2), .val (.int c3)] [(.int (2 : Int32)), (.ref b44), (.ref b44), (.ref b42), (.ref b42)])) (fun _ k => XS.iconst X48.here hx rfl (hb hby d_method_6_code_103) k) ?_
          refine Go.of (T' := T48) (f' := (mkF m 105 #[.val (.int (Int32.ofNat nk)), .val (.int c0), .val (.int c1), .val (.int c2), .val (.int c3)] [(.int c2), (.int (2 : Int32)), (.ref b44), (.ref b44), (.ref b42), (.ref b42)])) (fun _ k => XS.iloadN X48.here hx rfl (hb hby d_method_6_code_104) rfl k) ?_
          obtain ⟨cl50, Ar50, cq50, Sz50, Nn50, Hs50, Gs50⟩ := id V_b44
          have hin50 : ¬ ((2 : Int32) < 0 ∨ cl50.slots.size ≤ ((2 : Int32)).toNatClampNeg) := inb_of Sz50 ⟨by decide, by decide⟩
          obtain ⟨T50, h50, X50, e50, W50, st50⟩ := stC X48 hx hZ e48 Ar50 (j := (2 : Int32)) hin50 (g := (mkF m 105 #[.val (.int (Int32.ofNat nk)), .val (.int c0), .val (.int c1), .val (.int c2), .val (.int c3)] [(.int c2), (.int (2 : Int32)), (.ref b44), (.ref b44), (.ref b42), (.ref b42)])) rfl rfl (hb hby d_method_6_code_105)
          have fq50 : fits .char (.int (nar .char c2)) = true := fits_nar_char _
          rw [show nar .char c2 = c2 from nar_rng (hb4 _ (by simp))] at W50 fq50
          have V50 := Arv.set Ar50 cq50 Sz50 Nn50 Hs50 Gs50 fq50 W50 2 rfl (Nat.le_of_ble_eq_true rfl)
          have V_b44_o := V_b44
          have K50 := Keep.of_wr W50
          have M50 := M48.wr W50 (Or.inr fr_b44)
          replace hk := Nat.le_trans hk (K50).1
          have hq51 : ∀ x ∈ ([b44] : List Addr), Safe Z consts_1 s.vm h48 x := (sfS Sf_b44 sf0)
          have hs51 := CHr.keep (K50) hq51 RH.1
          replace Sf_b42 := Safe.keep (K50) hq51 RH.1 Sf_b42
          replace Sf_b44 := Safe.keep (K50) hq51 RH.1 Sf_b44
          replace RH := RH.trans hs51
          replace Z_ad := StaKeep Z_ad K50 (allS (staArv V_b44_o) all0)
          replace Z_hs := StaKeep Z_hs K50 (allS (staArv V_b44_o) all0)
          replace Z_ls := StaKeep Z_ls K50 (allS (staArv V_b44_o) all0)
          replace Z_cs := StaKeep Z_cs K50 (allS (staArv V_b44_o) all0)
          replace E_b42 := E_b42.keep K50
          replace F_value_b42 := F_value_b42.keep K50 (ninS ne_b42_b44 nin0)
          replace F_coder_b42 := F_coder_b42.keep K50 (ninS ne_b42_b44 nin0)
          replace V_b44 : Arv Z h50 b44 k44 .char (4 : Int32) [(.int c0), (.int c1), (.int c2), (.int (0 : Int32))] (.int (0 : Int32)) := V50
          refine Go.of (T' := T50) (f' := (mkF m 106 #[.val (.int (Int32.ofNat nk)), .val (.int c0), .val (.int c1), .val (.int c2), .val (.int c3)] [(.ref b44), (.ref b42), (.ref b42)])) st50 ?_
          refine Go.of (T' := T50) (f' := (mkF m 107 #[.val (.int (Int32.ofNat nk)), .val (.int c0), .val (.int c1), .val (.int c2), .val (.int c3)] [(.ref b44), (.ref b44), (.ref b42), (.ref b42)])) (fun _ k => XS.dup X50.here hx rfl (hb hby d_method_6_code_106) rfl rfl k) ?_
          refine Go.of (T' := T50) (f' := (mkF m 108 #[.val (.int (Int32.ofNat nk)), .val (.int c0), .val (.int c1), .val (.int c2), .val (.int c3)] [(.int (3 : Int32)), (.ref b44), (.ref b44), (.ref b42), (.ref b42)])) (fun _ k => XS.iconst X50.here hx rfl (hb hby d_method_6_code_107) k) ?_
          refine Go.of (T' := T50) (f' := (mkF m 110 #[.val (.int (Int32.ofNat nk)), .val (.int c0), .val (.int c1), .val (.int c2), .val (.int c3)] [(.int c3), (.int (3 : Int32)), (.ref b44), (.ref b44), (.ref b42), (.ref b42)])) (fun _ k => XS.iload X50.here hx rfl (hb hby d_method_6_code_108) rfl k) ?_
          obtain ⟨cl52, Ar52, cq52, Sz52, Nn52, Hs52, Gs52⟩ := id V_b44
          have hin52 : ¬ ((3 : Int32) < 0 ∨ cl52.slots.size ≤ ((3 : Int32)).toNatClampNeg) := inb_of Sz52 ⟨by decide, by decide⟩
          obtain ⟨T52, h52, X52, e52, W52, st52⟩ := stC X50 hx hZ e50 Ar52 (j := (3 : Int32)) hin52 (g := (mkF m 110 #[.val (.int (Int32.ofNat nk)), .val (.int c0), .val (.int c1), .val (.int c2), .val (.int c3)] [(.int c3), (.int (3 : Int32)), (.ref b44), (.ref b44), (.ref b42), (.ref b42)])) rfl rfl (hb hby d_method_6_code_110)
          have fq52 : fits .char (.int (nar .char c3)) = true := fits_nar_char _
          rw [show nar .char c3 = c3 from nar_rng (hb4 _ (by simp))] at W52 fq52
          have V52 := Arv.set Ar52 cq52 Sz52 Nn52 Hs52 Gs52 fq52 W52 3 rfl (Nat.le_of_ble_eq_true rfl)
          have V_b44_o := V_b44
          have K52 := Keep.of_wr W52
          have M52 := M50.wr W52 (Or.inr fr_b44)
          replace hk := Nat.le_trans hk (K52).1
          have hq53 : ∀ x ∈ ([b44] : List Addr), Safe Z consts_1 s.vm h50 x := (sfS Sf_b44 sf0)
          have hs53 := CHr.keep (K52) hq53 RH.1
          replace Sf_b42 := Safe.keep (K52) hq53 RH.1 Sf_b42
          replace Sf_b44 := Safe.keep (K52) hq53 RH.1 Sf_b44
          replace RH := RH.trans hs53
          replace Z_ad := StaKeep Z_ad K52 (allS (staArv V_b44_o) all0)
          replace Z_hs := StaKeep Z_hs K52 (allS (staArv V_b44_o) all0)
          replace Z_ls := StaKeep Z_ls K52 (allS (staArv V_b44_o) all0)
          replace Z_cs := StaKeep Z_cs K52 (allS (staArv V_b44_o) all0)
          replace E_b42 := E_b42.keep K52
          replace F_value_b42 := F_value_b42.keep K52 (ninS ne_b42_b44 nin0)
          replace F_coder_b42 := F_coder_b42.keep K52 (ninS ne_b42_b44 nin0)
          replace V_b44 : Arv Z h52 b44 k44 .char (4 : Int32) [(.int c0), (.int c1), (.int c2), (.int c3)] (.int (0 : Int32)) := V52
          refine Go.of (T' := T52) (f' := (mkF m 111 #[.val (.int (Int32.ofNat nk)), .val (.int c0), .val (.int c1), .val (.int c2), .val (.int c3)] [(.ref b44), (.ref b42), (.ref b42)])) st52 ?_
          have hbr : ∀ c ∈ ([c0, c1, c2, c3] : List Int32), ¬ c < 0 ∧ ¬ (65535 : Int32) < c := fun c hc => hb4 c (List.mem_of_mem_take (i := 4) (show c ∈ List.take 4 [c0, c1, c2, c3] from hc))
          by_cases hal : ∀ c ∈ ([c0, c1, c2, c3] : List Int32), ¬ (255 : Int32) < c
          ·
            refine goI X52 hx hZ rfl hown (hw _ (List.mem_of_getElem? (i := 12) rfl)) (hw _ (List.mem_of_getElem? (i := 13) rfl)) (hw _ (List.mem_of_getElem? (i := 14) rfl)) (by decide) (C := 1) (S := 4) (newStr (W := 1) hZ (hw_words hw) (hw _ (List.mem_of_getElem? (i := 9) rfl)) (cs := [c0, c1, c2, c3]) E_b42 F_value_b42 F_coder_b42 V_b44 rfl Z_cs hz (n := 4) rfl rfl (by decide) (by decide) (fun c hc => ⟨(hbr c hc).1, hal c hc⟩) (by decide) (by decide)) e52 (argsL := [(.ref b44)]) (rest := [(.ref b42)]) (by rw [hml]; rfl) (lenOf pd___C_V rfl) rfl rfl (hb hby d_method_6_code_111) (Nat.le_of_eq rfl) (by decide) (by decide) ?_
            intro v54 T54 L54 X54 hQ54
            obtain ⟨h54, e54⟩ : ∃ z, T54.heap = z := ⟨_, rfl⟩
            rw [e54] at hQ54
            have E_b42_o := E_b42
            obtain ⟨rfl, Mc54, t54, le54, S54⟩ := hQ54
            have ne_b42_t54 : b42 ≠ t54 := Nat.ne_of_lt (Nat.lt_of_lt_of_le E_b42.lt le54)
            have ne_b44_t54 : b44 ≠ t54 := Nat.ne_of_lt (Nat.lt_of_lt_of_le V_b44.lt le54)
            have fr_t54 : h0.size ≤ t54 := Nat.le_trans M52.le le54
            have Sf_t54 := Safe.new (Z := Z) (EL := consts_1) (vm := s.vm) le54
            have M54 := M52.app Mc54 (allS (Or.inr fr_b42) all0)
            replace hk := Nat.le_trans hk (Mc54.1).1
            have hq55 : ∀ x ∈ ([b42] : List Addr), Safe Z consts_1 s.vm h52 x := (sfS Sf_b42 sf0)
            have hs55 := CHr.keep (Mc54.1) hq55 RH.1
            replace Sf_b42 := Safe.keep (Mc54.1) hq55 RH.1 Sf_b42
            replace Sf_b44 := Safe.keep (Mc54.1) hq55 RH.1 Sf_b44
            replace Sf_t54 := Safe.keep (Mc54.1) hq55 RH.1 Sf_t54
            replace RH := RH.trans hs55
            replace Z_ad := StaKeep Z_ad Mc54.1 (allS (staExa E_b42_o) all0)
            replace Z_hs := StaKeep Z_hs Mc54.1 (allS (staExa E_b42_o) all0)
            replace Z_ls := StaKeep Z_ls Mc54.1 (allS (staExa E_b42_o) all0)
            replace Z_cs := StaKeep Z_cs Mc54.1 (allS (staExa E_b42_o) all0)
            replace E_b42 := E_b42.keep Mc54.1
            replace V_b44 := V_b44.keep Mc54.1 (ninS (Ne.symm ne_b42_b44) nin0)
            have S_b42 := S54
            show Go p e below P T54 (mkF m 114 #[.val (.int (Int32.ofNat nk)), .val (.int c0), .val (.int c1), .val (.int c2), .val (.int c3)] [(.ref b42)])
            exact goRetRH (Q := fun v h L => Mv h0 h [] L ∧ ∃ a t : Addr, v = some (.ref a) ∧ h0.size ≤ a ∧ Str Z h a t (List.take nk [c0, c1, c2, c3])) X54 hx hZ hS hk (hEL_1 hw) RH hret rfl hlk rfl rfl (hb hby d_method_6_code_114) K (by decide) (by decide) e54 (⟨M54, b42, t54, rfl, fr_b42, by rw [show nk = 4 from mk4 hnk hc1 hc17 hc37 hc61]; exact S_b42⟩)
          ·
            have hwd : ∃ c ∈ ([c0, c1, c2, c3] : List Int32), (255 : Int32) < c := Classical.byContradiction fun q => hal fun c hc r => q ⟨c, hc, r⟩
            refine goI X52 hx hZ rfl hown (hw _ (List.mem_of_getElem? (i := 12) rfl)) (hw _ (List.mem_of_getElem? (i := 13) rfl)) (hw _ (List.mem_of_getElem? (i := 14) rfl)) (by decide) (C := 2) (S := 24) ((rm_in l Z a0 hw b42 b44 k44 [c0, c1, c2, c3] zc h52 E_b42 F_value_b42 F_coder_b42 V_b44 (Nat.le_of_ble_eq_true rfl) (by simp) (Ne.symm ne_b42_b44) hwd hbr Z_ad Z_hs Z_ls Z_cs hz).bk (W := 1) hZ (hw _ (List.mem_of_getElem? (i := 14) rfl)) (hw _ (List.mem_of_getElem? (i := 10) rfl)) (by decide) (by decide)) e52 (argsL := [(.ref b44)]) (rest := [(.ref b42)]) (by rw [hml]; rfl) (lenOf pd___C_V rfl) rfl rfl (hb hby d_method_6_code_111) (Nat.le_of_eq rfl) (by decide) (by decide) ?_
            intro v56 T56 L56 X56 hQ56
            obtain ⟨h56, e56⟩ : ∃ z, T56.heap = z := ⟨_, rfl⟩
            rw [e56] at hQ56
            have E_b42_o := E_b42
            obtain ⟨rfl, Mc56, t56, le56, S56⟩ := hQ56
            have ne_b42_t56 : b42 ≠ t56 := Nat.ne_of_lt (Nat.lt_of_lt_of_le E_b42.lt le56)
            have ne_b44_t56 : b44 ≠ t56 := Nat.ne_of_lt (Nat.lt_of_lt_of_le V_b44.lt le56)
            have fr_t56 : h0.size ≤ t56 := Nat.le_trans M52.le le56
            have Sf_t56 := Safe.new (Z := Z) (EL := consts_1) (vm := s.vm) le56
            have M56 := M52.app Mc56 (allS (Or.inr fr_b42) all0)
            replace hk := Nat.le_trans hk (Mc56.1).1
            have hq57 : ∀ x ∈ ([b42] : List Addr), Safe Z consts_1 s.vm h52 x := (sfS Sf_b42 sf0)
            have hs57 := CHr.keep (Mc56.1) hq57 RH.1
            replace Sf_b42 := Safe.keep (Mc56.1) hq57 RH.1 Sf_b42
            replace Sf_b44 := Safe.keep (Mc56.1) hq57 RH.1 Sf_b44
            replace Sf_t56 := Safe.keep (Mc56.1) hq57 RH.1 Sf_t56
            replace RH := RH.trans hs57
            replace Z_ad := StaKeep Z_ad Mc56.1 (allS (staExa E_b42_o) all0)
            replace Z_hs := StaKeep Z_hs Mc56.1 (allS (staExa E_b42_o) all0)
            replace Z_ls := StaKeep Z_ls Mc56.1 (allS (staExa E_b42_o) all0)
            replace Z_cs := StaKeep Z_cs Mc56.1 (allS (staExa E_b42_o) all0)
            replace E_b42 := E_b42.keep Mc56.1
            replace V_b44 := V_b44.keep Mc56.1 (ninS (Ne.symm ne_b42_b44) nin0)
            have S_b42 := S56
            show Go p e below P T56 (mkF m 114 #[.val (.int (Int32.ofNat nk)), .val (.int c0), .val (.int c1), .val (.int c2), .val (.int c3)] [(.ref b42)])
            exact goRetRH (Q := fun v h L => Mv h0 h [] L ∧ ∃ a t : Addr, v = some (.ref a) ∧ h0.size ≤ a ∧ Str Z h a t (List.take nk [c0, c1, c2, c3])) X56 hx hZ hS hk (hEL_1 hw) RH hret rfl hlk rfl rfl (hb hby d_method_6_code_114) K (by decide) (by decide) e56 (⟨M56, b42, t56, rfl, fr_b42, by rw [show nk = 4 from mk4 hnk hc1 hc17 hc37 hc61]; exact S_b42⟩)
theorem ef_rm_peek (m : MethodId) (x0 : Addr)  : entryFrame m #[(.ref x0)] 1 = mkF m 0 #[.val (.ref x0)] [] := by first | (simp [entryFrame, mkF, argsToLocals, Value.category]; done) | rfl
theorem d_prog_33_method_11_code_0 : decode prog_33_method_11_code 0 = .ok (.aload_n 0, 1) := by decide +kernel
theorem d_prog_33_method_11_code_1 : decode prog_33_method_11_code 1 = .ok (.invokevirtual 38, 3) := by decide +kernel
theorem pd___V : parseMethodDescriptor "()V" = some ⟨[], none⟩ := by decide +kernel
theorem d_prog_33_method_11_code_4 : decode prog_33_method_11_code 4 = .ok (.aload_n 0, 1) := by decide +kernel
theorem d_prog_33_method_11_code_5 : decode prog_33_method_11_code 5 = .ok (.getfield 41, 3) := by decide +kernel
theorem d_prog_33_method_11_code_8 : decode prog_33_method_11_code 8 = .ok (.aload_n 0, 1) := by decide +kernel
theorem d_prog_33_method_11_code_9 : decode prog_33_method_11_code 9 = .ok (.getfield 19, 3) := by decide +kernel
theorem d_prog_33_method_11_code_12 : decode prog_33_method_11_code 12 = .ok (.arraylength, 1) := by decide +kernel
theorem d_prog_33_method_11_code_13 : decode prog_33_method_11_code 13 = .ok (.if_icmp .ge 15, 3) := by decide +kernel
theorem d_prog_33_method_11_code_16 : decode prog_33_method_11_code 16 = .ok (.aload_n 0, 1) := by decide +kernel
theorem d_prog_33_method_11_code_17 : decode prog_33_method_11_code 17 = .ok (.getfield 19, 3) := by decide +kernel
theorem d_prog_33_method_11_code_20 : decode prog_33_method_11_code 20 = .ok (.aload_n 0, 1) := by decide +kernel
theorem d_prog_33_method_11_code_21 : decode prog_33_method_11_code 21 = .ok (.getfield 41, 3) := by decide +kernel
theorem d_prog_33_method_11_code_24 : decode prog_33_method_11_code 24 = .ok (.caload, 1) := by decide +kernel
theorem d_prog_33_method_11_code_25 : decode prog_33_method_11_code 25 = .ok (.goto 4, 3) := by decide +kernel
theorem d_prog_33_method_11_code_29 : decode prog_33_method_11_code 29 = .ok (.ireturn, 1) := by decide +kernel
theorem d_prog_33_method_11_code_28 : decode prog_33_method_11_code 28 = .ok (.iconst (-1), 1) := by decide +kernel
set_option maxRecDepth 65536 in
set_option maxHeartbeats 40000000 in
theorem rm_peek (l : Launch) (Z : State) (a0 : Array Value) (hw : ∀ d ∈ tables_1, d.before a0 Z = true) (a1 tx b : Addr) (kb : ClassId) (cs : List Int32) (i0 j : Nat) (h0 : Heap) (E_a1 : Exa Z h0 a1 "com/example/rezeptkern/rezeptkern/JsonCursor") (F_text : Fld Z h0 a1 "com/example/rezeptkern/rezeptkern/JsonCursor" "text" "Ljava/lang/String;" (.ref tx)) (F_chars : Fld Z h0 a1 "com/example/rezeptkern/rezeptkern/JsonCursor" "chars" "[C" (.ref b)) (F_position : Fld Z h0 a1 "com/example/rezeptkern/rezeptkern/JsonCursor" "position" "I" (.int (Int32.ofNat i0))) (V_b : Arv Z h0 b kb (.char) (Int32.ofNat cs.length) (cs.map Value.int) (.int (0 : Int32))) (hle8 : cs.length ≤ 8) (hi0 : i0 ≤ cs.length) (hjq : i0 + fst (cs.drop i0) = j) :
    MeetsW l Z (⟨"com/example/rezeptkern/rezeptkern/JsonCursor", "peek", "()I"⟩ : MethodName) prog_33_method_11_code 1 (some .int) ({ frames := 1, cells := 0, slots := 0, locals := 13 } : Room) #[(.ref a1)] h0 (fun v h L => v = some (.int (if j < cs.length then cs.getD j 0 else (-1 : Int32))) ∧ Mv h0 h [a1] L ∧ Exa Z h a1 "com/example/rezeptkern/rezeptkern/JsonCursor" ∧ Fld Z h a1 "com/example/rezeptkern/rezeptkern/JsonCursor" "text" "Ljava/lang/String;" (.ref tx) ∧ Fld Z h a1 "com/example/rezeptkern/rezeptkern/JsonCursor" "chars" "[C" (.ref b) ∧ Fld Z h a1 "com/example/rezeptkern/rezeptkern/JsonCursor" "position" "I" (.int (Int32.ofNat j)) ∧ Arv Z h b kb (.char) (Int32.ofNat cs.length) (cs.map Value.int) (.int (0 : Int32))) := by
  refine MeetsW.of (plainFor_of_name pn_com_example_rezeptkern_rezeptkern_JsonCursor) ?_
  intro p e s m below meth c s₁ P hx hby hml hZ hown hnm hret hlk X0 e0 K
  have M0 : Mv h0 h0 [a1] [] := Mv.refl _ _
  refine Go.cast (ef_rm_peek m a1 ) ?_
  have ne_b_a1 : b ≠ a1 := Ne.symm (Exa.neArv E_a1 V_b (hw _ (List.mem_of_getElem? (i := 34) rfl)))
  have hjl := fst_le (cs.drop i0)
  rw [List.length_drop] at hjl
  refine Go.of (T' := s₁) (f' := (mkF m 1 #[.val (.ref a1)] [(.ref a1)])) (fun _ k => XS.aloadN X0.here hx rfl (hb hby d_prog_33_method_11_code_0) rfl rfl k) ?_
  refine goP X0 hx hZ hown (hw _ (List.mem_of_getElem? (i := 70) rfl)) (hw _ (List.mem_of_getElem? (i := 71) rfl)) (hw _ (List.mem_of_getElem? (i := 72) rfl)) (hw _ (List.mem_of_getElem? (i := 73) rfl)) (hw _ (List.mem_of_getElem? (i := 34) rfl)) (by decide) (C := 0) (S := 0) ((rm_skw l Z a0 hw a1 tx b kb cs (i0) j h0 E_a1 F_text F_chars F_position V_b hle8 (by omega) hjq).bk (W := 0) hZ (hw _ (List.mem_of_getElem? (i := 73) rfl)) (hw _ (List.mem_of_getElem? (i := 35) rfl)) (by decide) (by decide)) e0 E_a1 (argsL := []) (rest := []) (by rw [hml]; rfl) (lenOf pd___V rfl) rfl rfl (hb hby d_prog_33_method_11_code_1) (Nat.le_of_eq rfl) (by decide) (by decide) ?_
  intro v1 T1 L1 X1 hQ1
  obtain ⟨h1, e1⟩ : ∃ z, T1.heap = z := ⟨_, rfl⟩
  rw [e1] at hQ1
  obtain ⟨rfl, Mc1, Nc1_0, Nc1_1, Nc1_2, Nc1_3, Nc1_4⟩ := hQ1
  have M1 := M0.app Mc1 (allS (Or.inl (List.mem_of_getElem? (i := 0) rfl)) all0)
  replace E_a1 := Nc1_0
  replace F_text := Nc1_1
  replace F_chars := Nc1_2
  replace F_position := Nc1_3
  replace V_b := Nc1_4
  show Go p e below P T1 (mkF m 4 #[.val (.ref a1)] [])
  refine Go.of (T' := T1) (f' := (mkF m 5 #[.val (.ref a1)] [(.ref a1)])) (fun _ k => XS.aloadN X1.here hx rfl (hb hby d_prog_33_method_11_code_4) rfl rfl k) ?_
  obtain ⟨T2, X2, e2, st2⟩ := getF X1 hx hZ hown (host := "") (Or.inl (hw _ (List.mem_of_getElem? (i := 74) rfl))) Via.refl e1 F_position (g := (mkF m 5 #[.val (.ref a1)] [(.ref a1)])) rfl rfl (hb hby d_prog_33_method_11_code_5)
  refine Go.of (T' := T2) (f' := (mkF m 8 #[.val (.ref a1)] [(.int (Int32.ofNat j))])) st2 ?_
  refine Go.of (T' := T2) (f' := (mkF m 9 #[.val (.ref a1)] [(.ref a1), (.int (Int32.ofNat j))])) (fun _ k => XS.aloadN X2.here hx rfl (hb hby d_prog_33_method_11_code_8) rfl rfl k) ?_
  obtain ⟨T3, X3, e3, st3⟩ := getF X2 hx hZ hown (host := "") (Or.inl (hw _ (List.mem_of_getElem? (i := 61) rfl))) Via.refl e2 F_chars (g := (mkF m 9 #[.val (.ref a1)] [(.ref a1), (.int (Int32.ofNat j))])) rfl rfl (hb hby d_prog_33_method_11_code_9)
  refine Go.of (T' := T3) (f' := (mkF m 12 #[.val (.ref a1)] [(.ref b), (.int (Int32.ofNat j))])) st3 ?_
  obtain ⟨cl4, Ar4, -, Sz4, Nn4, -, -⟩ := id V_b
  refine Go.of (T' := T3) (f' := (mkF m 13 #[.val (.ref a1)] [(.int (Int32.ofNat cs.length)), (.int (Int32.ofNat j))])) (fun _ k => X3.arraylength hx (by rw [e3]; exact Ar4.1) (State.isArrayOf_alike hZ.alike Ar4.2.1) (g := (mkF m 12 #[.val (.ref a1)] [(.ref b), (.int (Int32.ofNat j))])) rfl rfl (hb hby d_prog_33_method_11_code_12) _ (by rw [len_of Sz4 Nn4]; exact k)) ?_
  by_cases hc13 : (Int32.ofNat j) < (Int32.ofNat cs.length)
  ·
    refine Go.of (T' := T3) (f' := (mkF m 16 #[.val (.ref a1)] [])) (fun _ k => XS.icmpNo X3.here hx rfl (hb hby d_prog_33_method_11_code_13) rfl (tlt hc13).2.1 k) ?_
    have hi : j < cs.length := (ltN (by omega) (by omega)).mp hc13
    refine Go.of (T' := T3) (f' := (mkF m 17 #[.val (.ref a1)] [(.ref a1)])) (fun _ k => XS.aloadN X3.here hx rfl (hb hby d_prog_33_method_11_code_16) rfl rfl k) ?_
    obtain ⟨T5, X5, e5, st5⟩ := getF X3 hx hZ hown (host := "") (Or.inl (hw _ (List.mem_of_getElem? (i := 61) rfl))) Via.refl e3 F_chars (g := (mkF m 17 #[.val (.ref a1)] [(.ref a1)])) rfl rfl (hb hby d_prog_33_method_11_code_17)
    refine Go.of (T' := T5) (f' := (mkF m 20 #[.val (.ref a1)] [(.ref b)])) st5 ?_
    refine Go.of (T' := T5) (f' := (mkF m 21 #[.val (.ref a1)] [(.ref a1), (.ref b)])) (fun _ k => XS.aloadN X5.here hx rfl (hb hby d_prog_33_method_11_code_20) rfl rfl k) ?_
    obtain ⟨T6, X6, e6, st6⟩ := getF X5 hx hZ hown (host := "") (Or.inl (hw _ (List.mem_of_getElem? (i := 74) rfl))) Via.refl e5 F_position (g := (mkF m 21 #[.val (.ref a1)] [(.ref a1), (.ref b)])) rfl rfl (hb hby d_prog_33_method_11_code_21)
    refine Go.of (T' := T6) (f' := (mkF m 24 #[.val (.ref a1)] [(.int (Int32.ofNat j)), (.ref b)])) st6 ?_
    obtain ⟨cl7, Ar7, cq7, Sz7, Nn7, Hs7, Gs7⟩ := id V_b
    have hin7 : ¬ ((Int32.ofNat j) < 0 ∨ cl7.slots.size ≤ ((Int32.ofNat j)).toNatClampNeg) := inbN Sz7 hi (by omega)
    have hat7 : cl7.slots[((Int32.ofNat j)).toNatClampNeg]? = some (.int (cs.getD j 0)) := Has.at Hs7 hin7 (by rw [nat32 (by omega)]; exact mapGet hi)
    refine Go.of (T' := T6) (f' := (mkF m 25 #[.val (.ref a1)] [(.int (cs.getD j 0))])) (fun _ k => X6.caload hx (j := (Int32.ofNat j)) (v := (.int (cs.getD j 0))) (by rw [e6]; exact Ar7.1) (State.isArrayOf_alike hZ.alike Ar7.2.1) Ar7.2.2 hin7 hat7 (g := (mkF m 24 #[.val (.ref a1)] [(.int (Int32.ofNat j)), (.ref b)])) rfl rfl (hb hby d_prog_33_method_11_code_24) _ k) ?_
    refine Go.of (T' := T6) (f' := (mkF m 29 #[.val (.ref a1)] [(.int (cs.getD j 0))])) (fun _ k => XS.goto X6.here hx rfl (pc0 := 25) (pc' := 29) rfl (hb hby d_prog_33_method_11_code_25) (by decide) (by decide) k) ?_
    exact goRetI (Q := fun v h L => v = some (.int (if j < cs.length then cs.getD j 0 else (-1 : Int32))) ∧ Mv h0 h [a1] L ∧ Exa Z h a1 "com/example/rezeptkern/rezeptkern/JsonCursor" ∧ Fld Z h a1 "com/example/rezeptkern/rezeptkern/JsonCursor" "text" "Ljava/lang/String;" (.ref tx) ∧ Fld Z h a1 "com/example/rezeptkern/rezeptkern/JsonCursor" "chars" "[C" (.ref b) ∧ Fld Z h a1 "com/example/rezeptkern/rezeptkern/JsonCursor" "position" "I" (.int (Int32.ofNat j)) ∧ Arv Z h b kb (.char) (Int32.ofNat cs.length) (cs.map Value.int) (.int (0 : Int32))) X6 hx (t := .int) hret hlk rfl (by simp) (hb hby d_prog_33_method_11_code_29) K (by decide) (by decide) e6 (⟨by rw [if_pos hi], M1, E_a1, F_text, F_chars, F_position, V_b⟩)
  ·
    refine Go.of (T' := T3) (f' := (mkF m 28 #[.val (.ref a1)] [])) (fun _ k => XS.icmpYes X3.here hx rfl (pc0 := 13) (pc' := 28) rfl (hb hby d_prog_33_method_11_code_13) rfl (flt hc13).2.1 (by decide) (by decide) k) ?_
    refine Go.of (T' := T3) (f' := (mkF m 29 #[.val (.ref a1)] [(.int (-1 : Int32))])) (fun _ k => XS.iconst X3.here hx rfl (hb hby d_prog_33_method_11_code_28) k) ?_
    exact goRetI (Q := fun v h L => v = some (.int (if j < cs.length then cs.getD j 0 else (-1 : Int32))) ∧ Mv h0 h [a1] L ∧ Exa Z h a1 "com/example/rezeptkern/rezeptkern/JsonCursor" ∧ Fld Z h a1 "com/example/rezeptkern/rezeptkern/JsonCursor" "text" "Ljava/lang/String;" (.ref tx) ∧ Fld Z h a1 "com/example/rezeptkern/rezeptkern/JsonCursor" "chars" "[C" (.ref b) ∧ Fld Z h a1 "com/example/rezeptkern/rezeptkern/JsonCursor" "position" "I" (.int (Int32.ofNat j)) ∧ Arv Z h b kb (.char) (Int32.ofNat cs.length) (cs.map Value.int) (.int (0 : Int32))) X3 hx (t := .int) hret hlk rfl (by simp) (hb hby d_prog_33_method_11_code_29) K (by decide) (by decide) e3 (⟨by rw [if_neg (fun q => hc13 ((ltN (by omega) (by omega)).mpr q))], M1, E_a1, F_text, F_chars, F_position, V_b⟩)
theorem ef_rm_mark (m : MethodId) (x0 : Addr)  : entryFrame m #[(.ref x0)] 1 = mkF m 0 #[.val (.ref x0)] [] := by first | (simp [entryFrame, mkF, argsToLocals, Value.category]; done) | rfl
theorem d_prog_33_method_12_code_0 : decode prog_33_method_12_code 0 = .ok (.aload_n 0, 1) := by decide +kernel
theorem d_prog_33_method_12_code_1 : decode prog_33_method_12_code 1 = .ok (.invokevirtual 38, 3) := by decide +kernel
theorem d_prog_33_method_12_code_4 : decode prog_33_method_12_code 4 = .ok (.aload_n 0, 1) := by decide +kernel
theorem d_prog_33_method_12_code_5 : decode prog_33_method_12_code 5 = .ok (.getfield 41, 3) := by decide +kernel
theorem d_prog_33_method_12_code_8 : decode prog_33_method_12_code 8 = .ok (.ireturn, 1) := by decide +kernel
set_option maxRecDepth 65536 in
set_option maxHeartbeats 40000000 in
theorem rm_mark (l : Launch) (Z : State) (a0 : Array Value) (hw : ∀ d ∈ tables_1, d.before a0 Z = true) (a1 tx b : Addr) (kb : ClassId) (cs : List Int32) (i0 j : Nat) (h0 : Heap) (E_a1 : Exa Z h0 a1 "com/example/rezeptkern/rezeptkern/JsonCursor") (F_text : Fld Z h0 a1 "com/example/rezeptkern/rezeptkern/JsonCursor" "text" "Ljava/lang/String;" (.ref tx)) (F_chars : Fld Z h0 a1 "com/example/rezeptkern/rezeptkern/JsonCursor" "chars" "[C" (.ref b)) (F_position : Fld Z h0 a1 "com/example/rezeptkern/rezeptkern/JsonCursor" "position" "I" (.int (Int32.ofNat i0))) (V_b : Arv Z h0 b kb (.char) (Int32.ofNat cs.length) (cs.map Value.int) (.int (0 : Int32))) (hle8 : cs.length ≤ 8) (hi0 : i0 ≤ cs.length) (hjq : i0 + fst (cs.drop i0) = j) :
    MeetsW l Z (⟨"com/example/rezeptkern/rezeptkern/JsonCursor", "mark", "()I"⟩ : MethodName) prog_33_method_12_code 1 (some .int) ({ frames := 1, cells := 0, slots := 0, locals := 13 } : Room) #[(.ref a1)] h0 (fun v h L => v = some (.int (Int32.ofNat j)) ∧ Mv h0 h [a1] L ∧ Exa Z h a1 "com/example/rezeptkern/rezeptkern/JsonCursor" ∧ Fld Z h a1 "com/example/rezeptkern/rezeptkern/JsonCursor" "text" "Ljava/lang/String;" (.ref tx) ∧ Fld Z h a1 "com/example/rezeptkern/rezeptkern/JsonCursor" "chars" "[C" (.ref b) ∧ Fld Z h a1 "com/example/rezeptkern/rezeptkern/JsonCursor" "position" "I" (.int (Int32.ofNat j)) ∧ Arv Z h b kb (.char) (Int32.ofNat cs.length) (cs.map Value.int) (.int (0 : Int32))) := by
  refine MeetsW.of (plainFor_of_name pn_com_example_rezeptkern_rezeptkern_JsonCursor) ?_
  intro p e s m below meth c s₁ P hx hby hml hZ hown hnm hret hlk X0 e0 K
  have M0 : Mv h0 h0 [a1] [] := Mv.refl _ _
  refine Go.cast (ef_rm_mark m a1 ) ?_
  have ne_b_a1 : b ≠ a1 := Ne.symm (Exa.neArv E_a1 V_b (hw _ (List.mem_of_getElem? (i := 34) rfl)))
  refine Go.of (T' := s₁) (f' := (mkF m 1 #[.val (.ref a1)] [(.ref a1)])) (fun _ k => XS.aloadN X0.here hx rfl (hb hby d_prog_33_method_12_code_0) rfl rfl k) ?_
  refine goP X0 hx hZ hown (hw _ (List.mem_of_getElem? (i := 70) rfl)) (hw _ (List.mem_of_getElem? (i := 71) rfl)) (hw _ (List.mem_of_getElem? (i := 72) rfl)) (hw _ (List.mem_of_getElem? (i := 73) rfl)) (hw _ (List.mem_of_getElem? (i := 34) rfl)) (by decide) (C := 0) (S := 0) ((rm_skw l Z a0 hw a1 tx b kb cs (i0) j h0 E_a1 F_text F_chars F_position V_b hle8 (by omega) hjq).bk (W := 0) hZ (hw _ (List.mem_of_getElem? (i := 73) rfl)) (hw _ (List.mem_of_getElem? (i := 35) rfl)) (by decide) (by decide)) e0 E_a1 (argsL := []) (rest := []) (by rw [hml]; rfl) (lenOf pd___V rfl) rfl rfl (hb hby d_prog_33_method_12_code_1) (Nat.le_of_eq rfl) (by decide) (by decide) ?_
  intro v1 T1 L1 X1 hQ1
  obtain ⟨h1, e1⟩ : ∃ z, T1.heap = z := ⟨_, rfl⟩
  rw [e1] at hQ1
  obtain ⟨rfl, Mc1, Nc1_0, Nc1_1, Nc1_2, Nc1_3, Nc1_4⟩ := hQ1
  have M1 := M0.app Mc1 (allS (Or.inl (List.mem_of_getElem? (i := 0) rfl)) all0)
  replace E_a1 := Nc1_0
  replace F_text := Nc1_1
  replace F_chars := Nc1_2
  replace F_position := Nc1_3
  replace V_b := Nc1_4
  show Go p e below P T1 (mkF m 4 #[.val (.ref a1)] [])
  refine Go.of (T' := T1) (f' := (mkF m 5 #[.val (.ref a1)] [(.ref a1)])) (fun _ k => XS.aloadN X1.here hx rfl (hb hby d_prog_33_method_12_code_4) rfl rfl k) ?_
  obtain ⟨T2, X2, e2, st2⟩ := getF X1 hx hZ hown (host := "") (Or.inl (hw _ (List.mem_of_getElem? (i := 74) rfl))) Via.refl e1 F_position (g := (mkF m 5 #[.val (.ref a1)] [(.ref a1)])) rfl rfl (hb hby d_prog_33_method_12_code_5)
  refine Go.of (T' := T2) (f' := (mkF m 8 #[.val (.ref a1)] [(.int (Int32.ofNat j))])) st2 ?_
  exact goRetI (Q := fun v h L => v = some (.int (Int32.ofNat j)) ∧ Mv h0 h [a1] L ∧ Exa Z h a1 "com/example/rezeptkern/rezeptkern/JsonCursor" ∧ Fld Z h a1 "com/example/rezeptkern/rezeptkern/JsonCursor" "text" "Ljava/lang/String;" (.ref tx) ∧ Fld Z h a1 "com/example/rezeptkern/rezeptkern/JsonCursor" "chars" "[C" (.ref b) ∧ Fld Z h a1 "com/example/rezeptkern/rezeptkern/JsonCursor" "position" "I" (.int (Int32.ofNat j)) ∧ Arv Z h b kb (.char) (Int32.ofNat cs.length) (cs.map Value.int) (.int (0 : Int32))) X2 hx (t := .int) hret hlk rfl (by simp) (hb hby d_prog_33_method_12_code_8) K (by decide) (by decide) e2 (⟨rfl, M1, E_a1, F_text, F_chars, F_position, V_b⟩)
theorem pk_t {cs l : List Int32} {k : Nat} (hcs : cs = List.take k l) (hcl : cs.length = k) (h : fst cs < k) : (if fst cs < cs.length then cs.getD (fst cs) 0 else (-1 : Int32)) = l.getD (fst cs) 0 := by
  rw [if_pos (by omega)]
  generalize fst cs = i at *
  subst hcs; exact gtk h
theorem pk_f {cs : List Int32} {k : Nat} (hcl : cs.length = k) (h : ¬ fst cs < k) : (if fst cs < cs.length then cs.getD (fst cs) 0 else (-1 : Int32)) = (-1 : Int32) := by rw [if_neg (by omega)]
theorem ef_rm_law (m : MethodId) (x0 : Int32) (x1 : Int32) (x2 : Int32) (x3 : Int32) (x4 : Int32)  : entryFrame m #[(.int x0), (.int x1), (.int x2), (.int x3), (.int x4)] maxLocals = mkF m 0 #[.val (.int x0), .val (.int x1), .val (.int x2), .val (.int x3), .val (.int x4), .unset, .unset, .unset, .unset, .unset, .unset, .unset, .unset, .unset, .unset, .unset, .unset] [] := by first | (simp [entryFrame, mkF, argsToLocals, Value.category, maxLocals]; done) | rfl
theorem pd__I_C : parseMethodDescriptor "(I)C" = some ⟨[.int], some .char⟩ := by decide +kernel
theorem pd__ICCCC_Ljava_lang_String_ : parseMethodDescriptor "(ICCCC)Ljava/lang/String;" = some ⟨[.int, .char, .char, .char, .char], some (.object "java/lang/String")⟩ := by decide +kernel
theorem pd__ICCCC_I : parseMethodDescriptor "(ICCCC)I" = some ⟨[.int, .char, .char, .char, .char], some .int⟩ := by decide +kernel
theorem pd__Ljava_lang_String_Ljava_lang_String__V : parseMethodDescriptor "(Ljava/lang/String;Ljava/lang/String;)V" = some ⟨[(.object "java/lang/String"), (.object "java/lang/String")], none⟩ := by decide +kernel
theorem pd___I : parseMethodDescriptor "()I" = some ⟨[], some .int⟩ := by decide +kernel
set_option maxRecDepth 65536 in
set_option maxHeartbeats 40000000 in
theorem rm_law (l : Launch) (Z : State) (a0 : Array Value) (hw : ∀ d ∈ tables_1, d.before a0 Z = true) (p1 p2 p3 p4 p5 zc : Int32) (fm : Value) (h0 : Heap) (Z_ad : Sta Z h0 "java/lang/StringUTF16" "$assertionsDisabled" "Z" (.int (1 : Int32))) (Z_hs : Sta Z h0 "java/lang/StringUTF16" "HI_BYTE_SHIFT" "I" (.int (0 : Int32))) (Z_ls : Sta Z h0 "java/lang/StringUTF16" "LO_BYTE_SHIFT" "I" (.int (8 : Int32))) (Z_fm : Sta Z h0 "jdk/internal/util/Preconditions" "SIOOBE_FORMATTER" "Ljava/util/function/BiFunction;" fm) (hfm : fm.isRef = true) (Z_cs : Sta Z h0 "java/lang/String" "COMPACT_STRINGS" "Z" (.int zc)) (hz : ¬ zc = 0) :
    MeetsH l Z consts_1 x code maxLocals ret room_1 #[(.int p1), (.int p2), (.int p3), (.int p4), (.int p5)] h0 (fun v h L => v = some (.int 1) ∧ Mv h0 h [] L) := by
  refine MeetsH.of (plainFor_of_name pn_com_example_rezeptkern_rezeptkern_JsonCursorPeekPinLaw) ?_
  intro p e s m below meth c s₁ P hx hby hml hZ hown hnm hret hlk X0 e0 hS RH K
  have hk : h0.size ≤ h0.size := Nat.le_refl _
  replace hZ : Z.Warmed39 (s.setVm s.vm).vm := hZ
  replace hown : (s.setVm s.vm).vm.findClass "com/example/rezeptkern/rezeptkern/JsonCursorPeekPinLaw" = some m.cls := hown
  have M0 : Mv h0 h0 [] [] := Mv.refl _ _
  refine Go.cast (ef_rm_law m p1 p2 p3 p4 p5 ) ?_
  refine Go.of (T' := s₁) (f' := (mkF m 1 #[.val (.int p1), .val (.int p2), .val (.int p3), .val (.int p4), .val (.int p5), .unset, .unset, .unset, .unset, .unset, .unset, .unset, .unset, .unset, .unset, .unset, .unset] [(.int p1)])) (fun _ k => XS.iloadN X0.here hx rfl (hb hby at_0) rfl k) ?_
  refine Go.of (T' := s₁) (f' := (mkF m 3 #[.val (.int p1), .val (.int p2), .val (.int p3), .val (.int p4), .val (.int p5), .unset, .unset, .unset, .unset, .unset, .unset, .unset, .unset, .unset, .unset, .unset, .unset] [(.int (2147483647 : Int32)), (.int p1)])) (fun _ k => X0.ldcInt hx hown (mvT hZ (hw _ (List.mem_of_getElem? (i := 0) rfl))) (g := (mkF m 1 #[.val (.int p1), .val (.int p2), .val (.int p3), .val (.int p4), .val (.int p5), .unset, .unset, .unset, .unset, .unset, .unset, .unset, .unset, .unset, .unset, .unset, .unset] [(.int p1)])) rfl (hb hby at_1) _ k) ?_
  refine Go.of (T' := s₁) (f' := (mkF m 4 #[.val (.int p1), .val (.int p2), .val (.int p3), .val (.int p4), .val (.int p5), .unset, .unset, .unset, .unset, .unset, .unset, .unset, .unset, .unset, .unset, .unset, .unset] [(.int (p1 &&& (2147483647 : Int32)))])) (fun _ k => XS.iand X0.here hx rfl (hb hby at_3) rfl k) ?_
  refine Go.of (T' := s₁) (f' := (mkF m 5 #[.val (.int p1), .val (.int p2), .val (.int p3), .val (.int p4), .val (.int p5), .unset, .unset, .unset, .unset, .unset, .unset, .unset, .unset, .unset, .unset, .unset, .unset] [(.int (5 : Int32)), (.int (p1 &&& (2147483647 : Int32)))])) (fun _ k => XS.iconst X0.here hx rfl (hb hby at_4) k) ?_
  refine Go.of (T' := s₁) (f' := (mkF m 6 #[.val (.int p1), .val (.int p2), .val (.int p3), .val (.int p4), .val (.int p5), .unset, .unset, .unset, .unset, .unset, .unset, .unset, .unset, .unset, .unset, .unset, .unset] [(.int ((p1 &&& (2147483647 : Int32)) % (5 : Int32)))])) (fun _ k => iremM X0 hx rfl (hb hby at_5) rfl (by decide) k) ?_
  refine Go.of (T' := s₁) (f' := (mkF m 8 #[.val (.int p1), .val (.int p2), .val (.int p3), .val (.int p4), .val (.int p5), .val (.int ((p1 &&& (2147483647 : Int32)) % (5 : Int32))), .unset, .unset, .unset, .unset, .unset, .unset, .unset, .unset, .unset, .unset, .unset] [])) (fun _ k => XS.istore X0.here hx rfl (hb hby at_6) rfl (l' := #[.val (.int p1), .val (.int p2), .val (.int p3), .val (.int p4), .val (.int p5), .val (.int ((p1 &&& (2147483647 : Int32)) % (5 : Int32))), .unset, .unset, .unset, .unset, .unset, .unset, .unset, .unset, .unset, .unset, .unset]) rfl k) ?_
  obtain ⟨nk, hnk, hke⟩ := n5 p1
  rw [hke]
  show Go p e below P s₁ (mkF m 8 #[.val (.int p1), .val (.int p2), .val (.int p3), .val (.int p4), .val (.int p5), .val (.int (Int32.ofNat nk)), .unset, .unset, .unset, .unset, .unset, .unset, .unset, .unset, .unset, .unset, .unset] [])
  refine Go.of (T' := s₁) (f' := (mkF m 9 #[.val (.int p1), .val (.int p2), .val (.int p3), .val (.int p4), .val (.int p5), .val (.int (Int32.ofNat nk)), .unset, .unset, .unset, .unset, .unset, .unset, .unset, .unset, .unset, .unset, .unset] [(.int p2)])) (fun _ k => XS.iloadN X0.here hx rfl (hb hby at_8) rfl k) ?_
  refine goS X0 hx hZ hown (hw _ (List.mem_of_getElem? (i := 1) rfl)) (hw _ (List.mem_of_getElem? (i := 2) rfl)) (hw _ (List.mem_of_getElem? (i := 3) rfl)) (hw _ (List.mem_of_getElem? (i := 4) rfl)) (by decide) (C := 0) (S := 0) ((rm_pick l Z a0 hw p2 h0).bk (W := 0) hZ (hw _ (List.mem_of_getElem? (i := 4) rfl)) (hw _ (List.mem_of_getElem? (i := 3) rfl)) (by decide) (by decide)) e0 (argsL := [(.int p2)]) (rest := []) (by rw [hml]; rfl) (lenOf pd__I_C rfl) rfl rfl (hb hby at_9) (Nat.le_of_eq rfl) (by decide) (by decide) ?_
  intro v1 T1 L1 X1 hQ1
  obtain ⟨nq1, e1, u1, rfl, hu1⟩ := hQ1
  replace X1 := standNil X1 nq1
  show Go p e below P T1 (mkF m 12 #[.val (.int p1), .val (.int p2), .val (.int p3), .val (.int p4), .val (.int p5), .val (.int (Int32.ofNat nk)), .unset, .unset, .unset, .unset, .unset, .unset, .unset, .unset, .unset, .unset, .unset] [(.int u1)])
  refine Go.of (T' := T1) (f' := (mkF m 14 #[.val (.int p1), .val (.int p2), .val (.int p3), .val (.int p4), .val (.int p5), .val (.int (Int32.ofNat nk)), .val (.int u1), .unset, .unset, .unset, .unset, .unset, .unset, .unset, .unset, .unset, .unset] [])) (fun _ k => XS.istore X1.here hx rfl (hb hby at_12) rfl (l' := #[.val (.int p1), .val (.int p2), .val (.int p3), .val (.int p4), .val (.int p5), .val (.int (Int32.ofNat nk)), .val (.int u1), .unset, .unset, .unset, .unset, .unset, .unset, .unset, .unset, .unset, .unset]) rfl k) ?_
  refine Go.of (T' := T1) (f' := (mkF m 15 #[.val (.int p1), .val (.int p2), .val (.int p3), .val (.int p4), .val (.int p5), .val (.int (Int32.ofNat nk)), .val (.int u1), .unset, .unset, .unset, .unset, .unset, .unset, .unset, .unset, .unset, .unset] [(.int p3)])) (fun _ k => XS.iloadN X1.here hx rfl (hb hby at_14) rfl k) ?_
  refine goS X1 hx hZ hown (hw _ (List.mem_of_getElem? (i := 1) rfl)) (hw _ (List.mem_of_getElem? (i := 2) rfl)) (hw _ (List.mem_of_getElem? (i := 3) rfl)) (hw _ (List.mem_of_getElem? (i := 4) rfl)) (by decide) (C := 0) (S := 0) ((rm_pick l Z a0 hw p3 h0).bk (W := 0) hZ (hw _ (List.mem_of_getElem? (i := 4) rfl)) (hw _ (List.mem_of_getElem? (i := 3) rfl)) (by decide) (by decide)) e1 (argsL := [(.int p3)]) (rest := []) (by rw [hml]; rfl) (lenOf pd__I_C rfl) rfl rfl (hb hby at_15) (Nat.le_of_eq rfl) (by decide) (by decide) ?_
  intro v2 T2 L2 X2 hQ2
  obtain ⟨nq2, e2, u2, rfl, hu2⟩ := hQ2
  replace X2 := standNil X2 nq2
  show Go p e below P T2 (mkF m 18 #[.val (.int p1), .val (.int p2), .val (.int p3), .val (.int p4), .val (.int p5), .val (.int (Int32.ofNat nk)), .val (.int u1), .unset, .unset, .unset, .unset, .unset, .unset, .unset, .unset, .unset, .unset] [(.int u2)])
  refine Go.of (T' := T2) (f' := (mkF m 20 #[.val (.int p1), .val (.int p2), .val (.int p3), .val (.int p4), .val (.int p5), .val (.int (Int32.ofNat nk)), .val (.int u1), .val (.int u2), .unset, .unset, .unset, .unset, .unset, .unset, .unset, .unset, .unset] [])) (fun _ k => XS.istore X2.here hx rfl (hb hby at_18) rfl (l' := #[.val (.int p1), .val (.int p2), .val (.int p3), .val (.int p4), .val (.int p5), .val (.int (Int32.ofNat nk)), .val (.int u1), .val (.int u2), .unset, .unset, .unset, .unset, .unset, .unset, .unset, .unset, .unset]) rfl k) ?_
  refine Go.of (T' := T2) (f' := (mkF m 21 #[.val (.int p1), .val (.int p2), .val (.int p3), .val (.int p4), .val (.int p5), .val (.int (Int32.ofNat nk)), .val (.int u1), .val (.int u2), .unset, .unset, .unset, .unset, .unset, .unset, .unset, .unset, .unset] [(.int p4)])) (fun _ k => XS.iloadN X2.here hx rfl (hb hby at_20) rfl k) ?_
  refine goS X2 hx hZ hown (hw _ (List.mem_of_getElem? (i := 1) rfl)) (hw _ (List.mem_of_getElem? (i := 2) rfl)) (hw _ (List.mem_of_getElem? (i := 3) rfl)) (hw _ (List.mem_of_getElem? (i := 4) rfl)) (by decide) (C := 0) (S := 0) ((rm_pick l Z a0 hw p4 h0).bk (W := 0) hZ (hw _ (List.mem_of_getElem? (i := 4) rfl)) (hw _ (List.mem_of_getElem? (i := 3) rfl)) (by decide) (by decide)) e2 (argsL := [(.int p4)]) (rest := []) (by rw [hml]; rfl) (lenOf pd__I_C rfl) rfl rfl (hb hby at_21) (Nat.le_of_eq rfl) (by decide) (by decide) ?_
  intro v3 T3 L3 X3 hQ3
  obtain ⟨nq3, e3, u3, rfl, hu3⟩ := hQ3
  replace X3 := standNil X3 nq3
  show Go p e below P T3 (mkF m 24 #[.val (.int p1), .val (.int p2), .val (.int p3), .val (.int p4), .val (.int p5), .val (.int (Int32.ofNat nk)), .val (.int u1), .val (.int u2), .unset, .unset, .unset, .unset, .unset, .unset, .unset, .unset, .unset] [(.int u3)])
  refine Go.of (T' := T3) (f' := (mkF m 26 #[.val (.int p1), .val (.int p2), .val (.int p3), .val (.int p4), .val (.int p5), .val (.int (Int32.ofNat nk)), .val (.int u1), .val (.int u2), .val (.int u3), .unset, .unset, .unset, .unset, .unset, .unset, .unset, .unset] [])) (fun _ k => XS.istore X3.here hx rfl (hb hby at_24) rfl (l' := #[.val (.int p1), .val (.int p2), .val (.int p3), .val (.int p4), .val (.int p5), .val (.int (Int32.ofNat nk)), .val (.int u1), .val (.int u2), .val (.int u3), .unset, .unset, .unset, .unset, .unset, .unset, .unset, .unset]) rfl k) ?_
  refine Go.of (T' := T3) (f' := (mkF m 28 #[.val (.int p1), .val (.int p2), .val (.int p3), .val (.int p4), .val (.int p5), .val (.int (Int32.ofNat nk)), .val (.int u1), .val (.int u2), .val (.int u3), .unset, .unset, .unset, .unset, .unset, .unset, .unset, .unset] [(.int p5)])) (fun _ k => XS.iload X3.here hx rfl (hb hby at_26) rfl k) ?_
  refine goS X3 hx hZ hown (hw _ (List.mem_of_getElem? (i := 1) rfl)) (hw _ (List.mem_of_getElem? (i := 2) rfl)) (hw _ (List.mem_of_getElem? (i := 3) rfl)) (hw _ (List.mem_of_getElem? (i := 4) rfl)) (by decide) (C := 0) (S := 0) ((rm_pick l Z a0 hw p5 h0).bk (W := 0) hZ (hw _ (List.mem_of_getElem? (i := 4) rfl)) (hw _ (List.mem_of_getElem? (i := 3) rfl)) (by decide) (by decide)) e3 (argsL := [(.int p5)]) (rest := []) (by rw [hml]; rfl) (lenOf pd__I_C rfl) rfl rfl (hb hby at_28) (Nat.le_of_eq rfl) (by decide) (by decide) ?_
  intro v4 T4 L4 X4 hQ4
  obtain ⟨nq4, e4, u4, rfl, hu4⟩ := hQ4
  replace X4 := standNil X4 nq4
  show Go p e below P T4 (mkF m 31 #[.val (.int p1), .val (.int p2), .val (.int p3), .val (.int p4), .val (.int p5), .val (.int (Int32.ofNat nk)), .val (.int u1), .val (.int u2), .val (.int u3), .unset, .unset, .unset, .unset, .unset, .unset, .unset, .unset] [(.int u4)])
  refine Go.of (T' := T4) (f' := (mkF m 33 #[.val (.int p1), .val (.int p2), .val (.int p3), .val (.int p4), .val (.int p5), .val (.int (Int32.ofNat nk)), .val (.int u1), .val (.int u2), .val (.int u3), .val (.int u4), .unset, .unset, .unset, .unset, .unset, .unset, .unset] [])) (fun _ k => XS.istore X4.here hx rfl (hb hby at_31) rfl (l' := #[.val (.int p1), .val (.int p2), .val (.int p3), .val (.int p4), .val (.int p5), .val (.int (Int32.ofNat nk)), .val (.int u1), .val (.int u2), .val (.int u3), .val (.int u4), .unset, .unset, .unset, .unset, .unset, .unset, .unset]) rfl k) ?_
  refine Go.of (T' := T4) (f' := (mkF m 35 #[.val (.int p1), .val (.int p2), .val (.int p3), .val (.int p4), .val (.int p5), .val (.int (Int32.ofNat nk)), .val (.int u1), .val (.int u2), .val (.int u3), .val (.int u4), .unset, .unset, .unset, .unset, .unset, .unset, .unset] [(.int (Int32.ofNat nk))])) (fun _ k => XS.iload X4.here hx rfl (hb hby at_33) rfl k) ?_
  refine Go.of (T' := T4) (f' := (mkF m 37 #[.val (.int p1), .val (.int p2), .val (.int p3), .val (.int p4), .val (.int p5), .val (.int (Int32.ofNat nk)), .val (.int u1), .val (.int u2), .val (.int u3), .val (.int u4), .unset, .unset, .unset, .unset, .unset, .unset, .unset] [(.int u1), (.int (Int32.ofNat nk))])) (fun _ k => XS.iload X4.here hx rfl (hb hby at_35) rfl k) ?_
  refine Go.of (T' := T4) (f' := (mkF m 39 #[.val (.int p1), .val (.int p2), .val (.int p3), .val (.int p4), .val (.int p5), .val (.int (Int32.ofNat nk)), .val (.int u1), .val (.int u2), .val (.int u3), .val (.int u4), .unset, .unset, .unset, .unset, .unset, .unset, .unset] [(.int u2), (.int u1), (.int (Int32.ofNat nk))])) (fun _ k => XS.iload X4.here hx rfl (hb hby at_37) rfl k) ?_
  refine Go.of (T' := T4) (f' := (mkF m 41 #[.val (.int p1), .val (.int p2), .val (.int p3), .val (.int p4), .val (.int p5), .val (.int (Int32.ofNat nk)), .val (.int u1), .val (.int u2), .val (.int u3), .val (.int u4), .unset, .unset, .unset, .unset, .unset, .unset, .unset] [(.int u3), (.int u2), (.int u1), (.int (Int32.ofNat nk))])) (fun _ k => XS.iload X4.here hx rfl (hb hby at_39) rfl k) ?_
  refine Go.of (T' := T4) (f' := (mkF m 43 #[.val (.int p1), .val (.int p2), .val (.int p3), .val (.int p4), .val (.int p5), .val (.int (Int32.ofNat nk)), .val (.int u1), .val (.int u2), .val (.int u3), .val (.int u4), .unset, .unset, .unset, .unset, .unset, .unset, .unset] [(.int u4), (.int u3), (.int u2), (.int u1), (.int (Int32.ofNat nk))])) (fun _ k => XS.iload X4.here hx rfl (hb hby at_41) rfl k) ?_
  have hb4 : ∀ c ∈ ([u1, u2, u3, u4] : List Int32), ¬ c < 0 ∧ ¬ (65535 : Int32) < c := by intro c hc; simp only [List.mem_cons, List.not_mem_nil, or_false] at hc; rcases hc with rfl | rfl | rfl | rfl <;> assumption
  refine goSH X4 hx hZ hown (hw _ (List.mem_of_getElem? (i := 5) rfl)) (hw _ (List.mem_of_getElem? (i := 6) rfl)) (hw _ (List.mem_of_getElem? (i := 3) rfl)) (hw _ (List.mem_of_getElem? (i := 7) rfl)) (by decide) (W := 0) (C := 6) (S := 32) (rm_make l Z a0 hw nk u1 u2 u3 u4 zc h0 hnk hb4 Z_ad Z_hs Z_ls Z_cs hz) rfl rfl (by decide) (by decide) hS hk (hEL_1 hw) RH.1 e4 (argsL := [(.int (Int32.ofNat nk)), (.int u1), (.int u2), (.int u3), (.int u4)]) (rest := []) (by rw [hml]; rfl) (lenOf pd__ICCCC_Ljava_lang_String_ rfl) rfl rfl (hb hby at_43) (Nat.le_of_eq rfl) (by decide) (by decide) ?_
  intro v5 T5 L5 X5 hQ5 hS5 hZ5 hown5 A5
  obtain ⟨h5, e5⟩ : ∃ z, T5.heap = z := ⟨_, rfl⟩
  rw [e5] at hQ5 hS5 A5
  obtain ⟨Mc5, a5, t5, rfl, le5, S_a5⟩ := hQ5
  have fr_a5 : h0.size ≤ a5 := Nat.le_trans M0.le le5
  have M5 := M0.app0 Mc5
  clear hS hk
  replace RH := RH.trans A5
  replace Z_ad := StaKeep Z_ad Mc5.1 all0
  replace Z_hs := StaKeep Z_hs Mc5.1 all0
  replace Z_ls := StaKeep Z_ls Mc5.1 all0
  replace Z_fm := StaKeep Z_fm Mc5.1 all0
  replace Z_cs := StaKeep Z_cs Mc5.1 all0
  have hS := hS5
  have hk : h5.size ≤ h5.size := Nat.le_refl _
  replace hZ := hZ5
  replace hown := hown5
  show Go p e below P T5 (mkF m 46 #[.val (.int p1), .val (.int p2), .val (.int p3), .val (.int p4), .val (.int p5), .val (.int (Int32.ofNat nk)), .val (.int u1), .val (.int u2), .val (.int u3), .val (.int u4), .unset, .unset, .unset, .unset, .unset, .unset, .unset] [(.ref a5)])
  obtain ⟨cs, hcs⟩ : ∃ cs, cs = (List.take nk [u1, u2, u3, u4]) := ⟨_, rfl⟩
  rw [← hcs] at S_a5
  have hcl : cs.length = nk := by rw [hcs, List.length_take]; simp; omega
  have hle8 : cs.length ≤ 8 := by omega
  have hfl := fst_le cs
  refine Go.of (T' := T5) (f' := (mkF m 48 #[.val (.int p1), .val (.int p2), .val (.int p3), .val (.int p4), .val (.int p5), .val (.int (Int32.ofNat nk)), .val (.int u1), .val (.int u2), .val (.int u3), .val (.int u4), .val (.ref a5), .unset, .unset, .unset, .unset, .unset, .unset] [])) (fun _ k => XS.astore X5.here hx rfl (hb hby at_46) rfl rfl (l' := #[.val (.int p1), .val (.int p2), .val (.int p3), .val (.int p4), .val (.int p5), .val (.int (Int32.ofNat nk)), .val (.int u1), .val (.int u2), .val (.int u3), .val (.int u4), .val (.ref a5), .unset, .unset, .unset, .unset, .unset, .unset]) rfl k) ?_
  refine Go.of (T' := T5) (f' := (mkF m 50 #[.val (.int p1), .val (.int p2), .val (.int p3), .val (.int p4), .val (.int p5), .val (.int (Int32.ofNat nk)), .val (.int u1), .val (.int u2), .val (.int u3), .val (.int u4), .val (.ref a5), .unset, .unset, .unset, .unset, .unset, .unset] [(.int (Int32.ofNat nk))])) (fun _ k => XS.iload X5.here hx rfl (hb hby at_48) rfl k) ?_
  refine Go.of (T' := T5) (f' := (mkF m 52 #[.val (.int p1), .val (.int p2), .val (.int p3), .val (.int p4), .val (.int p5), .val (.int (Int32.ofNat nk)), .val (.int u1), .val (.int u2), .val (.int u3), .val (.int u4), .val (.ref a5), .unset, .unset, .unset, .unset, .unset, .unset] [(.int u1), (.int (Int32.ofNat nk))])) (fun _ k => XS.iload X5.here hx rfl (hb hby at_50) rfl k) ?_
  refine Go.of (T' := T5) (f' := (mkF m 54 #[.val (.int p1), .val (.int p2), .val (.int p3), .val (.int p4), .val (.int p5), .val (.int (Int32.ofNat nk)), .val (.int u1), .val (.int u2), .val (.int u3), .val (.int u4), .val (.ref a5), .unset, .unset, .unset, .unset, .unset, .unset] [(.int u2), (.int u1), (.int (Int32.ofNat nk))])) (fun _ k => XS.iload X5.here hx rfl (hb hby at_52) rfl k) ?_
  refine Go.of (T' := T5) (f' := (mkF m 56 #[.val (.int p1), .val (.int p2), .val (.int p3), .val (.int p4), .val (.int p5), .val (.int (Int32.ofNat nk)), .val (.int u1), .val (.int u2), .val (.int u3), .val (.int u4), .val (.ref a5), .unset, .unset, .unset, .unset, .unset, .unset] [(.int u3), (.int u2), (.int u1), (.int (Int32.ofNat nk))])) (fun _ k => XS.iload X5.here hx rfl (hb hby at_54) rfl k) ?_
  refine Go.of (T' := T5) (f' := (mkF m 58 #[.val (.int p1), .val (.int p2), .val (.int p3), .val (.int p4), .val (.int p5), .val (.int (Int32.ofNat nk)), .val (.int u1), .val (.int u2), .val (.int u3), .val (.int u4), .val (.ref a5), .unset, .unset, .unset, .unset, .unset, .unset] [(.int u4), (.int u3), (.int u2), (.int u1), (.int (Int32.ofNat nk))])) (fun _ k => XS.iload X5.here hx rfl (hb hby at_56) rfl k) ?_
  refine goS X5 hx hZ hown (hw _ (List.mem_of_getElem? (i := 30) rfl)) (hw _ (List.mem_of_getElem? (i := 31) rfl)) (hw _ (List.mem_of_getElem? (i := 3) rfl)) (hw _ (List.mem_of_getElem? (i := 32) rfl)) (by decide) (C := 0) (S := 0) ((rm_fnw l Z a0 hw nk u1 u2 u3 u4 h5 hnk).bk (W := 0) hZ (hw _ (List.mem_of_getElem? (i := 32) rfl)) (hw _ (List.mem_of_getElem? (i := 3) rfl)) (by decide) (by decide)) e5 (argsL := [(.int (Int32.ofNat nk)), (.int u1), (.int u2), (.int u3), (.int u4)]) (rest := []) (by rw [hml]; rfl) (lenOf pd__ICCCC_I rfl) rfl rfl (hb hby at_58) (Nat.le_of_eq rfl) (by decide) (by decide) ?_
  intro v6 T6 L6 X6 hQ6
  obtain ⟨nq6, e6, rfl⟩ := hQ6
  replace X6 := standNil X6 nq6
  show Go p e below P T6 (mkF m 61 #[.val (.int p1), .val (.int p2), .val (.int p3), .val (.int p4), .val (.int p5), .val (.int (Int32.ofNat nk)), .val (.int u1), .val (.int u2), .val (.int u3), .val (.int u4), .val (.ref a5), .unset, .unset, .unset, .unset, .unset, .unset] [(.int (Int32.ofNat (fst (List.take nk [u1, u2, u3, u4]))))])
  rw [← hcs]
  show Go p e below P T6 (mkF m 61 #[.val (.int p1), .val (.int p2), .val (.int p3), .val (.int p4), .val (.int p5), .val (.int (Int32.ofNat nk)), .val (.int u1), .val (.int u2), .val (.int u3), .val (.int u4), .val (.ref a5), .unset, .unset, .unset, .unset, .unset, .unset] [(.int (Int32.ofNat (fst cs)))])
  refine Go.of (T' := T6) (f' := (mkF m 63 #[.val (.int p1), .val (.int p2), .val (.int p3), .val (.int p4), .val (.int p5), .val (.int (Int32.ofNat nk)), .val (.int u1), .val (.int u2), .val (.int u3), .val (.int u4), .val (.ref a5), .val (.int (Int32.ofNat (fst cs))), .unset, .unset, .unset, .unset, .unset] [])) (fun _ k => XS.istore X6.here hx rfl (hb hby at_61) rfl (l' := #[.val (.int p1), .val (.int p2), .val (.int p3), .val (.int p4), .val (.int p5), .val (.int (Int32.ofNat nk)), .val (.int u1), .val (.int u2), .val (.int u3), .val (.int u4), .val (.ref a5), .val (.int (Int32.ofNat (fst cs))), .unset, .unset, .unset, .unset, .unset]) rfl k) ?_
  refine Go.of (T' := T6) (f' := (mkF m 65 #[.val (.int p1), .val (.int p2), .val (.int p3), .val (.int p4), .val (.int p5), .val (.int (Int32.ofNat nk)), .val (.int u1), .val (.int u2), .val (.int u3), .val (.int u4), .val (.ref a5), .val (.int (Int32.ofNat (fst cs))), .unset, .unset, .unset, .unset, .unset] [(.int (Int32.ofNat (fst cs)))])) (fun _ k => XS.iload X6.here hx rfl (hb hby at_63) rfl k) ?_
  refine Go.of (T' := T6) (f' := (mkF m 67 #[.val (.int p1), .val (.int p2), .val (.int p3), .val (.int p4), .val (.int p5), .val (.int (Int32.ofNat nk)), .val (.int u1), .val (.int u2), .val (.int u3), .val (.int u4), .val (.ref a5), .val (.int (Int32.ofNat (fst cs))), .unset, .unset, .unset, .unset, .unset] [(.int (Int32.ofNat nk)), (.int (Int32.ofNat (fst cs)))])) (fun _ k => XS.iload X6.here hx rfl (hb hby at_65) rfl k) ?_
  by_cases hc67 : (Int32.ofNat (fst cs)) < (Int32.ofNat nk)
  ·
    refine Go.of (T' := T6) (f' := (mkF m 70 #[.val (.int p1), .val (.int p2), .val (.int p3), .val (.int p4), .val (.int p5), .val (.int (Int32.ofNat nk)), .val (.int u1), .val (.int u2), .val (.int u3), .val (.int u4), .val (.ref a5), .val (.int (Int32.ofNat (fst cs))), .unset, .unset, .unset, .unset, .unset] [])) (fun _ k => XS.icmpNo X6.here hx rfl (hb hby at_67) rfl (tlt hc67).2.1 k) ?_
    refine Go.of (T' := T6) (f' := (mkF m 72 #[.val (.int p1), .val (.int p2), .val (.int p3), .val (.int p4), .val (.int p5), .val (.int (Int32.ofNat nk)), .val (.int u1), .val (.int u2), .val (.int u3), .val (.int u4), .val (.ref a5), .val (.int (Int32.ofNat (fst cs))), .unset, .unset, .unset, .unset, .unset] [(.int (Int32.ofNat (fst cs)))])) (fun _ k => XS.iload X6.here hx rfl (hb hby at_70) rfl k) ?_
    refine Go.of (T' := T6) (f' := (mkF m 74 #[.val (.int p1), .val (.int p2), .val (.int p3), .val (.int p4), .val (.int p5), .val (.int (Int32.ofNat nk)), .val (.int u1), .val (.int u2), .val (.int u3), .val (.int u4), .val (.ref a5), .val (.int (Int32.ofNat (fst cs))), .unset, .unset, .unset, .unset, .unset] [(.int u1), (.int (Int32.ofNat (fst cs)))])) (fun _ k => XS.iload X6.here hx rfl (hb hby at_72) rfl k) ?_
    refine Go.of (T' := T6) (f' := (mkF m 76 #[.val (.int p1), .val (.int p2), .val (.int p3), .val (.int p4), .val (.int p5), .val (.int (Int32.ofNat nk)), .val (.int u1), .val (.int u2), .val (.int u3), .val (.int u4), .val (.ref a5), .val (.int (Int32.ofNat (fst cs))), .unset, .unset, .unset, .unset, .unset] [(.int u2), (.int u1), (.int (Int32.ofNat (fst cs)))])) (fun _ k => XS.iload X6.here hx rfl (hb hby at_74) rfl k) ?_
    refine Go.of (T' := T6) (f' := (mkF m 78 #[.val (.int p1), .val (.int p2), .val (.int p3), .val (.int p4), .val (.int p5), .val (.int (Int32.ofNat nk)), .val (.int u1), .val (.int u2), .val (.int u3), .val (.int u4), .val (.ref a5), .val (.int (Int32.ofNat (fst cs))), .unset, .unset, .unset, .unset, .unset] [(.int u3), (.int u2), (.int u1), (.int (Int32.ofNat (fst cs)))])) (fun _ k => XS.iload X6.here hx rfl (hb hby at_76) rfl k) ?_
    refine Go.of (T' := T6) (f' := (mkF m 80 #[.val (.int p1), .val (.int p2), .val (.int p3), .val (.int p4), .val (.int p5), .val (.int (Int32.ofNat nk)), .val (.int u1), .val (.int u2), .val (.int u3), .val (.int u4), .val (.ref a5), .val (.int (Int32.ofNat (fst cs))), .unset, .unset, .unset, .unset, .unset] [(.int u4), (.int u3), (.int u2), (.int u1), (.int (Int32.ofNat (fst cs)))])) (fun _ k => XS.iload X6.here hx rfl (hb hby at_78) rfl k) ?_
    have hfk : fst cs < nk := (ltN (by omega) (by omega)).mp hc67
    have hi4 : fst cs < 4 := by omega
    refine goS X6 hx hZ hown (hw _ (List.mem_of_getElem? (i := 95) rfl)) (hw _ (List.mem_of_getElem? (i := 96) rfl)) (hw _ (List.mem_of_getElem? (i := 3) rfl)) (hw _ (List.mem_of_getElem? (i := 97) rfl)) (by decide) (C := 0) (S := 0) ((rm_at l Z a0 hw (fst cs) u1 u2 u3 u4 h5 hi4).bk (W := 0) hZ (hw _ (List.mem_of_getElem? (i := 97) rfl)) (hw _ (List.mem_of_getElem? (i := 3) rfl)) (by decide) (by decide)) e6 (argsL := [(.int (Int32.ofNat (fst cs))), (.int u1), (.int u2), (.int u3), (.int u4)]) (rest := []) (by rw [hml]; rfl) (lenOf pd__ICCCC_I rfl) rfl rfl (hb hby at_80) (Nat.le_of_eq rfl) (by decide) (by decide) ?_
    intro v7 T7 L7 X7 hQ7
    obtain ⟨nq7, e7, rfl⟩ := hQ7
    replace X7 := standNil X7 nq7
    show Go p e below P T7 (mkF m 83 #[.val (.int p1), .val (.int p2), .val (.int p3), .val (.int p4), .val (.int p5), .val (.int (Int32.ofNat nk)), .val (.int u1), .val (.int u2), .val (.int u3), .val (.int u4), .val (.ref a5), .val (.int (Int32.ofNat (fst cs))), .unset, .unset, .unset, .unset, .unset] [(.int (([u1, u2, u3, u4] : List Int32).getD (fst cs) 0))])
    refine Go.of (T' := T7) (f' := (mkF m 87 #[.val (.int p1), .val (.int p2), .val (.int p3), .val (.int p4), .val (.int p5), .val (.int (Int32.ofNat nk)), .val (.int u1), .val (.int u2), .val (.int u3), .val (.int u4), .val (.ref a5), .val (.int (Int32.ofNat (fst cs))), .unset, .unset, .unset, .unset, .unset] [(.int (([u1, u2, u3, u4] : List Int32).getD (fst cs) 0))])) (fun _ k => XS.goto X7.here hx rfl (pc0 := 83) (pc' := 87) rfl (hb hby at_83) (by decide) (by decide) k) ?_
    refine Go.of (T' := T7) (f' := (mkF m 89 #[.val (.int p1), .val (.int p2), .val (.int p3), .val (.int p4), .val (.int p5), .val (.int (Int32.ofNat nk)), .val (.int u1), .val (.int u2), .val (.int u3), .val (.int u4), .val (.ref a5), .val (.int (Int32.ofNat (fst cs))), .val (.int (([u1, u2, u3, u4] : List Int32).getD (fst cs) 0)), .unset, .unset, .unset, .unset] [])) (fun _ k => XS.istore X7.here hx rfl (hb hby at_87) rfl (l' := #[.val (.int p1), .val (.int p2), .val (.int p3), .val (.int p4), .val (.int p5), .val (.int (Int32.ofNat nk)), .val (.int u1), .val (.int u2), .val (.int u3), .val (.int u4), .val (.ref a5), .val (.int (Int32.ofNat (fst cs))), .val (.int (([u1, u2, u3, u4] : List Int32).getD (fst cs) 0)), .unset, .unset, .unset, .unset]) rfl k) ?_
    obtain ⟨T8, h8, X8, e8, E8, A8, D8, -, st8⟩ := newO X7 hx hZ hown (hw _ (List.mem_of_getElem? (i := 33) rfl)) (hw _ (List.mem_of_getElem? (i := 34) rfl)) (hw _ (List.mem_of_getElem? (i := 35) rfl)) e7 (g := (mkF m 89 #[.val (.int p1), .val (.int p2), .val (.int p3), .val (.int p4), .val (.int p5), .val (.int (Int32.ofNat nk)), .val (.int u1), .val (.int u2), .val (.int u3), .val (.int u4), .val (.ref a5), .val (.int (Int32.ofNat (fst cs))), .val (.int (([u1, u2, u3, u4] : List Int32).getD (fst cs) 0)), .unset, .unset, .unset, .unset] [])) rfl (hb hby at_89) (by decide) (by decide)
    obtain ⟨b8, g8⟩ : ∃ z, z = h5.size := ⟨_, rfl⟩
    rw [← g8] at A8 D8 st8
    have ne_a5_b8 : a5 ≠ b8 := Nat.ne_of_lt (Nat.lt_of_lt_of_le S_a5.lt1 (Nat.le_of_eq g8.symm))
    have ne_t5_b8 : t5 ≠ b8 := Nat.ne_of_lt (Nat.lt_of_lt_of_le S_a5.lt2 (Nat.le_of_eq g8.symm))
    have fr_b8 : h0.size ≤ b8 := Nat.le_trans M5.le (Nat.le_of_eq g8.symm)
    have Sf_b8 := Safe.new (Z := Z) (EL := consts_1) (vm := T5.vm) (Nat.le_of_eq g8.symm)
    have K8 := keepE E8
    have M8 := M5.ext E8
    replace hk := Nat.le_trans hk (K8).1
    have hs9 := CHr.keep (K8) sf0 RH.1
    replace Sf_b8 := Safe.keep (K8) sf0 RH.1 Sf_b8
    replace RH := RH.trans hs9
    replace Z_ad := StaKeep Z_ad K8 all0
    replace Z_hs := StaKeep Z_hs K8 all0
    replace Z_ls := StaKeep Z_ls K8 all0
    replace Z_fm := StaKeep Z_fm K8 all0
    replace Z_cs := StaKeep Z_cs K8 all0
    replace S_a5 := S_a5.keep K8 nin0 nin0
    have E_b8 := A8
    have F_text_b8 : Fld Z h8 b8 "com/example/rezeptkern/rezeptkern/JsonCursor" "text" "Ljava/lang/String;" .null := D8 (Or.inr (hw _ (List.mem_of_getElem? (i := 42) rfl))) (ty := (.object "java/lang/String")) (by decide)
    have F_chars_b8 : Fld Z h8 b8 "com/example/rezeptkern/rezeptkern/JsonCursor" "chars" "[C" .null := D8 (Or.inr (hw _ (List.mem_of_getElem? (i := 62) rfl))) (ty := (.array .char)) (by decide)
    have F_name_b8 : Fld Z h8 b8 "com/example/rezeptkern/rezeptkern/JsonCursor" "name" "Ljava/lang/String;" .null := D8 (Or.inr (hw _ (List.mem_of_getElem? (i := 64) rfl))) (ty := (.object "java/lang/String")) (by decide)
    have F_position_b8 : Fld Z h8 b8 "com/example/rezeptkern/rezeptkern/JsonCursor" "position" "I" (.int (0 : Int32)) := D8 (Or.inl (hw _ (List.mem_of_getElem? (i := 75) rfl))) (ty := .int) (by decide)
    refine Go.of (T' := T8) (f' := (mkF m 92 #[.val (.int p1), .val (.int p2), .val (.int p3), .val (.int p4), .val (.int p5), .val (.int (Int32.ofNat nk)), .val (.int u1), .val (.int u2), .val (.int u3), .val (.int u4), .val (.ref a5), .val (.int (Int32.ofNat (fst cs))), .val (.int (([u1, u2, u3, u4] : List Int32).getD (fst cs) 0)), .unset, .unset, .unset, .unset] [(.ref b8)])) st8 ?_
    refine Go.of (T' := T8) (f' := (mkF m 93 #[.val (.int p1), .val (.int p2), .val (.int p3), .val (.int p4), .val (.int p5), .val (.int (Int32.ofNat nk)), .val (.int u1), .val (.int u2), .val (.int u3), .val (.int u4), .val (.ref a5), .val (.int (Int32.ofNat (fst cs))), .val (.int (([u1, u2, u3, u4] : List Int32).getD (fst cs) 0)), .unset, .unset, .unset, .unset] [(.ref b8), (.ref b8)])) (fun _ k => XS.dup X8.here hx rfl (hb hby at_92) rfl rfl k) ?_
    refine Go.of (T' := T8) (f' := (mkF m 95 #[.val (.int p1), .val (.int p2), .val (.int p3), .val (.int p4), .val (.int p5), .val (.int (Int32.ofNat nk)), .val (.int u1), .val (.int u2), .val (.int u3), .val (.int u4), .val (.ref a5), .val (.int (Int32.ofNat (fst cs))), .val (.int (([u1, u2, u3, u4] : List Int32).getD (fst cs) 0)), .unset, .unset, .unset, .unset] [(.ref a5), (.ref b8), (.ref b8)])) (fun _ k => XS.aload X8.here hx rfl (hb hby at_93) rfl rfl k) ?_
    obtain ⟨sa10, T10, h10, k10, sb10, kb10, X10, e10, E10, hS10, hk10, hZ10, hown10, E_sa10, F_cd10, F_vl10, V_sb10, -, -, A10, -, hne10, st10⟩ := ldcCH X8 hx hZ hown (hw _ (List.mem_of_getElem? (i := 36) rfl)) (hw_sA hw) e8 hS hk (hEL_1 hw) (by decide) RH.1 (vs := [.int (116 : Int32)]) (z := (1 : Int32)) ⟨by decide, by decide⟩ (by decide) (by decide) (g := (mkF m 95 #[.val (.int p1), .val (.int p2), .val (.int p3), .val (.int p4), .val (.int p5), .val (.int (Int32.ofNat nk)), .val (.int u1), .val (.int u2), .val (.int u3), .val (.int u4), .val (.ref a5), .val (.int (Int32.ofNat (fst cs))), .val (.int (([u1, u2, u3, u4] : List Int32).getD (fst cs) 0)), .unset, .unset, .unset, .unset] [(.ref a5), (.ref b8), (.ref b8)])) rfl (hb hby at_95) (n := 4) (by decide) (by decide) (by decide) (by decide)
    have K10 := keepE E10
    have M10 := M8.ext E10
    clear hS hk
    replace Sf_b8 := CHr.safe A10 E_b8.lt Sf_b8
    replace RH := RH.trans A10
    replace Z_ad := StaKeep Z_ad K10 all0
    replace Z_hs := StaKeep Z_hs K10 all0
    replace Z_ls := StaKeep Z_ls K10 all0
    replace Z_fm := StaKeep Z_fm K10 all0
    replace Z_cs := StaKeep Z_cs K10 all0
    replace S_a5 := S_a5.keep K10 nin0 nin0
    replace E_b8 := E_b8.keep K10
    replace F_text_b8 := F_text_b8.keep K10 nin0
    replace F_chars_b8 := F_chars_b8.keep K10 nin0
    replace F_name_b8 := F_name_b8.keep K10 nin0
    replace F_position_b8 := F_position_b8.keep K10 nin0
    have hS := hS10
    have hk := hk10
    replace hZ := hZ10
    replace hown := hown10
    have ne_b8_sa10 := (hne10 _ Sf_b8).1
    have ne_b8_sb10 := (hne10 _ Sf_b8).2
    refine Go.of (T' := T10) (f' := (mkF m 97 #[.val (.int p1), .val (.int p2), .val (.int p3), .val (.int p4), .val (.int p5), .val (.int (Int32.ofNat nk)), .val (.int u1), .val (.int u2), .val (.int u3), .val (.int u4), .val (.ref a5), .val (.int (Int32.ofNat (fst cs))), .val (.int (([u1, u2, u3, u4] : List Int32).getD (fst cs) 0)), .unset, .unset, .unset, .unset] [(.ref sa10), (.ref a5), (.ref b8), (.ref b8)])) st10 ?_
    refine goI X10 hx hZ rfl hown (hw _ (List.mem_of_getElem? (i := 37) rfl)) (hw _ (List.mem_of_getElem? (i := 38) rfl)) (hw _ (List.mem_of_getElem? (i := 39) rfl)) (by decide) (C := 1) (S := 8) ((rm_cur l Z a0 hw b8 a5 sa10 t5 cs zc fm h10 E_b8 F_text_b8 F_chars_b8 F_name_b8 F_position_b8 S_a5 hle8 Z_ad Z_hs Z_ls Z_fm hfm Z_cs hz).bk (W := 1) hZ (hw _ (List.mem_of_getElem? (i := 39) rfl)) (hw _ (List.mem_of_getElem? (i := 35) rfl)) (by decide) (by decide)) e10 (argsL := [(.ref a5), (.ref sa10)]) (rest := [(.ref b8)]) (by rw [hml]; rfl) (lenOf pd__Ljava_lang_String_Ljava_lang_String__V rfl) rfl rfl (hb hby at_97) (Nat.le_of_eq rfl) (by decide) (by decide) ?_
    intro v11 T11 L11 X11 hQ11
    obtain ⟨h11, e11⟩ : ∃ z, T11.heap = z := ⟨_, rfl⟩
    rw [e11] at hQ11
    have E_b8_o := E_b8
    obtain ⟨rfl, Mc11, b11, k11, le11, Nc11_0, Nc11_1, Nc11_2, Nc11_3, Nc11_4⟩ := hQ11
    have ne_a5_b11 : a5 ≠ b11 := Nat.ne_of_lt (Nat.lt_of_lt_of_le S_a5.lt1 le11)
    have ne_t5_b11 : t5 ≠ b11 := Nat.ne_of_lt (Nat.lt_of_lt_of_le S_a5.lt2 le11)
    have ne_b8_b11 : b8 ≠ b11 := Nat.ne_of_lt (Nat.lt_of_lt_of_le E_b8.lt le11)
    have ne_sa10_b11 : sa10 ≠ b11 := Nat.ne_of_lt (Nat.lt_of_lt_of_le E_sa10.lt le11)
    have ne_sb10_b11 : sb10 ≠ b11 := Nat.ne_of_lt (Nat.lt_of_lt_of_le V_sb10.lt le11)
    have fr_b11 : h0.size ≤ b11 := Nat.le_trans M10.le le11
    have Sf_b11 := Safe.new (Z := Z) (EL := consts_1) (vm := T10.vm) le11
    have M11 := M10.app Mc11 (allS (Or.inr fr_b8) all0)
    replace hk := Nat.le_trans hk (Mc11.1).1
    have hq12 : ∀ x ∈ ([b8] : List Addr), Safe Z consts_1 T10.vm h10 x := (sfS Sf_b8 sf0)
    have hs12 := CHr.keep (Mc11.1) hq12 RH.1
    replace Sf_b8 := Safe.keep (Mc11.1) hq12 RH.1 Sf_b8
    replace Sf_b11 := Safe.keep (Mc11.1) hq12 RH.1 Sf_b11
    replace RH := RH.trans hs12
    replace Z_ad := StaKeep Z_ad Mc11.1 (allS (staExa E_b8_o) all0)
    replace Z_hs := StaKeep Z_hs Mc11.1 (allS (staExa E_b8_o) all0)
    replace Z_ls := StaKeep Z_ls Mc11.1 (allS (staExa E_b8_o) all0)
    replace Z_fm := StaKeep Z_fm Mc11.1 (allS (staExa E_b8_o) all0)
    replace Z_cs := StaKeep Z_cs Mc11.1 (allS (staExa E_b8_o) all0)
    replace S_a5 := S_a5.keep Mc11.1 (ninS ne_a5_b8 nin0) (ninS ne_t5_b8 nin0)
    replace E_sa10 := E_sa10.keep Mc11.1
    replace F_cd10 := F_cd10.keep Mc11.1 (ninS (Ne.symm ne_b8_sa10) nin0)
    replace F_vl10 := F_vl10.keep Mc11.1 (ninS (Ne.symm ne_b8_sa10) nin0)
    replace V_sb10 := V_sb10.keep Mc11.1 (ninS (Ne.symm ne_b8_sb10) nin0)
    have E_b8 := Nc11_0
    have F_text_b8 := Nc11_1
    have F_chars_b8 := Nc11_2
    have F_position_b8 := Nc11_3
    have V_b11 := Nc11_4
    show Go p e below P T11 (mkF m 100 #[.val (.int p1), .val (.int p2), .val (.int p3), .val (.int p4), .val (.int p5), .val (.int (Int32.ofNat nk)), .val (.int u1), .val (.int u2), .val (.int u3), .val (.int u4), .val (.ref a5), .val (.int (Int32.ofNat (fst cs))), .val (.int (([u1, u2, u3, u4] : List Int32).getD (fst cs) 0)), .unset, .unset, .unset, .unset] [(.ref b8)])
    refine Go.of (T' := T11) (f' := (mkF m 102 #[.val (.int p1), .val (.int p2), .val (.int p3), .val (.int p4), .val (.int p5), .val (.int (Int32.ofNat nk)), .val (.int u1), .val (.int u2), .val (.int u3), .val (.int u4), .val (.ref a5), .val (.int (Int32.ofNat (fst cs))), .val (.int (([u1, u2, u3, u4] : List Int32).getD (fst cs) 0)), .val (.ref b8), .unset, .unset, .unset] [])) (fun _ k => XS.astore X11.here hx rfl (hb hby at_100) rfl rfl (l' := #[.val (.int p1), .val (.int p2), .val (.int p3), .val (.int p4), .val (.int p5), .val (.int (Int32.ofNat nk)), .val (.int u1), .val (.int u2), .val (.int u3), .val (.int u4), .val (.ref a5), .val (.int (Int32.ofNat (fst cs))), .val (.int (([u1, u2, u3, u4] : List Int32).getD (fst cs) 0)), .val (.ref b8), .unset, .unset, .unset]) rfl k) ?_
    refine Go.of (T' := T11) (f' := (mkF m 104 #[.val (.int p1), .val (.int p2), .val (.int p3), .val (.int p4), .val (.int p5), .val (.int (Int32.ofNat nk)), .val (.int u1), .val (.int u2), .val (.int u3), .val (.int u4), .val (.ref a5), .val (.int (Int32.ofNat (fst cs))), .val (.int (([u1, u2, u3, u4] : List Int32).getD (fst cs) 0)), .val (.ref b8), .unset, .unset, .unset] [(.ref b8)])) (fun _ k => XS.aload X11.here hx rfl (hb hby at_102) rfl rfl k) ?_
    refine goV X11 hx hZ (y := (⟨"com/example/rezeptkern/rezeptkern/JsonCursor", "peek", "()I"⟩ : MethodName)) (z := (⟨"com/example/rezeptkern/rezeptkern/JsonCursor", "peek", "()I"⟩ : MethodName)) hown (hw _ (List.mem_of_getElem? (i := 65) rfl)) (hw _ (List.mem_of_getElem? (i := 66) rfl)) (notFace_of_selects (args := #[]) (mvT hZ (hw _ (List.mem_of_getElem? (i := 68) rfl)))) (hw _ (List.mem_of_getElem? (i := 68) rfl)) (hw _ (List.mem_of_getElem? (i := 67) rfl)) (by decide) (C := 0) (S := 0) ((rm_peek l Z a0 hw b8 a5 b11 k11 cs (0) (fst cs) h11 E_b8 F_text_b8 F_chars_b8 F_position_b8 V_b11 hle8 (by omega) (by simp)).bk (W := 0) hZ (hw _ (List.mem_of_getElem? (i := 69) rfl)) (hw _ (List.mem_of_getElem? (i := 35) rfl)) (by decide) (by decide)) e11 E_b8 (argsL := []) (rest := []) (by rw [hml]; rfl) (lenOf pd___I rfl) rfl rfl (hb hby at_104) (Nat.le_of_eq rfl) (by decide) (by decide) ?_
    intro v13 T13 L13 X13 hQ13
    obtain ⟨h13, e13⟩ : ∃ z, T13.heap = z := ⟨_, rfl⟩
    rw [e13] at hQ13
    have E_b8_o := E_b8
    obtain ⟨rfl, Mc13, Nc13_0, Nc13_1, Nc13_2, Nc13_3, Nc13_4⟩ := hQ13
    have M13 := M11.app Mc13 (allS (Or.inr fr_b8) all0)
    replace hk := Nat.le_trans hk (Mc13.1).1
    have hq14 : ∀ x ∈ ([b8] : List Addr), Safe Z consts_1 T10.vm h11 x := (sfS Sf_b8 sf0)
    have hs14 := CHr.keep (Mc13.1) hq14 RH.1
    replace Sf_b8 := Safe.keep (Mc13.1) hq14 RH.1 Sf_b8
    replace Sf_b11 := Safe.keep (Mc13.1) hq14 RH.1 Sf_b11
    replace RH := RH.trans hs14
    replace Z_ad := StaKeep Z_ad Mc13.1 (allS (staExa E_b8_o) all0)
    replace Z_hs := StaKeep Z_hs Mc13.1 (allS (staExa E_b8_o) all0)
    replace Z_ls := StaKeep Z_ls Mc13.1 (allS (staExa E_b8_o) all0)
    replace Z_fm := StaKeep Z_fm Mc13.1 (allS (staExa E_b8_o) all0)
    replace Z_cs := StaKeep Z_cs Mc13.1 (allS (staExa E_b8_o) all0)
    replace S_a5 := S_a5.keep Mc13.1 (ninS ne_a5_b8 nin0) (ninS ne_t5_b8 nin0)
    replace E_sa10 := E_sa10.keep Mc13.1
    replace F_cd10 := F_cd10.keep Mc13.1 (ninS (Ne.symm ne_b8_sa10) nin0)
    replace F_vl10 := F_vl10.keep Mc13.1 (ninS (Ne.symm ne_b8_sa10) nin0)
    replace V_sb10 := V_sb10.keep Mc13.1 (ninS (Ne.symm ne_b8_sb10) nin0)
    replace E_b8 := Nc13_0
    replace F_text_b8 := Nc13_1
    replace F_chars_b8 := Nc13_2
    replace F_position_b8 := Nc13_3
    replace V_b11 := Nc13_4
    show Go p e below P T13 (mkF m 107 #[.val (.int p1), .val (.int p2), .val (.int p3), .val (.int p4), .val (.int p5), .val (.int (Int32.ofNat nk)), .val (.int u1), .val (.int u2), .val (.int u3), .val (.int u4), .val (.ref a5), .val (.int (Int32.ofNat (fst cs))), .val (.int (([u1, u2, u3, u4] : List Int32).getD (fst cs) 0)), .val (.ref b8), .unset, .unset, .unset] [(.int (if (fst cs) < cs.length then cs.getD (fst cs) 0 else (-1 : Int32)))])
    refine Go.of (T' := T13) (f' := (mkF m 109 #[.val (.int p1), .val (.int p2), .val (.int p3), .val (.int p4), .val (.int p5), .val (.int (Int32.ofNat nk)), .val (.int u1), .val (.int u2), .val (.int u3), .val (.int u4), .val (.ref a5), .val (.int (Int32.ofNat (fst cs))), .val (.int (([u1, u2, u3, u4] : List Int32).getD (fst cs) 0)), .val (.ref b8), .val (.int (if (fst cs) < cs.length then cs.getD (fst cs) 0 else (-1 : Int32))), .unset, .unset] [])) (fun _ k => XS.istore X13.here hx rfl (hb hby at_107) rfl (l' := #[.val (.int p1), .val (.int p2), .val (.int p3), .val (.int p4), .val (.int p5), .val (.int (Int32.ofNat nk)), .val (.int u1), .val (.int u2), .val (.int u3), .val (.int u4), .val (.ref a5), .val (.int (Int32.ofNat (fst cs))), .val (.int (([u1, u2, u3, u4] : List Int32).getD (fst cs) 0)), .val (.ref b8), .val (.int (if (fst cs) < cs.length then cs.getD (fst cs) 0 else (-1 : Int32))), .unset, .unset]) rfl k) ?_
    refine Go.of (T' := T13) (f' := (mkF m 111 #[.val (.int p1), .val (.int p2), .val (.int p3), .val (.int p4), .val (.int p5), .val (.int (Int32.ofNat nk)), .val (.int u1), .val (.int u2), .val (.int u3), .val (.int u4), .val (.ref a5), .val (.int (Int32.ofNat (fst cs))), .val (.int (([u1, u2, u3, u4] : List Int32).getD (fst cs) 0)), .val (.ref b8), .val (.int (if (fst cs) < cs.length then cs.getD (fst cs) 0 else (-1 : Int32))), .unset, .unset] [(.ref b8)])) (fun _ k => XS.aload X13.here hx rfl (hb hby at_109) rfl rfl k) ?_
    refine goV X13 hx hZ (y := (⟨"com/example/rezeptkern/rezeptkern/JsonCursor", "peek", "()I"⟩ : MethodName)) (z := (⟨"com/example/rezeptkern/rezeptkern/JsonCursor", "peek", "()I"⟩ : MethodName)) hown (hw _ (List.mem_of_getElem? (i := 65) rfl)) (hw _ (List.mem_of_getElem? (i := 66) rfl)) (notFace_of_selects (args := #[]) (mvT hZ (hw _ (List.mem_of_getElem? (i := 68) rfl)))) (hw _ (List.mem_of_getElem? (i := 68) rfl)) (hw _ (List.mem_of_getElem? (i := 67) rfl)) (by decide) (C := 0) (S := 0) ((rm_peek l Z a0 hw b8 a5 b11 k11 cs ((fst cs)) (fst cs) h13 E_b8 F_text_b8 F_chars_b8 F_position_b8 V_b11 hle8 (fst_le _) (by rw [fstIdem]; rfl)).bk (W := 0) hZ (hw _ (List.mem_of_getElem? (i := 69) rfl)) (hw _ (List.mem_of_getElem? (i := 35) rfl)) (by decide) (by decide)) e13 E_b8 (argsL := []) (rest := []) (by rw [hml]; rfl) (lenOf pd___I rfl) rfl rfl (hb hby at_111) (Nat.le_of_eq rfl) (by decide) (by decide) ?_
    intro v15 T15 L15 X15 hQ15
    obtain ⟨h15, e15⟩ : ∃ z, T15.heap = z := ⟨_, rfl⟩
    rw [e15] at hQ15
    have E_b8_o := E_b8
    obtain ⟨rfl, Mc15, Nc15_0, Nc15_1, Nc15_2, Nc15_3, Nc15_4⟩ := hQ15
    have M15 := M13.app Mc15 (allS (Or.inr fr_b8) all0)
    replace hk := Nat.le_trans hk (Mc15.1).1
    have hq16 : ∀ x ∈ ([b8] : List Addr), Safe Z consts_1 T10.vm h13 x := (sfS Sf_b8 sf0)
    have hs16 := CHr.keep (Mc15.1) hq16 RH.1
    replace Sf_b8 := Safe.keep (Mc15.1) hq16 RH.1 Sf_b8
    replace Sf_b11 := Safe.keep (Mc15.1) hq16 RH.1 Sf_b11
    replace RH := RH.trans hs16
    replace Z_ad := StaKeep Z_ad Mc15.1 (allS (staExa E_b8_o) all0)
    replace Z_hs := StaKeep Z_hs Mc15.1 (allS (staExa E_b8_o) all0)
    replace Z_ls := StaKeep Z_ls Mc15.1 (allS (staExa E_b8_o) all0)
    replace Z_fm := StaKeep Z_fm Mc15.1 (allS (staExa E_b8_o) all0)
    replace Z_cs := StaKeep Z_cs Mc15.1 (allS (staExa E_b8_o) all0)
    replace S_a5 := S_a5.keep Mc15.1 (ninS ne_a5_b8 nin0) (ninS ne_t5_b8 nin0)
    replace E_sa10 := E_sa10.keep Mc15.1
    replace F_cd10 := F_cd10.keep Mc15.1 (ninS (Ne.symm ne_b8_sa10) nin0)
    replace F_vl10 := F_vl10.keep Mc15.1 (ninS (Ne.symm ne_b8_sa10) nin0)
    replace V_sb10 := V_sb10.keep Mc15.1 (ninS (Ne.symm ne_b8_sb10) nin0)
    replace E_b8 := Nc15_0
    replace F_text_b8 := Nc15_1
    replace F_chars_b8 := Nc15_2
    replace F_position_b8 := Nc15_3
    replace V_b11 := Nc15_4
    show Go p e below P T15 (mkF m 114 #[.val (.int p1), .val (.int p2), .val (.int p3), .val (.int p4), .val (.int p5), .val (.int (Int32.ofNat nk)), .val (.int u1), .val (.int u2), .val (.int u3), .val (.int u4), .val (.ref a5), .val (.int (Int32.ofNat (fst cs))), .val (.int (([u1, u2, u3, u4] : List Int32).getD (fst cs) 0)), .val (.ref b8), .val (.int (if (fst cs) < cs.length then cs.getD (fst cs) 0 else (-1 : Int32))), .unset, .unset] [(.int (if (fst cs) < cs.length then cs.getD (fst cs) 0 else (-1 : Int32)))])
    refine Go.of (T' := T15) (f' := (mkF m 116 #[.val (.int p1), .val (.int p2), .val (.int p3), .val (.int p4), .val (.int p5), .val (.int (Int32.ofNat nk)), .val (.int u1), .val (.int u2), .val (.int u3), .val (.int u4), .val (.ref a5), .val (.int (Int32.ofNat (fst cs))), .val (.int (([u1, u2, u3, u4] : List Int32).getD (fst cs) 0)), .val (.ref b8), .val (.int (if (fst cs) < cs.length then cs.getD (fst cs) 0 else (-1 : Int32))), .val (.int (if (fst cs) < cs.length then cs.getD (fst cs) 0 else (-1 : Int32))), .unset] [])) (fun _ k => XS.istore X15.here hx rfl (hb hby at_114) rfl (l' := #[.val (.int p1), .val (.int p2), .val (.int p3), .val (.int p4), .val (.int p5), .val (.int (Int32.ofNat nk)), .val (.int u1), .val (.int u2), .val (.int u3), .val (.int u4), .val (.ref a5), .val (.int (Int32.ofNat (fst cs))), .val (.int (([u1, u2, u3, u4] : List Int32).getD (fst cs) 0)), .val (.ref b8), .val (.int (if (fst cs) < cs.length then cs.getD (fst cs) 0 else (-1 : Int32))), .val (.int (if (fst cs) < cs.length then cs.getD (fst cs) 0 else (-1 : Int32))), .unset]) rfl k) ?_
    refine Go.of (T' := T15) (f' := (mkF m 118 #[.val (.int p1), .val (.int p2), .val (.int p3), .val (.int p4), .val (.int p5), .val (.int (Int32.ofNat nk)), .val (.int u1), .val (.int u2), .val (.int u3), .val (.int u4), .val (.ref a5), .val (.int (Int32.ofNat (fst cs))), .val (.int (([u1, u2, u3, u4] : List Int32).getD (fst cs) 0)), .val (.ref b8), .val (.int (if (fst cs) < cs.length then cs.getD (fst cs) 0 else (-1 : Int32))), .val (.int (if (fst cs) < cs.length then cs.getD (fst cs) 0 else (-1 : Int32))), .unset] [(.ref b8)])) (fun _ k => XS.aload X15.here hx rfl (hb hby at_116) rfl rfl k) ?_
    refine goV X15 hx hZ (y := (⟨"com/example/rezeptkern/rezeptkern/JsonCursor", "mark", "()I"⟩ : MethodName)) (z := (⟨"com/example/rezeptkern/rezeptkern/JsonCursor", "mark", "()I"⟩ : MethodName)) hown (hw _ (List.mem_of_getElem? (i := 76) rfl)) (hw _ (List.mem_of_getElem? (i := 77) rfl)) (notFace_of_selects (args := #[]) (mvT hZ (hw _ (List.mem_of_getElem? (i := 79) rfl)))) (hw _ (List.mem_of_getElem? (i := 79) rfl)) (hw _ (List.mem_of_getElem? (i := 78) rfl)) (by decide) (C := 0) (S := 0) ((rm_mark l Z a0 hw b8 a5 b11 k11 cs ((fst cs)) (fst cs) h15 E_b8 F_text_b8 F_chars_b8 F_position_b8 V_b11 hle8 (fst_le _) (by rw [fstIdem]; rfl)).bk (W := 0) hZ (hw _ (List.mem_of_getElem? (i := 80) rfl)) (hw _ (List.mem_of_getElem? (i := 35) rfl)) (by decide) (by decide)) e15 E_b8 (argsL := []) (rest := []) (by rw [hml]; rfl) (lenOf pd___I rfl) rfl rfl (hb hby at_118) (Nat.le_of_eq rfl) (by decide) (by decide) ?_
    intro v17 T17 L17 X17 hQ17
    obtain ⟨h17, e17⟩ : ∃ z, T17.heap = z := ⟨_, rfl⟩
    rw [e17] at hQ17
    have E_b8_o := E_b8
    obtain ⟨rfl, Mc17, Nc17_0, Nc17_1, Nc17_2, Nc17_3, Nc17_4⟩ := hQ17
    have M17 := M15.app Mc17 (allS (Or.inr fr_b8) all0)
    replace hk := Nat.le_trans hk (Mc17.1).1
    have hq18 : ∀ x ∈ ([b8] : List Addr), Safe Z consts_1 T10.vm h15 x := (sfS Sf_b8 sf0)
    have hs18 := CHr.keep (Mc17.1) hq18 RH.1
    replace Sf_b8 := Safe.keep (Mc17.1) hq18 RH.1 Sf_b8
    replace Sf_b11 := Safe.keep (Mc17.1) hq18 RH.1 Sf_b11
    replace RH := RH.trans hs18
    replace Z_ad := StaKeep Z_ad Mc17.1 (allS (staExa E_b8_o) all0)
    replace Z_hs := StaKeep Z_hs Mc17.1 (allS (staExa E_b8_o) all0)
    replace Z_ls := StaKeep Z_ls Mc17.1 (allS (staExa E_b8_o) all0)
    replace Z_fm := StaKeep Z_fm Mc17.1 (allS (staExa E_b8_o) all0)
    replace Z_cs := StaKeep Z_cs Mc17.1 (allS (staExa E_b8_o) all0)
    replace S_a5 := S_a5.keep Mc17.1 (ninS ne_a5_b8 nin0) (ninS ne_t5_b8 nin0)
    replace E_sa10 := E_sa10.keep Mc17.1
    replace F_cd10 := F_cd10.keep Mc17.1 (ninS (Ne.symm ne_b8_sa10) nin0)
    replace F_vl10 := F_vl10.keep Mc17.1 (ninS (Ne.symm ne_b8_sa10) nin0)
    replace V_sb10 := V_sb10.keep Mc17.1 (ninS (Ne.symm ne_b8_sb10) nin0)
    replace E_b8 := Nc17_0
    replace F_text_b8 := Nc17_1
    replace F_chars_b8 := Nc17_2
    replace F_position_b8 := Nc17_3
    replace V_b11 := Nc17_4
    show Go p e below P T17 (mkF m 121 #[.val (.int p1), .val (.int p2), .val (.int p3), .val (.int p4), .val (.int p5), .val (.int (Int32.ofNat nk)), .val (.int u1), .val (.int u2), .val (.int u3), .val (.int u4), .val (.ref a5), .val (.int (Int32.ofNat (fst cs))), .val (.int (([u1, u2, u3, u4] : List Int32).getD (fst cs) 0)), .val (.ref b8), .val (.int (if (fst cs) < cs.length then cs.getD (fst cs) 0 else (-1 : Int32))), .val (.int (if (fst cs) < cs.length then cs.getD (fst cs) 0 else (-1 : Int32))), .unset] [(.int (Int32.ofNat (fst cs)))])
    refine Go.of (T' := T17) (f' := (mkF m 123 #[.val (.int p1), .val (.int p2), .val (.int p3), .val (.int p4), .val (.int p5), .val (.int (Int32.ofNat nk)), .val (.int u1), .val (.int u2), .val (.int u3), .val (.int u4), .val (.ref a5), .val (.int (Int32.ofNat (fst cs))), .val (.int (([u1, u2, u3, u4] : List Int32).getD (fst cs) 0)), .val (.ref b8), .val (.int (if (fst cs) < cs.length then cs.getD (fst cs) 0 else (-1 : Int32))), .val (.int (if (fst cs) < cs.length then cs.getD (fst cs) 0 else (-1 : Int32))), .val (.int (Int32.ofNat (fst cs)))] [])) (fun _ k => XS.istore X17.here hx rfl (hb hby at_121) rfl (l' := #[.val (.int p1), .val (.int p2), .val (.int p3), .val (.int p4), .val (.int p5), .val (.int (Int32.ofNat nk)), .val (.int u1), .val (.int u2), .val (.int u3), .val (.int u4), .val (.ref a5), .val (.int (Int32.ofNat (fst cs))), .val (.int (([u1, u2, u3, u4] : List Int32).getD (fst cs) 0)), .val (.ref b8), .val (.int (if (fst cs) < cs.length then cs.getD (fst cs) 0 else (-1 : Int32))), .val (.int (if (fst cs) < cs.length then cs.getD (fst cs) 0 else (-1 : Int32))), .val (.int (Int32.ofNat (fst cs)))]) rfl k) ?_
    refine Go.of (T' := T17) (f' := (mkF m 125 #[.val (.int p1), .val (.int p2), .val (.int p3), .val (.int p4), .val (.int p5), .val (.int (Int32.ofNat nk)), .val (.int u1), .val (.int u2), .val (.int u3), .val (.int u4), .val (.ref a5), .val (.int (Int32.ofNat (fst cs))), .val (.int (([u1, u2, u3, u4] : List Int32).getD (fst cs) 0)), .val (.ref b8), .val (.int (if (fst cs) < cs.length then cs.getD (fst cs) 0 else (-1 : Int32))), .val (.int (if (fst cs) < cs.length then cs.getD (fst cs) 0 else (-1 : Int32))), .val (.int (Int32.ofNat (fst cs)))] [(.int (if (fst cs) < cs.length then cs.getD (fst cs) 0 else (-1 : Int32)))])) (fun _ k => XS.iload X17.here hx rfl (hb hby at_123) rfl k) ?_
    refine Go.of (T' := T17) (f' := (mkF m 127 #[.val (.int p1), .val (.int p2), .val (.int p3), .val (.int p4), .val (.int p5), .val (.int (Int32.ofNat nk)), .val (.int u1), .val (.int u2), .val (.int u3), .val (.int u4), .val (.ref a5), .val (.int (Int32.ofNat (fst cs))), .val (.int (([u1, u2, u3, u4] : List Int32).getD (fst cs) 0)), .val (.ref b8), .val (.int (if (fst cs) < cs.length then cs.getD (fst cs) 0 else (-1 : Int32))), .val (.int (if (fst cs) < cs.length then cs.getD (fst cs) 0 else (-1 : Int32))), .val (.int (Int32.ofNat (fst cs)))] [(.int (([u1, u2, u3, u4] : List Int32).getD (fst cs) 0)), (.int (if (fst cs) < cs.length then cs.getD (fst cs) 0 else (-1 : Int32)))])) (fun _ k => XS.iload X17.here hx rfl (hb hby at_125) rfl k) ?_
    have hc127 : (if (fst cs) < cs.length then cs.getD (fst cs) 0 else (-1 : Int32)) = (([u1, u2, u3, u4] : List Int32).getD (fst cs) 0) := pk_t hcs hcl hfk
    refine Go.of (T' := T17) (f' := (mkF m 130 #[.val (.int p1), .val (.int p2), .val (.int p3), .val (.int p4), .val (.int p5), .val (.int (Int32.ofNat nk)), .val (.int u1), .val (.int u2), .val (.int u3), .val (.int u4), .val (.ref a5), .val (.int (Int32.ofNat (fst cs))), .val (.int (([u1, u2, u3, u4] : List Int32).getD (fst cs) 0)), .val (.ref b8), .val (.int (if (fst cs) < cs.length then cs.getD (fst cs) 0 else (-1 : Int32))), .val (.int (if (fst cs) < cs.length then cs.getD (fst cs) 0 else (-1 : Int32))), .val (.int (Int32.ofNat (fst cs)))] [])) (fun _ k => XS.icmpNo X17.here hx rfl (hb hby at_127) rfl (teq hc127).2 k) ?_
    refine Go.of (T' := T17) (f' := (mkF m 132 #[.val (.int p1), .val (.int p2), .val (.int p3), .val (.int p4), .val (.int p5), .val (.int (Int32.ofNat nk)), .val (.int u1), .val (.int u2), .val (.int u3), .val (.int u4), .val (.ref a5), .val (.int (Int32.ofNat (fst cs))), .val (.int (([u1, u2, u3, u4] : List Int32).getD (fst cs) 0)), .val (.ref b8), .val (.int (if (fst cs) < cs.length then cs.getD (fst cs) 0 else (-1 : Int32))), .val (.int (if (fst cs) < cs.length then cs.getD (fst cs) 0 else (-1 : Int32))), .val (.int (Int32.ofNat (fst cs)))] [(.int (if (fst cs) < cs.length then cs.getD (fst cs) 0 else (-1 : Int32)))])) (fun _ k => XS.iload X17.here hx rfl (hb hby at_130) rfl k) ?_
    refine Go.of (T' := T17) (f' := (mkF m 134 #[.val (.int p1), .val (.int p2), .val (.int p3), .val (.int p4), .val (.int p5), .val (.int (Int32.ofNat nk)), .val (.int u1), .val (.int u2), .val (.int u3), .val (.int u4), .val (.ref a5), .val (.int (Int32.ofNat (fst cs))), .val (.int (([u1, u2, u3, u4] : List Int32).getD (fst cs) 0)), .val (.ref b8), .val (.int (if (fst cs) < cs.length then cs.getD (fst cs) 0 else (-1 : Int32))), .val (.int (if (fst cs) < cs.length then cs.getD (fst cs) 0 else (-1 : Int32))), .val (.int (Int32.ofNat (fst cs)))] [(.int (([u1, u2, u3, u4] : List Int32).getD (fst cs) 0)), (.int (if (fst cs) < cs.length then cs.getD (fst cs) 0 else (-1 : Int32)))])) (fun _ k => XS.iload X17.here hx rfl (hb hby at_132) rfl k) ?_
    refine Go.of (T' := T17) (f' := (mkF m 137 #[.val (.int p1), .val (.int p2), .val (.int p3), .val (.int p4), .val (.int p5), .val (.int (Int32.ofNat nk)), .val (.int u1), .val (.int u2), .val (.int u3), .val (.int u4), .val (.ref a5), .val (.int (Int32.ofNat (fst cs))), .val (.int (([u1, u2, u3, u4] : List Int32).getD (fst cs) 0)), .val (.ref b8), .val (.int (if (fst cs) < cs.length then cs.getD (fst cs) 0 else (-1 : Int32))), .val (.int (if (fst cs) < cs.length then cs.getD (fst cs) 0 else (-1 : Int32))), .val (.int (Int32.ofNat (fst cs)))] [])) (fun _ k => XS.icmpNo X17.here hx rfl (hb hby at_134) rfl (teq hc127).2 k) ?_
    refine Go.of (T' := T17) (f' := (mkF m 139 #[.val (.int p1), .val (.int p2), .val (.int p3), .val (.int p4), .val (.int p5), .val (.int (Int32.ofNat nk)), .val (.int u1), .val (.int u2), .val (.int u3), .val (.int u4), .val (.ref a5), .val (.int (Int32.ofNat (fst cs))), .val (.int (([u1, u2, u3, u4] : List Int32).getD (fst cs) 0)), .val (.ref b8), .val (.int (if (fst cs) < cs.length then cs.getD (fst cs) 0 else (-1 : Int32))), .val (.int (if (fst cs) < cs.length then cs.getD (fst cs) 0 else (-1 : Int32))), .val (.int (Int32.ofNat (fst cs)))] [(.int (Int32.ofNat (fst cs)))])) (fun _ k => XS.iload X17.here hx rfl (hb hby at_137) rfl k) ?_
    refine Go.of (T' := T17) (f' := (mkF m 141 #[.val (.int p1), .val (.int p2), .val (.int p3), .val (.int p4), .val (.int p5), .val (.int (Int32.ofNat nk)), .val (.int u1), .val (.int u2), .val (.int u3), .val (.int u4), .val (.ref a5), .val (.int (Int32.ofNat (fst cs))), .val (.int (([u1, u2, u3, u4] : List Int32).getD (fst cs) 0)), .val (.ref b8), .val (.int (if (fst cs) < cs.length then cs.getD (fst cs) 0 else (-1 : Int32))), .val (.int (if (fst cs) < cs.length then cs.getD (fst cs) 0 else (-1 : Int32))), .val (.int (Int32.ofNat (fst cs)))] [(.int (Int32.ofNat (fst cs))), (.int (Int32.ofNat (fst cs)))])) (fun _ k => XS.iload X17.here hx rfl (hb hby at_139) rfl k) ?_
    refine Go.of (T' := T17) (f' := (mkF m 144 #[.val (.int p1), .val (.int p2), .val (.int p3), .val (.int p4), .val (.int p5), .val (.int (Int32.ofNat nk)), .val (.int u1), .val (.int u2), .val (.int u3), .val (.int u4), .val (.ref a5), .val (.int (Int32.ofNat (fst cs))), .val (.int (([u1, u2, u3, u4] : List Int32).getD (fst cs) 0)), .val (.ref b8), .val (.int (if (fst cs) < cs.length then cs.getD (fst cs) 0 else (-1 : Int32))), .val (.int (if (fst cs) < cs.length then cs.getD (fst cs) 0 else (-1 : Int32))), .val (.int (Int32.ofNat (fst cs)))] [])) (fun _ k => XS.icmpNo X17.here hx rfl (hb hby at_141) rfl ((teq (rfl : (Int32.ofNat (fst cs)) = (Int32.ofNat (fst cs)))).2) k) ?_
    refine Go.of (T' := T17) (f' := (mkF m 145 #[.val (.int p1), .val (.int p2), .val (.int p3), .val (.int p4), .val (.int p5), .val (.int (Int32.ofNat nk)), .val (.int u1), .val (.int u2), .val (.int u3), .val (.int u4), .val (.ref a5), .val (.int (Int32.ofNat (fst cs))), .val (.int (([u1, u2, u3, u4] : List Int32).getD (fst cs) 0)), .val (.ref b8), .val (.int (if (fst cs) < cs.length then cs.getD (fst cs) 0 else (-1 : Int32))), .val (.int (if (fst cs) < cs.length then cs.getD (fst cs) 0 else (-1 : Int32))), .val (.int (Int32.ofNat (fst cs)))] [(.int (1 : Int32))])) (fun _ k => XS.iconst X17.here hx rfl (hb hby at_144) k) ?_
    refine Go.of (T' := T17) (f' := (mkF m 149 #[.val (.int p1), .val (.int p2), .val (.int p3), .val (.int p4), .val (.int p5), .val (.int (Int32.ofNat nk)), .val (.int u1), .val (.int u2), .val (.int u3), .val (.int u4), .val (.ref a5), .val (.int (Int32.ofNat (fst cs))), .val (.int (([u1, u2, u3, u4] : List Int32).getD (fst cs) 0)), .val (.ref b8), .val (.int (if (fst cs) < cs.length then cs.getD (fst cs) 0 else (-1 : Int32))), .val (.int (if (fst cs) < cs.length then cs.getD (fst cs) 0 else (-1 : Int32))), .val (.int (Int32.ofNat (fst cs)))] [(.int (1 : Int32))])) (fun _ k => XS.goto X17.here hx rfl (pc0 := 145) (pc' := 149) rfl (hb hby at_145) (by decide) (by decide) k) ?_
    exact goRetIH (Q := fun v h L => v = some (.int 1) ∧ Mv h0 h [] L) X17 hx hZ hS hk (hEL_1 hw) RH (t := .boolean) hret hlk rfl (by simp) (hb hby at_149) K (by decide) (by decide) e17 (⟨rfl, M17⟩)
  ·
    refine Go.of (T' := T6) (f' := (mkF m 86 #[.val (.int p1), .val (.int p2), .val (.int p3), .val (.int p4), .val (.int p5), .val (.int (Int32.ofNat nk)), .val (.int u1), .val (.int u2), .val (.int u3), .val (.int u4), .val (.ref a5), .val (.int (Int32.ofNat (fst cs))), .unset, .unset, .unset, .unset, .unset] [])) (fun _ k => XS.icmpYes X6.here hx rfl (pc0 := 67) (pc' := 86) rfl (hb hby at_67) rfl (flt hc67).2.1 (by decide) (by decide) k) ?_
    refine Go.of (T' := T6) (f' := (mkF m 87 #[.val (.int p1), .val (.int p2), .val (.int p3), .val (.int p4), .val (.int p5), .val (.int (Int32.ofNat nk)), .val (.int u1), .val (.int u2), .val (.int u3), .val (.int u4), .val (.ref a5), .val (.int (Int32.ofNat (fst cs))), .unset, .unset, .unset, .unset, .unset] [(.int (-1 : Int32))])) (fun _ k => XS.iconst X6.here hx rfl (hb hby at_86) k) ?_
    refine Go.of (T' := T6) (f' := (mkF m 89 #[.val (.int p1), .val (.int p2), .val (.int p3), .val (.int p4), .val (.int p5), .val (.int (Int32.ofNat nk)), .val (.int u1), .val (.int u2), .val (.int u3), .val (.int u4), .val (.ref a5), .val (.int (Int32.ofNat (fst cs))), .val (.int (-1 : Int32)), .unset, .unset, .unset, .unset] [])) (fun _ k => XS.istore X6.here hx rfl (hb hby at_87) rfl (l' := #[.val (.int p1), .val (.int p2), .val (.int p3), .val (.int p4), .val (.int p5), .val (.int (Int32.ofNat nk)), .val (.int u1), .val (.int u2), .val (.int u3), .val (.int u4), .val (.ref a5), .val (.int (Int32.ofNat (fst cs))), .val (.int (-1 : Int32)), .unset, .unset, .unset, .unset]) rfl k) ?_
    obtain ⟨T19, h19, X19, e19, E19, A19, D19, -, st19⟩ := newO X6 hx hZ hown (hw _ (List.mem_of_getElem? (i := 33) rfl)) (hw _ (List.mem_of_getElem? (i := 34) rfl)) (hw _ (List.mem_of_getElem? (i := 35) rfl)) e6 (g := (mkF m 89 #[.val (.int p1), .val (.int p2), .val (.int p3), .val (.int p4), .val (.int p5), .val (.int (Int32.ofNat nk)), .val (.int u1), .val (.int u2), .val (.int u3), .val (.int u4), .val (.ref a5), .val (.int (Int32.ofNat (fst cs))), .val (.int (-1 : Int32)), .unset, .unset, .unset, .unset] [])) rfl (hb hby at_89) (by decide) (by decide)
    obtain ⟨b19, g19⟩ : ∃ z, z = h5.size := ⟨_, rfl⟩
    rw [← g19] at A19 D19 st19
    have ne_a5_b19 : a5 ≠ b19 := Nat.ne_of_lt (Nat.lt_of_lt_of_le S_a5.lt1 (Nat.le_of_eq g19.symm))
    have ne_t5_b19 : t5 ≠ b19 := Nat.ne_of_lt (Nat.lt_of_lt_of_le S_a5.lt2 (Nat.le_of_eq g19.symm))
    have fr_b19 : h0.size ≤ b19 := Nat.le_trans M5.le (Nat.le_of_eq g19.symm)
    have Sf_b19 := Safe.new (Z := Z) (EL := consts_1) (vm := T5.vm) (Nat.le_of_eq g19.symm)
    have K19 := keepE E19
    have M19 := M5.ext E19
    replace hk := Nat.le_trans hk (K19).1
    have hs20 := CHr.keep (K19) sf0 RH.1
    replace Sf_b19 := Safe.keep (K19) sf0 RH.1 Sf_b19
    replace RH := RH.trans hs20
    replace Z_ad := StaKeep Z_ad K19 all0
    replace Z_hs := StaKeep Z_hs K19 all0
    replace Z_ls := StaKeep Z_ls K19 all0
    replace Z_fm := StaKeep Z_fm K19 all0
    replace Z_cs := StaKeep Z_cs K19 all0
    replace S_a5 := S_a5.keep K19 nin0 nin0
    have E_b19 := A19
    have F_text_b19 : Fld Z h19 b19 "com/example/rezeptkern/rezeptkern/JsonCursor" "text" "Ljava/lang/String;" .null := D19 (Or.inr (hw _ (List.mem_of_getElem? (i := 42) rfl))) (ty := (.object "java/lang/String")) (by decide)
    have F_chars_b19 : Fld Z h19 b19 "com/example/rezeptkern/rezeptkern/JsonCursor" "chars" "[C" .null := D19 (Or.inr (hw _ (List.mem_of_getElem? (i := 62) rfl))) (ty := (.array .char)) (by decide)
    have F_name_b19 : Fld Z h19 b19 "com/example/rezeptkern/rezeptkern/JsonCursor" "name" "Ljava/lang/String;" .null := D19 (Or.inr (hw _ (List.mem_of_getElem? (i := 64) rfl))) (ty := (.object "java/lang/String")) (by decide)
    have F_position_b19 : Fld Z h19 b19 "com/example/rezeptkern/rezeptkern/JsonCursor" "position" "I" (.int (0 : Int32)) := D19 (Or.inl (hw _ (List.mem_of_getElem? (i := 75) rfl))) (ty := .int) (by decide)
    refine Go.of (T' := T19) (f' := (mkF m 92 #[.val (.int p1), .val (.int p2), .val (.int p3), .val (.int p4), .val (.int p5), .val (.int (Int32.ofNat nk)), .val (.int u1), .val (.int u2), .val (.int u3), .val (.int u4), .val (.ref a5), .val (.int (Int32.ofNat (fst cs))), .val (.int (-1 : Int32)), .unset, .unset, .unset, .unset] [(.ref b19)])) st19 ?_
    refine Go.of (T' := T19) (f' := (mkF m 93 #[.val (.int p1), .val (.int p2), .val (.int p3), .val (.int p4), .val (.int p5), .val (.int (Int32.ofNat nk)), .val (.int u1), .val (.int u2), .val (.int u3), .val (.int u4), .val (.ref a5), .val (.int (Int32.ofNat (fst cs))), .val (.int (-1 : Int32)), .unset, .unset, .unset, .unset] [(.ref b19), (.ref b19)])) (fun _ k => XS.dup X19.here hx rfl (hb hby at_92) rfl rfl k) ?_
    refine Go.of (T' := T19) (f' := (mkF m 95 #[.val (.int p1), .val (.int p2), .val (.int p3), .val (.int p4), .val (.int p5), .val (.int (Int32.ofNat nk)), .val (.int u1), .val (.int u2), .val (.int u3), .val (.int u4), .val (.ref a5), .val (.int (Int32.ofNat (fst cs))), .val (.int (-1 : Int32)), .unset, .unset, .unset, .unset] [(.ref a5), (.ref b19), (.ref b19)])) (fun _ k => XS.aload X19.here hx rfl (hb hby at_93) rfl rfl k) ?_
    obtain ⟨sa21, T21, h21, k21, sb21, kb21, X21, e21, E21, hS21, hk21, hZ21, hown21, E_sa21, F_cd21, F_vl21, V_sb21, -, -, A21, -, hne21, st21⟩ := ldcCH X19 hx hZ hown (hw _ (List.mem_of_getElem? (i := 36) rfl)) (hw_sA hw) e19 hS hk (hEL_1 hw) (by decide) RH.1 (vs := [.int (116 : Int32)]) (z := (1 : Int32)) ⟨by decide, by decide⟩ (by decide) (by decide) (g := (mkF m 95 #[.val (.int p1), .val (.int p2), .val (.int p3), .val (.int p4), .val (.int p5), .val (.int (Int32.ofNat nk)), .val (.int u1), .val (.int u2), .val (.int u3), .val (.int u4), .val (.ref a5), .val (.int (Int32.ofNat (fst cs))), .val (.int (-1 : Int32)), .unset, .unset, .unset, .unset] [(.ref a5), (.ref b19), (.ref b19)])) rfl (hb hby at_95) (n := 4) (by decide) (by decide) (by decide) (by decide)
    have K21 := keepE E21
    have M21 := M19.ext E21
    clear hS hk
    replace Sf_b19 := CHr.safe A21 E_b19.lt Sf_b19
    replace RH := RH.trans A21
    replace Z_ad := StaKeep Z_ad K21 all0
    replace Z_hs := StaKeep Z_hs K21 all0
    replace Z_ls := StaKeep Z_ls K21 all0
    replace Z_fm := StaKeep Z_fm K21 all0
    replace Z_cs := StaKeep Z_cs K21 all0
    replace S_a5 := S_a5.keep K21 nin0 nin0
    replace E_b19 := E_b19.keep K21
    replace F_text_b19 := F_text_b19.keep K21 nin0
    replace F_chars_b19 := F_chars_b19.keep K21 nin0
    replace F_name_b19 := F_name_b19.keep K21 nin0
    replace F_position_b19 := F_position_b19.keep K21 nin0
    have hS := hS21
    have hk := hk21
    replace hZ := hZ21
    replace hown := hown21
    have ne_b19_sa21 := (hne21 _ Sf_b19).1
    have ne_b19_sb21 := (hne21 _ Sf_b19).2
    refine Go.of (T' := T21) (f' := (mkF m 97 #[.val (.int p1), .val (.int p2), .val (.int p3), .val (.int p4), .val (.int p5), .val (.int (Int32.ofNat nk)), .val (.int u1), .val (.int u2), .val (.int u3), .val (.int u4), .val (.ref a5), .val (.int (Int32.ofNat (fst cs))), .val (.int (-1 : Int32)), .unset, .unset, .unset, .unset] [(.ref sa21), (.ref a5), (.ref b19), (.ref b19)])) st21 ?_
    refine goI X21 hx hZ rfl hown (hw _ (List.mem_of_getElem? (i := 37) rfl)) (hw _ (List.mem_of_getElem? (i := 38) rfl)) (hw _ (List.mem_of_getElem? (i := 39) rfl)) (by decide) (C := 1) (S := 8) ((rm_cur l Z a0 hw b19 a5 sa21 t5 cs zc fm h21 E_b19 F_text_b19 F_chars_b19 F_name_b19 F_position_b19 S_a5 hle8 Z_ad Z_hs Z_ls Z_fm hfm Z_cs hz).bk (W := 1) hZ (hw _ (List.mem_of_getElem? (i := 39) rfl)) (hw _ (List.mem_of_getElem? (i := 35) rfl)) (by decide) (by decide)) e21 (argsL := [(.ref a5), (.ref sa21)]) (rest := [(.ref b19)]) (by rw [hml]; rfl) (lenOf pd__Ljava_lang_String_Ljava_lang_String__V rfl) rfl rfl (hb hby at_97) (Nat.le_of_eq rfl) (by decide) (by decide) ?_
    intro v22 T22 L22 X22 hQ22
    obtain ⟨h22, e22⟩ : ∃ z, T22.heap = z := ⟨_, rfl⟩
    rw [e22] at hQ22
    have E_b19_o := E_b19
    obtain ⟨rfl, Mc22, b22, k22, le22, Nc22_0, Nc22_1, Nc22_2, Nc22_3, Nc22_4⟩ := hQ22
    have ne_a5_b22 : a5 ≠ b22 := Nat.ne_of_lt (Nat.lt_of_lt_of_le S_a5.lt1 le22)
    have ne_t5_b22 : t5 ≠ b22 := Nat.ne_of_lt (Nat.lt_of_lt_of_le S_a5.lt2 le22)
    have ne_b19_b22 : b19 ≠ b22 := Nat.ne_of_lt (Nat.lt_of_lt_of_le E_b19.lt le22)
    have ne_sa21_b22 : sa21 ≠ b22 := Nat.ne_of_lt (Nat.lt_of_lt_of_le E_sa21.lt le22)
    have ne_sb21_b22 : sb21 ≠ b22 := Nat.ne_of_lt (Nat.lt_of_lt_of_le V_sb21.lt le22)
    have fr_b22 : h0.size ≤ b22 := Nat.le_trans M21.le le22
    have Sf_b22 := Safe.new (Z := Z) (EL := consts_1) (vm := T21.vm) le22
    have M22 := M21.app Mc22 (allS (Or.inr fr_b19) all0)
    replace hk := Nat.le_trans hk (Mc22.1).1
    have hq23 : ∀ x ∈ ([b19] : List Addr), Safe Z consts_1 T21.vm h21 x := (sfS Sf_b19 sf0)
    have hs23 := CHr.keep (Mc22.1) hq23 RH.1
    replace Sf_b19 := Safe.keep (Mc22.1) hq23 RH.1 Sf_b19
    replace Sf_b22 := Safe.keep (Mc22.1) hq23 RH.1 Sf_b22
    replace RH := RH.trans hs23
    replace Z_ad := StaKeep Z_ad Mc22.1 (allS (staExa E_b19_o) all0)
    replace Z_hs := StaKeep Z_hs Mc22.1 (allS (staExa E_b19_o) all0)
    replace Z_ls := StaKeep Z_ls Mc22.1 (allS (staExa E_b19_o) all0)
    replace Z_fm := StaKeep Z_fm Mc22.1 (allS (staExa E_b19_o) all0)
    replace Z_cs := StaKeep Z_cs Mc22.1 (allS (staExa E_b19_o) all0)
    replace S_a5 := S_a5.keep Mc22.1 (ninS ne_a5_b19 nin0) (ninS ne_t5_b19 nin0)
    replace E_sa21 := E_sa21.keep Mc22.1
    replace F_cd21 := F_cd21.keep Mc22.1 (ninS (Ne.symm ne_b19_sa21) nin0)
    replace F_vl21 := F_vl21.keep Mc22.1 (ninS (Ne.symm ne_b19_sa21) nin0)
    replace V_sb21 := V_sb21.keep Mc22.1 (ninS (Ne.symm ne_b19_sb21) nin0)
    have E_b19 := Nc22_0
    have F_text_b19 := Nc22_1
    have F_chars_b19 := Nc22_2
    have F_position_b19 := Nc22_3
    have V_b22 := Nc22_4
    show Go p e below P T22 (mkF m 100 #[.val (.int p1), .val (.int p2), .val (.int p3), .val (.int p4), .val (.int p5), .val (.int (Int32.ofNat nk)), .val (.int u1), .val (.int u2), .val (.int u3), .val (.int u4), .val (.ref a5), .val (.int (Int32.ofNat (fst cs))), .val (.int (-1 : Int32)), .unset, .unset, .unset, .unset] [(.ref b19)])
    refine Go.of (T' := T22) (f' := (mkF m 102 #[.val (.int p1), .val (.int p2), .val (.int p3), .val (.int p4), .val (.int p5), .val (.int (Int32.ofNat nk)), .val (.int u1), .val (.int u2), .val (.int u3), .val (.int u4), .val (.ref a5), .val (.int (Int32.ofNat (fst cs))), .val (.int (-1 : Int32)), .val (.ref b19), .unset, .unset, .unset] [])) (fun _ k => XS.astore X22.here hx rfl (hb hby at_100) rfl rfl (l' := #[.val (.int p1), .val (.int p2), .val (.int p3), .val (.int p4), .val (.int p5), .val (.int (Int32.ofNat nk)), .val (.int u1), .val (.int u2), .val (.int u3), .val (.int u4), .val (.ref a5), .val (.int (Int32.ofNat (fst cs))), .val (.int (-1 : Int32)), .val (.ref b19), .unset, .unset, .unset]) rfl k) ?_
    refine Go.of (T' := T22) (f' := (mkF m 104 #[.val (.int p1), .val (.int p2), .val (.int p3), .val (.int p4), .val (.int p5), .val (.int (Int32.ofNat nk)), .val (.int u1), .val (.int u2), .val (.int u3), .val (.int u4), .val (.ref a5), .val (.int (Int32.ofNat (fst cs))), .val (.int (-1 : Int32)), .val (.ref b19), .unset, .unset, .unset] [(.ref b19)])) (fun _ k => XS.aload X22.here hx rfl (hb hby at_102) rfl rfl k) ?_
    refine goV X22 hx hZ (y := (⟨"com/example/rezeptkern/rezeptkern/JsonCursor", "peek", "()I"⟩ : MethodName)) (z := (⟨"com/example/rezeptkern/rezeptkern/JsonCursor", "peek", "()I"⟩ : MethodName)) hown (hw _ (List.mem_of_getElem? (i := 65) rfl)) (hw _ (List.mem_of_getElem? (i := 66) rfl)) (notFace_of_selects (args := #[]) (mvT hZ (hw _ (List.mem_of_getElem? (i := 68) rfl)))) (hw _ (List.mem_of_getElem? (i := 68) rfl)) (hw _ (List.mem_of_getElem? (i := 67) rfl)) (by decide) (C := 0) (S := 0) ((rm_peek l Z a0 hw b19 a5 b22 k22 cs (0) (fst cs) h22 E_b19 F_text_b19 F_chars_b19 F_position_b19 V_b22 hle8 (by omega) (by simp)).bk (W := 0) hZ (hw _ (List.mem_of_getElem? (i := 69) rfl)) (hw _ (List.mem_of_getElem? (i := 35) rfl)) (by decide) (by decide)) e22 E_b19 (argsL := []) (rest := []) (by rw [hml]; rfl) (lenOf pd___I rfl) rfl rfl (hb hby at_104) (Nat.le_of_eq rfl) (by decide) (by decide) ?_
    intro v24 T24 L24 X24 hQ24
    obtain ⟨h24, e24⟩ : ∃ z, T24.heap = z := ⟨_, rfl⟩
    rw [e24] at hQ24
    have E_b19_o := E_b19
    obtain ⟨rfl, Mc24, Nc24_0, Nc24_1, Nc24_2, Nc24_3, Nc24_4⟩ := hQ24
    have M24 := M22.app Mc24 (allS (Or.inr fr_b19) all0)
    replace hk := Nat.le_trans hk (Mc24.1).1
    have hq25 : ∀ x ∈ ([b19] : List Addr), Safe Z consts_1 T21.vm h22 x := (sfS Sf_b19 sf0)
    have hs25 := CHr.keep (Mc24.1) hq25 RH.1
    replace Sf_b19 := Safe.keep (Mc24.1) hq25 RH.1 Sf_b19
    replace Sf_b22 := Safe.keep (Mc24.1) hq25 RH.1 Sf_b22
    replace RH := RH.trans hs25
    replace Z_ad := StaKeep Z_ad Mc24.1 (allS (staExa E_b19_o) all0)
    replace Z_hs := StaKeep Z_hs Mc24.1 (allS (staExa E_b19_o) all0)
    replace Z_ls := StaKeep Z_ls Mc24.1 (allS (staExa E_b19_o) all0)
    replace Z_fm := StaKeep Z_fm Mc24.1 (allS (staExa E_b19_o) all0)
    replace Z_cs := StaKeep Z_cs Mc24.1 (allS (staExa E_b19_o) all0)
    replace S_a5 := S_a5.keep Mc24.1 (ninS ne_a5_b19 nin0) (ninS ne_t5_b19 nin0)
    replace E_sa21 := E_sa21.keep Mc24.1
    replace F_cd21 := F_cd21.keep Mc24.1 (ninS (Ne.symm ne_b19_sa21) nin0)
    replace F_vl21 := F_vl21.keep Mc24.1 (ninS (Ne.symm ne_b19_sa21) nin0)
    replace V_sb21 := V_sb21.keep Mc24.1 (ninS (Ne.symm ne_b19_sb21) nin0)
    replace E_b19 := Nc24_0
    replace F_text_b19 := Nc24_1
    replace F_chars_b19 := Nc24_2
    replace F_position_b19 := Nc24_3
    replace V_b22 := Nc24_4
    show Go p e below P T24 (mkF m 107 #[.val (.int p1), .val (.int p2), .val (.int p3), .val (.int p4), .val (.int p5), .val (.int (Int32.ofNat nk)), .val (.int u1), .val (.int u2), .val (.int u3), .val (.int u4), .val (.ref a5), .val (.int (Int32.ofNat (fst cs))), .val (.int (-1 : Int32)), .val (.ref b19), .unset, .unset, .unset] [(.int (if (fst cs) < cs.length then cs.getD (fst cs) 0 else (-1 : Int32)))])
    refine Go.of (T' := T24) (f' := (mkF m 109 #[.val (.int p1), .val (.int p2), .val (.int p3), .val (.int p4), .val (.int p5), .val (.int (Int32.ofNat nk)), .val (.int u1), .val (.int u2), .val (.int u3), .val (.int u4), .val (.ref a5), .val (.int (Int32.ofNat (fst cs))), .val (.int (-1 : Int32)), .val (.ref b19), .val (.int (if (fst cs) < cs.length then cs.getD (fst cs) 0 else (-1 : Int32))), .unset, .unset] [])) (fun _ k => XS.istore X24.here hx rfl (hb hby at_107) rfl (l' := #[.val (.int p1), .val (.int p2), .val (.int p3), .val (.int p4), .val (.int p5), .val (.int (Int32.ofNat nk)), .val (.int u1), .val (.int u2), .val (.int u3), .val (.int u4), .val (.ref a5), .val (.int (Int32.ofNat (fst cs))), .val (.int (-1 : Int32)), .val (.ref b19), .val (.int (if (fst cs) < cs.length then cs.getD (fst cs) 0 else (-1 : Int32))), .unset, .unset]) rfl k) ?_
    refine Go.of (T' := T24) (f' := (mkF m 111 #[.val (.int p1), .val (.int p2), .val (.int p3), .val (.int p4), .val (.int p5), .val (.int (Int32.ofNat nk)), .val (.int u1), .val (.int u2), .val (.int u3), .val (.int u4), .val (.ref a5), .val (.int (Int32.ofNat (fst cs))), .val (.int (-1 : Int32)), .val (.ref b19), .val (.int (if (fst cs) < cs.length then cs.getD (fst cs) 0 else (-1 : Int32))), .unset, .unset] [(.ref b19)])) (fun _ k => XS.aload X24.here hx rfl (hb hby at_109) rfl rfl k) ?_
    refine goV X24 hx hZ (y := (⟨"com/example/rezeptkern/rezeptkern/JsonCursor", "peek", "()I"⟩ : MethodName)) (z := (⟨"com/example/rezeptkern/rezeptkern/JsonCursor", "peek", "()I"⟩ : MethodName)) hown (hw _ (List.mem_of_getElem? (i := 65) rfl)) (hw _ (List.mem_of_getElem? (i := 66) rfl)) (notFace_of_selects (args := #[]) (mvT hZ (hw _ (List.mem_of_getElem? (i := 68) rfl)))) (hw _ (List.mem_of_getElem? (i := 68) rfl)) (hw _ (List.mem_of_getElem? (i := 67) rfl)) (by decide) (C := 0) (S := 0) ((rm_peek l Z a0 hw b19 a5 b22 k22 cs ((fst cs)) (fst cs) h24 E_b19 F_text_b19 F_chars_b19 F_position_b19 V_b22 hle8 (fst_le _) (by rw [fstIdem]; rfl)).bk (W := 0) hZ (hw _ (List.mem_of_getElem? (i := 69) rfl)) (hw _ (List.mem_of_getElem? (i := 35) rfl)) (by decide) (by decide)) e24 E_b19 (argsL := []) (rest := []) (by rw [hml]; rfl) (lenOf pd___I rfl) rfl rfl (hb hby at_111) (Nat.le_of_eq rfl) (by decide) (by decide) ?_
    intro v26 T26 L26 X26 hQ26
    obtain ⟨h26, e26⟩ : ∃ z, T26.heap = z := ⟨_, rfl⟩
    rw [e26] at hQ26
    have E_b19_o := E_b19
    obtain ⟨rfl, Mc26, Nc26_0, Nc26_1, Nc26_2, Nc26_3, Nc26_4⟩ := hQ26
    have M26 := M24.app Mc26 (allS (Or.inr fr_b19) all0)
    replace hk := Nat.le_trans hk (Mc26.1).1
    have hq27 : ∀ x ∈ ([b19] : List Addr), Safe Z consts_1 T21.vm h24 x := (sfS Sf_b19 sf0)
    have hs27 := CHr.keep (Mc26.1) hq27 RH.1
    replace Sf_b19 := Safe.keep (Mc26.1) hq27 RH.1 Sf_b19
    replace Sf_b22 := Safe.keep (Mc26.1) hq27 RH.1 Sf_b22
    replace RH := RH.trans hs27
    replace Z_ad := StaKeep Z_ad Mc26.1 (allS (staExa E_b19_o) all0)
    replace Z_hs := StaKeep Z_hs Mc26.1 (allS (staExa E_b19_o) all0)
    replace Z_ls := StaKeep Z_ls Mc26.1 (allS (staExa E_b19_o) all0)
    replace Z_fm := StaKeep Z_fm Mc26.1 (allS (staExa E_b19_o) all0)
    replace Z_cs := StaKeep Z_cs Mc26.1 (allS (staExa E_b19_o) all0)
    replace S_a5 := S_a5.keep Mc26.1 (ninS ne_a5_b19 nin0) (ninS ne_t5_b19 nin0)
    replace E_sa21 := E_sa21.keep Mc26.1
    replace F_cd21 := F_cd21.keep Mc26.1 (ninS (Ne.symm ne_b19_sa21) nin0)
    replace F_vl21 := F_vl21.keep Mc26.1 (ninS (Ne.symm ne_b19_sa21) nin0)
    replace V_sb21 := V_sb21.keep Mc26.1 (ninS (Ne.symm ne_b19_sb21) nin0)
    replace E_b19 := Nc26_0
    replace F_text_b19 := Nc26_1
    replace F_chars_b19 := Nc26_2
    replace F_position_b19 := Nc26_3
    replace V_b22 := Nc26_4
    show Go p e below P T26 (mkF m 114 #[.val (.int p1), .val (.int p2), .val (.int p3), .val (.int p4), .val (.int p5), .val (.int (Int32.ofNat nk)), .val (.int u1), .val (.int u2), .val (.int u3), .val (.int u4), .val (.ref a5), .val (.int (Int32.ofNat (fst cs))), .val (.int (-1 : Int32)), .val (.ref b19), .val (.int (if (fst cs) < cs.length then cs.getD (fst cs) 0 else (-1 : Int32))), .unset, .unset] [(.int (if (fst cs) < cs.length then cs.getD (fst cs) 0 else (-1 : Int32)))])
    refine Go.of (T' := T26) (f' := (mkF m 116 #[.val (.int p1), .val (.int p2), .val (.int p3), .val (.int p4), .val (.int p5), .val (.int (Int32.ofNat nk)), .val (.int u1), .val (.int u2), .val (.int u3), .val (.int u4), .val (.ref a5), .val (.int (Int32.ofNat (fst cs))), .val (.int (-1 : Int32)), .val (.ref b19), .val (.int (if (fst cs) < cs.length then cs.getD (fst cs) 0 else (-1 : Int32))), .val (.int (if (fst cs) < cs.length then cs.getD (fst cs) 0 else (-1 : Int32))), .unset] [])) (fun _ k => XS.istore X26.here hx rfl (hb hby at_114) rfl (l' := #[.val (.int p1), .val (.int p2), .val (.int p3), .val (.int p4), .val (.int p5), .val (.int (Int32.ofNat nk)), .val (.int u1), .val (.int u2), .val (.int u3), .val (.int u4), .val (.ref a5), .val (.int (Int32.ofNat (fst cs))), .val (.int (-1 : Int32)), .val (.ref b19), .val (.int (if (fst cs) < cs.length then cs.getD (fst cs) 0 else (-1 : Int32))), .val (.int (if (fst cs) < cs.length then cs.getD (fst cs) 0 else (-1 : Int32))), .unset]) rfl k) ?_
    refine Go.of (T' := T26) (f' := (mkF m 118 #[.val (.int p1), .val (.int p2), .val (.int p3), .val (.int p4), .val (.int p5), .val (.int (Int32.ofNat nk)), .val (.int u1), .val (.int u2), .val (.int u3), .val (.int u4), .val (.ref a5), .val (.int (Int32.ofNat (fst cs))), .val (.int (-1 : Int32)), .val (.ref b19), .val (.int (if (fst cs) < cs.length then cs.getD (fst cs) 0 else (-1 : Int32))), .val (.int (if (fst cs) < cs.length then cs.getD (fst cs) 0 else (-1 : Int32))), .unset] [(.ref b19)])) (fun _ k => XS.aload X26.here hx rfl (hb hby at_116) rfl rfl k) ?_
    refine goV X26 hx hZ (y := (⟨"com/example/rezeptkern/rezeptkern/JsonCursor", "mark", "()I"⟩ : MethodName)) (z := (⟨"com/example/rezeptkern/rezeptkern/JsonCursor", "mark", "()I"⟩ : MethodName)) hown (hw _ (List.mem_of_getElem? (i := 76) rfl)) (hw _ (List.mem_of_getElem? (i := 77) rfl)) (notFace_of_selects (args := #[]) (mvT hZ (hw _ (List.mem_of_getElem? (i := 79) rfl)))) (hw _ (List.mem_of_getElem? (i := 79) rfl)) (hw _ (List.mem_of_getElem? (i := 78) rfl)) (by decide) (C := 0) (S := 0) ((rm_mark l Z a0 hw b19 a5 b22 k22 cs ((fst cs)) (fst cs) h26 E_b19 F_text_b19 F_chars_b19 F_position_b19 V_b22 hle8 (fst_le _) (by rw [fstIdem]; rfl)).bk (W := 0) hZ (hw _ (List.mem_of_getElem? (i := 80) rfl)) (hw _ (List.mem_of_getElem? (i := 35) rfl)) (by decide) (by decide)) e26 E_b19 (argsL := []) (rest := []) (by rw [hml]; rfl) (lenOf pd___I rfl) rfl rfl (hb hby at_118) (Nat.le_of_eq rfl) (by decide) (by decide) ?_
    intro v28 T28 L28 X28 hQ28
    obtain ⟨h28, e28⟩ : ∃ z, T28.heap = z := ⟨_, rfl⟩
    rw [e28] at hQ28
    have E_b19_o := E_b19
    obtain ⟨rfl, Mc28, Nc28_0, Nc28_1, Nc28_2, Nc28_3, Nc28_4⟩ := hQ28
    have M28 := M26.app Mc28 (allS (Or.inr fr_b19) all0)
    replace hk := Nat.le_trans hk (Mc28.1).1
    have hq29 : ∀ x ∈ ([b19] : List Addr), Safe Z consts_1 T21.vm h26 x := (sfS Sf_b19 sf0)
    have hs29 := CHr.keep (Mc28.1) hq29 RH.1
    replace Sf_b19 := Safe.keep (Mc28.1) hq29 RH.1 Sf_b19
    replace Sf_b22 := Safe.keep (Mc28.1) hq29 RH.1 Sf_b22
    replace RH := RH.trans hs29
    replace Z_ad := StaKeep Z_ad Mc28.1 (allS (staExa E_b19_o) all0)
    replace Z_hs := StaKeep Z_hs Mc28.1 (allS (staExa E_b19_o) all0)
    replace Z_ls := StaKeep Z_ls Mc28.1 (allS (staExa E_b19_o) all0)
    replace Z_fm := StaKeep Z_fm Mc28.1 (allS (staExa E_b19_o) all0)
    replace Z_cs := StaKeep Z_cs Mc28.1 (allS (staExa E_b19_o) all0)
    replace S_a5 := S_a5.keep Mc28.1 (ninS ne_a5_b19 nin0) (ninS ne_t5_b19 nin0)
    replace E_sa21 := E_sa21.keep Mc28.1
    replace F_cd21 := F_cd21.keep Mc28.1 (ninS (Ne.symm ne_b19_sa21) nin0)
    replace F_vl21 := F_vl21.keep Mc28.1 (ninS (Ne.symm ne_b19_sa21) nin0)
    replace V_sb21 := V_sb21.keep Mc28.1 (ninS (Ne.symm ne_b19_sb21) nin0)
    replace E_b19 := Nc28_0
    replace F_text_b19 := Nc28_1
    replace F_chars_b19 := Nc28_2
    replace F_position_b19 := Nc28_3
    replace V_b22 := Nc28_4
    show Go p e below P T28 (mkF m 121 #[.val (.int p1), .val (.int p2), .val (.int p3), .val (.int p4), .val (.int p5), .val (.int (Int32.ofNat nk)), .val (.int u1), .val (.int u2), .val (.int u3), .val (.int u4), .val (.ref a5), .val (.int (Int32.ofNat (fst cs))), .val (.int (-1 : Int32)), .val (.ref b19), .val (.int (if (fst cs) < cs.length then cs.getD (fst cs) 0 else (-1 : Int32))), .val (.int (if (fst cs) < cs.length then cs.getD (fst cs) 0 else (-1 : Int32))), .unset] [(.int (Int32.ofNat (fst cs)))])
    refine Go.of (T' := T28) (f' := (mkF m 123 #[.val (.int p1), .val (.int p2), .val (.int p3), .val (.int p4), .val (.int p5), .val (.int (Int32.ofNat nk)), .val (.int u1), .val (.int u2), .val (.int u3), .val (.int u4), .val (.ref a5), .val (.int (Int32.ofNat (fst cs))), .val (.int (-1 : Int32)), .val (.ref b19), .val (.int (if (fst cs) < cs.length then cs.getD (fst cs) 0 else (-1 : Int32))), .val (.int (if (fst cs) < cs.length then cs.getD (fst cs) 0 else (-1 : Int32))), .val (.int (Int32.ofNat (fst cs)))] [])) (fun _ k => XS.istore X28.here hx rfl (hb hby at_121) rfl (l' := #[.val (.int p1), .val (.int p2), .val (.int p3), .val (.int p4), .val (.int p5), .val (.int (Int32.ofNat nk)), .val (.int u1), .val (.int u2), .val (.int u3), .val (.int u4), .val (.ref a5), .val (.int (Int32.ofNat (fst cs))), .val (.int (-1 : Int32)), .val (.ref b19), .val (.int (if (fst cs) < cs.length then cs.getD (fst cs) 0 else (-1 : Int32))), .val (.int (if (fst cs) < cs.length then cs.getD (fst cs) 0 else (-1 : Int32))), .val (.int (Int32.ofNat (fst cs)))]) rfl k) ?_
    refine Go.of (T' := T28) (f' := (mkF m 125 #[.val (.int p1), .val (.int p2), .val (.int p3), .val (.int p4), .val (.int p5), .val (.int (Int32.ofNat nk)), .val (.int u1), .val (.int u2), .val (.int u3), .val (.int u4), .val (.ref a5), .val (.int (Int32.ofNat (fst cs))), .val (.int (-1 : Int32)), .val (.ref b19), .val (.int (if (fst cs) < cs.length then cs.getD (fst cs) 0 else (-1 : Int32))), .val (.int (if (fst cs) < cs.length then cs.getD (fst cs) 0 else (-1 : Int32))), .val (.int (Int32.ofNat (fst cs)))] [(.int (if (fst cs) < cs.length then cs.getD (fst cs) 0 else (-1 : Int32)))])) (fun _ k => XS.iload X28.here hx rfl (hb hby at_123) rfl k) ?_
    refine Go.of (T' := T28) (f' := (mkF m 127 #[.val (.int p1), .val (.int p2), .val (.int p3), .val (.int p4), .val (.int p5), .val (.int (Int32.ofNat nk)), .val (.int u1), .val (.int u2), .val (.int u3), .val (.int u4), .val (.ref a5), .val (.int (Int32.ofNat (fst cs))), .val (.int (-1 : Int32)), .val (.ref b19), .val (.int (if (fst cs) < cs.length then cs.getD (fst cs) 0 else (-1 : Int32))), .val (.int (if (fst cs) < cs.length then cs.getD (fst cs) 0 else (-1 : Int32))), .val (.int (Int32.ofNat (fst cs)))] [(.int (-1 : Int32)), (.int (if (fst cs) < cs.length then cs.getD (fst cs) 0 else (-1 : Int32)))])) (fun _ k => XS.iload X28.here hx rfl (hb hby at_125) rfl k) ?_
    have hc127 : (if (fst cs) < cs.length then cs.getD (fst cs) 0 else (-1 : Int32)) = (-1 : Int32) := pk_f hcl (fun q => hc67 ((ltN (by omega) (by omega)).mpr q))
    refine Go.of (T' := T28) (f' := (mkF m 130 #[.val (.int p1), .val (.int p2), .val (.int p3), .val (.int p4), .val (.int p5), .val (.int (Int32.ofNat nk)), .val (.int u1), .val (.int u2), .val (.int u3), .val (.int u4), .val (.ref a5), .val (.int (Int32.ofNat (fst cs))), .val (.int (-1 : Int32)), .val (.ref b19), .val (.int (if (fst cs) < cs.length then cs.getD (fst cs) 0 else (-1 : Int32))), .val (.int (if (fst cs) < cs.length then cs.getD (fst cs) 0 else (-1 : Int32))), .val (.int (Int32.ofNat (fst cs)))] [])) (fun _ k => XS.icmpNo X28.here hx rfl (hb hby at_127) rfl (teq hc127).2 k) ?_
    refine Go.of (T' := T28) (f' := (mkF m 132 #[.val (.int p1), .val (.int p2), .val (.int p3), .val (.int p4), .val (.int p5), .val (.int (Int32.ofNat nk)), .val (.int u1), .val (.int u2), .val (.int u3), .val (.int u4), .val (.ref a5), .val (.int (Int32.ofNat (fst cs))), .val (.int (-1 : Int32)), .val (.ref b19), .val (.int (if (fst cs) < cs.length then cs.getD (fst cs) 0 else (-1 : Int32))), .val (.int (if (fst cs) < cs.length then cs.getD (fst cs) 0 else (-1 : Int32))), .val (.int (Int32.ofNat (fst cs)))] [(.int (if (fst cs) < cs.length then cs.getD (fst cs) 0 else (-1 : Int32)))])) (fun _ k => XS.iload X28.here hx rfl (hb hby at_130) rfl k) ?_
    refine Go.of (T' := T28) (f' := (mkF m 134 #[.val (.int p1), .val (.int p2), .val (.int p3), .val (.int p4), .val (.int p5), .val (.int (Int32.ofNat nk)), .val (.int u1), .val (.int u2), .val (.int u3), .val (.int u4), .val (.ref a5), .val (.int (Int32.ofNat (fst cs))), .val (.int (-1 : Int32)), .val (.ref b19), .val (.int (if (fst cs) < cs.length then cs.getD (fst cs) 0 else (-1 : Int32))), .val (.int (if (fst cs) < cs.length then cs.getD (fst cs) 0 else (-1 : Int32))), .val (.int (Int32.ofNat (fst cs)))] [(.int (-1 : Int32)), (.int (if (fst cs) < cs.length then cs.getD (fst cs) 0 else (-1 : Int32)))])) (fun _ k => XS.iload X28.here hx rfl (hb hby at_132) rfl k) ?_
    refine Go.of (T' := T28) (f' := (mkF m 137 #[.val (.int p1), .val (.int p2), .val (.int p3), .val (.int p4), .val (.int p5), .val (.int (Int32.ofNat nk)), .val (.int u1), .val (.int u2), .val (.int u3), .val (.int u4), .val (.ref a5), .val (.int (Int32.ofNat (fst cs))), .val (.int (-1 : Int32)), .val (.ref b19), .val (.int (if (fst cs) < cs.length then cs.getD (fst cs) 0 else (-1 : Int32))), .val (.int (if (fst cs) < cs.length then cs.getD (fst cs) 0 else (-1 : Int32))), .val (.int (Int32.ofNat (fst cs)))] [])) (fun _ k => XS.icmpNo X28.here hx rfl (hb hby at_134) rfl (teq hc127).2 k) ?_
    refine Go.of (T' := T28) (f' := (mkF m 139 #[.val (.int p1), .val (.int p2), .val (.int p3), .val (.int p4), .val (.int p5), .val (.int (Int32.ofNat nk)), .val (.int u1), .val (.int u2), .val (.int u3), .val (.int u4), .val (.ref a5), .val (.int (Int32.ofNat (fst cs))), .val (.int (-1 : Int32)), .val (.ref b19), .val (.int (if (fst cs) < cs.length then cs.getD (fst cs) 0 else (-1 : Int32))), .val (.int (if (fst cs) < cs.length then cs.getD (fst cs) 0 else (-1 : Int32))), .val (.int (Int32.ofNat (fst cs)))] [(.int (Int32.ofNat (fst cs)))])) (fun _ k => XS.iload X28.here hx rfl (hb hby at_137) rfl k) ?_
    refine Go.of (T' := T28) (f' := (mkF m 141 #[.val (.int p1), .val (.int p2), .val (.int p3), .val (.int p4), .val (.int p5), .val (.int (Int32.ofNat nk)), .val (.int u1), .val (.int u2), .val (.int u3), .val (.int u4), .val (.ref a5), .val (.int (Int32.ofNat (fst cs))), .val (.int (-1 : Int32)), .val (.ref b19), .val (.int (if (fst cs) < cs.length then cs.getD (fst cs) 0 else (-1 : Int32))), .val (.int (if (fst cs) < cs.length then cs.getD (fst cs) 0 else (-1 : Int32))), .val (.int (Int32.ofNat (fst cs)))] [(.int (Int32.ofNat (fst cs))), (.int (Int32.ofNat (fst cs)))])) (fun _ k => XS.iload X28.here hx rfl (hb hby at_139) rfl k) ?_
    refine Go.of (T' := T28) (f' := (mkF m 144 #[.val (.int p1), .val (.int p2), .val (.int p3), .val (.int p4), .val (.int p5), .val (.int (Int32.ofNat nk)), .val (.int u1), .val (.int u2), .val (.int u3), .val (.int u4), .val (.ref a5), .val (.int (Int32.ofNat (fst cs))), .val (.int (-1 : Int32)), .val (.ref b19), .val (.int (if (fst cs) < cs.length then cs.getD (fst cs) 0 else (-1 : Int32))), .val (.int (if (fst cs) < cs.length then cs.getD (fst cs) 0 else (-1 : Int32))), .val (.int (Int32.ofNat (fst cs)))] [])) (fun _ k => XS.icmpNo X28.here hx rfl (hb hby at_141) rfl ((teq (rfl : (Int32.ofNat (fst cs)) = (Int32.ofNat (fst cs)))).2) k) ?_
    refine Go.of (T' := T28) (f' := (mkF m 145 #[.val (.int p1), .val (.int p2), .val (.int p3), .val (.int p4), .val (.int p5), .val (.int (Int32.ofNat nk)), .val (.int u1), .val (.int u2), .val (.int u3), .val (.int u4), .val (.ref a5), .val (.int (Int32.ofNat (fst cs))), .val (.int (-1 : Int32)), .val (.ref b19), .val (.int (if (fst cs) < cs.length then cs.getD (fst cs) 0 else (-1 : Int32))), .val (.int (if (fst cs) < cs.length then cs.getD (fst cs) 0 else (-1 : Int32))), .val (.int (Int32.ofNat (fst cs)))] [(.int (1 : Int32))])) (fun _ k => XS.iconst X28.here hx rfl (hb hby at_144) k) ?_
    refine Go.of (T' := T28) (f' := (mkF m 149 #[.val (.int p1), .val (.int p2), .val (.int p3), .val (.int p4), .val (.int p5), .val (.int (Int32.ofNat nk)), .val (.int u1), .val (.int u2), .val (.int u3), .val (.int u4), .val (.ref a5), .val (.int (Int32.ofNat (fst cs))), .val (.int (-1 : Int32)), .val (.ref b19), .val (.int (if (fst cs) < cs.length then cs.getD (fst cs) 0 else (-1 : Int32))), .val (.int (if (fst cs) < cs.length then cs.getD (fst cs) 0 else (-1 : Int32))), .val (.int (Int32.ofNat (fst cs)))] [(.int (1 : Int32))])) (fun _ k => XS.goto X28.here hx rfl (pc0 := 145) (pc' := 149) rfl (hb hby at_145) (by decide) (by decide) k) ?_
    exact goRetIH (Q := fun v h L => v = some (.int 1) ∧ Mv h0 h [] L) X28 hx hZ hS hk (hEL_1 hw) RH (t := .boolean) hret hlk rfl (by simp) (hb hby at_149) K (by decide) (by decide) e28 (⟨rfl, M28⟩)
set_option maxRecDepth 65536 in
set_option maxHeartbeats 40000000 in
theorem comes_1 {Post : Tables → Env → Array Value → State → Outcome → State → Prop} (hpost : ∀ tb e args s v u, (limb_1_1.after args s (.returned v) u = true ∧ limb_1_2.after args s (.returned v) u = true ∧ True) → ReturnedEndW s (.returned v) u (Jvm.fieldLocs frame_1_writes args s ++ Jvm.arrayLocs frame_1_arrays args s ++ Jvm.staticLocs frame_1_statics s) 24 2176 → Post tb e args s (.returned v) u) :
    ArmFor flags0 classFile x code maxLocals ret World_1 tables_1 room_1 Calls_1 rest_1 Pre_1 Post := by
  intro l hfl _ _ p e ha hc hk s m args below hf hA hF happ hP
  obtain ⟨hcalls, hrest, hpre⟩ := hP
  obtain ⟨-, -, -, hnamed, -, -, -, hat⟩ := (Spec.applies_iff hf).mp happ
  obtain ⟨hg, hn⟩ := and_e (Cond.before_iff.mp (show (Jvm.Cond.and given_1 narrow_1).before args s = true from hpre))
  obtain ⟨g1, g2⟩ := and_e hg
  obtain ⟨g3, g4⟩ := and_e g2
  obtain ⟨g5, g6⟩ := and_e g4
  obtain ⟨g7, g8⟩ := and_e g6
  obtain ⟨g9, g10⟩ := and_e g8
  obtain ⟨w0, w1, w2, w3, w4, rfl⟩ : ∃ w0 w1 w2 w3 w4 : Value, args = #[w0, w1, w2, w3, w4] := by
    have hs : args.size = 5 := by simpa [Cond.value, given_1] using g1
    obtain ⟨L⟩ := args
    match L, hs with
    | [w0, w1, w2, w3, w4], _ => exact ⟨w0, w1, w2, w3, w4, rfl⟩
  have hw := fun d (hd : d ∈ tables_1) => atoms_spec (ws := Jvm.Cond.code x code maxLocals ret :: tables_1) hat d (List.mem_cons_of_mem _ hd)
  have hfit : Fit s := fun {y c} hc i hi => by
    obtain ⟨ha, rfl⟩ := Array.getElem?_eq_some_iff.mp hc
    have q := List.all_eq_true.mp ((Array.all_eq_true_iff_forall_mem.mp hF) _ (Array.getElem_mem ha)) i (List.mem_range.mpr hi)
    simpa [Array.getElem?_eq_getElem hi] using q
  obtain ⟨hsets, hown0⟩ := atoms_of _ (rest_1_c_eq ▸ (show rest_1_c.before _ s = true from hrest))
  have hr0 := Cond.before_iff.mp hown0
  obtain ⟨i0, ei0⟩ := is_v g3
  obtain rfl : w0 = (.int i0) := Option.some.inj ei0
  obtain ⟨i1, ei1⟩ := is_v g5
  obtain rfl : w1 = (.int i1) := Option.some.inj ei1
  obtain ⟨i2, ei2⟩ := is_v g7
  obtain rfl : w2 = (.int i2) := Option.some.inj ei2
  obtain ⟨i3, ei3⟩ := is_v g9
  obtain rfl : w3 = (.int i3) := Option.some.inj ei3
  obtain ⟨i4, ei4⟩ := is_v g10
  obtain rfl : w4 = (.int i4) := Option.some.inj ei4
  have H0 : CHv s consts_1 s.vm s.heap := CHv.start (hEL_1 hw) (fun p hp => hcalls.1 p hp) (hsets _ (List.mem_of_getElem? (i := 2) rfl)) (hw _ (List.mem_of_getElem? (i := 23) rfl)) (hw _ (List.mem_of_getElem? (i := 9) rfl))
  have n3 := not_v (Cond.before_iff.mp (hsets _ (List.mem_of_getElem? (i := 2) rfl)))
  obtain ⟨zc, ezc⟩ := is_v (Cond.before_iff.mp (hsets _ (List.mem_of_getElem? (i := 1) rfl)))
  have Z_cs : Sta s s.heap "java/lang/String" "COMPACT_STRINGS" "Z" (.int zc) := Sta.start ezc (Or.inl (hsets _ (List.mem_of_getElem? (i := 0) rfl)))
  have hz : ¬ (zc = (0 : Int32)) := gotF (Cond.eq_ints ezc (Term.int_eval (0))) n3
  obtain ⟨fm, efm, hfm⟩ := isR_v (Cond.before_iff.mp (hsets _ (List.mem_of_getElem? (i := 8) rfl)))
  have Z_fm : Sta s s.heap "jdk/internal/util/Preconditions" "SIOOBE_FORMATTER" "Ljava/util/function/BiFunction;" fm := Sta.start efm (Or.inl (hsets _ (List.mem_of_getElem? (i := 7) rfl)))
  have eZ_ad := eqInt (hsets _ (List.mem_of_getElem? (i := 12) rfl))
  have Z_ad : Sta s s.heap "java/lang/StringUTF16" "$assertionsDisabled" "Z" (.int (1 : Int32)) := Sta.start eZ_ad (Or.inl (hsets _ (List.mem_of_getElem? (i := 11) rfl)))
  have eZ_hs := eqInt (hsets _ (List.mem_of_getElem? (i := 15) rfl))
  have Z_hs : Sta s s.heap "java/lang/StringUTF16" "HI_BYTE_SHIFT" "I" (.int (0 : Int32)) := Sta.start eZ_hs (Or.inl (hsets _ (List.mem_of_getElem? (i := 14) rfl)))
  have eZ_ls := eqInt (hsets _ (List.mem_of_getElem? (i := 18) rfl))
  have Z_ls : Sta s s.heap "java/lang/StringUTF16" "LO_BYTE_SHIFT" "I" (.int (8 : Int32)) := Sta.start eZ_ls (Or.inl (hsets _ (List.mem_of_getElem? (i := 17) rfl)))
  obtain ⟨n, o, h1, h2, h3, _, L, rfl, ⟨rfl, M⟩, _, hq⟩ := rm_law l s _ hw i0 i1 i2 i3 i4 zc fm s.heap Z_ad Z_hs Z_ls Z_fm hfm Z_cs hz tables_1 p e ha hc hk s m _ below hf ((Spec.applies_iff_loose hf).mp happ).1 ⟨rfl, State.Warmed39.refl s, rfl, H0⟩ trivial
  refine ⟨n, _, h1, h2, h3, hpost _ _ _ _ _ _ ⟨Cond.after_iff.mpr rfl, Cond.after_iff.mpr (eq_i res_at (Term.int_eval (1)) rfl), trivial⟩ ⟨hq.1, hq.2.1, hq.2.2.1, (hq.2.2.2.sift fun y hy => Or.inr (M.fr y hy)).mono (by decide) (by decide)⟩⟩
theorem main_1_1 : Claimed_1_1 := comes_1 fun _ _ _ _ _ _ h hF => ⟨h.1, hF⟩
theorem main_1_2 : Claimed_1_2 := comes_1 fun _ _ _ _ _ _ h hF => ⟨h.2.1, hF⟩
end Jvm.Pilot.@@N@@
namespace Jvm.Pilot.@@N@@
open Jvm Jvm.ClassFile Sem Op Lib Jvm.Free Jvm.Stand Jvm.Pilot.@@N@@.Jvm.D
/-! MADE BY PROGRAM (witnessworld.py) out of the Statement's table words and the real class files: 18 classes; the members and pool entries that the words name. The judged class is class 1, her method 6. -/
namespace start1
open Jvm.ClassFile
def u (s : String) : CpInfo := .utf8 (stringToUtf16 s)
/-- a pool by its gaps: so many unusable entries, then the entry; so many at the end -/
def gap : Nat → List CpInfo → List CpInfo
  | 0, r => r
  | n + 1, r => .unusable :: gap n r
def poolList (es : List (Nat × CpInfo)) (last : Nat) : List CpInfo := es.foldr (fun e r => gap e.1 (e.2 :: r)) (gap last [])
def pool (es : List (Nat × CpInfo)) (last : Nat) : Array CpInfo := ⟨poolList es last⟩
def fileOf (pool : Array CpInfo) (this : Nat) (attrs : Array Attribute := #[]) (ms : Array MethodInfo := #[]) (fl : Nat := 33) (sup : Nat := 0) (ifs : Array Nat := #[]) (fds : Array FieldInfo := #[]) : ClassFile where
  minorVersion := 0
  majorVersion := 65
  constantPool := pool
  accessFlags := fl
  thisClass := this
  superClass := sup
  interfaces := ifs
  fields := fds
  methods := ms
  attributes := attrs
def plain (name : String) (sup : Option ClassId) : Class where
  name := name
  kind := .ordinary
  loader := none
  accessFlags := 33
  super := sup
  interfaces := #[]
  cf := none
  fields := #[]
  methods := #[]
  instanceTypes := #[]
  staticTypes := #[]
  resolved := #[]
  callSites := []
  init := .initialized
  statics := none
  mirror := none

def pool0 : Array CpInfo := pool [(5, u "<init>"), (0, u "()V"), (1, .class_ 10), (1, u "java/lang/Object")] 113

def k0c0 : Code := { maxStack := 0, maxLocals := 1, code := object_method_1_code, exceptionTable := #[], attributes := #[] }
def k0m0 : Method := { name := "<init>", desc := "()V", sig := { parameters := [], returnType := none }, accessFlags := 1, code := some k0c0 }
/-- java/lang/Object -/
def k0 : Class := { plain "java/lang/Object" none with
  accessFlags := 33
  interfaces := #[]
  cf := some (fileOf pool0 8 #[] #[{ accessFlags := 1, nameIndex := 5, descriptorIndex := 6, attributes := #[] }] 33 0 #[] #[])
  fields := #[]
  methods := #[k0m0]
  instanceTypes := #[]
  staticTypes := #[]
  resolved := Array.replicate 124 none
  statics := none }

def pool1 : Array CpInfo := pool [(2, .class_ 4), (1, u "java/lang/Object"), (0, u "<init>"), (0, u "()V"), (0, .integer 65535), (0, .methodref 9 10), (0, .class_ 11), (0, .nameAndType 12 13), (0, u "com/example/rezeptkern/rezeptkern/JsonCursorPeekPinLaw"), (0, u "ws"), (0, u "(C)Z"), (0, .class_ 15), (0, u "java/lang/String"), (0, .methodref 14 17), (0, .nameAndType 5 18), (0, u "([C)V"), (0, .integer 2147483647), (0, .methodref 9 21), (0, .nameAndType 22 23), (0, u "pick"), (0, u "(I)C"), (0, .methodref 9 25), (0, .nameAndType 26 27), (0, u "make"), (0, u "(ICCCC)Ljava/lang/String;"), (0, .methodref 9 29), (0, .nameAndType 30 31), (0, u "firstNonWs"), (0, u "(ICCCC)I"), (0, .methodref 9 33), (0, .nameAndType 34 31), (0, u "at"), (0, .class_ 36), (0, u "com/example/rezeptkern/rezeptkern/JsonCursor"), (0, .string 38), (0, u "t"), (0, .methodref 35 40), (0, .nameAndType 5 41), (0, u "(Ljava/lang/String;Ljava/lang/String;)V"), (0, .methodref 35 43), (0, .nameAndType 44 45), (0, u "peek"), (0, u "()I"), (0, .methodref 35 47), (0, .nameAndType 48 45), (0, u "mark"), (3, u "law"), (0, u "(IIIII)Z")] 2

def k1m0 : Method := { name := "<init>", desc := "()V", sig := { parameters := [], returnType := none }, accessFlags := 2, code := none }
def k1c1 : Code := { maxStack := 2, maxLocals := 2, code := method_2_code, exceptionTable := #[], attributes := #[] }
def k1m1 : Method := { name := "pick", desc := "(I)C", sig := { parameters := [.int], returnType := some .char }, accessFlags := 10, code := some k1c1 }
def k1c2 : Code := { maxStack := 2, maxLocals := 1, code := method_3_code, exceptionTable := #[], attributes := #[] }
def k1m2 : Method := { name := "ws", desc := "(C)Z", sig := { parameters := [.char], returnType := some .boolean }, accessFlags := 10, code := some k1c2 }
def k1c3 : Code := { maxStack := 2, maxLocals := 5, code := method_4_code, exceptionTable := #[], attributes := #[] }
def k1m3 : Method := { name := "firstNonWs", desc := "(ICCCC)I", sig := { parameters := [.int, .char, .char, .char, .char], returnType := some .int }, accessFlags := 10, code := some k1c3 }
def k1c4 : Code := { maxStack := 2, maxLocals := 5, code := method_5_code, exceptionTable := #[], attributes := #[] }
def k1m4 : Method := { name := "at", desc := "(ICCCC)I", sig := { parameters := [.int, .char, .char, .char, .char], returnType := some .int }, accessFlags := 10, code := some k1c4 }
def k1c5 : Code := { maxStack := 6, maxLocals := 5, code := method_6_code, exceptionTable := #[], attributes := #[] }
def k1m5 : Method := { name := "make", desc := "(ICCCC)Ljava/lang/String;", sig := { parameters := [.int, .char, .char, .char, .char], returnType := some (.object "java/lang/String") }, accessFlags := 10, code := some k1c5 }
def k1c6 : Code := { maxStack := 5, maxLocals := 17, code := code, exceptionTable := #[], attributes := #[] }
def k1m6 : Method := { name := "law", desc := "(IIIII)Z", sig := { parameters := [.int, .int, .int, .int, .int], returnType := some .boolean }, accessFlags := 9, code := some k1c6 }
/-- com/example/rezeptkern/rezeptkern/JsonCursorPeekPinLaw -/
def k1 : Class := { plain "com/example/rezeptkern/rezeptkern/JsonCursorPeekPinLaw" (some 0) with
  accessFlags := 49
  interfaces := #[]
  cf := some (fileOf pool1 9 #[] #[{ accessFlags := 2, nameIndex := 5, descriptorIndex := 6, attributes := #[] }, { accessFlags := 10, nameIndex := 22, descriptorIndex := 23, attributes := #[] }, { accessFlags := 10, nameIndex := 12, descriptorIndex := 13, attributes := #[] }, { accessFlags := 10, nameIndex := 30, descriptorIndex := 31, attributes := #[] }, { accessFlags := 10, nameIndex := 34, descriptorIndex := 31, attributes := #[] }, { accessFlags := 10, nameIndex := 26, descriptorIndex := 27, attributes := #[] }, { accessFlags := 9, nameIndex := 52, descriptorIndex := 53, attributes := #[] }] 49 2 #[] #[])
  fields := #[]
  methods := #[k1m0, k1m1, k1m2, k1m3, k1m4, k1m5, k1m6]
  instanceTypes := #[]
  staticTypes := #[]
  resolved := Array.replicate 56 none
  statics := none }

def pool2 : Array CpInfo := pool [(1, .class_ 2), (0, u "java/io/Serializable"), (0, .class_ 4), (0, u "java/lang/Object")] 2

/-- java/io/Serializable -/
def k2 : Class := { plain "java/io/Serializable" (some 0) with
  accessFlags := 1537
  interfaces := #[]
  cf := some (fileOf pool2 1 #[] #[] 1537 3 #[] #[])
  fields := #[]
  methods := #[]
  instanceTypes := #[]
  staticTypes := #[]
  resolved := Array.replicate 7 none
  statics := none }

def pool3 : Array CpInfo := pool [(1, .class_ 2), (0, u "java/lang/Comparable"), (0, .class_ 4), (0, u "java/lang/Object")] 7

/-- java/lang/Comparable -/
def k3 : Class := { plain "java/lang/Comparable" (some 0) with
  accessFlags := 1537
  interfaces := #[]
  cf := some (fileOf pool3 1 #[] #[] 1537 3 #[] #[])
  fields := #[]
  methods := #[]
  instanceTypes := #[]
  staticTypes := #[]
  resolved := Array.replicate 12 none
  statics := none }

def pool4 : Array CpInfo := pool [(2, .class_ 4), (1, u "java/lang/CharSequence"), (42, .class_ 48), (0, u "java/lang/CharSequence$1CodePointIterator"), (10, .class_ 60), (0, u "java/lang/CharSequence$1CharIterator"), (5, .class_ 67), (0, u "java/lang/Object")] 63

/-- java/lang/CharSequence -/
def k4 : Class := { plain "java/lang/CharSequence" (some 0) with
  accessFlags := 1537
  interfaces := #[]
  cf := some (fileOf pool4 2 #[.nestMembers #[47, 59]] #[] 1537 66 #[] #[])
  fields := #[]
  methods := #[]
  instanceTypes := #[]
  staticTypes := #[]
  resolved := Array.replicate 131 none
  statics := none }

def pool5 : Array CpInfo := pool [(1, .class_ 2), (0, u "java/lang/constant/Constable"), (0, .class_ 4), (0, u "java/lang/Object")] 6

/-- java/lang/constant/Constable -/
def k5 : Class := { plain "java/lang/constant/Constable" (some 0) with
  accessFlags := 1537
  interfaces := #[]
  cf := some (fileOf pool5 1 #[] #[] 1537 3 #[] #[])
  fields := #[]
  methods := #[]
  instanceTypes := #[]
  staticTypes := #[]
  resolved := Array.replicate 11 none
  statics := none }

def pool6 : Array CpInfo := pool [(1, .class_ 2), (0, u "java/lang/constant/ConstantDesc"), (0, .class_ 4), (0, u "java/lang/Object")] 32

/-- java/lang/constant/ConstantDesc -/
def k6 : Class := { plain "java/lang/constant/ConstantDesc" (some 0) with
  accessFlags := 1537
  interfaces := #[]
  cf := some (fileOf pool6 1 #[] #[] 1537 3 #[] #[])
  fields := #[]
  methods := #[]
  instanceTypes := #[]
  staticTypes := #[]
  resolved := Array.replicate 37 none
  statics := none }

def pool7 : Array CpInfo := pool [(1, .methodref 2 3), (0, .class_ 4), (0, .nameAndType 5 6), (0, u "java/lang/Object"), (0, u "<init>"), (0, u "()V"), (0, .string 8), (0, u ""), (0, .fieldref 10 11), (0, .class_ 12), (0, .nameAndType 13 14), (0, u "java/lang/String"), (0, u "value"), (0, u "[B"), (0, .fieldref 10 16), (0, .nameAndType 17 18), (0, u "coder"), (0, u "B"), (2, u "hash"), (0, u "I"), (2, u "hashIsZero"), (0, u "Z"), (0, .methodref 10 28), (0, .nameAndType 5 29), (0, u "([CIILjava/lang/Void;)V"), (6, u "checkBoundsOffCount"), (0, u "(III)I"), (0, .fieldref 10 39), (0, .nameAndType 40 26), (0, u "COMPACT_STRINGS"), (1, .class_ 44), (1, u "java/lang/StringUTF16"), (0, u "compress"), (1, .methodref 42 48), (0, .nameAndType 49 50), (0, u "coderFromArrayLen"), (0, u "([BI)B"), (56, .class_ 109), (1, u "java/lang/StringLatin1"), (32, u "()Z"), (34, .methodref 42 178), (0, .nameAndType 45 179), (0, u "([CII)[B"), (119, .methodref 107 300), (0, .nameAndType 301 302), (0, u "toChars"), (0, u "([B)[C"), (0, .methodref 42 300), (188, .methodref 10 493), (0, .nameAndType 494 142), (0, u "isLatin1"), (80, .class_ 576), (0, u "java/lang/CharSequence"), (22, u "CASE_INSENSITIVE_ORDER"), (0, u "Ljava/util/Comparator;"), (354, u "toCharArray"), (0, u "()[C"), (53, u "([C)V"), (42, .fieldref 1054 1055), (0, .class_ 1056), (0, .nameAndType 1057 1058), (0, u "jdk/internal/util/Preconditions"), (0, u "SIOOBE_FORMATTER"), (0, u "Ljava/util/function/BiFunction;"), (5, u "(IIILjava/util/function/BiFunction;)I"), (0, .methodref 1054 1066), (0, .nameAndType 1067 1064), (0, u "checkFromIndexSize"), (33, u "serialPersistentFields"), (0, u "[Ljava/io/ObjectStreamField;"), (0, .class_ 1104), (0, u "java/lang/String$CaseInsensitiveComparator"), (1, .class_ 1107), (0, u "java/io/Serializable"), (0, .class_ 1109), (0, u "java/lang/Comparable"), (0, .class_ 1111), (0, u "java/lang/constant/Constable"), (0, .class_ 1113), (0, u "java/lang/constant/ConstantDesc"), (2, u "serialVersionUID"), (0, u "J"), (3, u "REPL"), (0, u "C"), (2, u "LATIN1"), (1, u "UTF16")] 323

def k7m0 : Method := { name := "<init>", desc := "()V", sig := { parameters := [], returnType := none }, accessFlags := 1, code := none }
def k7c1 : Code := { maxStack := 5, maxLocals := 2, code := jdk_42_method_3_code, exceptionTable := #[], attributes := #[] }
def k7m1 : Method := { name := "<init>", desc := "([C)V", sig := { parameters := [(.array .char)], returnType := none }, accessFlags := 1, code := some k7c1 }
def k7c2 : Code := { maxStack := 1, maxLocals := 1, code := jdk_42_method_129_code, exceptionTable := #[], attributes := #[] }
def k7m2 : Method := { name := "toCharArray", desc := "()[C", sig := { parameters := [], returnType := some (.array .char) }, accessFlags := 1, code := some k7c2 }
def k7c3 : Code := { maxStack := 4, maxLocals := 6, code := jdk_42_method_149_code, exceptionTable := #[], attributes := #[] }
def k7m3 : Method := { name := "<init>", desc := "([CIILjava/lang/Void;)V", sig := { parameters := [(.array .char), .int, .int, (.object "java/lang/Void")], returnType := none }, accessFlags := 2, code := some k7c3 }
def k7c4 : Code := { maxStack := 1, maxLocals := 1, code := jdk_42_method_154_code, exceptionTable := #[], attributes := #[] }
def k7m4 : Method := { name := "isLatin1", desc := "()Z", sig := { parameters := [], returnType := some .boolean }, accessFlags := 0, code := some k7c4 }
def k7c5 : Code := { maxStack := 4, maxLocals := 3, code := jdk_42_method_157_code, exceptionTable := #[], attributes := #[] }
def k7m5 : Method := { name := "checkBoundsOffCount", desc := "(III)I", sig := { parameters := [.int, .int, .int], returnType := some .int }, accessFlags := 8, code := some k7c5 }
/-- java/lang/String -/
def k7 : Class := { plain "java/lang/String" (some 0) with
  accessFlags := 49
  interfaces := #[2, 3, 4, 5, 6]
  cf := some (fileOf pool7 10 #[.nestMembers #[1103]] #[{ accessFlags := 1, nameIndex := 5, descriptorIndex := 6, attributes := #[] }, { accessFlags := 1, nameIndex := 5, descriptorIndex := 1010, attributes := #[] }, { accessFlags := 1, nameIndex := 955, descriptorIndex := 956, attributes := #[] }, { accessFlags := 2, nameIndex := 5, descriptorIndex := 29, attributes := #[] }, { accessFlags := 0, nameIndex := 494, descriptorIndex := 142, attributes := #[] }, { accessFlags := 8, nameIndex := 36, descriptorIndex := 37, attributes := #[] }] 49 2 #[1106, 1108, 575, 1110, 1112] #[{ accessFlags := 18, nameIndex := 13, descriptorIndex := 14, attributes := #[] }, { accessFlags := 18, nameIndex := 17, descriptorIndex := 18, attributes := #[] }, { accessFlags := 2, nameIndex := 21, descriptorIndex := 22, attributes := #[] }, { accessFlags := 2, nameIndex := 25, descriptorIndex := 26, attributes := #[] }, { accessFlags := 26, nameIndex := 1116, descriptorIndex := 1117, attributes := #[] }, { accessFlags := 24, nameIndex := 40, descriptorIndex := 26, attributes := #[] }, { accessFlags := 26, nameIndex := 1101, descriptorIndex := 1102, attributes := #[] }, { accessFlags := 26, nameIndex := 1121, descriptorIndex := 1122, attributes := #[] }, { accessFlags := 25, nameIndex := 599, descriptorIndex := 600, attributes := #[] }, { accessFlags := 24, nameIndex := 1125, descriptorIndex := 18, attributes := #[] }, { accessFlags := 24, nameIndex := 1127, descriptorIndex := 18, attributes := #[] }])
  fields := #[{ name := "value", type := (.array .byte), accessFlags := 18, slot := 0, constantValue := 0 }, { name := "coder", type := .byte, accessFlags := 18, slot := 1, constantValue := 0 }, { name := "hash", type := .int, accessFlags := 2, slot := 2, constantValue := 0 }, { name := "hashIsZero", type := .boolean, accessFlags := 2, slot := 3, constantValue := 0 }, { name := "serialVersionUID", type := .long, accessFlags := 26, slot := 0, constantValue := 0 }, { name := "COMPACT_STRINGS", type := .boolean, accessFlags := 24, slot := 1, constantValue := 0 }, { name := "serialPersistentFields", type := (.array (.object "java/io/ObjectStreamField")), accessFlags := 26, slot := 2, constantValue := 0 }, { name := "REPL", type := .char, accessFlags := 26, slot := 3, constantValue := 0 }, { name := "CASE_INSENSITIVE_ORDER", type := (.object "java/util/Comparator"), accessFlags := 25, slot := 4, constantValue := 0 }, { name := "LATIN1", type := .byte, accessFlags := 24, slot := 5, constantValue := 0 }, { name := "UTF16", type := .byte, accessFlags := 24, slot := 6, constantValue := 0 }]
  methods := #[k7m0, k7m1, k7m2, k7m3, k7m4, k7m5]
  instanceTypes := #[(.array .byte), .byte, .int, .boolean]
  staticTypes := #[.long, .boolean, (.array (.object "java/io/ObjectStreamField")), .char, (.object "java/util/Comparator"), .byte, .byte]
  resolved := Array.replicate 1451 none
  statics := some 0 }

def pool8 : Array CpInfo := pool [(1, .methodref 2 3), (0, .class_ 4), (0, .nameAndType 5 6), (0, u "java/lang/Object"), (0, u "<init>"), (0, u "()V"), (0, .fieldref 8 9), (0, .class_ 10), (0, .nameAndType 11 12), (0, u "com/example/rezeptkern/rezeptkern/JsonCursor"), (0, u "text"), (0, u "Ljava/lang/String;"), (0, .methodref 14 15), (0, .class_ 16), (0, .nameAndType 17 18), (0, u "java/lang/String"), (0, u "toCharArray"), (0, u "()[C"), (0, .fieldref 8 20), (0, .nameAndType 21 22), (0, u "chars"), (0, u "[C"), (0, .fieldref 8 24), (0, .nameAndType 25 12), (0, u "name"), (12, .methodref 8 39), (0, .nameAndType 40 6), (0, u "skipWhitespace"), (0, .fieldref 8 42), (0, .nameAndType 43 44), (0, u "position"), (0, u "I"), (93, u "()I"), (21, u "ESCAPES"), (1, u "HEX_DIGITS"), (0, u "END"), (0, u "DIGIT"), (0, u "AT_END"), (1, u "(Ljava/lang/String;Ljava/lang/String;)V"), (5, u "peek"), (0, u "mark")] 24

def k8c0 : Code := { maxStack := 2, maxLocals := 3, code := prog_33_method_1_code, exceptionTable := #[], attributes := #[] }
def k8m0 : Method := { name := "<init>", desc := "(Ljava/lang/String;Ljava/lang/String;)V", sig := { parameters := [(.object "java/lang/String"), (.object "java/lang/String")], returnType := none }, accessFlags := 0, code := some k8c0 }
def k8c1 : Code := { maxStack := 2, maxLocals := 1, code := prog_33_method_11_code, exceptionTable := #[], attributes := #[] }
def k8m1 : Method := { name := "peek", desc := "()I", sig := { parameters := [], returnType := some .int }, accessFlags := 0, code := some k8c1 }
def k8c2 : Code := { maxStack := 1, maxLocals := 1, code := prog_33_method_12_code, exceptionTable := #[], attributes := #[] }
def k8m2 : Method := { name := "mark", desc := "()I", sig := { parameters := [], returnType := some .int }, accessFlags := 0, code := some k8c2 }
def k8c3 : Code := { maxStack := 3, maxLocals := 2, code := prog_33_method_15_code, exceptionTable := #[], attributes := #[] }
def k8m3 : Method := { name := "skipWhitespace", desc := "()V", sig := { parameters := [], returnType := none }, accessFlags := 2, code := some k8c3 }
/-- com/example/rezeptkern/rezeptkern/JsonCursor -/
def k8 : Class := { plain "com/example/rezeptkern/rezeptkern/JsonCursor" (some 0) with
  accessFlags := 48
  interfaces := #[]
  cf := some (fileOf pool8 8 #[] #[{ accessFlags := 0, nameIndex := 5, descriptorIndex := 167, attributes := #[] }, { accessFlags := 0, nameIndex := 173, descriptorIndex := 138, attributes := #[] }, { accessFlags := 0, nameIndex := 174, descriptorIndex := 138, attributes := #[] }, { accessFlags := 2, nameIndex := 40, descriptorIndex := 6, attributes := #[] }] 48 2 #[] #[{ accessFlags := 26, nameIndex := 160, descriptorIndex := 12, attributes := #[] }, { accessFlags := 26, nameIndex := 162, descriptorIndex := 12, attributes := #[] }, { accessFlags := 26, nameIndex := 163, descriptorIndex := 12, attributes := #[] }, { accessFlags := 26, nameIndex := 164, descriptorIndex := 12, attributes := #[] }, { accessFlags := 24, nameIndex := 165, descriptorIndex := 44, attributes := #[] }, { accessFlags := 18, nameIndex := 11, descriptorIndex := 12, attributes := #[] }, { accessFlags := 18, nameIndex := 21, descriptorIndex := 22, attributes := #[] }, { accessFlags := 18, nameIndex := 25, descriptorIndex := 12, attributes := #[] }, { accessFlags := 2, nameIndex := 43, descriptorIndex := 44, attributes := #[] }])
  fields := #[{ name := "ESCAPES", type := (.object "java/lang/String"), accessFlags := 26, slot := 0, constantValue := 0 }, { name := "HEX_DIGITS", type := (.object "java/lang/String"), accessFlags := 26, slot := 1, constantValue := 0 }, { name := "END", type := (.object "java/lang/String"), accessFlags := 26, slot := 2, constantValue := 0 }, { name := "DIGIT", type := (.object "java/lang/String"), accessFlags := 26, slot := 3, constantValue := 0 }, { name := "AT_END", type := .int, accessFlags := 24, slot := 4, constantValue := 0 }, { name := "text", type := (.object "java/lang/String"), accessFlags := 18, slot := 0, constantValue := 0 }, { name := "chars", type := (.array .char), accessFlags := 18, slot := 1, constantValue := 0 }, { name := "name", type := (.object "java/lang/String"), accessFlags := 18, slot := 2, constantValue := 0 }, { name := "position", type := .int, accessFlags := 2, slot := 3, constantValue := 0 }]
  methods := #[k8m0, k8m1, k8m2, k8m3]
  instanceTypes := #[(.object "java/lang/String"), (.array .char), (.object "java/lang/String"), .int]
  staticTypes := #[(.object "java/lang/String"), (.object "java/lang/String"), (.object "java/lang/String"), (.object "java/lang/String"), .int]
  resolved := Array.replicate 199 none
  statics := none }

def pool9 : Array CpInfo := pool [(4, .class_ 6), (1, u "java/lang/Object"), (0, u "<init>"), (0, u "()V"), (4, .methodref 14 15), (0, .class_ 16), (0, .nameAndType 17 18), (0, u "java/lang/StringLatin1"), (0, u "inflate"), (0, u "([BI[CII)V"), (102, u "$assertionsDisabled"), (0, u "Z"), (69, u "toChars"), (28, .class_ 223), (1, u "java/lang/StringLatin1$LinesSpliterator"), (44, u "([B)[C"), (121, .class_ 391), (0, u "java/lang/StringLatin1$CharsSpliterator")] 3

def k9m0 : Method := { name := "<init>", desc := "()V", sig := { parameters := [], returnType := none }, accessFlags := 0, code := none }
def k9c1 : Code := { maxStack := 5, maxLocals := 2, code := jdk_43_method_9_code, exceptionTable := #[], attributes := #[] }
def k9m1 : Method := { name := "toChars", desc := "([B)[C", sig := { parameters := [(.array .byte)], returnType := some (.array .char) }, accessFlags := 9, code := some k9c1 }
def k9c2 : Code := { maxStack := 4, maxLocals := 6, code := jdk_43_method_49_code, exceptionTable := #[], attributes := #[] }
def k9m2 : Method := { name := "inflate", desc := "([BI[CII)V", sig := { parameters := [(.array .byte), .int, (.array .char), .int, .int], returnType := none }, accessFlags := 9, code := some k9c2 }
/-- java/lang/StringLatin1 -/
def k9 : Class := { plain "java/lang/StringLatin1" (some 0) with
  accessFlags := 48
  interfaces := #[]
  cf := some (fileOf pool9 14 #[.nestMembers #[390, 221]] #[{ accessFlags := 0, nameIndex := 7, descriptorIndex := 8, attributes := #[] }, { accessFlags := 9, nameIndex := 192, descriptorIndex := 268, attributes := #[] }, { accessFlags := 9, nameIndex := 17, descriptorIndex := 18, attributes := #[] }] 48 4 #[] #[{ accessFlags := 4120, nameIndex := 121, descriptorIndex := 122, attributes := #[] }])
  fields := #[{ name := "$assertionsDisabled", type := .boolean, accessFlags := 4120, slot := 0, constantValue := 0 }]
  methods := #[k9m0, k9m1, k9m2]
  instanceTypes := #[]
  staticTypes := #[.boolean]
  resolved := Array.replicate 395 none
  statics := none }

def pool10 : Array CpInfo := pool [(3, .class_ 4), (0, u "java/lang/String"), (1, .class_ 8), (1, u "java/lang/Object"), (0, u "<init>"), (0, u "()V"), (0, .methodref 12 13), (0, .class_ 14), (0, .nameAndType 15 16), (0, u "java/lang/StringUTF16"), (0, u "newBytesLength"), (0, u "(I)I"), (3, .integer 1073741823), (23, .fieldref 12 45), (0, .nameAndType 46 47), (0, u "$assertionsDisabled"), (0, u "Z"), (0, .methodref 12 49), (0, .nameAndType 50 51), (0, u "length"), (0, u "([B)I"), (7, .fieldref 12 60), (0, .nameAndType 61 62), (0, u "HI_BYTE_SHIFT"), (0, u "I"), (0, .fieldref 12 64), (0, .nameAndType 65 62), (0, u "LO_BYTE_SHIFT"), (5, .methodref 12 72), (0, .nameAndType 73 74), (0, u "getChar"), (0, u "([BI)C"), (24, u "(II[B)V"), (3, .methodref 12 104), (0, .nameAndType 105 106), (0, u "getChars"), (0, u "([BII[CI)V"), (0, .methodref 12 108), (0, .nameAndType 109 110), (0, u "newBytesFor"), (0, u "(I)[B"), (0, .methodref 12 112), (0, .nameAndType 113 114), (0, u "putChar"), (0, u "([BII)V"), (0, .methodref 12 116), (0, .nameAndType 117 118), (0, u "compress"), (0, u "([CI[BII)I"), (0, .methodref 12 120), (0, .nameAndType 121 122), (0, u "toBytes"), (0, u "([CII)[B"), (50, .methodref 12 174), (0, .nameAndType 175 99), (0, u "checkBoundsOffCount"), (85, u "coderFromArrayLen"), (0, u "([BI)B"), (18, u "(III)I"), (60, u "toChars"), (26, .class_ 371), (1, u "java/lang/StringUTF16$LinesSpliterator"), (47, .methodref 3 420), (0, .nameAndType 175 281), (9, u "MAX_LENGTH"), (23, u "([B)[C"), (172, .class_ 628), (0, u "java/lang/StringUTF16$CodePointsSpliterator"), (0, .class_ 630), (0, u "java/lang/StringUTF16$CharsSpliterator")] 4

def k10m0 : Method := { name := "<init>", desc := "()V", sig := { parameters := [], returnType := none }, accessFlags := 0, code := none }
def k10c1 : Code := { maxStack := 1, maxLocals := 1, code := jdk_52_method_2_code, exceptionTable := #[], attributes := #[] }
def k10m1 : Method := { name := "newBytesFor", desc := "(I)[B", sig := { parameters := [.int], returnType := some (.array .byte) }, accessFlags := 9, code := some k10c1 }
def k10c2 : Code := { maxStack := 4, maxLocals := 1, code := jdk_52_method_3_code, exceptionTable := #[], attributes := #[] }
def k10m2 : Method := { name := "newBytesLength", desc := "(I)I", sig := { parameters := [.int], returnType := some .int }, accessFlags := 9, code := some k10c2 }
def k10c3 : Code := { maxStack := 4, maxLocals := 3, code := jdk_52_method_4_code, exceptionTable := #[], attributes := #[] }
def k10m3 : Method := { name := "putChar", desc := "([BII)V", sig := { parameters := [(.array .byte), .int, .int], returnType := none }, accessFlags := 8, code := some k10c3 }
def k10c4 : Code := { maxStack := 3, maxLocals := 2, code := jdk_52_method_5_code, exceptionTable := #[], attributes := #[] }
def k10m4 : Method := { name := "getChar", desc := "([BI)C", sig := { parameters := [(.array .byte), .int], returnType := some .char }, accessFlags := 8, code := some k10c4 }
def k10c5 : Code := { maxStack := 2, maxLocals := 1, code := jdk_52_method_6_code, exceptionTable := #[], attributes := #[] }
def k10m5 : Method := { name := "length", desc := "([B)I", sig := { parameters := [(.array .byte)], returnType := some .int }, accessFlags := 9, code := some k10c5 }
def k10c6 : Code := { maxStack := 5, maxLocals := 2, code := jdk_52_method_13_code, exceptionTable := #[], attributes := #[] }
def k10m6 : Method := { name := "toChars", desc := "([B)[C", sig := { parameters := [(.array .byte)], returnType := some (.array .char) }, accessFlags := 9, code := some k10c6 }
def k10c7 : Code := { maxStack := 4, maxLocals := 5, code := jdk_52_method_14_code, exceptionTable := #[], attributes := #[] }
def k10m7 : Method := { name := "toBytes", desc := "([CII)[B", sig := { parameters := [(.array .char), .int, .int], returnType := some (.array .byte) }, accessFlags := 9, code := some k10c7 }
def k10c8 : Code := { maxStack := 2, maxLocals := 2, code := jdk_52_method_15_code, exceptionTable := #[], attributes := #[] }
def k10m8 : Method := { name := "coderFromArrayLen", desc := "([BI)B", sig := { parameters := [(.array .byte), .int], returnType := some .byte }, accessFlags := 8, code := some k10c8 }
def k10c9 : Code := { maxStack := 5, maxLocals := 6, code := jdk_52_method_16_code, exceptionTable := #[], attributes := #[] }
def k10m9 : Method := { name := "compress", desc := "([CII)[B", sig := { parameters := [(.array .char), .int, .int], returnType := some (.array .byte) }, accessFlags := 9, code := some k10c9 }
def k10c10 : Code := { maxStack := 3, maxLocals := 7, code := jdk_52_method_21_code, exceptionTable := #[], attributes := #[] }
def k10m10 : Method := { name := "compress", desc := "([CI[BII)I", sig := { parameters := [(.array .char), .int, (.array .byte), .int, .int], returnType := some .int }, accessFlags := 9, code := some k10c10 }
def k10c11 : Code := { maxStack := 4, maxLocals := 6, code := jdk_52_method_26_code, exceptionTable := #[], attributes := #[] }
def k10m11 : Method := { name := "getChars", desc := "([BII[CI)V", sig := { parameters := [(.array .byte), .int, .int, (.array .char), .int], returnType := none }, accessFlags := 9, code := some k10c11 }
def k10c12 : Code := { maxStack := 3, maxLocals := 3, code := jdk_52_method_94_code, exceptionTable := #[], attributes := #[] }
def k10m12 : Method := { name := "checkBoundsOffCount", desc := "(II[B)V", sig := { parameters := [.int, .int, (.array .byte)], returnType := none }, accessFlags := 9, code := some k10c12 }
/-- java/lang/StringUTF16 -/
def k10 : Class := { plain "java/lang/StringUTF16" (some 0) with
  accessFlags := 48
  interfaces := #[]
  cf := some (fileOf pool10 12 #[.nestMembers #[627, 629, 369]] #[{ accessFlags := 0, nameIndex := 9, descriptorIndex := 10, attributes := #[] }, { accessFlags := 9, nameIndex := 109, descriptorIndex := 110, attributes := #[] }, { accessFlags := 9, nameIndex := 15, descriptorIndex := 16, attributes := #[] }, { accessFlags := 8, nameIndex := 113, descriptorIndex := 114, attributes := #[] }, { accessFlags := 8, nameIndex := 73, descriptorIndex := 74, attributes := #[] }, { accessFlags := 9, nameIndex := 50, descriptorIndex := 51, attributes := #[] }, { accessFlags := 9, nameIndex := 342, descriptorIndex := 454, attributes := #[] }, { accessFlags := 9, nameIndex := 121, descriptorIndex := 122, attributes := #[] }, { accessFlags := 8, nameIndex := 261, descriptorIndex := 262, attributes := #[] }, { accessFlags := 9, nameIndex := 117, descriptorIndex := 122, attributes := #[] }, { accessFlags := 9, nameIndex := 117, descriptorIndex := 118, attributes := #[] }, { accessFlags := 9, nameIndex := 105, descriptorIndex := 106, attributes := #[] }, { accessFlags := 9, nameIndex := 175, descriptorIndex := 99, attributes := #[] }] 48 6 #[] #[{ accessFlags := 26, nameIndex := 61, descriptorIndex := 62, attributes := #[] }, { accessFlags := 26, nameIndex := 65, descriptorIndex := 62, attributes := #[] }, { accessFlags := 24, nameIndex := 430, descriptorIndex := 62, attributes := #[] }, { accessFlags := 4120, nameIndex := 46, descriptorIndex := 47, attributes := #[] }])
  fields := #[{ name := "HI_BYTE_SHIFT", type := .int, accessFlags := 26, slot := 0, constantValue := 0 }, { name := "LO_BYTE_SHIFT", type := .int, accessFlags := 26, slot := 1, constantValue := 0 }, { name := "MAX_LENGTH", type := .int, accessFlags := 24, slot := 2, constantValue := 0 }, { name := "$assertionsDisabled", type := .boolean, accessFlags := 4120, slot := 3, constantValue := 0 }]
  methods := #[k10m0, k10m1, k10m2, k10m3, k10m4, k10m5, k10m6, k10m7, k10m8, k10m9, k10m10, k10m11, k10m12]
  instanceTypes := #[]
  staticTypes := #[.int, .int, .int, .boolean]
  resolved := Array.replicate 635 none
  statics := some 1 }

def pool11 : Array CpInfo := pool [(2, .class_ 4), (1, u "java/lang/Object"), (0, u "<init>"), (0, u "()V"), (17, .class_ 26), (1, u "jdk/internal/util/Preconditions"), (22, u "checkFromIndexSize"), (5, .class_ 56), (0, u "jdk/internal/util/Preconditions$4"), (57, .class_ 115), (0, u "jdk/internal/util/Preconditions$1"), (7, u "SIOOBE_FORMATTER"), (0, u "Ljava/util/function/BiFunction;"), (0, .class_ 126), (0, u "jdk/internal/util/Preconditions$2"), (3, u "AIOOBE_FORMATTER"), (0, .class_ 132), (0, u "jdk/internal/util/Preconditions$3"), (3, u "IOOBE_FORMATTER"), (46, u "(IIILjava/util/function/BiFunction;)I")] 10

def k11m0 : Method := { name := "<init>", desc := "()V", sig := { parameters := [], returnType := none }, accessFlags := 1, code := none }
def k11c1 : Code := { maxStack := 4, maxLocals := 4, code := jdk_41_method_13_code, exceptionTable := #[], attributes := #[] }
def k11m1 : Method := { name := "checkFromIndexSize", desc := "(IIILjava/util/function/BiFunction;)I", sig := { parameters := [.int, .int, .int, (.object "java/util/function/BiFunction")], returnType := some .int }, accessFlags := 9, code := some k11c1 }
/-- jdk/internal/util/Preconditions -/
def k11 : Class := { plain "jdk/internal/util/Preconditions" (some 0) with
  accessFlags := 33
  interfaces := #[]
  cf := some (fileOf pool11 24 #[.nestMembers #[55, 131, 125, 114]] #[{ accessFlags := 1, nameIndex := 5, descriptorIndex := 6, attributes := #[] }, { accessFlags := 9, nameIndex := 49, descriptorIndex := 183, attributes := #[] }] 33 2 #[] #[{ accessFlags := 25, nameIndex := 123, descriptorIndex := 124, attributes := #[] }, { accessFlags := 25, nameIndex := 130, descriptorIndex := 124, attributes := #[] }, { accessFlags := 25, nameIndex := 136, descriptorIndex := 124, attributes := #[] }])
  fields := #[{ name := "SIOOBE_FORMATTER", type := (.object "java/util/function/BiFunction"), accessFlags := 25, slot := 0, constantValue := 0 }, { name := "AIOOBE_FORMATTER", type := (.object "java/util/function/BiFunction"), accessFlags := 25, slot := 1, constantValue := 0 }, { name := "IOOBE_FORMATTER", type := (.object "java/util/function/BiFunction"), accessFlags := 25, slot := 2, constantValue := 0 }]
  methods := #[k11m0, k11m1]
  instanceTypes := #[]
  staticTypes := #[(.object "java/util/function/BiFunction"), (.object "java/util/function/BiFunction"), (.object "java/util/function/BiFunction")]
  resolved := Array.replicate 194 none
  statics := some 2 }

def pool12 : Array CpInfo := pool [(9, u "<init>"), (6, .class_ 18), (1, u "java/lang/Object"), (0, u "()V"), (1, .class_ 23), (1, u "jdk/internal/util/ArraysSupport"), (0, u "LOG2_ARRAY_LONG_INDEX_SCALE"), (0, u "I"), (2, u "U"), (0, u "Ljdk/internal/misc/Unsafe;"), (8, u "BIG_ENDIAN"), (0, u "Z"), (8, u "LOG2_BYTE_BIT_SIZE"), (4, u "LOG2_ARRAY_INT_INDEX_SCALE"), (54, u "JLA"), (0, u "Ljdk/internal/access/JavaLangAccess;"), (11, u "LOG2_ARRAY_BOOLEAN_INDEX_SCALE"), (9, u "LOG2_ARRAY_BYTE_INDEX_SCALE"), (5, u "LOG2_ARRAY_CHAR_INDEX_SCALE"), (5, u "LOG2_ARRAY_SHORT_INDEX_SCALE"), (18, u "LOG2_ARRAY_FLOAT_INDEX_SCALE"), (24, u "LOG2_ARRAY_DOUBLE_INDEX_SCALE"), (89, u "T_BOOLEAN"), (2, u "T_CHAR"), (1, u "T_FLOAT"), (1, u "T_DOUBLE"), (1, u "T_BYTE"), (1, u "T_SHORT"), (1, u "T_INT"), (1, u "T_LONG"), (1, u "SOFT_MAX_ARRAY_LENGTH")] 83

def k12m0 : Method := { name := "<init>", desc := "()V", sig := { parameters := [], returnType := none }, accessFlags := 2, code := none }
/-- jdk/internal/util/ArraysSupport -/
def k12 : Class := { plain "jdk/internal/util/ArraysSupport" (some 0) with
  accessFlags := 33
  interfaces := #[]
  cf := some (fileOf pool12 21 #[] #[{ accessFlags := 2, nameIndex := 9, descriptorIndex := 19, attributes := #[] }] 33 16 #[] #[{ accessFlags := 24, nameIndex := 28, descriptorIndex := 29, attributes := #[] }, { accessFlags := 26, nameIndex := 38, descriptorIndex := 39, attributes := #[] }, { accessFlags := 25, nameIndex := 121, descriptorIndex := 25, attributes := #[] }, { accessFlags := 25, nameIndex := 131, descriptorIndex := 25, attributes := #[] }, { accessFlags := 25, nameIndex := 137, descriptorIndex := 25, attributes := #[] }, { accessFlags := 25, nameIndex := 143, descriptorIndex := 25, attributes := #[] }, { accessFlags := 25, nameIndex := 53, descriptorIndex := 25, attributes := #[] }, { accessFlags := 25, nameIndex := 24, descriptorIndex := 25, attributes := #[] }, { accessFlags := 25, nameIndex := 162, descriptorIndex := 25, attributes := #[] }, { accessFlags := 25, nameIndex := 187, descriptorIndex := 25, attributes := #[] }, { accessFlags := 26, nameIndex := 48, descriptorIndex := 25, attributes := #[] }, { accessFlags := 25, nameIndex := 277, descriptorIndex := 25, attributes := #[] }, { accessFlags := 25, nameIndex := 280, descriptorIndex := 25, attributes := #[] }, { accessFlags := 25, nameIndex := 282, descriptorIndex := 25, attributes := #[] }, { accessFlags := 25, nameIndex := 284, descriptorIndex := 25, attributes := #[] }, { accessFlags := 25, nameIndex := 286, descriptorIndex := 25, attributes := #[] }, { accessFlags := 25, nameIndex := 288, descriptorIndex := 25, attributes := #[] }, { accessFlags := 25, nameIndex := 290, descriptorIndex := 25, attributes := #[] }, { accessFlags := 25, nameIndex := 292, descriptorIndex := 25, attributes := #[] }, { accessFlags := 26, nameIndex := 108, descriptorIndex := 109, attributes := #[] }, { accessFlags := 25, nameIndex := 294, descriptorIndex := 25, attributes := #[] }])
  fields := #[{ name := "U", type := (.object "jdk/internal/misc/Unsafe"), accessFlags := 24, slot := 0, constantValue := 0 }, { name := "BIG_ENDIAN", type := .boolean, accessFlags := 26, slot := 1, constantValue := 0 }, { name := "LOG2_ARRAY_BOOLEAN_INDEX_SCALE", type := .int, accessFlags := 25, slot := 2, constantValue := 0 }, { name := "LOG2_ARRAY_BYTE_INDEX_SCALE", type := .int, accessFlags := 25, slot := 3, constantValue := 0 }, { name := "LOG2_ARRAY_CHAR_INDEX_SCALE", type := .int, accessFlags := 25, slot := 4, constantValue := 0 }, { name := "LOG2_ARRAY_SHORT_INDEX_SCALE", type := .int, accessFlags := 25, slot := 5, constantValue := 0 }, { name := "LOG2_ARRAY_INT_INDEX_SCALE", type := .int, accessFlags := 25, slot := 6, constantValue := 0 }, { name := "LOG2_ARRAY_LONG_INDEX_SCALE", type := .int, accessFlags := 25, slot := 7, constantValue := 0 }, { name := "LOG2_ARRAY_FLOAT_INDEX_SCALE", type := .int, accessFlags := 25, slot := 8, constantValue := 0 }, { name := "LOG2_ARRAY_DOUBLE_INDEX_SCALE", type := .int, accessFlags := 25, slot := 9, constantValue := 0 }, { name := "LOG2_BYTE_BIT_SIZE", type := .int, accessFlags := 26, slot := 10, constantValue := 0 }, { name := "T_BOOLEAN", type := .int, accessFlags := 25, slot := 11, constantValue := 0 }, { name := "T_CHAR", type := .int, accessFlags := 25, slot := 12, constantValue := 0 }, { name := "T_FLOAT", type := .int, accessFlags := 25, slot := 13, constantValue := 0 }, { name := "T_DOUBLE", type := .int, accessFlags := 25, slot := 14, constantValue := 0 }, { name := "T_BYTE", type := .int, accessFlags := 25, slot := 15, constantValue := 0 }, { name := "T_SHORT", type := .int, accessFlags := 25, slot := 16, constantValue := 0 }, { name := "T_INT", type := .int, accessFlags := 25, slot := 17, constantValue := 0 }, { name := "T_LONG", type := .int, accessFlags := 25, slot := 18, constantValue := 0 }, { name := "JLA", type := (.object "jdk/internal/access/JavaLangAccess"), accessFlags := 26, slot := 19, constantValue := 0 }, { name := "SOFT_MAX_ARRAY_LENGTH", type := .int, accessFlags := 25, slot := 20, constantValue := 0 }]
  methods := #[k12m0]
  instanceTypes := #[]
  staticTypes := #[(.object "jdk/internal/misc/Unsafe"), .boolean, .int, .int, .int, .int, .int, .int, .int, .int, .int, .int, .int, .int, .int, .int, .int, .int, .int, (.object "jdk/internal/access/JavaLangAccess"), .int]
  resolved := Array.replicate 378 none
  statics := none }

def pool13 : Array CpInfo := pool [(1, u "java/lang/Cloneable"), (0, .class_ 1), (0, u "java/lang/Object"), (0, .class_ 3)] 3

/-- java/lang/Cloneable -/
def k13 : Class := { plain "java/lang/Cloneable" (some 0) with
  accessFlags := 1537
  interfaces := #[]
  cf := some (fileOf pool13 2 #[] #[] 1537 4 #[] #[])
  fields := #[]
  methods := #[]
  instanceTypes := #[]
  staticTypes := #[]
  resolved := Array.replicate 8 none
  statics := none }

/-- the primitive byte -/
def k14 : Class := { plain "byte" none with kind := .primitive 'B', accessFlags := 0x411 }
/-- [B -/
def k15 : Class := { plain "[B" (some 0) with kind := .array 14 .byte, interfaces := #[13, 2], accessFlags := 1041 }

/-- the primitive char -/
def k16 : Class := { plain "char" none with kind := .primitive 'C', accessFlags := 0x411 }
/-- [C -/
def k17 : Class := { plain "[C" (some 0) with kind := .array 16 .char, interfaces := #[13, 2], accessFlags := 1041 }

def heap : Heap := #[{ cls := 7, slots := #[.long 0, .int 1, .null, .int 0, .null, .int 0, .int 0], vm := .statics 7 },
  { cls := 10, slots := #[.int 0, .int 8, .int 0, .int 1], vm := .statics 10 },
  { cls := 11, slots := #[.null, .null, .null], vm := .statics 11 }]
def classes : Array Class := #[k0, k1, k2, k3, k4, k5, k6, k7, k8, k9, k10, k11, k12, k13, k14, k15, k16, k17]
def interned : List (Array UInt16 × Addr) := []
def slotsUsed : Nat := 14
def theMethod : MethodId := ⟨1, 6⟩
def args0 : Array Value := #[.int 5, .int 6, .int 7, .int 8, .int 9]
def aboutOver (below : List Frame) : State where
  vm := { classes := classes, interned := interned.toArray }
  heap := heap
  slotsUsed := slotsUsed
  threads := #[{ frames := .invoking theMethod args0 :: below }]
def below0 : List Frame := [.native { method := ⟨0, 0⟩, args := #[] }]
def about1 : State := aboutOver below0
def p0 : Program := .bare "" "" ""
def e0 : Env := launch0.env 0 0 0
theorem w_frames : about1.frames = Frame.invoking theMethod args0 :: below0 := rfl
set_option maxRecDepth 65536 in
theorem w_args : argsFit about1.vm theMethod args0 = true := by decide +kernel
set_option maxRecDepth 65536 in
theorem w_heap : heapFits about1 = true := by decide +kernel
set_option maxRecDepth 65536 in
theorem w_runnable : about1.curStatus? = some .runnable := by decide +kernel
set_option maxRecDepth 65536 in
theorem w_alone : about1.alone = true := by decide +kernel
set_option maxRecDepth 65536 in
theorem w_named : about1.methodNamed? x = some theMethod := by decide +kernel
set_option maxRecDepth 65536 in
theorem w_hears : about1.hears theMethod below0 = true := by decide +kernel
set_option maxRecDepth 65536 in
theorem w_ripe : about1.ripe theMethod args0 below0 = true := by decide +kernel
theorem w_running : about1.status = .running := rfl
set_option maxRecDepth 65536 in
theorem w_room : about1.hasRoom e0.platform room_1 = true :=
  launch0.hasRoom_least _ room_1 (by decide +kernel) (by decide +kernel) (by decide +kernel) (by decide +kernel) (by decide +kernel) (by decide +kernel)
theorem allAtoms_all (ts : List Jvm.Cond) (a : Array Jvm.Value) (st : Jvm.State) : (allAtoms ts).before a st = ts.all (fun c => c.before a st) := by
  induction ts with
  | nil => rfl
  | cons c t ih =>
    show (Jvm.Cond.and c (allAtoms t)).before a st = _
    rw [Jvm.Cond.before_and, ih, List.all_cons]
def words1 : List Jvm.Cond := Jvm.Cond.code x code maxLocals ret :: tables_1
/-- a 'code' word, met by the world's own term for the bytes: nothing is compared byte by byte -/
theorem code_word {y : MethodName} {bytes : ByteArray} {mx : Nat} {rt : Option FieldType} {a : Array Value} {s : State} {m : MethodId} {meth : Method} {c : Code} (h1 : s.methodNamed? y = some m) (h2 : s.vm.method? m = some meth) (h3 : meth.code = some c) (h4 : c.code = bytes)
    (h5 : (c.maxLocals == mx && c.exceptionTable.isEmpty && decide (c.maxStack ≤ mostOperands) && decide (meth.sig.returnType = rt) && !meth.locks && decide (parseMethodDescriptor y.desc = some meth.sig)) = true) : (Jvm.Cond.code y bytes mx rt).before a s = true := by
  simp only [Bool.and_eq_true, beq_iff_eq, Bool.not_eq_true', decide_eq_true_eq] at h5
  obtain ⟨⟨⟨⟨⟨g1, g2⟩, g3⟩, g4⟩, g5⟩, g6⟩ := h5
  simp [Cond.before, Cond.holds, Cond.value, h1, h2, h3, h4, g1, g2, g3, g4, g5, g6]
def isCode : Jvm.Cond → Bool
  | .code _ _ _ _ => true
  | _ => false
theorem all_split {L : List Jvm.Cond} {P : Jvm.Cond → Bool} (h1 : L.all (fun c => isCode c || P c) = true) (h2 : ∀ c ∈ L.filter isCode, P c = true) : L.all P = true := by
  refine List.all_eq_true.mpr fun c hc => ?_
  have h := List.all_eq_true.mp h1 c hc
  rcases Bool.eq_false_or_eq_true (isCode c) with hi | hi
  · exact h2 c (List.mem_filter.mpr ⟨hc, hi⟩)
  · simpa [hi] using h
set_option maxRecDepth 65536 in
theorem w_c0 : (Jvm.Cond.code x code maxLocals ret).before args0 about1 = true := code_word (m := ⟨1, 6⟩) (meth := k1m6) (c := k1c6) (by decide +kernel) rfl rfl rfl (by decide +kernel)
set_option maxRecDepth 65536 in
theorem w_c1 : (Jvm.Cond.code ({ cls := "com/example/rezeptkern/rezeptkern/JsonCursorPeekPinLaw", name := "pick", desc := "(I)C" } : Jvm.MethodName) method_2_code (2 : Nat) (Option.some Jvm.ClassFile.FieldType.char)).before args0 about1 = true := code_word (m := ⟨1, 1⟩) (meth := k1m1) (c := k1c1) (by decide +kernel) rfl rfl rfl (by decide +kernel)
set_option maxRecDepth 65536 in
theorem w_c2 : (Jvm.Cond.code ({ cls := "com/example/rezeptkern/rezeptkern/JsonCursorPeekPinLaw", name := "make", desc := "(ICCCC)Ljava/lang/String;" } : Jvm.MethodName) method_6_code (5 : Nat) (Option.some (Jvm.ClassFile.FieldType.object "java/lang/String"))).before args0 about1 = true := code_word (m := ⟨1, 5⟩) (meth := k1m5) (c := k1c5) (by decide +kernel) rfl rfl rfl (by decide +kernel)
set_option maxRecDepth 65536 in
theorem w_c3 : (Jvm.Cond.code ({ cls := "java/lang/String", name := "<init>", desc := "([C)V" } : Jvm.MethodName) jdk_42_method_3_code (2 : Nat) (Option.none : Option Jvm.ClassFile.FieldType)).before args0 about1 = true := code_word (m := ⟨7, 1⟩) (meth := k7m1) (c := k7c1) (by decide +kernel) rfl rfl rfl (by decide +kernel)
set_option maxRecDepth 65536 in
theorem w_c4 : (Jvm.Cond.code ({ cls := "java/lang/String", name := "<init>", desc := "([CIILjava/lang/Void;)V" } : Jvm.MethodName) jdk_42_method_149_code (6 : Nat) (Option.none : Option Jvm.ClassFile.FieldType)).before args0 about1 = true := code_word (m := ⟨7, 3⟩) (meth := k7m3) (c := k7c3) (by decide +kernel) rfl rfl rfl (by decide +kernel)
set_option maxRecDepth 65536 in
theorem w_c5 : (Jvm.Cond.code ({ cls := "java/lang/Object", name := "<init>", desc := "()V" } : Jvm.MethodName) object_method_1_code (1 : Nat) (Option.none : Option Jvm.ClassFile.FieldType)).before args0 about1 = true := code_word (m := ⟨0, 0⟩) (meth := k0m0) (c := k0c0) (by decide +kernel) rfl rfl rfl (by decide +kernel)
set_option maxRecDepth 65536 in
theorem w_c6 : (Jvm.Cond.code ({ cls := "com/example/rezeptkern/rezeptkern/JsonCursorPeekPinLaw", name := "firstNonWs", desc := "(ICCCC)I" } : Jvm.MethodName) method_4_code (5 : Nat) (Option.some Jvm.ClassFile.FieldType.int)).before args0 about1 = true := code_word (m := ⟨1, 3⟩) (meth := k1m3) (c := k1c3) (by decide +kernel) rfl rfl rfl (by decide +kernel)
set_option maxRecDepth 65536 in
theorem w_c7 : (Jvm.Cond.code ({ cls := "com/example/rezeptkern/rezeptkern/JsonCursor", name := "<init>", desc := "(Ljava/lang/String;Ljava/lang/String;)V" } : Jvm.MethodName) prog_33_method_1_code (3 : Nat) (Option.none : Option Jvm.ClassFile.FieldType)).before args0 about1 = true := code_word (m := ⟨8, 0⟩) (meth := k8m0) (c := k8c0) (by decide +kernel) rfl rfl rfl (by decide +kernel)
set_option maxRecDepth 65536 in
theorem w_c8 : (Jvm.Cond.code ({ cls := "java/lang/String", name := "toCharArray", desc := "()[C" } : Jvm.MethodName) jdk_42_method_129_code (1 : Nat) (Option.some (Jvm.ClassFile.FieldType.array Jvm.ClassFile.FieldType.char))).before args0 about1 = true := code_word (m := ⟨7, 2⟩) (meth := k7m2) (c := k7c2) (by decide +kernel) rfl rfl rfl (by decide +kernel)
set_option maxRecDepth 65536 in
theorem w_c9 : (Jvm.Cond.code ({ cls := "java/lang/String", name := "isLatin1", desc := "()Z" } : Jvm.MethodName) jdk_42_method_154_code (1 : Nat) (Option.some Jvm.ClassFile.FieldType.boolean)).before args0 about1 = true := code_word (m := ⟨7, 4⟩) (meth := k7m4) (c := k7c4) (by decide +kernel) rfl rfl rfl (by decide +kernel)
set_option maxRecDepth 65536 in
theorem w_c10 : (Jvm.Cond.code ({ cls := "java/lang/StringLatin1", name := "toChars", desc := "([B)[C" } : Jvm.MethodName) jdk_43_method_9_code (2 : Nat) (Option.some (Jvm.ClassFile.FieldType.array Jvm.ClassFile.FieldType.char))).before args0 about1 = true := code_word (m := ⟨9, 1⟩) (meth := k9m1) (c := k9c1) (by decide +kernel) rfl rfl rfl (by decide +kernel)
set_option maxRecDepth 65536 in
theorem w_c11 : (Jvm.Cond.code ({ cls := "java/lang/StringLatin1", name := "inflate", desc := "([BI[CII)V" } : Jvm.MethodName) jdk_43_method_49_code (6 : Nat) (Option.none : Option Jvm.ClassFile.FieldType)).before args0 about1 = true := code_word (m := ⟨9, 2⟩) (meth := k9m2) (c := k9c2) (by decide +kernel) rfl rfl rfl (by decide +kernel)
set_option maxRecDepth 65536 in
theorem w_c12 : (Jvm.Cond.code ({ cls := "com/example/rezeptkern/rezeptkern/JsonCursor", name := "peek", desc := "()I" } : Jvm.MethodName) prog_33_method_11_code (1 : Nat) (Option.some Jvm.ClassFile.FieldType.int)).before args0 about1 = true := code_word (m := ⟨8, 1⟩) (meth := k8m1) (c := k8c1) (by decide +kernel) rfl rfl rfl (by decide +kernel)
set_option maxRecDepth 65536 in
theorem w_c13 : (Jvm.Cond.code ({ cls := "com/example/rezeptkern/rezeptkern/JsonCursor", name := "skipWhitespace", desc := "()V" } : Jvm.MethodName) prog_33_method_15_code (2 : Nat) (Option.none : Option Jvm.ClassFile.FieldType)).before args0 about1 = true := code_word (m := ⟨8, 3⟩) (meth := k8m3) (c := k8c3) (by decide +kernel) rfl rfl rfl (by decide +kernel)
set_option maxRecDepth 65536 in
theorem w_c14 : (Jvm.Cond.code ({ cls := "com/example/rezeptkern/rezeptkern/JsonCursor", name := "mark", desc := "()I" } : Jvm.MethodName) prog_33_method_12_code (1 : Nat) (Option.some Jvm.ClassFile.FieldType.int)).before args0 about1 = true := code_word (m := ⟨8, 2⟩) (meth := k8m2) (c := k8c2) (by decide +kernel) rfl rfl rfl (by decide +kernel)
set_option maxRecDepth 65536 in
theorem w_c15 : (Jvm.Cond.code ({ cls := "java/lang/StringUTF16", name := "compress", desc := "([CII)[B" } : Jvm.MethodName) jdk_52_method_16_code (6 : Nat) (Option.some (Jvm.ClassFile.FieldType.array Jvm.ClassFile.FieldType.byte))).before args0 about1 = true := code_word (m := ⟨10, 9⟩) (meth := k10m9) (c := k10c9) (by decide +kernel) rfl rfl rfl (by decide +kernel)
set_option maxRecDepth 65536 in
theorem w_c16 : (Jvm.Cond.code ({ cls := "java/lang/StringUTF16", name := "compress", desc := "([CI[BII)I" } : Jvm.MethodName) jdk_52_method_21_code (7 : Nat) (Option.some Jvm.ClassFile.FieldType.int)).before args0 about1 = true := code_word (m := ⟨10, 10⟩) (meth := k10m10) (c := k10c10) (by decide +kernel) rfl rfl rfl (by decide +kernel)
set_option maxRecDepth 65536 in
theorem w_c17 : (Jvm.Cond.code ({ cls := "java/lang/StringUTF16", name := "coderFromArrayLen", desc := "([BI)B" } : Jvm.MethodName) jdk_52_method_15_code (2 : Nat) (Option.some Jvm.ClassFile.FieldType.byte)).before args0 about1 = true := code_word (m := ⟨10, 8⟩) (meth := k10m8) (c := k10c8) (by decide +kernel) rfl rfl rfl (by decide +kernel)
set_option maxRecDepth 65536 in
theorem w_c18 : (Jvm.Cond.code ({ cls := "com/example/rezeptkern/rezeptkern/JsonCursorPeekPinLaw", name := "ws", desc := "(C)Z" } : Jvm.MethodName) method_3_code (1 : Nat) (Option.some Jvm.ClassFile.FieldType.boolean)).before args0 about1 = true := code_word (m := ⟨1, 2⟩) (meth := k1m2) (c := k1c2) (by decide +kernel) rfl rfl rfl (by decide +kernel)
set_option maxRecDepth 65536 in
theorem w_c19 : (Jvm.Cond.code ({ cls := "com/example/rezeptkern/rezeptkern/JsonCursorPeekPinLaw", name := "at", desc := "(ICCCC)I" } : Jvm.MethodName) method_5_code (5 : Nat) (Option.some Jvm.ClassFile.FieldType.int)).before args0 about1 = true := code_word (m := ⟨1, 4⟩) (meth := k1m4) (c := k1c4) (by decide +kernel) rfl rfl rfl (by decide +kernel)
set_option maxRecDepth 65536 in
theorem w_c20 : (Jvm.Cond.code ({ cls := "java/lang/StringUTF16", name := "toBytes", desc := "([CII)[B" } : Jvm.MethodName) jdk_52_method_14_code (5 : Nat) (Option.some (Jvm.ClassFile.FieldType.array Jvm.ClassFile.FieldType.byte))).before args0 about1 = true := code_word (m := ⟨10, 7⟩) (meth := k10m7) (c := k10c7) (by decide +kernel) rfl rfl rfl (by decide +kernel)
set_option maxRecDepth 65536 in
theorem w_c21 : (Jvm.Cond.code ({ cls := "java/lang/StringUTF16", name := "newBytesFor", desc := "(I)[B" } : Jvm.MethodName) jdk_52_method_2_code (1 : Nat) (Option.some (Jvm.ClassFile.FieldType.array Jvm.ClassFile.FieldType.byte))).before args0 about1 = true := code_word (m := ⟨10, 1⟩) (meth := k10m1) (c := k10c1) (by decide +kernel) rfl rfl rfl (by decide +kernel)
set_option maxRecDepth 65536 in
theorem w_c22 : (Jvm.Cond.code ({ cls := "java/lang/StringUTF16", name := "newBytesLength", desc := "(I)I" } : Jvm.MethodName) jdk_52_method_3_code (1 : Nat) (Option.some Jvm.ClassFile.FieldType.int)).before args0 about1 = true := code_word (m := ⟨10, 2⟩) (meth := k10m2) (c := k10c2) (by decide +kernel) rfl rfl rfl (by decide +kernel)
set_option maxRecDepth 65536 in
theorem w_c23 : (Jvm.Cond.code ({ cls := "java/lang/StringUTF16", name := "putChar", desc := "([BII)V" } : Jvm.MethodName) jdk_52_method_4_code (3 : Nat) (Option.none : Option Jvm.ClassFile.FieldType)).before args0 about1 = true := code_word (m := ⟨10, 3⟩) (meth := k10m3) (c := k10c3) (by decide +kernel) rfl rfl rfl (by decide +kernel)
set_option maxRecDepth 65536 in
theorem w_c24 : (Jvm.Cond.code ({ cls := "java/lang/StringUTF16", name := "getChar", desc := "([BI)C" } : Jvm.MethodName) jdk_52_method_5_code (2 : Nat) (Option.some Jvm.ClassFile.FieldType.char)).before args0 about1 = true := code_word (m := ⟨10, 4⟩) (meth := k10m4) (c := k10c4) (by decide +kernel) rfl rfl rfl (by decide +kernel)
set_option maxRecDepth 65536 in
theorem w_c25 : (Jvm.Cond.code ({ cls := "java/lang/StringUTF16", name := "toChars", desc := "([B)[C" } : Jvm.MethodName) jdk_52_method_13_code (2 : Nat) (Option.some (Jvm.ClassFile.FieldType.array Jvm.ClassFile.FieldType.char))).before args0 about1 = true := code_word (m := ⟨10, 6⟩) (meth := k10m6) (c := k10c6) (by decide +kernel) rfl rfl rfl (by decide +kernel)
set_option maxRecDepth 65536 in
theorem w_c26 : (Jvm.Cond.code ({ cls := "java/lang/StringUTF16", name := "getChars", desc := "([BII[CI)V" } : Jvm.MethodName) jdk_52_method_26_code (6 : Nat) (Option.none : Option Jvm.ClassFile.FieldType)).before args0 about1 = true := code_word (m := ⟨10, 11⟩) (meth := k10m11) (c := k10c11) (by decide +kernel) rfl rfl rfl (by decide +kernel)
set_option maxRecDepth 65536 in
theorem w_c27 : (Jvm.Cond.code ({ cls := "java/lang/StringUTF16", name := "checkBoundsOffCount", desc := "(II[B)V" } : Jvm.MethodName) jdk_52_method_94_code (3 : Nat) (Option.none : Option Jvm.ClassFile.FieldType)).before args0 about1 = true := code_word (m := ⟨10, 12⟩) (meth := k10m12) (c := k10c12) (by decide +kernel) rfl rfl rfl (by decide +kernel)
set_option maxRecDepth 65536 in
theorem w_c28 : (Jvm.Cond.code ({ cls := "java/lang/StringUTF16", name := "length", desc := "([B)I" } : Jvm.MethodName) jdk_52_method_6_code (1 : Nat) (Option.some Jvm.ClassFile.FieldType.int)).before args0 about1 = true := code_word (m := ⟨10, 5⟩) (meth := k10m5) (c := k10c5) (by decide +kernel) rfl rfl rfl (by decide +kernel)
set_option maxRecDepth 65536 in
theorem w_c29 : (Jvm.Cond.code ({ cls := "java/lang/String", name := "checkBoundsOffCount", desc := "(III)I" } : Jvm.MethodName) jdk_42_method_157_code (3 : Nat) (Option.some Jvm.ClassFile.FieldType.int)).before args0 about1 = true := code_word (m := ⟨7, 5⟩) (meth := k7m5) (c := k7c5) (by decide +kernel) rfl rfl rfl (by decide +kernel)
set_option maxRecDepth 65536 in
theorem w_c30 : (Jvm.Cond.code ({ cls := "jdk/internal/util/Preconditions", name := "checkFromIndexSize", desc := "(IIILjava/util/function/BiFunction;)I" } : Jvm.MethodName) jdk_41_method_13_code (4 : Nat) (Option.some Jvm.ClassFile.FieldType.int)).before args0 about1 = true := code_word (m := ⟨11, 1⟩) (meth := k11m1) (c := k11c1) (by decide +kernel) rfl rfl rfl (by decide +kernel)
def codes1 : List Jvm.Cond := [Jvm.Cond.code x code maxLocals ret, Jvm.Cond.code ({ cls := "com/example/rezeptkern/rezeptkern/JsonCursorPeekPinLaw", name := "pick", desc := "(I)C" } : Jvm.MethodName) method_2_code (2 : Nat) (Option.some Jvm.ClassFile.FieldType.char), Jvm.Cond.code ({ cls := "com/example/rezeptkern/rezeptkern/JsonCursorPeekPinLaw", name := "make", desc := "(ICCCC)Ljava/lang/String;" } : Jvm.MethodName) method_6_code (5 : Nat) (Option.some (Jvm.ClassFile.FieldType.object "java/lang/String")), Jvm.Cond.code ({ cls := "java/lang/String", name := "<init>", desc := "([C)V" } : Jvm.MethodName) jdk_42_method_3_code (2 : Nat) (Option.none : Option Jvm.ClassFile.FieldType), Jvm.Cond.code ({ cls := "java/lang/String", name := "<init>", desc := "([CIILjava/lang/Void;)V" } : Jvm.MethodName) jdk_42_method_149_code (6 : Nat) (Option.none : Option Jvm.ClassFile.FieldType), Jvm.Cond.code ({ cls := "java/lang/Object", name := "<init>", desc := "()V" } : Jvm.MethodName) object_method_1_code (1 : Nat) (Option.none : Option Jvm.ClassFile.FieldType), Jvm.Cond.code ({ cls := "com/example/rezeptkern/rezeptkern/JsonCursorPeekPinLaw", name := "firstNonWs", desc := "(ICCCC)I" } : Jvm.MethodName) method_4_code (5 : Nat) (Option.some Jvm.ClassFile.FieldType.int), Jvm.Cond.code ({ cls := "com/example/rezeptkern/rezeptkern/JsonCursor", name := "<init>", desc := "(Ljava/lang/String;Ljava/lang/String;)V" } : Jvm.MethodName) prog_33_method_1_code (3 : Nat) (Option.none : Option Jvm.ClassFile.FieldType), Jvm.Cond.code ({ cls := "java/lang/String", name := "toCharArray", desc := "()[C" } : Jvm.MethodName) jdk_42_method_129_code (1 : Nat) (Option.some (Jvm.ClassFile.FieldType.array Jvm.ClassFile.FieldType.char)), Jvm.Cond.code ({ cls := "java/lang/String", name := "isLatin1", desc := "()Z" } : Jvm.MethodName) jdk_42_method_154_code (1 : Nat) (Option.some Jvm.ClassFile.FieldType.boolean), Jvm.Cond.code ({ cls := "java/lang/StringLatin1", name := "toChars", desc := "([B)[C" } : Jvm.MethodName) jdk_43_method_9_code (2 : Nat) (Option.some (Jvm.ClassFile.FieldType.array Jvm.ClassFile.FieldType.char)), Jvm.Cond.code ({ cls := "java/lang/StringLatin1", name := "inflate", desc := "([BI[CII)V" } : Jvm.MethodName) jdk_43_method_49_code (6 : Nat) (Option.none : Option Jvm.ClassFile.FieldType), Jvm.Cond.code ({ cls := "com/example/rezeptkern/rezeptkern/JsonCursor", name := "peek", desc := "()I" } : Jvm.MethodName) prog_33_method_11_code (1 : Nat) (Option.some Jvm.ClassFile.FieldType.int), Jvm.Cond.code ({ cls := "com/example/rezeptkern/rezeptkern/JsonCursor", name := "skipWhitespace", desc := "()V" } : Jvm.MethodName) prog_33_method_15_code (2 : Nat) (Option.none : Option Jvm.ClassFile.FieldType), Jvm.Cond.code ({ cls := "com/example/rezeptkern/rezeptkern/JsonCursor", name := "mark", desc := "()I" } : Jvm.MethodName) prog_33_method_12_code (1 : Nat) (Option.some Jvm.ClassFile.FieldType.int), Jvm.Cond.code ({ cls := "java/lang/StringUTF16", name := "compress", desc := "([CII)[B" } : Jvm.MethodName) jdk_52_method_16_code (6 : Nat) (Option.some (Jvm.ClassFile.FieldType.array Jvm.ClassFile.FieldType.byte)), Jvm.Cond.code ({ cls := "java/lang/StringUTF16", name := "compress", desc := "([CI[BII)I" } : Jvm.MethodName) jdk_52_method_21_code (7 : Nat) (Option.some Jvm.ClassFile.FieldType.int), Jvm.Cond.code ({ cls := "java/lang/StringUTF16", name := "coderFromArrayLen", desc := "([BI)B" } : Jvm.MethodName) jdk_52_method_15_code (2 : Nat) (Option.some Jvm.ClassFile.FieldType.byte), Jvm.Cond.code ({ cls := "com/example/rezeptkern/rezeptkern/JsonCursorPeekPinLaw", name := "ws", desc := "(C)Z" } : Jvm.MethodName) method_3_code (1 : Nat) (Option.some Jvm.ClassFile.FieldType.boolean), Jvm.Cond.code ({ cls := "com/example/rezeptkern/rezeptkern/JsonCursorPeekPinLaw", name := "at", desc := "(ICCCC)I" } : Jvm.MethodName) method_5_code (5 : Nat) (Option.some Jvm.ClassFile.FieldType.int), Jvm.Cond.code ({ cls := "java/lang/StringUTF16", name := "toBytes", desc := "([CII)[B" } : Jvm.MethodName) jdk_52_method_14_code (5 : Nat) (Option.some (Jvm.ClassFile.FieldType.array Jvm.ClassFile.FieldType.byte)), Jvm.Cond.code ({ cls := "java/lang/StringUTF16", name := "newBytesFor", desc := "(I)[B" } : Jvm.MethodName) jdk_52_method_2_code (1 : Nat) (Option.some (Jvm.ClassFile.FieldType.array Jvm.ClassFile.FieldType.byte)), Jvm.Cond.code ({ cls := "java/lang/StringUTF16", name := "newBytesLength", desc := "(I)I" } : Jvm.MethodName) jdk_52_method_3_code (1 : Nat) (Option.some Jvm.ClassFile.FieldType.int), Jvm.Cond.code ({ cls := "java/lang/StringUTF16", name := "putChar", desc := "([BII)V" } : Jvm.MethodName) jdk_52_method_4_code (3 : Nat) (Option.none : Option Jvm.ClassFile.FieldType), Jvm.Cond.code ({ cls := "java/lang/StringUTF16", name := "getChar", desc := "([BI)C" } : Jvm.MethodName) jdk_52_method_5_code (2 : Nat) (Option.some Jvm.ClassFile.FieldType.char), Jvm.Cond.code ({ cls := "java/lang/StringUTF16", name := "toChars", desc := "([B)[C" } : Jvm.MethodName) jdk_52_method_13_code (2 : Nat) (Option.some (Jvm.ClassFile.FieldType.array Jvm.ClassFile.FieldType.char)), Jvm.Cond.code ({ cls := "java/lang/StringUTF16", name := "getChars", desc := "([BII[CI)V" } : Jvm.MethodName) jdk_52_method_26_code (6 : Nat) (Option.none : Option Jvm.ClassFile.FieldType), Jvm.Cond.code ({ cls := "java/lang/StringUTF16", name := "checkBoundsOffCount", desc := "(II[B)V" } : Jvm.MethodName) jdk_52_method_94_code (3 : Nat) (Option.none : Option Jvm.ClassFile.FieldType), Jvm.Cond.code ({ cls := "java/lang/StringUTF16", name := "length", desc := "([B)I" } : Jvm.MethodName) jdk_52_method_6_code (1 : Nat) (Option.some Jvm.ClassFile.FieldType.int), Jvm.Cond.code ({ cls := "java/lang/String", name := "checkBoundsOffCount", desc := "(III)I" } : Jvm.MethodName) jdk_42_method_157_code (3 : Nat) (Option.some Jvm.ClassFile.FieldType.int), Jvm.Cond.code ({ cls := "jdk/internal/util/Preconditions", name := "checkFromIndexSize", desc := "(IIILjava/util/function/BiFunction;)I" } : Jvm.MethodName) jdk_41_method_13_code (4 : Nat) (Option.some Jvm.ClassFile.FieldType.int)]
set_option maxRecDepth 65536 in
theorem codes_eq : words1.filter isCode = codes1 := rfl
theorem w_codes : ∀ c ∈ words1.filter isCode, c.before args0 about1 = true := by
  rw [codes_eq]
  intro c hc
  simp only [codes1, List.mem_cons, List.not_mem_nil, or_false] at hc
  rcases hc with rfl | rfl | rfl | rfl | rfl | rfl | rfl | rfl | rfl | rfl | rfl | rfl | rfl | rfl | rfl | rfl | rfl | rfl | rfl | rfl | rfl | rfl | rfl | rfl | rfl | rfl | rfl | rfl | rfl | rfl | rfl
  · exact w_c0
  · exact w_c1
  · exact w_c2
  · exact w_c3
  · exact w_c4
  · exact w_c5
  · exact w_c6
  · exact w_c7
  · exact w_c8
  · exact w_c9
  · exact w_c10
  · exact w_c11
  · exact w_c12
  · exact w_c13
  · exact w_c14
  · exact w_c15
  · exact w_c16
  · exact w_c17
  · exact w_c18
  · exact w_c19
  · exact w_c20
  · exact w_c21
  · exact w_c22
  · exact w_c23
  · exact w_c24
  · exact w_c25
  · exact w_c26
  · exact w_c27
  · exact w_c28
  · exact w_c29
  · exact w_c30
set_option maxRecDepth 65536 in
theorem w_t1 : (words1.take 24).all (fun c => isCode c || c.before args0 about1) = true := by decide +kernel
set_option maxRecDepth 65536 in
theorem w_t2 : ((words1.drop 24).take 24).all (fun c => isCode c || c.before args0 about1) = true := by decide +kernel
set_option maxRecDepth 65536 in
theorem w_t3 : (((words1.drop 24).drop 24).take 24).all (fun c => isCode c || c.before args0 about1) = true := by decide +kernel
set_option maxRecDepth 65536 in
theorem w_t4 : ((((words1.drop 24).drop 24).drop 24).take 24).all (fun c => isCode c || c.before args0 about1) = true := by decide +kernel
set_option maxRecDepth 65536 in
theorem w_t5 : (((((words1.drop 24).drop 24).drop 24).drop 24).take 24).all (fun c => isCode c || c.before args0 about1) = true := by decide +kernel
set_option maxRecDepth 65536 in
theorem w_t6 : (((((words1.drop 24).drop 24).drop 24).drop 24).drop 24).all (fun c => isCode c || c.before args0 about1) = true := by decide +kernel
theorem w_tables : (allAtoms (Jvm.Cond.code x code maxLocals ret :: tables_1)).before args0 about1 = true := by
  rw [allAtoms_all]
  show words1.all (fun c => c.before args0 about1) = true
  refine all_split ?_ w_codes
  rw [← List.take_append_drop 24 words1, List.all_append, w_t1, ← List.take_append_drop 24 (words1.drop 24), List.all_append, w_t2, ← List.take_append_drop 24 ((words1.drop 24).drop 24), List.all_append, w_t3, ← List.take_append_drop 24 (((words1.drop 24).drop 24).drop 24), List.all_append, w_t4, ← List.take_append_drop 24 ((((words1.drop 24).drop 24).drop 24).drop 24), List.all_append, w_t5, w_t6]
  rfl
set_option maxRecDepth 65536 in
theorem w_rest : rest_1_c.before args0 about1 = true := by decide +kernel
set_option maxRecDepth 65536 in
theorem w_case : (Jvm.Cond.and given_1 narrow_1).before args0 about1 = true := by decide +kernel
set_option maxRecDepth 65536 in
theorem w_consts : constsHeld consts_1 about1 := Jvm.Lit.constsHeldB_iff.mp (by decide +kernel)
theorem w_applies : (headSpec (Jvm.Cond.code x code maxLocals ret :: tables_1) room_1).applies x e0.platform about1 = true :=
  (Spec.applies_iff w_frames).mpr ⟨w_running, w_runnable, w_alone, w_named, w_hears, w_ripe, w_room, w_tables⟩
theorem atStart : AtStart classFile x code maxLocals ret World_1 tables_1 room_1 Calls_1 rest_1 Pre_1 launch0 p0 e0 about1 theMethod args0 below0 :=
  ⟨lists_1, trivial, launch0.admits_env _ _ _, launch0.least_env, fairChoices_fair.cas, fairChoices_fair.clock, w_frames, w_args, w_heap, w_applies, ⟨w_consts, trivial⟩, w_rest, w_case⟩
end start1
theorem witness_1 : WitnessClaimed_1 := ⟨start1.p0, start1.e0, start1.about1, start1.theMethod, start1.args0, start1.below0, start1.atStart⟩
end Jvm.Pilot.@@N@@
