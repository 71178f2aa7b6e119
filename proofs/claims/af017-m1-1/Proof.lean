import JvmDerived
import JvmDerived.Pilot.@@N@@Statement
import JvmDerived.Pilot.@@N@@Code
set_option linter.unusedVariables false
set_option linter.unusedSimpArgs false
/- laws to paste: Road.backArv, Road.codOf, Road.lenW, pair_says, shr0, lo8_mask, Road.wide_lo, Road.wide_hi, Road.low_at (cut by pick.py; bodies as the Statement names them) -/
namespace Jvm.Pilot.@@N@@
namespace StrChars
open Jvm Sem ClassFile Op Lib Jvm.Stand Jvm.Free.XT Jvm.Free.ALB Jvm.Free.JM Jvm.Free
open Jvm.Lib.Cold (StaticIs)
/-- a char array whose places are chars -/
def Ch (a : Addr) (A : Cell) (U : State) : Prop := Arr .char a A U ∧ Typed .char A
theorem Ch.mv {a : Addr} {A : Cell} {U U' : State} (h : Ch a A U) (hal : U.vm.Alike U'.vm) (hh : U'.heap = U.heap) : Ch a A U' := ⟨h.1.mv hal hh, h.2⟩
theorem Ch.keep {a : Addr} {A : Cell} {U U' : State} (h : Ch a A U) (hal : U.vm.Alike U'.vm) (hk : U'.heap[a]? = some A) : Ch a A U' := ⟨h.1.keep hal hk, h.2⟩
/-- what place i of a char[]'s cell holds -/
def cv (A : Cell) (i : Nat) : Int32 := match A.slots[i]? with | some (.int x) => x | _ => 0
theorem Ch.get {a : Addr} {A : Cell} {U : State} (h : Ch a A U) {i : Nat} (hi : i < A.slots.size) : A.slots[i]? = some (.int (cv A i)) := by
  have e := Array.getElem?_eq_getElem hi
  have f := h.2 i _ e
  unfold cv; rw [e]
  generalize A.slots[i] = v at f
  cases v <;> simp [fits] at f ⊢
/-- the byte that i2b leaves of a char -/
def lo8 (x : Int32) : Int32 := x.toInt8.toInt32
theorem fits_lo8 (y : Int32) : fits .byte (.int (lo8 y)) = true := by
  have h1 := y.toInt8.le_toInt
  have h2 := y.toInt8.toInt_lt
  simp only [lo8, fits, Bool.and_eq_true, decide_eq_true_eq, Int32.le_iff_toInt_le, Int8.toInt_toInt32, show (-128 : Int32).toInt = -128 from by decide, show (127 : Int32).toInt = 127 from by decide]
  omega
/-- A' is A but that each place j of lo .. hi - 1 holds f j -/
def Laid (A A' : Cell) (lo hi : Nat) (f : Nat → Value) : Prop := A'.cls = A.cls ∧ A'.vm = A.vm ∧ A'.slots.size = A.slots.size ∧ ∀ i, A'.slots[i]? = if lo ≤ i ∧ i < hi then some (f i) else A.slots[i]?
theorem Laid.zero (A : Cell) (lo : Nat) (f : Nat → Value) : Laid A A lo (lo + 0) f := ⟨rfl, rfl, rfl, fun i => by rw [if_neg (by omega)]⟩
theorem Laid.step {A Ak : Cell} {lo k : Nat} {f : Nat → Value} {v : Value} (h : Laid A Ak lo k f) (hlo : lo ≤ k) (hk : k < Ak.slots.size) (hv : v = f k) : Laid A (Ak.setSlot k v) lo (k + 1) f := by
  refine ⟨h.1, h.2.1, by simpa [Cell.setSlot] using h.2.2.1, fun i => ?_⟩
  by_cases e : k = i
  · subst e; rw [Cell.slots_setSlot_self v hk, if_pos (by omega), hv]
  · rw [Cell.slots_setSlot_ne v e, h.2.2.2 i]
    by_cases q : lo ≤ i ∧ i < k
    · rw [if_pos q, if_pos (by omega)]
    · rw [if_neg q, if_neg (by omega)]
def U16 : String := "java/lang/StringUTF16"
namespace Cmp5
def yN : MethodName := ⟨"java/lang/StringUTF16", "compress", "([CI[BII)I"⟩
abbrev yB : ByteArray := jdk_52_method_21_code
theorem d0 : decode yB 0 = .ok (.iconst 0, 1) := by decide +kernel
theorem d1 : decode yB 1 = .ok (.istore 5, 2) := by decide +kernel
theorem d3 : decode yB 3 = .ok (.iload 5, 2) := by decide +kernel
theorem d5 : decode yB 5 = .ok (.iload 4, 2) := by decide +kernel
theorem d7 : decode yB 7 = .ok (.if_icmp (.ge) 37, 3) := by decide +kernel
theorem d10 : decode yB 10 = .ok (.aload_n 0, 1) := by decide +kernel
theorem d11 : decode yB 11 = .ok (.iload_n 1, 1) := by decide +kernel
theorem d12 : decode yB 12 = .ok (.caload, 1) := by decide +kernel
theorem d13 : decode yB 13 = .ok (.istore 6, 2) := by decide +kernel
theorem d15 : decode yB 15 = .ok (.iload 6, 2) := by decide +kernel
theorem d17 : decode yB 17 = .ok (.sipush 255, 3) := by decide +kernel
theorem d20 : decode yB 20 = .ok (.if_icmp (.le) 6, 3) := by decide +kernel
theorem d26 : decode yB 26 = .ok (.aload_n 2, 1) := by decide +kernel
theorem d27 : decode yB 27 = .ok (.iload_n 3, 1) := by decide +kernel
theorem d28 : decode yB 28 = .ok (.iload 6, 2) := by decide +kernel
theorem d30 : decode yB 30 = .ok (.i2b, 1) := by decide +kernel
theorem d31 : decode yB 31 = .ok (.bastore, 1) := by decide +kernel
theorem d32 : decode yB 32 = .ok (.iinc 1 1, 3) := by decide +kernel
theorem d35 : decode yB 35 = .ok (.iinc 3 1, 3) := by decide +kernel
theorem d38 : decode yB 38 = .ok (.iinc 5 1, 3) := by decide +kernel
theorem d41 : decode yB 41 = .ok (.goto (-38), 3) := by decide +kernel
theorem d44 : decode yB 44 = .ok (.iload 4, 2) := by decide +kernel
theorem d46 : decode yB 46 = .ok (.ireturn, 1) := by decide +kernel
def site : List Cond := []
def tab : Cond := tabOf yN yB 7 (some .int) site
def P (b : Addr) (A : Cell) (d : Addr) (B : Cell) (o q len : Nat) (args : Array Value) (s : State) : Prop := args = #[.ref b, .int (Int32.ofNat o), .ref d, .int (Int32.ofNat q), .int (Int32.ofNat len)] ∧ Ch b A s ∧ Arr .byte d B s ∧ b ≠ d ∧ o + len ≤ A.slots.size ∧ q + len ≤ B.slots.size ∧ ∀ i, i < len → ¬ 255 < cv A (o + i)
def E (b : Addr) (A : Cell) (d : Addr) (B : Cell) (o q len : Nat) (r : Option Value) (s u : State) : Prop := r = some (.int (Int32.ofNat len)) ∧ ∃ B', Put d B' s u ∧ Laid B B' q (q + len) (fun j => Value.int (lo8 (cv A (o + (j - q)))))
/-- no char of the range above 255: len; the places written hold each char's low byte -/
theorem law (l : Launch) (b : Addr) (A : Cell) (d : Addr) (B : Cell) (o q len : Nat) : Law l yN 5 5 0 0 yB 7 (some .int) site (P b A d B o q len) (E b A d B o q len) (copyLocs d q len) 0 0 := by
  refine Law.of_walk (plainFor_of_name (by decide +kernel)) (by decide +kernel) (by decide +kernel) (by decide) (fun _ _ h => by rw [h.1]; rfl) (fun _ U U' hal hh h => ⟨h.1, h.2.1.mv hal hh, h.2.2.1.mv hal hh, h.2.2.2⟩) (fun r U U' V V' h1 hal h2 h => ⟨h.1, h.2.elim fun B' q => ⟨B', q.1.mv h1 h2, q.2⟩⟩) ?_
  intro p e s m args below meth c s₁ X0 hexec hbytes hml hret hlk hnm hown hh0 W hP
  obtain ⟨rfl, hA, hB, hne, l1, l2, hp⟩ := hP
  have c1 : Steps p.tables e below (s₁.setTop (entryFrame m #[.ref b, .int (Int32.ofNat o), .ref d, .int (Int32.ofNat q), .int (Int32.ofNat len)] 7)) (s₁.setTop (mkF m 0 #[.val (.ref b), .val (.int (Int32.ofNat o)), .val (.ref d), .val (.int (Int32.ofNat q)), .val (.int (Int32.ofNat len)), .unset, .unset] [])) := entry rfl
  have hA0 := hA.1.mv X0.warmed.alike hh0
  have hB0 := hB.mv X0.warmed.alike hh0
  have a31 := hA.1.2.2.2
  have c2 : Steps p.tables e below (s₁.setTop (entryFrame m #[.ref b, .int (Int32.ofNat o), .ref d, .int (Int32.ofNat q), .int (Int32.ofNat len)] 7)) (s₁.setTop (mkF m 3 #[.val (.ref b), .val (.int (Int32.ofNat o)), .val (.ref d), .val (.int (Int32.ofNat q)), .val (.int (Int32.ofNat len)), .val (.int 0), .unset] [])) := c1.trans (by
    refine iconstV X0.here hexec rfl 0 (hb hbytes d0) (by decide) ?_
    refine XS.istore X0.here hexec rfl (hb hbytes d1) rfl rfl ?_
    exact Steps.refl _)
  have loop : ∀ (r i : Nat), i + r = len → ∀ (z : Slot), (z = .unset ∨ ∃ w, z = .val w ∧ w.category = 1) → ∀ (Tl : State) (Bk : Cell), Stand p l e { frames := 0, locals := 0, cells := 0, slots := 0 } s m #[.ref b, .int (Int32.ofNat o), .ref d, .int (Int32.ofNat q), .int (Int32.ofNat len)] below meth c Tl ([] ++ copyLocs d q i) 0 0 → Put d Bk s₁ Tl → Laid B Bk q (q + i) (fun j => Value.int (lo8 (cv A (o + (j - q))))) →
      Steps p.tables e below (s₁.setTop (entryFrame m #[.ref b, .int (Int32.ofNat o), .ref d, .int (Int32.ofNat q), .int (Int32.ofNat len)] 7)) (Tl.setTop (mkF m 3 #[.val (.ref b), .val (.int (Int32.ofNat (o + i))), .val (.ref d), .val (.int (Int32.ofNat (q + i))), .val (.int (Int32.ofNat len)), .val (.int (Int32.ofNat i)), z] [])) → ∃ (T' : State) (B' : Cell) (z' : Slot), Stand p l e { frames := 0, locals := 0, cells := 0, slots := 0 } s m #[.ref b, .int (Int32.ofNat o), .ref d, .int (Int32.ofNat q), .int (Int32.ofNat len)] below meth c T' ([] ++ copyLocs d q len) 0 0 ∧ Put d B' s₁ T' ∧ Laid B B' q (q + len) (fun j => Value.int (lo8 (cv A (o + (j - q))))) ∧
      Steps p.tables e below (s₁.setTop (entryFrame m #[.ref b, .int (Int32.ofNat o), .ref d, .int (Int32.ofNat q), .int (Int32.ofNat len)] 7)) (T'.setTop (mkF m 3 #[.val (.ref b), .val (.int (Int32.ofNat (o + len))), .val (.ref d), .val (.int (Int32.ofNat (q + len))), .val (.int (Int32.ofNat len)), .val (.int (Int32.ofNat len)), z'] [])) := by
    intro r
    induction r with
    | zero =>
      intro i hi z hz Tl Bk Xl pl fl cl
      have hil : i = len := by omega
      rw [hil] at Xl fl cl
      exact ⟨Tl, Bk, z, Xl, pl, fl, cl⟩
    | succ r ih =>
      intro i hi z hz Tl Bk Xl pl fl cl
      have all := X0.warmed.alike.symm.trans Xl.warmed.alike
      have hAl := hA0.keep all (pl.other hne hA0.1)
      have hBk := hB0.like all pl.1 fl.1 fl.2.1 fl.2.2.1
      have hlt : q + i < Bk.slots.size := by rw [fl.2.2.1]; omega
      have c3 : Steps p.tables e below (s₁.setTop (entryFrame m #[.ref b, .int (Int32.ofNat o), .ref d, .int (Int32.ofNat q), .int (Int32.ofNat len)] 7)) (Tl.setTop (mkF m 12 #[.val (.ref b), .val (.int (Int32.ofNat (o + i))), .val (.ref d), .val (.int (Int32.ofNat (q + i))), .val (.int (Int32.ofNat len)), .val (.int (Int32.ofNat i)), z] [.int (Int32.ofNat (o + i)), .ref b])) := cl.trans (by
        refine XS.iload Xl.here hexec rfl (hb hbytes d3) rfl ?_
        refine XS.iload Xl.here hexec rfl (hb hbytes d5) rfl ?_
        refine XS.icmpNo Xl.here hexec rfl (hb hbytes d7) rfl (ii_ge_f (lt32 (by omega) (by omega))) ?_
        refine XS.aloadN Xl.here hexec rfl (hb hbytes d10) rfl rfl ?_
        refine XS.iloadN Xl.here hexec rfl (hb hbytes d11) rfl ?_
        exact Steps.refl _)
      have c4 : Steps p.tables e below (s₁.setTop (entryFrame m #[.ref b, .int (Int32.ofNat o), .ref d, .int (Int32.ofNat q), .int (Int32.ofNat len)] 7)) (Tl.setTop (mkF m 13 #[.val (.ref b), .val (.int (Int32.ofNat (o + i))), .val (.ref d), .val (.int (Int32.ofNat (q + i))), .val (.int (Int32.ofNat len)), .val (.int (Int32.ofNat i)), z] [.int (cv A (o + i))])) := c3.trans (by
        refine Xl.aget hexec hAl rfl (hA.get (i := o + i) (by omega)) rfl rfl (hb hbytes d12) ?_
        exact Steps.refl _)
      have c5 : Steps p.tables e below (s₁.setTop (entryFrame m #[.ref b, .int (Int32.ofNat o), .ref d, .int (Int32.ofNat q), .int (Int32.ofNat len)] 7)) (Tl.setTop (mkF m 15 #[.val (.ref b), .val (.int (Int32.ofNat (o + i))), .val (.ref d), .val (.int (Int32.ofNat (q + i))), .val (.int (Int32.ofNat len)), .val (.int (Int32.ofNat i)), .val (.int (cv A (o + i)))] [])) := c4.trans (by
        refine XS.istoreS Xl.here hexec rfl (hb hbytes d13) rfl rfl hz ?_
        exact Steps.refl _)
      have c6 : Steps p.tables e below (s₁.setTop (entryFrame m #[.ref b, .int (Int32.ofNat o), .ref d, .int (Int32.ofNat q), .int (Int32.ofNat len)] 7)) (Tl.setTop (mkF m 31 #[.val (.ref b), .val (.int (Int32.ofNat (o + i))), .val (.ref d), .val (.int (Int32.ofNat (q + i))), .val (.int (Int32.ofNat len)), .val (.int (Int32.ofNat i)), .val (.int (cv A (o + i)))] [.int (lo8 (cv A (o + i))), .int (Int32.ofNat (q + i)), .ref d])) := c5.trans (by
        refine XS.iload Xl.here hexec rfl (hb hbytes d15) rfl ?_
        refine sipushV Xl.here hexec rfl 255 (hb hbytes d17) (by decide) ?_
        refine XS.icmpYes Xl.here hexec rfl (pc0 := 20) rfl (hb hbytes d20) rfl (ii_le_t (hp i (by omega))) (by decide) rfl ?_
        refine XS.aloadN Xl.here hexec rfl (hb hbytes d26) rfl rfl ?_
        refine XS.iloadN Xl.here hexec rfl (hb hbytes d27) rfl ?_
        refine XS.iload Xl.here hexec rfl (hb hbytes d28) rfl ?_
        refine i2b Xl.here hexec rfl (hb hbytes d30) rfl ?_
        exact Steps.refl _)
      obtain ⟨T7, X7, p7, st7⟩ := Xl.aput hexec hBk rfl hlt rfl (fits_lo8 (cv A (o + i))) (g := (mkF m 31 #[.val (.ref b), .val (.int (Int32.ofNat (o + i))), .val (.ref d), .val (.int (Int32.ofNat (q + i))), .val (.int (Int32.ofNat len)), .val (.int (Int32.ofNat i)), .val (.int (cv A (o + i)))] [.int (lo8 (cv A (o + i))), .int (Int32.ofNat (q + i)), .ref d])) rfl (rest := []) rfl (hb hbytes d31)
      have c8 : Steps p.tables e below (s₁.setTop (entryFrame m #[.ref b, .int (Int32.ofNat o), .ref d, .int (Int32.ofNat q), .int (Int32.ofNat len)] 7)) (T7.setTop (mkF m 32 #[.val (.ref b), .val (.int (Int32.ofNat (o + i))), .val (.ref d), .val (.int (Int32.ofNat (q + i))), .val (.int (Int32.ofNat len)), .val (.int (Int32.ofNat i)), .val (.int (cv A (o + i)))] [])) := c6.trans (st7 _ (Steps.refl _))
      have c9 : Steps p.tables e below (s₁.setTop (entryFrame m #[.ref b, .int (Int32.ofNat o), .ref d, .int (Int32.ofNat q), .int (Int32.ofNat len)] 7)) (T7.setTop (mkF m 3 #[.val (.ref b), .val (.int (Int32.ofNat (o + i) + 1)), .val (.ref d), .val (.int (Int32.ofNat (q + i) + 1)), .val (.int (Int32.ofNat len)), .val (.int (Int32.ofNat i + 1)), .val (.int (cv A (o + i)))] [])) := c8.trans (by
        refine iincV X7.here hexec rfl 1 (hb hbytes d32) (by decide) rfl rfl ?_
        refine iincV X7.here hexec rfl 1 (hb hbytes d35) (by decide) rfl rfl ?_
        refine iincV X7.here hexec rfl 1 (hb hbytes d38) (by decide) rfl rfl ?_
        refine XS.goto X7.here hexec rfl (pc0 := 41) rfl (hb hbytes d41) (by decide) rfl ?_
        exact Steps.refl _)
      have c10 : Steps p.tables e below (s₁.setTop (entryFrame m #[.ref b, .int (Int32.ofNat o), .ref d, .int (Int32.ofNat q), .int (Int32.ofNat len)] 7)) (T7.setTop (mkF m 3 #[.val (.ref b), .val (.int (Int32.ofNat (o + (i + 1)))), .val (.ref d), .val (.int (Int32.ofNat (q + (i + 1)))), .val (.int (Int32.ofNat len)), .val (.int (Int32.ofNat (i + 1))), .val (.int (cv A (o + i)))] [])) := by
        have := c9
        rw [succ32, succ32, succ32] at this
        exact this
      exact ih (i + 1) (by omega) _ (Or.inr ⟨_, rfl, rfl⟩) T7 _ (by rw [copyLocs_step, ← List.append_assoc]; exact X7) (pl.trans p7) (fl.step (by omega) hlt (by simp)) c10
  obtain ⟨T9, B9, z9, X9, p9, f9, g9⟩ := loop len 0 (by omega) .unset (Or.inl rfl) s₁ B (by simpa [copyLocs] using X0) ⟨hB0.1, fun _ _ => rfl, rfl⟩ (Laid.zero _ _ _) c2
  have c11 : Steps p.tables e below (s₁.setTop (entryFrame m #[.ref b, .int (Int32.ofNat o), .ref d, .int (Int32.ofNat q), .int (Int32.ofNat len)] 7)) (T9.setTop (mkF m 46 #[.val (.ref b), .val (.int (Int32.ofNat (o + len))), .val (.ref d), .val (.int (Int32.ofNat (q + len))), .val (.int (Int32.ofNat len)), .val (.int (Int32.ofNat len)), z9] [.int (Int32.ofNat len)])) := g9.trans (by
    refine XS.iload X9.here hexec rfl (hb hbytes d3) rfl ?_
    refine XS.iload X9.here hexec rfl (hb hbytes d5) rfl ?_
    refine XS.icmpYes X9.here hexec rfl (pc0 := 7) rfl (hb hbytes d7) rfl (ii_ge_t (nlt32 (by omega) (Nat.le_refl _))) (by decide) rfl ?_
    refine XS.iload X9.here hexec rfl (hb hbytes d44) rfl ?_
    exact Steps.refl _)
  exact ⟨T9, some (.int (Int32.ofNat len)), _, _, _, X9, by simp, rfl, rfl, (fun h => by cases h), ⟨rfl, B9, p9.from hh0, f9⟩, fun fs hl => c11.trans (X9.ireturnOut hexec hret rfl (Or.inl rfl) (hb hbytes d46) hl)⟩
end Cmp5
namespace Cmp3
def yN : MethodName := ⟨"java/lang/StringUTF16", "compress", "([CII)[B"⟩
abbrev yB : ByteArray := jdk_52_method_16_code
theorem d0 : decode yB 0 = .ok (.iload_n 2, 1) := by decide +kernel
theorem d1 : decode yB 1 = .ok (.newarray .byte, 2) := by decide +kernel
theorem d3 : decode yB 3 = .ok (.astore_n 3, 1) := by decide +kernel
theorem d4 : decode yB 4 = .ok (.aload_n 0, 1) := by decide +kernel
theorem d5 : decode yB 5 = .ok (.iload_n 1, 1) := by decide +kernel
theorem d6 : decode yB 6 = .ok (.aload_n 3, 1) := by decide +kernel
theorem d7 : decode yB 7 = .ok (.iconst 0, 1) := by decide +kernel
theorem d8 : decode yB 8 = .ok (.iload_n 2, 1) := by decide +kernel
theorem d9 : decode yB 9 = .ok (.invokestatic 115, 3) := by decide +kernel
theorem d12 : decode yB 12 = .ok (.istore 4, 2) := by decide +kernel
theorem d14 : decode yB 14 = .ok (.iload 4, 2) := by decide +kernel
theorem d16 : decode yB 16 = .ok (.iload_n 2, 1) := by decide +kernel
theorem d17 : decode yB 17 = .ok (.if_icmp (.eq) 40, 3) := by decide +kernel
theorem d57 : decode yB 57 = .ok (.aload_n 3, 1) := by decide +kernel
theorem d58 : decode yB 58 = .ok (.areturn, 1) := by decide +kernel
def site : List Cond := [.arrayClass .byte, Cmp5.tab] ++ staticW U16 115 Cmp5.yN
def tab : Cond := tabOf yN yB 6 (some (.array .byte)) site
def P (b : Addr) (A : Cell) (o len : Nat) (args : Array Value) (s : State) : Prop := args = #[.ref b, .int (Int32.ofNat o), .int (Int32.ofNat len)] ∧ Ch b A s ∧ o + len ≤ A.slots.size ∧ len ≤ 536870912 ∧ ∀ i, i < len → ¬ 255 < cv A (o + i)
def E (b : Addr) (A : Cell) (o len : Nat) (r : Option Value) (s u : State) : Prop := NewArr .byte "[B" len (fun j => .int (lo8 (cv A (o + j)))) r s u ∧ u.heap.size = s.heap.size + 1
/-- no char of the range above 255: a new byte[] of their low bytes -/
theorem law (l : Launch) (b : Addr) (A : Cell) (o len : Nat) : Law l yN 3 3 1 18 yB 6 (some (.array .byte)) site (P b A o len) (E b A o len) [] 1 len := by
  refine Law.of_walk (plainFor_of_name (by decide +kernel)) (by decide +kernel) (by decide +kernel) (by decide) (fun _ _ h => by rw [h.1]; rfl) (fun _ U U' hal hh h => ⟨h.1, h.2.1.mv hal hh, h.2.2⟩) (fun r U U' V V' h1 hal h2 h => ⟨NewArr.mv r U U' V V' h1 hal h2 h.1, by rw [h1, h2]; exact h.2⟩) ?_
  intro p e s m args below meth c s₁ X0 hexec hbytes hml hret hlk hnm hown hh0 W hP
  obtain ⟨rfl, hA, l1, l2, hp⟩ := hP
  have a31 := hA.1.2.2.2
  have c1 : Steps p.tables e below (s₁.setTop (entryFrame m #[.ref b, .int (Int32.ofNat o), .int (Int32.ofNat len)] 6)) (s₁.setTop (mkF m 0 #[.val (.ref b), .val (.int (Int32.ofNat o)), .val (.int (Int32.ofNat len)), .unset, .unset, .unset] [])) := entry rfl
  have c2 : Steps p.tables e below (s₁.setTop (entryFrame m #[.ref b, .int (Int32.ofNat o), .int (Int32.ofNat len)] 6)) (s₁.setTop (mkF m 1 #[.val (.ref b), .val (.int (Int32.ofNat o)), .val (.int (Int32.ofNat len)), .unset, .unset, .unset] [.int (Int32.ofNat len)])) := c1.trans (by
    refine XS.iloadN X0.here hexec rfl (hb hbytes d0) rfl ?_
    exact Steps.refl _)
  obtain ⟨T3, B3, X3, ba3, bs3, bv3, bh3, bf3, st3⟩ := X0.anew hexec (atype := .byte) (wk W (.arrayClass .byte)) rfl (by show len * 1 ≤ _; omega) (by omega) (g := (mkF m 1 #[.val (.ref b), .val (.int (Int32.ofNat o)), .val (.int (Int32.ofNat len)), .unset, .unset, .unset] [.int (Int32.ofNat len)])) rfl (hb hbytes d1) (rest := []) rfl (Nat.le_refl _) (by show 0 + len ≤ len; omega)
  rw [hh0] at ba3 st3
  have kp3 : XT.Kept s T3 := (XT.Kept.of_eq hh0).push bh3
  have hA3 := hA.keep X3.warmed.alike (kp3 _ _ hA.1.1)
  have hne : b ≠ s.heap.size := hA.1.ne
  have c4 : Steps p.tables e below (s₁.setTop (entryFrame m #[.ref b, .int (Int32.ofNat o), .int (Int32.ofNat len)] 6)) (T3.setTop (mkF m 3 #[.val (.ref b), .val (.int (Int32.ofNat o)), .val (.int (Int32.ofNat len)), .unset, .unset, .unset] [.ref s.heap.size])) := c2.trans (st3 _ (Steps.refl _))
  have c5 : Steps p.tables e below (s₁.setTop (entryFrame m #[.ref b, .int (Int32.ofNat o), .int (Int32.ofNat len)] 6)) (T3.setTop (mkF m 9 #[.val (.ref b), .val (.int (Int32.ofNat o)), .val (.int (Int32.ofNat len)), .val (.ref s.heap.size), .unset, .unset] [.int (Int32.ofNat len), .int 0, .ref s.heap.size, .int (Int32.ofNat o), .ref b])) := c4.trans (by
    refine XS.astoreN X3.here hexec rfl (hb hbytes d3) rfl rfl rfl ?_
    refine XS.aloadN X3.here hexec rfl (hb hbytes d4) rfl rfl ?_
    refine XS.iloadN X3.here hexec rfl (hb hbytes d5) rfl ?_
    refine XS.aloadN X3.here hexec rfl (hb hbytes d6) rfl rfl ?_
    refine iconstV X3.here hexec rfl 0 (hb hbytes d7) (by decide) ?_
    refine XS.iloadN X3.here hexec rfl (hb hbytes d8) rfl ?_
    exact Steps.refl _)
  obtain ⟨v6, T6, X6, E6, g6⟩ := X3.callS hexec (Cmp5.law l b A s.heap.size B3 o 0 len) hown (wks W (staticW U16 115 Cmp5.yN)) (wk W Cmp5.tab) (W := 0) (Nat.le_of_ble_eq_true rfl) (Nat.le_of_ble_eq_true rfl) (Nat.le_refl _) (by show 0 + len + 0 ≤ len; omega) (g := (mkF m 9 #[.val (.ref b), .val (.int (Int32.ofNat o)), .val (.int (Int32.ofNat len)), .val (.ref s.heap.size), .unset, .unset] [.int (Int32.ofNat len), .int (Int32.ofNat 0), .ref s.heap.size, .int (Int32.ofNat o), .ref b])) rfl (by rw [hml]; rfl) c5 (argsL := [.ref b, .int (Int32.ofNat o), .ref s.heap.size, .int (Int32.ofNat 0), .int (Int32.ofNat len)]) (rest := []) rfl rfl (by show 2 * 0 + 0 ≤ _; decide) (hb hbytes d9) (⟨rfl, hA3, ba3, hne, l1, by rw [bs3]; simp, hp⟩)
  obtain ⟨rfl, B6, p6, f6⟩ := E6
  have c7 : Steps p.tables e below (s₁.setTop (entryFrame m #[.ref b, .int (Int32.ofNat o), .int (Int32.ofNat len)] 6)) (T6.setTop (mkF m 12 #[.val (.ref b), .val (.int (Int32.ofNat o)), .val (.int (Int32.ofNat len)), .val (.ref s.heap.size), .unset, .unset] [.int (Int32.ofNat len)])) := g6
  have c8 : Steps p.tables e below (s₁.setTop (entryFrame m #[.ref b, .int (Int32.ofNat o), .int (Int32.ofNat len)] 6)) (T6.setTop (mkF m 58 #[.val (.ref b), .val (.int (Int32.ofNat o)), .val (.int (Int32.ofNat len)), .val (.ref s.heap.size), .val (.int (Int32.ofNat len)), .unset] [.ref s.heap.size])) := c7.trans (by
    refine XS.istore X6.here hexec rfl (hb hbytes d12) rfl rfl ?_
    refine XS.iload X6.here hexec rfl (hb hbytes d14) rfl ?_
    refine XS.iloadN X6.here hexec rfl (hb hbytes d16) rfl ?_
    refine XS.icmpYes X6.here hexec rfl (pc0 := 17) rfl (hb hbytes d17) rfl (ii_eq_t rfl) (by decide) rfl ?_
    refine XS.aloadN X6.here hexec rfl (hb hbytes d57) rfl rfl ?_
    exact Steps.refl _)
  have X8 := X6.wide (L' := []) (cells' := 1) (slots' := len) (fun x hx hlt => by
    simp only [List.nil_append, copyLocs, List.mem_map, List.mem_range] at hx
    obtain ⟨i, -, rfl⟩ := hx
    exact absurd hlt (Nat.lt_irrefl _)) (Nat.le_refl _) (by omega)
  exact ⟨T6, some (.ref s.heap.size), _, _, _, X8, rfl, rfl, rfl, (fun h => by cases h), ⟨⟨rfl, B6, ba3.like (X3.warmed.alike.symm.trans X6.warmed.alike) p6.1 f6.1 f6.2.1 f6.2.2.1, f6.2.1.trans bv3, by rw [X6.warmed.alike.findClass, f6.1]; exact bf3, by rw [f6.2.2.1, bs3]; simp, fun j hj => by rw [f6.2.2.2 j, if_pos (by omega)]; rfl, kp3.put p6 (Nat.le_refl _)⟩, by rw [p6.2.2, bh3, hh0]; simp⟩, fun fs hl => c8.trans (X8.areturnOut hexec rfl hret rfl (hb hbytes d58) hl)⟩
end Cmp3
namespace CodL
def yN : MethodName := ⟨"java/lang/StringUTF16", "coderFromArrayLen", "([BI)B"⟩
abbrev yB : ByteArray := jdk_52_method_15_code
theorem d0 : decode yB 0 = .ok (.iload_n 1, 1) := by decide +kernel
theorem d1 : decode yB 1 = .ok (.aload_n 0, 1) := by decide +kernel
theorem d2 : decode yB 2 = .ok (.arraylength, 1) := by decide +kernel
theorem d3 : decode yB 3 = .ok (.isub, 1) := by decide +kernel
theorem d4 : decode yB 4 = .ok (.bipush 31, 2) := by decide +kernel
theorem d6 : decode yB 6 = .ok (.iushr, 1) := by decide +kernel
theorem d7 : decode yB 7 = .ok (.i2b, 1) := by decide +kernel
theorem d8 : decode yB 8 = .ok (.ireturn, 1) := by decide +kernel
def site : List Cond := []
def tab : Cond := tabOf yN yB 2 (some .byte) site
def P (d : Addr) (B : Cell) (args : Array Value) (s : State) : Prop := args = #[.ref d, .int (Int32.ofNat B.slots.size)] ∧ Arr .byte d B s
def E (r : Option Value) (s u : State) : Prop := XT.PureE (some (.int 0)) r s u
/-- an array as long as the number of chars: LATIN1 -/
theorem law (l : Launch) (d : Addr) (B : Cell) : Law l yN 2 2 0 0 yB 2 (some .byte) site (P d B) E [] 0 0 := by
  refine Law.of_walk (plainFor_of_name (by decide +kernel)) (by decide +kernel) (by decide +kernel) (by decide) (fun _ _ h => by rw [h.1]; rfl) (fun _ U U' hal hh h => ⟨h.1, h.2.mv hal hh⟩) (fun r U U' V V' h1 hal h2 h => XT.PureE.mv r U U' V V' h1 hal h2 h) ?_
  intro p e s m args below meth c s₁ X0 hexec hbytes hml hret hlk hnm hown hh0 W hP
  obtain ⟨rfl, hB⟩ := hP
  have hB0 := hB.mv X0.warmed.alike hh0
  have c1 : Steps p.tables e below (s₁.setTop (entryFrame m #[.ref d, .int (Int32.ofNat B.slots.size)] 2)) (s₁.setTop (mkF m 0 #[.val (.ref d), .val (.int (Int32.ofNat B.slots.size))] [])) := entry rfl
  have c2 : Steps p.tables e below (s₁.setTop (entryFrame m #[.ref d, .int (Int32.ofNat B.slots.size)] 2)) (s₁.setTop (mkF m 2 #[.val (.ref d), .val (.int (Int32.ofNat B.slots.size))] [.ref d, .int (Int32.ofNat B.slots.size)])) := c1.trans (by
    refine XS.iloadN X0.here hexec rfl (hb hbytes d0) rfl ?_
    refine XS.aloadN X0.here hexec rfl (hb hbytes d1) rfl rfl ?_
    exact Steps.refl _)
  have c3 : Steps p.tables e below (s₁.setTop (entryFrame m #[.ref d, .int (Int32.ofNat B.slots.size)] 2)) (s₁.setTop (mkF m 8 #[.val (.ref d), .val (.int (Int32.ofNat B.slots.size))] [.int (lo8 (ushr (Int32.ofNat B.slots.size - Int32.ofNat B.slots.size) 31))])) := c2.trans (by
    refine X0.alen hexec hB0 rfl rfl (hb hbytes d2) ?_
    refine XS.isub X0.here hexec rfl (hb hbytes d3) rfl ?_
    refine bipushV X0.here hexec rfl 31 (hb hbytes d4) (by decide) ?_
    refine iushr X0.here hexec rfl (hb hbytes d6) rfl ?_
    refine i2b X0.here hexec rfl (hb hbytes d7) rfl ?_
    exact Steps.refl _)
  have e0 : lo8 (ushr (Int32.ofNat B.slots.size - Int32.ofNat B.slots.size) 31) = 0 := by rw [Int32.sub_self]; decide
  rw [e0] at c3
  exact ⟨s₁, some (.int 0), _, _, _, X0, rfl, rfl, rfl, (fun h => by cases h), ⟨rfl, hh0⟩, fun fs hl => c3.trans (X0.ireturnOut hexec hret rfl (Or.inr (Or.inr (Or.inl rfl))) (hb hbytes d8) hl)⟩
end CodL
/-- the String at a is Latin-1 over a new byte[] (the heap's one new cell): the low bytes of the len chars of A from o on; every cell but a is kept -/
def Got (a : Addr) (D : Cell) (fV fC : Field) (A : Cell) (o len : Nat) (r : Option Value) (s u : State) : Prop := r = none ∧ ∃ D' V : Cell, Blank "java/lang/String" a D' u ∧ Same D D' [fV.slot, fC.slot] ∧ D'.slots[fV.slot]? = some (.ref s.heap.size) ∧ D'.slots[fC.slot]? = some (.int 0) ∧ Arr .byte s.heap.size V u ∧ V.vm = .none ∧ u.vm.findClass "[B" = some V.cls ∧ V.slots.size = len ∧ (∀ j, j < len → V.slots[j]? = some (.int (lo8 (cv A (o + j))))) ∧ (∀ (y : Addr) (c : Cell), y ≠ a → s.heap[y]? = some c → u.heap[y]? = some c) ∧ u.heap.size = s.heap.size + 1
theorem Got.mv {a : Addr} {D A : Cell} {fV fC : Field} {o len : Nat} : ∀ r (U U' V V' : State), U'.heap = U.heap → V.vm.Alike V'.vm → V'.heap = V.heap → Got a D fV fC A o len r U V → Got a D fV fC A o len r U' V' :=
  fun r U U' V V' h1 hal h2 ⟨e0, D', X, a1, a2, a3, a4, a5, a6, a7, a8, a9, a10, a11⟩ => ⟨e0, D', X, a1.mv hal h2, a2, by rw [h1]; exact a3, a4, by rw [h1]; exact a5.mv hal h2, a6, by rw [hal.findClass]; exact a7, a8, a9, by rw [h1, h2]; exact a10, by rw [h1, h2]; exact a11⟩
namespace New4
def yN : MethodName := ⟨"java/lang/String", "<init>", "([CIILjava/lang/Void;)V"⟩
abbrev yB : ByteArray := jdk_42_method_149_code
theorem d0 : decode yB 0 = .ok (.aload_n 0, 1) := by decide +kernel
theorem d1 : decode yB 1 = .ok (.invokespecial 1, 3) := by decide +kernel
theorem d4 : decode yB 4 = .ok (.iload_n 3, 1) := by decide +kernel
theorem d5 : decode yB 5 = .ok (.ifCond (.ne) 22, 3) := by decide +kernel
theorem d27 : decode yB 27 = .ok (.getstatic 38, 3) := by decide +kernel
theorem d30 : decode yB 30 = .ok (.ifCond (.eq) 28, 3) := by decide +kernel
theorem d33 : decode yB 33 = .ok (.aload_n 1, 1) := by decide +kernel
theorem d34 : decode yB 34 = .ok (.iload_n 2, 1) := by decide +kernel
theorem d35 : decode yB 35 = .ok (.iload_n 3, 1) := by decide +kernel
theorem d36 : decode yB 36 = .ok (.invokestatic 177, 3) := by decide +kernel
theorem d39 : decode yB 39 = .ok (.astore 5, 2) := by decide +kernel
theorem d41 : decode yB 41 = .ok (.aload_n 0, 1) := by decide +kernel
theorem d42 : decode yB 42 = .ok (.aload 5, 2) := by decide +kernel
theorem d44 : decode yB 44 = .ok (.iload_n 3, 1) := by decide +kernel
theorem d45 : decode yB 45 = .ok (.invokestatic 47, 3) := by decide +kernel
theorem d48 : decode yB 48 = .ok (.putfield 15, 3) := by decide +kernel
theorem d51 : decode yB 51 = .ok (.aload_n 0, 1) := by decide +kernel
theorem d52 : decode yB 52 = .ok (.aload 5, 2) := by decide +kernel
theorem d54 : decode yB 54 = .ok (.putfield 9, 3) := by decide +kernel
theorem d57 : decode yB 57 = .ok (.return_, 1) := by decide +kernel
def site : List Cond := [.fieldLink "java/lang/String" 38 "java/lang/String" "COMPACT_STRINGS" "Z", Cmp3.tab, CodL.tab, .laysFinal "java/lang/String" "java/lang/String" "value" "[B", .fieldLink "java/lang/String" 9 "java/lang/String" "value" "[B", .laysFinal "java/lang/String" "java/lang/String" "coder" "B", .fieldLink "java/lang/String" 15 "java/lang/String" "coder" "B"] ++ objW "java/lang/String" 1 ++ staticW "java/lang/String" 177 Cmp3.yN ++ staticW "java/lang/String" 47 CodL.yN
def tab : Cond := tabOf yN yB 6 none site
def P (a : Addr) (D : Cell) (fV fC : Field) (b : Addr) (A : Cell) (z : Int32) (o len : Nat) (args : Array Value) (s : State) : Prop := args = #[.ref a, .ref b, .int (Int32.ofNat o), .int (Int32.ofNat len), .null] ∧ Blank "java/lang/String" a D s ∧ Found "java/lang/String" "value" "[B" fV s ∧ Found "java/lang/String" "coder" "B" fC s ∧ Ch b A s ∧ StaticIs s "java/lang/String" "COMPACT_STRINGS" "Z" (.int z) ∧ ¬ z = 0 ∧ 0 < len ∧ o + len ≤ A.slots.size ∧ len ≤ 536870912 ∧ ∀ i, i < len → ¬ 255 < cv A (o + i)
def E (a : Addr) (D : Cell) (fV fC : Field) (A : Cell) (o len : Nat) (r : Option Value) (s u : State) : Prop := Got a D fV fC A o len r s u
/-- len > 0, no char of the range above 255: a Latin-1 String of their low bytes -/
theorem law (l : Launch) (a : Addr) (D : Cell) (fV fC : Field) (b : Addr) (A : Cell) (z : Int32) (o len : Nat) : Law l yN 5 4 2 35 yB 6 none site (P a D fV fC b A z o len) (E a D fV fC A o len) [⟨a, fC.slot⟩, ⟨a, fV.slot⟩] 1 len := by
  refine Law.of_walk (plainFor_of_name (by decide +kernel)) (by decide +kernel) (by decide +kernel) (by decide) (fun _ _ h => by rw [h.1]; rfl) (fun _ U U' hal hh h => ⟨h.1, h.2.1.mv hal hh, h.2.2.1.al hal, h.2.2.2.1.al hal, h.2.2.2.2.1.mv hal hh, h.2.2.2.2.2.1.there hal hh, h.2.2.2.2.2.2⟩) (fun r U U' V V' h1 hal h2 h => Got.mv r U U' V V' h1 hal h2 h) ?_
  intro p e s m args below meth c s₁ X0 hexec hbytes hml hret hlk hnm hown hh0 W hP
  obtain ⟨rfl, hB, f1, f2, hA, s1, hz, l0, l1, l2, hp⟩ := hP
  have a31 := hA.1.2.2.2
  have c1 : Steps p.tables e below (s₁.setTop (entryFrame m #[.ref a, .ref b, .int (Int32.ofNat o), .int (Int32.ofNat len), .null] 6)) (s₁.setTop (mkF m 0 #[.val (.ref a), .val (.ref b), .val (.int (Int32.ofNat o)), .val (.int (Int32.ofNat len)), .val .null, .unset] [])) := entry rfl
  have c2 : Steps p.tables e below (s₁.setTop (entryFrame m #[.ref a, .ref b, .int (Int32.ofNat o), .int (Int32.ofNat len), .null] 6)) (s₁.setTop (mkF m 1 #[.val (.ref a), .val (.ref b), .val (.int (Int32.ofNat o)), .val (.int (Int32.ofNat len)), .val .null, .unset] [.ref a])) := c1.trans (by
    refine XS.aloadN X0.here hexec rfl (hb hbytes d0) rfl rfl ?_
    exact Steps.refl _)
  obtain ⟨T3, X3, q3, st3⟩ := X0.oinit hexec hown (wks W (objW "java/lang/String" 1)) (g := (mkF m 1 #[.val (.ref a), .val (.ref b), .val (.int (Int32.ofNat o)), .val (.int (Int32.ofNat len)), .val .null, .unset] [.ref a])) rfl (by rw [hml]; rfl) (rest := []) rfl (hb hbytes d1) (W := 0) (by show 2 * 0 + 0 ≤ _; decide) (Nat.le_of_ble_eq_true rfl) (Nat.le_of_ble_eq_true rfl)
  have hh3 := q3.trans hh0
  have c4 : Steps p.tables e below (s₁.setTop (entryFrame m #[.ref a, .ref b, .int (Int32.ofNat o), .int (Int32.ofNat len), .null] 6)) (T3.setTop (mkF m 27 #[.val (.ref a), .val (.ref b), .val (.int (Int32.ofNat o)), .val (.int (Int32.ofNat len)), .val .null, .unset] [])) := (c2.trans (st3 _ (Steps.refl _))).trans (by
    refine XS.iloadN X3.here hexec rfl (hb hbytes d4) rfl ?_
    refine XS.ifYes X3.here hexec rfl (pc0 := 5) rfl (hb hbytes d5) rfl (i0_ne_t (nz32 (by omega) l0)) (by decide) rfl ?_
    exact Steps.refl _)
  obtain ⟨T5, X5, q5, st5⟩ := X3.sget hexec hown (wk W (.fieldLink "java/lang/String" 38 "java/lang/String" "COMPACT_STRINGS" "Z")) s1 (fun _ _ h => by rw [hh3]; exact h) (g := (mkF m 27 #[.val (.ref a), .val (.ref b), .val (.int (Int32.ofNat o)), .val (.int (Int32.ofNat len)), .val .null, .unset] [])) rfl (hb hbytes d27)
  have hh5 := q5.trans hh3
  have c6 : Steps p.tables e below (s₁.setTop (entryFrame m #[.ref a, .ref b, .int (Int32.ofNat o), .int (Int32.ofNat len), .null] 6)) (T5.setTop (mkF m 30 #[.val (.ref a), .val (.ref b), .val (.int (Int32.ofNat o)), .val (.int (Int32.ofNat len)), .val .null, .unset] [.int z])) := c4.trans (st5 _ (Steps.refl _))
  have c7 : Steps p.tables e below (s₁.setTop (entryFrame m #[.ref a, .ref b, .int (Int32.ofNat o), .int (Int32.ofNat len), .null] 6)) (T5.setTop (mkF m 36 #[.val (.ref a), .val (.ref b), .val (.int (Int32.ofNat o)), .val (.int (Int32.ofNat len)), .val .null, .unset] [.int (Int32.ofNat len), .int (Int32.ofNat o), .ref b])) := c6.trans (by
    refine XS.ifNo X5.here hexec rfl (hb hbytes d30) rfl (i0_eq_f hz) ?_
    refine XS.aloadN X5.here hexec rfl (hb hbytes d33) rfl rfl ?_
    refine XS.iloadN X5.here hexec rfl (hb hbytes d34) rfl ?_
    refine XS.iloadN X5.here hexec rfl (hb hbytes d35) rfl ?_
    exact Steps.refl _)
  obtain ⟨v8, T8, X8, E8, g8⟩ := X5.callS hexec (Cmp3.law l b A o len) hown (wks W (staticW "java/lang/String" 177 Cmp3.yN)) (wk W Cmp3.tab) (W := 0) (Nat.le_of_ble_eq_true rfl) (Nat.le_of_ble_eq_true rfl) (Nat.le_refl _) (by show 0 + len ≤ len; omega) (g := (mkF m 36 #[.val (.ref a), .val (.ref b), .val (.int (Int32.ofNat o)), .val (.int (Int32.ofNat len)), .val .null, .unset] [.int (Int32.ofNat len), .int (Int32.ofNat o), .ref b])) rfl (by rw [hml]; rfl) c7 (argsL := [.ref b, .int (Int32.ofNat o), .int (Int32.ofNat len)]) (rest := []) rfl rfl (by show 2 * 0 + 0 ≤ _; decide) (hb hbytes d36) (⟨rfl, hA.mv X5.warmed.alike hh5, l1, l2, hp⟩)
  obtain ⟨e8, z8⟩ := E8
  obtain ⟨rfl, N, n1, n2, n3, n4, n5, n6⟩ := NewArr.mv _ T5 s _ _ hh5.symm (Vm.Alike.refl _) rfl e8
  rw [hh5] at z8
  have hB1 := hB.keep X8.warmed.alike (n6 _ _ hB.1)
  have hne : s.heap.size ≠ a := (Nat.ne_of_lt (Array.getElem?_eq_some_iff.mp hB.1).1).symm
  have c9 : Steps p.tables e below (s₁.setTop (entryFrame m #[.ref a, .ref b, .int (Int32.ofNat o), .int (Int32.ofNat len), .null] 6)) (T8.setTop (mkF m 39 #[.val (.ref a), .val (.ref b), .val (.int (Int32.ofNat o)), .val (.int (Int32.ofNat len)), .val .null, .unset] [.ref s.heap.size])) := g8
  have c10 : Steps p.tables e below (s₁.setTop (entryFrame m #[.ref a, .ref b, .int (Int32.ofNat o), .int (Int32.ofNat len), .null] 6)) (T8.setTop (mkF m 45 #[.val (.ref a), .val (.ref b), .val (.int (Int32.ofNat o)), .val (.int (Int32.ofNat len)), .val .null, .val (.ref s.heap.size)] [.int (Int32.ofNat N.slots.size), .ref s.heap.size, .ref a])) := by
    have hc : Steps p.tables e below (s₁.setTop (entryFrame m #[.ref a, .ref b, .int (Int32.ofNat o), .int (Int32.ofNat len), .null] 6)) (T8.setTop (mkF m 45 #[.val (.ref a), .val (.ref b), .val (.int (Int32.ofNat o)), .val (.int (Int32.ofNat len)), .val .null, .val (.ref s.heap.size)] [.int (Int32.ofNat len), .ref s.heap.size, .ref a])) := c9.trans (by
      refine XS.astore X8.here hexec rfl (hb hbytes d39) rfl rfl rfl ?_
      refine XS.aloadN X8.here hexec rfl (hb hbytes d41) rfl rfl ?_
      refine XS.aload X8.here hexec rfl (hb hbytes d42) rfl rfl ?_
      refine XS.iloadN X8.here hexec rfl (hb hbytes d44) rfl ?_
      exact Steps.refl _)
    rw [n4]; exact hc
  obtain ⟨v11, T11, X11, E11, g11⟩ := X8.callS hexec (CodL.law l s.heap.size N) hown (wks W (staticW "java/lang/String" 47 CodL.yN)) (wk W CodL.tab) (W := 1) (Nat.le_of_ble_eq_true rfl) (Nat.le_of_ble_eq_true rfl) (Nat.le_refl _) (by show 0 + len + 0 ≤ len; omega) (g := (mkF m 45 #[.val (.ref a), .val (.ref b), .val (.int (Int32.ofNat o)), .val (.int (Int32.ofNat len)), .val .null, .val (.ref s.heap.size)] [.int (Int32.ofNat N.slots.size), .ref s.heap.size, .ref a])) rfl (by rw [hml]; rfl) c10 (argsL := [.ref s.heap.size, .int (Int32.ofNat N.slots.size)]) (rest := [.ref a]) rfl rfl (by show 2 * 0 + (1 + 0) ≤ _; decide) (hb hbytes d45) (⟨rfl, n1⟩)
  obtain ⟨rfl, q11⟩ := E11
  have hB11 := hB1.mv (X8.warmed.alike.symm.trans X11.warmed.alike) q11
  have c12 : Steps p.tables e below (s₁.setTop (entryFrame m #[.ref a, .ref b, .int (Int32.ofNat o), .int (Int32.ofNat len), .null] 6)) (T11.setTop (mkF m 48 #[.val (.ref a), .val (.ref b), .val (.int (Int32.ofNat o)), .val (.int (Int32.ofNat len)), .val .null, .val (.ref s.heap.size)] [.int 0, .ref a])) := g11
  obtain ⟨T13, X13, p13, bl13, sl13, st13⟩ := X11.finit hexec hown (wk W (.fieldLink "java/lang/String" 15 "java/lang/String" "coder" "B")) (Or.inr ⟨_, (wk W (.laysFinal "java/lang/String" "java/lang/String" "coder" "B"))⟩) (Or.inl ⟨rfl, hnm⟩) f2 (Or.inl rfl) hB11 (t := .byte) (by decide +kernel) rfl (g := (mkF m 48 #[.val (.ref a), .val (.ref b), .val (.int (Int32.ofNat o)), .val (.int (Int32.ofNat len)), .val .null, .val (.ref s.heap.size)] [.int 0, .ref a])) rfl (rest := []) rfl (hb hbytes d48)
  have c14 : Steps p.tables e below (s₁.setTop (entryFrame m #[.ref a, .ref b, .int (Int32.ofNat o), .int (Int32.ofNat len), .null] 6)) (T13.setTop (mkF m 54 #[.val (.ref a), .val (.ref b), .val (.int (Int32.ofNat o)), .val (.int (Int32.ofNat len)), .val .null, .val (.ref s.heap.size)] [.ref s.heap.size, .ref a])) := (c12.trans (st13 _ (Steps.refl _))).trans (by
    refine XS.aloadN X13.here hexec rfl (hb hbytes d51) rfl rfl ?_
    refine XS.aload X13.here hexec rfl (hb hbytes d52) rfl rfl ?_
    exact Steps.refl _)
  obtain ⟨T15, X15, p15, bl15, sl15, st15⟩ := X13.finit hexec hown (wk W (.fieldLink "java/lang/String" 9 "java/lang/String" "value" "[B")) (Or.inr ⟨_, (wk W (.laysFinal "java/lang/String" "java/lang/String" "value" "[B"))⟩) (Or.inl ⟨rfl, hnm⟩) f1 (Or.inl rfl) bl13 (t := (.array .byte)) (by decide +kernel) rfl (g := (mkF m 54 #[.val (.ref a), .val (.ref b), .val (.int (Int32.ofNat o)), .val (.int (Int32.ofNat len)), .val .null, .val (.ref s.heap.size)] [.ref s.heap.size, .ref a])) rfl (rest := []) rfl (hb hbytes d54)
  have c16 : Steps p.tables e below (s₁.setTop (entryFrame m #[.ref a, .ref b, .int (Int32.ofNat o), .int (Int32.ofNat len), .null] 6)) (T15.setTop (mkF m 57 #[.val (.ref a), .val (.ref b), .val (.int (Int32.ofNat o)), .val (.int (Int32.ofNat len)), .val .null, .val (.ref s.heap.size)] [])) := c14.trans (st15 _ (Steps.refl _))
  have ap := apart (Or.inr ⟨_, (wk W (.laysFinal "java/lang/String" "java/lang/String" "value" "[B"))⟩) (Or.inr ⟨_, (wk W (.laysFinal "java/lang/String" "java/lang/String" "coder" "B"))⟩) f1 f2 (t₁ := .array .byte) (t₂ := .byte) (by decide +kernel) (by decide +kernel) (by decide)
  have al := X8.warmed.alike.symm.trans X15.warmed.alike
  have n7 : T11.heap[s.heap.size]? = some N := by rw [q11]; exact n1.1
  exact ⟨T15, none, _, _, _, X15, by simp, rfl, by omega, (fun _ => rfl), ⟨rfl, _, N, bl15, ((Same.refl D _).set _ (by simp)).set _ (by simp), sl15, (Cell.slots_setSlot_ne _ ap).trans sl13, n1.keep al (p15.other hne (p13.other hne n7)), n2, by rw [al.findClass]; exact n3, n4, n5, fun y c h1 h2 => p15.other h1 (p13.other h1 (by rw [q11]; exact n6 y c h2)), by rw [p15.2.2, p13.2.2, q11]; exact z8⟩, fun fs hl => c16.trans (X15.returnOut hexec hret (hb hbytes d57) hl)⟩
end New4
namespace New1
def yN : MethodName := ⟨"java/lang/String", "<init>", "([C)V"⟩
abbrev yB : ByteArray := jdk_42_method_3_code
theorem d0 : decode yB 0 = .ok (.aload_n 0, 1) := by decide +kernel
theorem d1 : decode yB 1 = .ok (.aload_n 1, 1) := by decide +kernel
theorem d2 : decode yB 2 = .ok (.iconst 0, 1) := by decide +kernel
theorem d3 : decode yB 3 = .ok (.aload_n 1, 1) := by decide +kernel
theorem d4 : decode yB 4 = .ok (.arraylength, 1) := by decide +kernel
theorem d5 : decode yB 5 = .ok (.aconst_null, 1) := by decide +kernel
theorem d6 : decode yB 6 = .ok (.invokespecial 27, 3) := by decide +kernel
theorem d9 : decode yB 9 = .ok (.return_, 1) := by decide +kernel
def site : List Cond := [New4.tab] ++ initW "java/lang/String" 27 New4.yN
def tab : Cond := tabOf yN yB 2 none site
def P (a : Addr) (D : Cell) (fV fC : Field) (b : Addr) (A : Cell) (z : Int32) (args : Array Value) (s : State) : Prop := args = #[.ref a, .ref b] ∧ Blank "java/lang/String" a D s ∧ Found "java/lang/String" "value" "[B" fV s ∧ Found "java/lang/String" "coder" "B" fC s ∧ Ch b A s ∧ StaticIs s "java/lang/String" "COMPACT_STRINGS" "Z" (.int z) ∧ ¬ z = 0 ∧ 0 < A.slots.size ∧ A.slots.size ≤ 536870912 ∧ ∀ i, i < A.slots.size → ¬ 255 < cv A i
def E (a : Addr) (D : Cell) (fV fC : Field) (A : Cell) (r : Option Value) (s u : State) : Prop := Got a D fV fC A 0 A.slots.size r s u
/-- new String(chars), not empty, no char above 255: a Latin-1 String of their low bytes -/
theorem law (l : Launch) (a : Addr) (D : Cell) (fV fC : Field) (b : Addr) (A : Cell) (z : Int32) : Law l yN 2 1 3 52 yB 2 none site (P a D fV fC b A z) (E a D fV fC A) [⟨a, fC.slot⟩, ⟨a, fV.slot⟩] 1 A.slots.size := by
  refine Law.of_walk (plainFor_of_name (by decide +kernel)) (by decide +kernel) (by decide +kernel) (by decide) (fun _ _ h => by rw [h.1]; rfl) (fun _ U U' hal hh h => ⟨h.1, h.2.1.mv hal hh, h.2.2.1.al hal, h.2.2.2.1.al hal, h.2.2.2.2.1.mv hal hh, h.2.2.2.2.2.1.there hal hh, h.2.2.2.2.2.2⟩) (fun r U U' V V' h1 hal h2 h => Got.mv r U U' V V' h1 hal h2 h) ?_
  intro p e s m args below meth c s₁ X0 hexec hbytes hml hret hlk hnm hown hh0 W hP
  obtain ⟨rfl, hB, f1, f2, hA, s1, hz, l0, l2, hp⟩ := hP
  have c1 : Steps p.tables e below (s₁.setTop (entryFrame m #[.ref a, .ref b] 2)) (s₁.setTop (mkF m 0 #[.val (.ref a), .val (.ref b)] [])) := entry rfl
  have c2 : Steps p.tables e below (s₁.setTop (entryFrame m #[.ref a, .ref b] 2)) (s₁.setTop (mkF m 6 #[.val (.ref a), .val (.ref b)] [.null, .int (Int32.ofNat A.slots.size), .int 0, .ref b, .ref a])) := c1.trans (by
    refine XS.aloadN X0.here hexec rfl (hb hbytes d0) rfl rfl ?_
    refine XS.aloadN X0.here hexec rfl (hb hbytes d1) rfl rfl ?_
    refine iconstV X0.here hexec rfl 0 (hb hbytes d2) (by decide) ?_
    refine XS.aloadN X0.here hexec rfl (hb hbytes d3) rfl rfl ?_
    refine X0.alen hexec (hA.1.mv X0.warmed.alike hh0) rfl rfl (hb hbytes d4) ?_
    refine XS.aconstNull X0.here hexec rfl (hb hbytes d5) ?_
    exact Steps.refl _)
  obtain ⟨v3, T3, X3, E3, g3⟩ := X0.callN hexec (New4.law l a D fV fC b A z 0 A.slots.size) rfl hown (wks W (initW "java/lang/String" 27 New4.yN)) (W New4.tab (by simp only [site, List.mem_cons, List.mem_append, true_or, or_true])) (W := 0) (Nat.le_of_ble_eq_true rfl) (Nat.le_of_ble_eq_true rfl) (Nat.le_refl _) (by show 0 + A.slots.size ≤ A.slots.size; omega) (g := (mkF m 6 #[.val (.ref a), .val (.ref b)] [.null, .int (Int32.ofNat A.slots.size), .int (Int32.ofNat 0), .ref b, .ref a])) rfl (by rw [hml]; rfl) c2 (argsL := [.ref b, .int (Int32.ofNat 0), .int (Int32.ofNat A.slots.size), .null]) (rest := []) rfl rfl (by show 2 * 0 + 0 ≤ _; decide) (hb hbytes d6) (⟨rfl, hB.mv X0.warmed.alike hh0, f1.al X0.warmed.alike, f2.al X0.warmed.alike, hA.mv X0.warmed.alike hh0, s1.there X0.warmed.alike hh0, hz, l0, by omega, l2, fun i hi => by rw [Nat.zero_add]; exact hp i hi⟩)
  have e0 := Got.mv _ s₁ s _ _ hh0.symm (Vm.Alike.refl _) rfl E3
  obtain rfl := e0.1
  have c4 : Steps p.tables e below (s₁.setTop (entryFrame m #[.ref a, .ref b] 2)) (T3.setTop (mkF m 9 #[.val (.ref a), .val (.ref b)] [])) := g3
  exact ⟨T3, none, _, _, _, X3, by simp, rfl, by omega, (fun _ => rfl), e0, fun fs hl => c4.trans (X3.returnOut hexec hret (hb hbytes d9) hl)⟩
theorem pays {l : Launch} {R : Room} {p : Program} {e : Env} {below : List Frame} {s : State} {sargs : Array Value} {len W : Nat} (a : Addr) (D : Cell) (fV fC : Field) (b : Addr) (A : Cell) (z : Int32) (htab : tab.before sargs s = true) (hfr : 4 ≤ R.frames) (hlo : W + 65 ≤ R.locals) :
    Back l R p e below s sargs yN len W (fun A₁ a₁ => A₁.cells + 1 ≤ R.cells ∧ A₁.slots + A.slots.size ≤ R.slots ∧ P a D fV fC b A z a₁ A₁.U) (fun A₁ _ v₁ B₁ => E a D fV fC A v₁ A₁.U B₁.U ∧ B₁.locs = A₁.locs ++ [⟨a, fC.slot⟩, ⟨a, fV.slot⟩] ∧ B₁.cells = A₁.cells + 1 ∧ B₁.slots = A₁.slots + A.slots.size) :=
  (law l a D fV fC b A z).pays htab hfr (by omega)
end New1
/-- the byte, read back as charAt reads it, is the char -/
theorem lo8_mask {x : Int32} (h0 : ¬ x < 0) (h1 : ¬ 255 < x) : lo8 x &&& 255 = x := by
  have t : ∀ k : Fin 256, lo8 (Int32.ofNat k.val) &&& 255 = Int32.ofNat k.val := by decide +kernel
  rw [Int32.lt_iff_toInt_lt] at h0 h1
  have e0 : (0 : Int32).toInt = 0 := rfl
  have e1 : (255 : Int32).toInt = 255 := rfl
  obtain ⟨k, hk⟩ : ∃ k : Nat, x.toInt = k := ⟨x.toInt.toNat, by omega⟩
  have hx : x = Int32.ofNat k := Int32.toInt_inj.mp (by rw [hk, Int32.toInt_ofNat_small (by omega)])
  rw [hx]
  exact t ⟨k, by omega⟩
end StrChars
namespace StrChars.Road
open Jvm Sem ClassFile Op Lib Jvm.Stand Jvm.Free Jvm.Free.XT
open Jvm.Lib.Cold (StaticIs)
abbrev ST : String := "java/lang/String"
/-- every table word that New1's law asks, flat -/
abbrev words : List Jvm.Cond := [.code New1.yN New1.yB 2 none, .initialized ST, .methodLink ST 27 New4.yN, .instanceMethod New4.yN,
  .code New4.yN New4.yB 6 none, .fieldLink ST 38 ST "COMPACT_STRINGS" "Z", .laysFinal ST ST "value" "[B", .fieldLink ST 9 ST "value" "[B", .laysFinal ST ST "coder" "B", .fieldLink ST 15 ST "coder" "B",
  .methodLink ST 1 Lib.objectInit, .instanceMethod Lib.objectInit, .code Lib.objectInit ⟨#[0xb1]⟩ 1 none, .methodLink ST 177 Cmp3.yN, .static Cmp3.yN, .methodLink ST 47 CodL.yN, .static CodL.yN,
  .code Cmp3.yN Cmp3.yB 6 (some (.array .byte)), .initialized U16, .arrayClass .byte, .methodLink U16 115 Cmp5.yN, .static Cmp5.yN, .code Cmp5.yN Cmp5.yB 7 (some .int), .code CodL.yN CodL.yB 2 (some .byte)]
theorem tab_of {a : Array Value} {s : State} (h : ∀ w ∈ words, w.before a s = true) : New1.tab.before a s = true := by
  have h5 : Cmp5.tab.before a s = true := unparts (wk h (.code Cmp5.yN Cmp5.yB 7 (some .int))) (wks h (.initialized Cmp5.yN.cls :: Cmp5.site))
  have hc : CodL.tab.before a s = true := unparts (wk h (.code CodL.yN CodL.yB 2 (some .byte))) (wks h (.initialized CodL.yN.cls :: CodL.site))
  have q5 : ∀ w ∈ Cmp5.tab :: words, w.before a s = true := fun w hw => (List.mem_cons.mp hw).elim (fun e => e ▸ h5) (h w)
  have h3 : Cmp3.tab.before a s = true := unparts (wk q5 (.code Cmp3.yN Cmp3.yB 6 (some (.array .byte)))) (wks q5 (.initialized Cmp3.yN.cls :: Cmp3.site))
  have q3 : ∀ w ∈ Cmp3.tab :: CodL.tab :: words, w.before a s = true := fun w hw => (List.mem_cons.mp hw).elim (fun e => e ▸ h3) fun hw => (List.mem_cons.mp hw).elim (fun e => e ▸ hc) (h w)
  have h4 : New4.tab.before a s = true := unparts (wk q3 (.code New4.yN New4.yB 6 none)) (wks q3 (.initialized New4.yN.cls :: New4.site))
  have q4 : ∀ w ∈ New4.tab :: words, w.before a s = true := fun w hw => (List.mem_cons.mp hw).elim (fun e => e ▸ h4) (h w)
  exact unparts (wk q4 (.code New1.yN New1.yB 2 none)) (wks q4 (.initialized New1.yN.cls :: New1.site))
/-- the words ride from the start Z to the walk's own state -/
theorem moved {Z s : State} {a0 args : Array Value} (hZ : Z.Warmed39 s.vm) (hw : ∀ d ∈ words, d.before a0 Z = true) : ∀ d ∈ words, d.before args s = true := fun d hd => by
  have q := hw d hd
  have t : ∀ d ∈ words, d = .arrayClass .byte ∨ (d.onTables && d.keepsFace) = true := by decide +kernel
  rcases t d hd with rfl | t
  · exact RoadKit.mvA hZ q
  · exact RoadKit.mv hZ q t
/-- WHAT COMES BACK, over the tables of the start Z: h the heap at the call, h' behind it -/
def Q (Z : State) (x : Addr) (A : Cell) (h : Heap) (v : Option Value) (h' : Heap) (L : List Loc) : Prop := v = none ∧ (∀ y ∈ L, y.base = x) ∧ RoadKit.Keep h h' [x] ∧ h'.size = h.size + 1 ∧ RoadKit.Exa Z h' x ST ∧ RoadKit.Fld Z h' x ST "value" "[B" (.ref h.size) ∧ RoadKit.Fld Z h' x ST "coder" "B" (.int 0) ∧
  (∃ V : Cell, RoadKit.Arr Z h' h.size V .byte ∧ V.vm = .none ∧ Z.vm.findClass "[B" = some V.cls ∧ V.slots.size = A.slots.size ∧ ∀ j, j < A.slots.size → V.slots[j]? = some (.int (lo8 (cv A j)))) ∧
  ∀ (O n d : String) (w : Value), RoadKit.Fld Z h x O n d w → RoadKit.slotOf Z O n d ≠ RoadKit.slotOf Z ST "value" "[B" → RoadKit.slotOf Z O n d ≠ RoadKit.slotOf Z ST "coder" "B" → RoadKit.Fld Z h' x O n d w
/-- **new String(chars) AT A CALL, IN THE ROAD'S FORM**: for specialBack behind newO: x the fresh String, b the char[] with the cell A -/
theorem back {p : Program} {l : Launch} {e : Env} {R : Room} {s : State} {args : Array Value} {below : List Frame} {len W : Nat} {Z : State} {a0 : Array Value} {h : Heap} (hZ : Z.Warmed39 s.vm) (hw : ∀ d ∈ words, d.before a0 Z = true) {kI : Nat} (wi : (Jvm.Cond.instantiable ST kI).before a0 Z = true)
    {x b : Addr} {A : Cell} {z : Int32} {v0 c0 : Value} (E : RoadKit.Exa Z h x ST) (V : RoadKit.Fld Z h x ST "value" "[B" v0) (C : RoadKit.Fld Z h x ST "coder" "B" c0) (K : RoadKit.Arr Z h b A .char) (hty : Typed .char A) (S : RoadKit.Sta Z h ST "COMPACT_STRINGS" "Z" (.int z)) (hz : ¬ z = 0)
    (l0 : 0 < A.slots.size) (l2 : A.slots.size ≤ 536870912) (hp : ∀ i, i < A.slots.size → ¬ 255 < cv A i) (hfr : 4 ≤ R.frames) (hlo : W + 65 ≤ R.locals) :
    Back l R p e below s args New1.yN len W (fun P a => a = #[.ref x, .ref b] ∧ P.U.heap = h ∧ P.cells + 1 ≤ R.cells ∧ P.slots + A.slots.size ≤ R.slots)
      (fun P _ v B => ∃ L, Q Z x A h v B.U.heap L ∧ B.locs = P.locs ++ L ∧ B.cells = P.cells + 1 ∧ B.slots = P.slots + A.slots.size) := by
  intro m meth c P g ig mk a X hg hsize hdg hW hn hp'
  obtain ⟨rfl, rfl, r1, r2⟩ := hp'
  have al : Z.vm.Alike P.U.vm := hZ.alike.trans X.warmed.alike
  obtain ⟨D, cfV, kV, iV, fV, hD, gV, stV, knV, obV, asV, slV⟩ := id V
  obtain ⟨D', cfC, kC, iC, fC, hD', gC, stC, -, -, asC, slC⟩ := id C
  cases hD.symm.trans hD'
  obtain ⟨D2, kD, e1, e2, e3, e4, e5⟩ := id E
  cases hD.symm.trans e1
  obtain ⟨c2, k2, i1, i2, i3, -⟩ := Cond.instantiable_spec wi
  cases e2.symm.trans i1
  cases e3.symm.trans i2
  obtain ⟨kU, u1, u2⟩ := al.2.2 _ _ e3
  have hB : Blank ST x D P.U := ⟨hD, ⟨knV, fun q hq => by rw [hq] at obV; cases obV⟩, by rw [al.findClass]; exact e2, kU, u1, by rw [u2]; exact i3, by rw [u2]; exact e5 i3⟩
  have F1 : Found ST "value" "[B" fV P.U := ⟨SBG.found_only al ⟨cfV, kV, iV, gV⟩, stV⟩
  have F2 : Found ST "coder" "B" fC P.U := ⟨SBG.found_only al ⟨cfC, kC, iC, gC⟩, stC⟩
  have hA : Ch b A P.U := ⟨⟨K.1, State.isArrayOf_alike al K.2.1, K.2.2, by omega⟩, hty⟩
  have hS : StaticIs P.U ST "COMPACT_STRINGS" "Z" (.int z) := by
    obtain ⟨cfS, iS, kS, fS, st, cS, t1, t2, t3, t4, t5, t6, t7⟩ := S
    exact StaticIs.there (s := { Z with heap := P.U.heap }) ⟨cfS, iS, kS, fS, st, cS, t1, t2, t3, t4, t5, (fun q => by rw [q] at t6; cases t6), t7⟩ al rfl
  obtain ⟨v, B, X', ⟨⟨hv, E', V', q1, q2, q3, q4, q5, q6, q7, q8, q9, q10, q11⟩, hl, hc, hs⟩, st⟩ := New1.pays x D fV fC b A z (tab_of (moved hZ hw)) hfr hlo m meth c P g ig mk _ X hg hsize hdg hW hn ⟨r1, r2, rfl, hB, F1, F2, hA, hS, hz, l0, l2, hp⟩
  have al' : Z.vm.Alike B.U.vm := hZ.alike.trans X'.warmed.alike
  have hsz : E'.slots.size = D.slots.size := by
    obtain ⟨-, -, -, kB, w1, w2, w3⟩ := q1
    obtain ⟨kB', y1, y2⟩ := al'.2.2 _ _ e3
    rw [q2.2.1] at w1
    cases w1.symm.trans y1
    rw [w3, e5 i3, y2]
  refine ⟨v, B, X', ⟨_, ⟨hv, ?_, ⟨by omega, fun y cy hy hn' => q10 y cy (by simpa using hn') hy, fun y cy hy => ?_⟩, q11, ⟨E', _, q1.1, by rw [q2.2.1]; exact e2, by rw [q2.2.1]; exact e3, by rw [q2.1]; exact obV, fun _ => by rw [hsz]; exact e5 i3⟩,
    ⟨E', cfV, kV, iV, fV, q1.1, gV, stV, by rw [q2.1]; exact knV, by rw [q2.1]; exact obV, by rw [q2.2.1]; exact asV, q3⟩, ⟨E', cfC, kC, iC, fC, q1.1, gC, stC, by rw [q2.1]; exact knV, by rw [q2.1]; exact obV, by rw [q2.2.1]; exact asC, q4⟩,
    ⟨V', ⟨q5.1, State.isArrayOf_alike al'.symm q5.2.1, q5.2.2.1⟩, q6, by rw [← al'.findClass]; exact q7, q8, fun j hj => by have := q9 j hj; rwa [Nat.zero_add] at this⟩, fun O n d w F n1 n2 => ?_⟩, hl, hc, hs⟩, st⟩
  · intro y hy
    simp only [List.mem_cons, List.not_mem_nil, or_false] at hy
    rcases hy with rfl | rfl <;> rfl
  · by_cases q : y = x
    · subst q
      cases hD.symm.trans hy
      exact ⟨E', q1.1, q2.2.1, q2.1, hsz⟩
    · exact ⟨cy, q10 y cy q hy, rfl, rfl, rfl⟩
  · obtain ⟨D3, cf, k, i, f, g1, g2, g3, g4, g5, g6, g7⟩ := F
    cases hD.symm.trans g1
    simp only [RoadKit.slotOf, g2, gV, gC, Option.map_some, Option.getD_some] at n1 n2
    exact ⟨E', cf, k, i, f, q1.1, g2, g3, by rw [q2.1]; exact g4, by rw [q2.1]; exact g5, by rw [q2.2.1]; exact g6, by rw [q2.2.2 f.slot (by simp [n1, n2])]; exact g7⟩
end StrChars.Road
namespace StrChars.Road
open Jvm Sem ClassFile Op Lib Jvm.Stand Jvm.Free Jvm.Free.XT
/-- WHAT COMES BACK, the byte[] as a list of values -/
def QA (Z : State) (x : Addr) (zn : Int32) (cs : List Int32) (h : Heap) (v : Option Value) (h' : Heap) (L : List Loc) : Prop := v = none ∧ (∀ y ∈ L, y.base = x) ∧ RoadKit.Keep h h' [x] ∧ h'.size = h.size + 1 ∧ RoadKit.Exa Z h' x ST ∧ RoadKit.Fld Z h' x ST "value" "[B" (.ref h.size) ∧ RoadKit.Fld Z h' x ST "coder" "B" (.int 0) ∧
  (∃ kb, Z.vm.findClass "[B" = some kb ∧ RoadKit.Arv Z h' h.size kb .byte zn (cs.map fun c => .int (lo8 c)) (.int 0)) ∧
  ∀ (O n d : String) (w : Value), RoadKit.Fld Z h x O n d w → RoadKit.slotOf Z O n d ≠ RoadKit.slotOf Z ST "value" "[B" → RoadKit.slotOf Z O n d ≠ RoadKit.slotOf Z ST "coder" "B" → RoadKit.Fld Z h' x O n d w
/-- **new String(chars) AT A CALL, THE ARRAYS AS LISTS**: the char[] at b holds cs, not empty, no char above 255 -/
theorem backArv {p : Program} {l : Launch} {e : Env} {R : Room} {s : State} {args : Array Value} {below : List Frame} {len W : Nat} {Z : State} {a0 : Array Value} {h : Heap} (hZ : Z.Warmed39 s.vm) (hw : ∀ d ∈ words, d.before a0 Z = true) {kI : Nat} (wi : (Jvm.Cond.instantiable ST kI).before a0 Z = true)
    {x b : Addr} {k : ClassId} {zn z : Int32} {cs : List Int32} {dv v0 c0 : Value} (E : RoadKit.Exa Z h x ST) (V : RoadKit.Fld Z h x ST "value" "[B" v0) (C : RoadKit.Fld Z h x ST "coder" "B" c0) (K : RoadKit.Arv Z h b k .char zn (cs.map Value.int) dv) (S : RoadKit.Sta Z h ST "COMPACT_STRINGS" "Z" (.int z)) (hz : ¬ z = 0)
    (hlen : zn.toNatClampNeg = cs.length) (h0 : 0 < cs.length) (hbig : cs.length ≤ 536870912) (hall : ∀ c ∈ cs, ¬ 255 < c) (hfr : 4 ≤ R.frames) (hlo : W + 65 ≤ R.locals) :
    Back l R p e below s args New1.yN len W (fun P a => a = #[.ref x, .ref b] ∧ P.U.heap = h ∧ P.cells + 1 ≤ R.cells ∧ P.slots + cs.length ≤ R.slots)
      (fun P _ v B => ∃ L, QA Z x zn cs h v B.U.heap L ∧ B.locs = P.locs ++ L ∧ B.cells = P.cells + 1 ∧ B.slots = P.slots + cs.length) := by
  obtain ⟨A, K1, K2, K3, K4, K5, K6⟩ := K
  have e : A.slots.size = cs.length := K3.trans hlen
  have hat : ∀ (i : Nat) (hi : i < cs.length), A.slots[i]? = some (.int cs[i]) := fun i hi => by rw [K5 i (by omega)]; simp [List.getD_eq_getElem?_getD, hi]
  have hcv : ∀ (i : Nat) (hi : i < cs.length), cv A i = cs[i] := fun i hi => by unfold cv; rw [hat i hi]
  have hty : Typed .char A := fun i v hv => by
    have hi : i < A.slots.size := (Array.getElem?_eq_some_iff.mp hv).1
    have q := K5 i hi
    rw [hv] at q
    rw [Option.some.inj q]
    exact K6 i hi
  refine Back.mono (back hZ hw wi E V C K1 hty S hz (by omega) (by omega) (fun i hi => by rw [hcv i (by omega)]; exact hall _ (List.getElem_mem _)) hfr hlo) (fun P a hp => ⟨hp.1, hp.2.1, hp.2.2.1, by rw [e]; exact hp.2.2.2⟩) (fun P a v B hp hq => ?_)
  obtain ⟨L, ⟨q1, q2, q3, q4, q5, q6, q7, ⟨V', v1, v2, v3, v4, v5⟩, q9⟩, hl, hc, hs⟩ := hq
  refine ⟨L, ⟨q1, q2, q3, q4, q5, q6, q7, ⟨V'.cls, v3, V', v1, rfl, by rw [v4, e, hlen], K4, fun i hi => ?_, fun i hi => ?_⟩, q9⟩, hl, hc, by rw [hs, e]⟩
  · have hi' : i < cs.length := by omega
    rw [v5 i (by omega), hcv i hi']; simp [List.getD_eq_getElem?_getD, hi']
  · have hi' : i < cs.length := by omega
    simp only [List.getD_eq_getElem?_getD, List.getElem?_map, List.getElem?_eq_getElem hi', Option.map_some, Option.getD_some]
    exact fits_lo8 _
end StrChars.Road
namespace StrChars.Road
open Jvm Sem ClassFile Op Lib Jvm.Stand Jvm.Free Jvm.Free.XT
/-- WHAT COMES BACK, in the writer's own shape -/
def QV (Z : State) (x : Addr) (N : Int32) (bs : List Int32) (h : Heap) (n0 : Nat) (v : Option Value) (h' : Heap) (L : List Loc) : Prop := v = none ∧ RoadKit.Fr n0 L ∧ RoadKit.Keep h h' [x] ∧ RoadKit.Exa Z h' x ST ∧ RoadKit.Fld Z h' x ST "coder" "B" (.int 0) ∧
  ∃ (t : Addr) (kb : ClassId), n0 ≤ t ∧ h.size ≤ t ∧ ¬ t = x ∧ RoadKit.Fld Z h' x ST "value" "[B" (.ref t) ∧ RoadKit.Arv Z h' t kb .byte N (bs.map Value.int) (.int 0)
/-- **new String(chars) AT A CALL, FOR THE WRITER**: a char[] of n known ints, each 0 to 255 -/
theorem backV {p : Program} {l : Launch} {e : Env} {R : Room} {s : State} {args : Array Value} {below : List Frame} {len W : Nat} {Z : State} {a0 : Array Value} {h : Heap} (hZ : Z.Warmed39 s.vm) (hw : ∀ d ∈ words, d.before a0 Z = true) {kI : Nat} (wi : (Jvm.Cond.instantiable ST kI).before a0 Z = true)
    {x b : Addr} {kC : ClassId} {cs bs : List Int32} {d v0 c0 : Value} {z N : Int32} {n n0 : Nat} (hx0 : n0 ≤ x) (hh0 : n0 ≤ h.size) (E : RoadKit.Exa Z h x ST) (V : RoadKit.Fld Z h x ST "value" "[B" v0) (C : RoadKit.Fld Z h x ST "coder" "B" c0) (K : RoadKit.Arv Z h b kC .char N (cs.map Value.int) d) (S : RoadKit.Sta Z h ST "COMPACT_STRINGS" "Z" (.int z)) (hz : ¬ z = 0)
    (hn : cs.length = n) (hN : N = Int32.ofNat n) (l0 : 0 < n) (l2 : n ≤ 4000) (hp : ∀ c ∈ cs, ¬ c < 0 ∧ ¬ (255 : Int32) < c) (hb : bs = cs.map (fun c => c.toInt8.toInt32)) (hfr : 4 ≤ R.frames) (hlo : W + 65 ≤ R.locals) :
    Back l R p e below s args (⟨"java/lang/String", "<init>", "([C)V"⟩ : MethodName) len W (fun P a => a = #[.ref x, .ref b] ∧ P.U.heap = h ∧ P.cells + 1 ≤ R.cells ∧ P.slots + n ≤ R.slots)
      (fun P _ v B => ∃ L, QV Z x N bs h n0 v B.U.heap L ∧ B.locs = P.locs ++ L ∧ B.cells = P.cells + 1 ∧ B.slots = P.slots + n) := by
  subst hn hN hb
  refine Back.mono (backArv hZ hw wi E V C K S hz (n32 (by omega)) l0 (by omega) (fun c hc => (hp c hc).2) hfr hlo) (fun P a hp => hp) (fun P a v B hp hq => ?_)
  obtain ⟨L, ⟨q1, q2, q3, q4, q5, q6, q7, ⟨kb, v1, v2⟩, q9⟩, hl, hc, hs⟩ := hq
  exact ⟨L, ⟨q1, fun y hy => by rw [q2 y hy]; exact hx0, q3, q5, q7, h.size, kb, hh0, Nat.le_refl _, Nat.ne_of_gt E.lt, q6, by rw [List.map_map]; exact v2⟩, hl, hc, hs⟩
end StrChars.Road
namespace StrChars
open Jvm Sem ClassFile Op Lib Jvm.Stand Jvm.Free.XT Jvm.Free.ALB Jvm.Free.JM Jvm.Free
open Jvm.Lib.Cold (StaticIs)
def hi8 (x : Int32) : Int32 := lo8 (x >>> ((8 : Int32) &&& 31))
/-- what StringUTF16.getChar makes of two bytes -/
def pairCh (u v : Int32) : Int32 := (((u &&& 255) <<< ((0 : Int32) &&& 31)) ||| ((v &&& 255) <<< ((8 : Int32) &&& 31))).toUInt32.toUInt16.toUInt32.toInt32
theorem shr0 (c : Int32) : c >>> ((0 : Int32) &&& 31) = c := by
  have e : ((0 : Int32) &&& 31) = 0 := by decide
  rw [e]
  apply Int32.toBitVec_inj.mp
  rw [Int32.toBitVec_shiftRight]
  have e1 : ((0 : Int32).toBitVec.smod 32) = 0#32 := by decide
  rw [e1, BitVec.sshiftRight_eq']
  exact BitVec.sshiftRight_zero
theorem lo8_and (x : Int32) : (lo8 x &&& 255).toBitVec.toNat = x.toBitVec.toNat % 256 := by
  have h : (lo8 x).toBitVec = (x.toBitVec.signExtend 8).signExtend 32 := by rw [lo8, Int8.toBitVec_toInt32, Int32.toBitVec_toInt8]
  rw [Int32.toBitVec_and, BitVec.toNat_and, h]
  have e : ((x.toBitVec.signExtend 8).signExtend 32).toNat % 256 = x.toBitVec.toNat % 256 := by
    rw [BitVec.toNat_signExtend]
    have hlt := x.toBitVec.isLt
    simp only [BitVec.toNat_setWidth, BitVec.toNat_signExtend]
    split <;> split <;> omega
  rw [← e]
  exact Nat.and_two_pow_sub_one_eq_mod _ 8
theorem pair_says {c : Int32} (h0 : ¬ c < 0) (h1 : ¬ 65535 < c) : pairCh (lo8 c) (hi8 c) = c := by
  rw [Int32.lt_iff_toInt_lt] at h0 h1
  have e0 : (0 : Int32).toInt = 0 := rfl
  have e1 : (65535 : Int32).toInt = 65535 := rfl
  have hc : c.toInt = c.toBitVec.toNat := by
    have := c.toBitVec.isLt
    have e : c.toInt = c.toBitVec.toInt := rfl
    rw [e] at h0 h1
    rw [e]
    rw [BitVec.toInt_eq_toNat_cond] at h0 h1 ⊢
    split at h0 <;> split <;> omega
  have hn : c.toBitVec.toNat < 65536 := by omega
  have a1 := lo8_and c
  have a2 : (hi8 c &&& 255).toBitVec.toNat = c.toBitVec.toNat / 256 := by
    rw [hi8, lo8_and]
    have e : ((8 : Int32) &&& 31) = 8 := by decide
    rw [e, Int32.toBitVec_shiftRight]
    have e2 : ((8 : Int32).toBitVec.smod 32) = 8#32 := by decide
    rw [e2, BitVec.sshiftRight_eq', BitVec.toNat_sshiftRight_of_msb_false (by rw [BitVec.msb_eq_false_iff_two_mul_lt]; omega)]
    show c.toBitVec.toNat >>> 8 % 256 = _
    rw [Nat.shiftRight_eq_div_pow]
    omega
  unfold pairCh
  apply Int32.toBitVec_inj.mp
  apply BitVec.eq_of_toNat_eq
  have f0 : ((0 : Int32) &&& 31) = 0 := by decide
  have f8 : ((8 : Int32) &&& 31) = 8 := by decide
  rw [f0, f8]
  have g : (((lo8 c &&& 255) <<< (0 : Int32)) ||| ((hi8 c &&& 255) <<< (8 : Int32))).toBitVec.toNat = c.toBitVec.toNat := by
    rw [Int32.toBitVec_or, Int32.toBitVec_shiftLeft, Int32.toBitVec_shiftLeft]
    have s0 : ((0 : Int32).toBitVec.smod 32) = 0#32 := by decide
    have s8 : ((8 : Int32).toBitVec.smod 32) = 8#32 := by decide
    rw [s0, s8, BitVec.toNat_or]
    simp only [BitVec.shiftLeft_eq', BitVec.toNat_shiftLeft, a1, a2]
    show (c.toBitVec.toNat % 256) <<< 0 % 2 ^ 32 ||| (c.toBitVec.toNat / 256) <<< 8 % 2 ^ 32 = _
    rw [Nat.shiftLeft_zero, Nat.mod_eq_of_lt (show c.toBitVec.toNat % 256 < 2 ^ 32 by omega), Nat.mod_eq_of_lt (show (c.toBitVec.toNat / 256) <<< 8 < 2 ^ 32 by rw [Nat.shiftLeft_eq]; omega), Nat.or_comm, ← Nat.shiftLeft_add_eq_or_of_lt (by omega), Nat.shiftLeft_eq]
    omega
  show BitVec.toNat (((((lo8 c &&& 255) <<< (0 : Int32)) ||| ((hi8 c &&& 255) <<< (8 : Int32))).toBitVec.setWidth 16).setWidth 32) = _
  rw [BitVec.toNat_setWidth, BitVec.toNat_setWidth, g]
  omega
end StrChars
namespace StrChars
open Jvm Sem ClassFile Op Lib Jvm.Stand Jvm.Free.XT Jvm.Free.ALB Jvm.Free.JM Jvm.Free
open Jvm.Lib.Cold (StaticIs)
theorem shr1 {n : Nat} (h : 2 * n < 2 ^ 31) : Int32.ofNat (2 * n) >>> ((1 : Int32) &&& 31) = Int32.ofNat n := by
  have e : ((1 : Int32) &&& 31) = 1 := by decide
  rw [e]
  apply Int32.toBitVec_inj.mp
  rw [Int32.toBitVec_shiftRight]
  have e1 : ((1 : Int32).toBitVec.smod 32) = 1#32 := by decide
  have hm : (BitVec.ofNat 32 (2 * n)).toNat = 2 * n := by rw [BitVec.toNat_ofNat, Nat.mod_eq_of_lt (by omega)]
  rw [e1, BitVec.sshiftRight_eq']
  apply BitVec.eq_of_toNat_eq
  show ((BitVec.ofNat 32 (2 * n)).sshiftRight 1).toNat = (BitVec.ofNat 32 n).toNat
  rw [BitVec.toNat_sshiftRight_of_msb_false (by rw [BitVec.msb_eq_false_iff_two_mul_lt, hm]; omega), hm, BitVec.toNat_ofNat, Nat.shiftRight_eq_div_pow]
  omega
/-- the array's cell V codes the n chars f 0 .. f (n - 1) by the coder cd, as the JDK does: coder 1 just where some char is above 255 -/
def Cod (cd : Int32) (n : Nat) (f : Nat → Int32) (V : Cell) : Prop := (cd = 0 ∧ V.slots.size = n ∧ ∀ j, j < n → V.slots[j]? = some (.int (lo8 (f j))) ∧ ¬ 255 < f j) ∨ (cd = 1 ∧ V.slots.size = 2 * n ∧ (∀ j, j < n → V.slots[2 * j]? = some (.int (lo8 (f j))) ∧ V.slots[2 * j + 1]? = some (.int (hi8 (f j)))) ∧ ∃ j, j < n ∧ 255 < f j)
theorem Cod.cd {cd : Int32} {n : Nat} {f : Nat → Int32} {V : Cell} (h : Cod cd n f V) : cd = 0 ∨ cd = 1 := h.imp (fun q => q.1) fun q => q.1
theorem Cod.len {cd : Int32} {n : Nat} {f : Nat → Int32} {V : Cell} (h : Cod cd n f V) (hs : V.slots.size < 2 ^ 31) : Int32.ofNat V.slots.size >>> (cd &&& 31) = Int32.ofNat n := by
  rcases h with ⟨rfl, h, -⟩ | ⟨rfl, h, -⟩
  · rw [shr0, h]
  · rw [h, shr1 (by omega)]
/-- **x is a String of the n chars f 0 .. f (n - 1)**, Latin-1 or UTF-16; its array at t has the cell V -/
def Txt (x t : Addr) (V : Cell) (cd : Int32) (n : Nat) (f : Nat → Int32) (U : State) : Prop := Exact "java/lang/String" x U ∧ Has x "java/lang/String" "value" "[B" (.ref t) U ∧ Has x "java/lang/String" "coder" "B" (.int cd) U ∧ XT.Arr .byte t V U ∧ Cod cd n f V ∧ ∀ j, j < n → ¬ f j < 0 ∧ ¬ 65535 < f j
theorem Txt.mv {x t : Addr} {V : Cell} {cd : Int32} {n : Nat} {f : Nat → Int32} {U U' : State} (h : Txt x t V cd n f U) (hal : U.vm.Alike U'.vm) (hh : U'.heap = U.heap) : Txt x t V cd n f U' := ⟨h.1.mv hal hh, h.2.1.mv hal hh, h.2.2.1.mv hal hh, h.2.2.2.1.mv hal hh, h.2.2.2.2⟩
namespace Cdr
def yN : MethodName := ⟨"java/lang/String", "coder", "()B"⟩
abbrev yB : ByteArray := jdk_42_method_152_code
theorem d0 : decode yB 0 = .ok (.getstatic 38, 3) := by decide +kernel
theorem d3 : decode yB 3 = .ok (.ifCond (.eq) 10, 3) := by decide +kernel
theorem d6 : decode yB 6 = .ok (.aload_n 0, 1) := by decide +kernel
theorem d7 : decode yB 7 = .ok (.getfield 15, 3) := by decide +kernel
theorem d10 : decode yB 10 = .ok (.goto 4, 3) := by decide +kernel
theorem d14 : decode yB 14 = .ok (.ireturn, 1) := by decide +kernel
def site : List Cond := [.fieldLink "java/lang/String" 38 "java/lang/String" "COMPACT_STRINGS" "Z", .fieldLink "java/lang/String" 15 "java/lang/String" "coder" "B"]
def tab : Cond := tabOf yN yB 1 (some .byte) site
def P (x : Addr) (cd z : Int32) (args : Array Value) (s : State) : Prop := args = #[.ref x] ∧ Has x "java/lang/String" "coder" "B" (.int cd) s ∧ (cd = 0 ∨ cd = 1) ∧ StaticIs s "java/lang/String" "COMPACT_STRINGS" "Z" (.int z) ∧ ¬ z = 0
def E (cd : Int32) (r : Option Value) (s u : State) : Prop := XT.PureE (some (.int cd)) r s u
theorem law (l : Launch) (x : Addr) (cd z : Int32) : Law l yN 1 0 0 0 yB 1 (some .byte) site (P x cd z) (E cd) [] 0 0 := by
  refine Law.of_walk (plainFor_of_name (by decide +kernel)) (by decide +kernel) (by decide +kernel) (by decide) (fun _ _ h => by rw [h.1]; rfl) (fun _ U U' hal hh h => ⟨h.1, h.2.1.mv hal hh, h.2.2.1, h.2.2.2.1.there hal hh, h.2.2.2.2⟩) (fun r U U' V V' h1 hal h2 h => XT.PureE.mv r U U' V V' h1 hal h2 h) ?_
  intro p e s m args below meth c s₁ X0 hexec hbytes hml hret hlk hnm hown hh0 W hP
  obtain ⟨rfl, hx, hc, s1, hz⟩ := hP
  have c1 : Steps p.tables e below (s₁.setTop (entryFrame m #[.ref x] 1)) (s₁.setTop (mkF m 0 #[.val (.ref x)] [])) := entry rfl
  obtain ⟨T2, X2, q2, st2⟩ := X0.sget hexec hown (wk W (.fieldLink "java/lang/String" 38 "java/lang/String" "COMPACT_STRINGS" "Z")) s1 (fun _ _ h => by rw [hh0]; exact h) (g := (mkF m 0 #[.val (.ref x)] [])) rfl (hb hbytes d0)
  have hh2 := q2.trans hh0
  have c3 : Steps p.tables e below (s₁.setTop (entryFrame m #[.ref x] 1)) (T2.setTop (mkF m 7 #[.val (.ref x)] [.ref x])) := (c1.trans (st2 _ (Steps.refl _))).trans (by
    refine XS.ifNo X2.here hexec rfl (hb hbytes d3) rfl (i0_eq_f hz) ?_
    refine XS.aloadN X2.here hexec rfl (hb hbytes d6) rfl rfl ?_
    exact Steps.refl _)
  obtain ⟨T4, X4, q4, st4⟩ := X2.hget hexec hown (wk W (.fieldLink "java/lang/String" 15 "java/lang/String" "coder" "B")) (hx.mv X2.warmed.alike hh2) (g := (mkF m 7 #[.val (.ref x)] [.ref x])) rfl (rest := []) rfl (hb hbytes d7)
  have c5 : Steps p.tables e below (s₁.setTop (entryFrame m #[.ref x] 1)) (T4.setTop (mkF m 14 #[.val (.ref x)] [.int cd])) := (c3.trans (st4 _ (Steps.refl _))).trans (by
    refine XS.goto X4.here hexec rfl (pc0 := 10) rfl (hb hbytes d10) (by decide) rfl ?_
    exact Steps.refl _)
  exact ⟨T4, some (.int cd), _, _, _, X4, rfl, rfl, rfl, (fun h => by cases h), ⟨rfl, q4.trans hh2⟩, fun fs hl => c5.trans (X4.ireturnOut hexec hret (by rcases hc with rfl | rfl <;> rfl) (Or.inr (Or.inr (Or.inl rfl))) (hb hbytes d14) hl)⟩
end Cdr
namespace Len
def yN : MethodName := ⟨"java/lang/String", "length", "()I"⟩
abbrev yB : ByteArray := jdk_42_method_54_code
theorem d0 : decode yB 0 = .ok (.aload_n 0, 1) := by decide +kernel
theorem d1 : decode yB 1 = .ok (.getfield 9, 3) := by decide +kernel
theorem d4 : decode yB 4 = .ok (.arraylength, 1) := by decide +kernel
theorem d5 : decode yB 5 = .ok (.aload_n 0, 1) := by decide +kernel
theorem d6 : decode yB 6 = .ok (.invokevirtual 335, 3) := by decide +kernel
theorem d9 : decode yB 9 = .ok (.ishr, 1) := by decide +kernel
theorem d10 : decode yB 10 = .ok (.ireturn, 1) := by decide +kernel
def site : List Cond := [.fieldLink "java/lang/String" 9 "java/lang/String" "value" "[B", Cdr.tab] ++ virtW "java/lang/String" 335 "java/lang/String" Cdr.yN Cdr.yN
def tab : Cond := tabOf yN yB 1 (some .int) site
def P (x t : Addr) (V : Cell) (cd : Int32) (n : Nat) (f : Nat → Int32) (z : Int32) (args : Array Value) (s : State) : Prop := args = #[.ref x] ∧ Txt x t V cd n f s ∧ StaticIs s "java/lang/String" "COMPACT_STRINGS" "Z" (.int z) ∧ ¬ z = 0
def E (n : Nat) (r : Option Value) (s u : State) : Prop := XT.PureE (some (.int (Int32.ofNat n))) r s u
/-- length() of a String of n chars, in either coding -/
theorem law (l : Launch) (x t : Addr) (V : Cell) (cd : Int32) (n : Nat) (f : Nat → Int32) (z : Int32) : Law l yN 1 0 1 13 yB 1 (some .int) site (P x t V cd n f z) (E n) [] 0 0 := by
  refine Law.of_walk (plainFor_of_name (by decide +kernel)) (by decide +kernel) (by decide +kernel) (by decide) (fun _ _ h => by rw [h.1]; rfl) (fun _ U U' hal hh h => ⟨h.1, h.2.1.mv hal hh, h.2.2.1.there hal hh, h.2.2.2⟩) (fun r U U' V V' h1 hal h2 h => XT.PureE.mv r U U' V V' h1 hal h2 h) ?_
  intro p e s m args below meth c s₁ X0 hexec hbytes hml hret hlk hnm hown hh0 W hP
  obtain ⟨rfl, hx, s1, hz⟩ := hP
  have v31 := hx.2.2.2.1.2.2.2
  have c1 : Steps p.tables e below (s₁.setTop (entryFrame m #[.ref x] 1)) (s₁.setTop (mkF m 1 #[.val (.ref x)] [.ref x])) := Steps.trans (entry rfl) (by
    show Steps p.tables e below (s₁.setTop (mkF m 0 #[.val (.ref x)] [])) _
    refine XS.aloadN X0.here hexec rfl (hb hbytes d0) rfl rfl ?_
    exact Steps.refl _)
  obtain ⟨T2, X2, q2, st2⟩ := X0.hget hexec hown (wk W (.fieldLink "java/lang/String" 9 "java/lang/String" "value" "[B")) (hx.mv X0.warmed.alike hh0).2.1 (g := (mkF m 1 #[.val (.ref x)] [.ref x])) rfl (rest := []) rfl (hb hbytes d1)
  have hh2 := q2.trans hh0
  have hx2 := hx.mv X2.warmed.alike hh2
  have c3 : Steps p.tables e below (s₁.setTop (entryFrame m #[.ref x] 1)) (T2.setTop (mkF m 6 #[.val (.ref x)] [.ref x, .int (Int32.ofNat V.slots.size)])) := (c1.trans (st2 _ (Steps.refl _))).trans (by
    refine X2.alen hexec hx2.2.2.2.1 rfl rfl (hb hbytes d4) ?_
    refine XS.aloadN X2.here hexec rfl (hb hbytes d5) rfl rfl ?_
    exact Steps.refl _)
  obtain ⟨v4, T4, X4, E4, g4⟩ := X2.callV hexec (Cdr.law l x cd z) hown (wks W (virtW "java/lang/String" 335 "java/lang/String" Cdr.yN Cdr.yN)) rfl (by decide) (wk W Cdr.tab) (W := 1) (Nat.le_of_ble_eq_true rfl) (Nat.le_of_ble_eq_true rfl) (Nat.le_refl _) (Nat.le_refl _) (hx2.1.fc X2.warmed.alike) hx2.1.is (g := (mkF m 6 #[.val (.ref x)] [.ref x, .int (Int32.ofNat V.slots.size)])) rfl (by rw [hml]; rfl) c3 (argsL := []) (rest := [.int (Int32.ofNat V.slots.size)]) rfl rfl (by show 2 * 0 + (1 + 0) ≤ _; decide) (hb hbytes d6) (⟨rfl, hx2.2.2.1, hx.2.2.2.2.1.cd, s1.there X2.warmed.alike hh2, hz⟩)
  obtain ⟨rfl, q4⟩ := E4
  have c5 : Steps p.tables e below (s₁.setTop (entryFrame m #[.ref x] 1)) (T4.setTop (mkF m 10 #[.val (.ref x)] [.int (Int32.ofNat V.slots.size >>> (cd &&& 31))])) := Steps.trans g4 (by
    refine ishr X4.here hexec rfl (hb hbytes d9) rfl ?_
    exact Steps.refl _)
  rw [hx.2.2.2.2.1.len v31] at c5
  exact ⟨T4, some (.int (Int32.ofNat n)), _, _, _, X4, rfl, rfl, rfl, (fun h => by cases h), ⟨rfl, q4.trans hh2⟩, fun fs hl => c5.trans (X4.ireturnOut hexec hret rfl (Or.inl rfl) (hb hbytes d10) hl)⟩
theorem pays {l : Launch} {R : Room} {p : Program} {e : Env} {below : List Frame} {s : State} {sargs : Array Value} {len W : Nat} (x t : Addr) (V : Cell) (cd : Int32) (n : Nat) (f : Nat → Int32) (z : Int32) (htab : tab.before sargs s = true) (hfr : 2 ≤ R.frames) (hlo : W + 25 ≤ R.locals) :
    Back l R p e below s sargs yN len W (fun A₁ a₁ => A₁.cells + 0 ≤ R.cells ∧ A₁.slots + 0 ≤ R.slots ∧ P x t V cd n f z a₁ A₁.U) (fun A₁ _ v₁ B₁ => E n v₁ A₁.U B₁.U ∧ B₁.locs = A₁.locs ++ [] ∧ B₁.cells = A₁.cells + 0 ∧ B₁.slots = A₁.slots + 0) :=
  (law l x t V cd n f z).pays htab hfr (by omega)
end Len
end StrChars
namespace StrChars.Road
open Jvm Sem ClassFile Op Lib Jvm.Stand Jvm.Free Jvm.Free.XT
open Jvm.Lib.Cold (StaticIs)
theorem consq {a : Array Value} {s : State} {c : Jvm.Cond} {L : List Jvm.Cond} (h0 : c.before a s = true) (h : ∀ w ∈ L, w.before a s = true) : ∀ w ∈ c :: L, w.before a s = true := fun w hw => (List.mem_cons.mp hw).elim (fun e => e ▸ h0) (h w)
/-- the words of String.length(), either coding -/
abbrev wordsLen : List Jvm.Cond := [.code Len.yN Len.yB 1 (some .int), .initialized ST, .fieldLink ST 9 ST "value" "[B", .fieldLink ST 38 ST "COMPACT_STRINGS" "Z", .fieldLink ST 15 ST "coder" "B", .code Cdr.yN Cdr.yB 1 (some .byte), .methodLink ST 335 Cdr.yN, .declares Cdr.yN, .selects ST Cdr.yN Cdr.yN, .instanceMethod Cdr.yN]
theorem tabLen_of {a : Array Value} {s : State} (h : ∀ w ∈ wordsLen, w.before a s = true) : Len.tab.before a s = true := by
  have hc : Cdr.tab.before a s = true := unparts (wk h (.code Cdr.yN Cdr.yB 1 (some .byte))) (wks h (.initialized Cdr.yN.cls :: Cdr.site))
  have q := consq hc h
  exact unparts (wk q (.code Len.yN Len.yB 1 (some .int))) (wks q (.initialized Len.yN.cls :: Len.site))
theorem movedLen {Z s : State} {a0 args : Array Value} (hZ : Z.Warmed39 s.vm) (hw : ∀ d ∈ wordsLen, d.before a0 Z = true) : ∀ d ∈ wordsLen, d.before args s = true := fun d hd => by
  have q := hw d hd
  have t : ∀ d ∈ wordsLen, d = .arrayClass .byte ∨ (d.onTables && d.keepsFace) = true := by decide +kernel
  rcases t d hd with rfl | t
  · exact RoadKit.mvA hZ q
  · exact RoadKit.mv hZ q t
/-- the bytes of the chars cs, low before high -/
def wideBytes : List Int32 → List Value
  | [] => []
  | c :: cs => .int (lo8 c) :: .int (hi8 c) :: wideBytes cs
theorem wide_lo (d : Value) : ∀ (cs : List Int32) (j : Nat), j < cs.length → (wideBytes cs).getD (2 * j) d = .int (lo8 (cs.getD j 0))
  | [], j, h => absurd h (Nat.not_lt_zero j)
  | c :: cs, 0, _ => rfl
  | c :: cs, j + 1, h => by
    have q := wide_lo d cs j (by simpa using h)
    rw [show 2 * (j + 1) = 2 * j + 1 + 1 from by omega]
    simpa [wideBytes] using q
theorem wide_hi (d : Value) : ∀ (cs : List Int32) (j : Nat), j < cs.length → (wideBytes cs).getD (2 * j + 1) d = .int (hi8 (cs.getD j 0))
  | [], j, h => absurd h (Nat.not_lt_zero j)
  | c :: cs, 0, _ => rfl
  | c :: cs, j + 1, h => by
    have q := wide_hi d cs j (by simpa using h)
    rw [show 2 * (j + 1) + 1 = 2 * j + 1 + 1 + 1 from by omega]
    simpa [wideBytes] using q
theorem low_at (d : Value) (cs : List Int32) (j : Nat) (h : j < cs.length) : (cs.map fun c => Value.int (lo8 c)).getD j d = .int (lo8 (cs.getD j 0)) := by
  simp [List.getD_eq_getElem?_getD, h]
/-- an array of N2 bytes vs codes the chars cs by the coder cd -/
def CodA (cs : List Int32) (cd N2 : Int32) (vs : List Value) : Prop := (cd = 0 ∧ N2 = Int32.ofNat cs.length ∧ vs = (cs.map fun c => Value.int (lo8 c)) ∧ ∀ c ∈ cs, ¬ 255 < c) ∨ (cd = 1 ∧ N2 = Int32.ofNat (2 * cs.length) ∧ vs = wideBytes cs ∧ ∃ c ∈ cs, 255 < c)
theorem CodA.cod {cs : List Int32} {cd N2 : Int32} {vs : List Value} {V : Cell} (h : CodA cs cd N2 vs) (hn : 2 * cs.length < 2 ^ 31) (hs : V.slots.size = N2.toNatClampNeg) (hv : RoadKit.Has V vs (.int 0)) : Cod cd cs.length (fun j => cs.getD j 0) V := by
  rcases h with ⟨rfl, rfl, rfl, h⟩ | ⟨rfl, rfl, rfl, c, hc, hw⟩
  · rw [n32 (by omega)] at hs
    exact Or.inl ⟨rfl, hs, fun j hj => ⟨by rw [hv j (by omega), low_at _ _ _ hj], by
      have e : cs.getD j 0 = cs[j] := by simp [List.getD_eq_getElem?_getD, hj]
      show ¬ 255 < cs.getD j 0
      rw [e]; exact h _ (List.getElem_mem _)⟩⟩
  · rw [n32 (by omega)] at hs
    obtain ⟨j, hj, rfl⟩ := List.getElem_of_mem hc
    exact Or.inr ⟨rfl, hs, fun j hj => ⟨by rw [hv _ (by omega), wide_lo _ _ _ hj], by rw [hv _ (by omega), wide_hi _ _ _ hj]⟩, j, hj, by
      have e : cs.getD j 0 = cs[j] := by simp [List.getD_eq_getElem?_getD, hj]
      show 255 < cs.getD j 0
      rw [e]; exact hw⟩
/-- an object of exactly java/lang/String, its two fields found: as the laws ask it -/
theorem strObj {Z U : State} {a0 : Array Value} {kI : Nat} (wi : (Jvm.Cond.instantiable ST kI).before a0 Z = true) (al : Z.vm.Alike U.vm) {x : Addr} {v0 c0 : Value} (E : RoadKit.Exa Z U.heap x ST) (V : RoadKit.Fld Z U.heap x ST "value" "[B" v0) (C : RoadKit.Fld Z U.heap x ST "coder" "B" c0) :
    ∃ (D : Cell) (fV fC : Field), Blank ST x D U ∧ Found ST "value" "[B" fV U ∧ Found ST "coder" "B" fC U ∧ D.slots[fV.slot]? = some v0 ∧ D.slots[fC.slot]? = some c0 ∧ RoadKit.slotOf Z ST "value" "[B" = fV.slot ∧ RoadKit.slotOf Z ST "coder" "B" = fC.slot := by
  obtain ⟨D, cfV, kV, iV, fV, hD, gV, stV, knV, obV, asV, slV⟩ := V
  obtain ⟨D', cfC, kC, iC, fC, hD', gC, stC, -, -, asC, slC⟩ := C
  cases hD.symm.trans hD'
  obtain ⟨D2, kD, e1, e2, e3, e4, e5⟩ := E
  cases hD.symm.trans e1
  obtain ⟨c2, k2, i1, i2, i3, -⟩ := Cond.instantiable_spec wi
  cases e2.symm.trans i1
  cases e3.symm.trans i2
  obtain ⟨kU, u1, u2⟩ := al.2.2 _ _ e3
  exact ⟨D, fV, fC, ⟨hD, ⟨knV, fun q hq => by rw [hq] at obV; cases obV⟩, by rw [al.findClass]; exact e2, kU, u1, by rw [u2]; exact i3, by rw [u2]; exact e5 i3⟩, ⟨SBG.found_only al ⟨cfV, kV, iV, gV⟩, stV⟩, ⟨SBG.found_only al ⟨cfC, kC, iC, gC⟩, stC⟩, slV, slC, by simp [RoadKit.slotOf, gV], by simp [RoadKit.slotOf, gC]⟩
theorem sta_is {Z U : State} (al : Z.vm.Alike U.vm) {C n d : String} {v : Value} (S : RoadKit.Sta Z U.heap C n d v) : StaticIs U C n d v := by
  obtain ⟨cfS, iS, kS, fS, st, cS, t1, t2, t3, t4, t5, t6, t7⟩ := S
  exact StaticIs.there (s := { Z with heap := U.heap }) ⟨cfS, iS, kS, fS, st, cS, t1, t2, t3, t4, t5, (fun q => by rw [q] at t6; cases t6), t7⟩ al rfl
/-- **length() OF SUCH A STRING** -/
theorem lenW {p : Program} {l : Launch} {e : Env} {R : Room} {s : State} {args : Array Value} {below : List Frame} {len W : Nat} {Z : State} {a0 : Array Value} {h : Heap} (hZ : Z.Warmed39 s.vm) (hw : ∀ d ∈ wordsLen, d.before a0 Z = true) {kI : Nat} (wi : (Jvm.Cond.instantiable ST kI).before a0 Z = true)
    {x t : Addr} {kb : ClassId} {cs : List Int32} {cd N2 z : Int32} {vs : List Value} (E : RoadKit.Exa Z h x ST) (V : RoadKit.Fld Z h x ST "value" "[B" (.ref t)) (C : RoadKit.Fld Z h x ST "coder" "B" (.int cd)) (K : RoadKit.Arv Z h t kb .byte N2 vs (.int 0)) (hc : CodA cs cd N2 vs) (hb : ∀ c ∈ cs, ¬ c < 0 ∧ ¬ (65535 : Int32) < c)
    (S : RoadKit.Sta Z h ST "COMPACT_STRINGS" "Z" (.int z)) (hz : ¬ z = 0) (l2 : cs.length ≤ 4000) (hfr : 2 ≤ R.frames) (hlo : W + 25 ≤ R.locals) :
    Back l R p e below s args (⟨"java/lang/String", "length", "()I"⟩ : MethodName) len W (fun P a => a = #[.ref x] ∧ P.U.heap = h ∧ P.cells + 0 ≤ R.cells ∧ P.slots + 0 ≤ R.slots)
      (fun P _ v B => ∃ L, (v = some (.int (Int32.ofNat cs.length)) ∧ L = [] ∧ B.U.heap = h) ∧ B.locs = P.locs ++ L ∧ B.cells = P.cells + 0 ∧ B.slots = P.slots + 0) := by
  obtain ⟨A, K1, K2, K3, K4, K5, K6⟩ := K
  have hcod := hc.cod (by omega) K3 K5
  intro m meth c P g ig mk a X hg hsize hdg hW hn hp'
  obtain ⟨rfl, rfl, r1, r2⟩ := hp'
  have al : Z.vm.Alike P.U.vm := hZ.alike.trans X.warmed.alike
  obtain ⟨D, fV, fC, hB, F1, F2, g1, g2, -, -⟩ := strObj wi al E V C
  have hx : Txt x t A cd cs.length (fun j => cs.getD j 0) P.U := ⟨⟨_, hB.2.2.1, D, hB.1, rfl, by cases q : D.vm <;> first | rfl | exact absurd q (hB.2.1.2 _)⟩, Has.of hB F1 g1, Has.of hB F2 g2, ⟨K1.1, State.isArrayOf_alike al K1.2.1, K1.2.2, by rcases hcod with ⟨-, q, -⟩ | ⟨-, q, -⟩ <;> omega⟩, hcod, fun j hj => by
    have e : cs.getD j 0 = cs[j] := by simp [List.getD_eq_getElem?_getD, hj]
    show ¬ cs.getD j 0 < 0 ∧ ¬ 65535 < cs.getD j 0
    rw [e]; exact hb _ (List.getElem_mem _)⟩
  obtain ⟨v, B, X', ⟨⟨hv, hh⟩, hl, hk, hs⟩, st⟩ := Len.pays x t A cd cs.length (fun j => cs.getD j 0) z (tabLen_of (movedLen hZ hw)) hfr hlo m meth c P g ig mk _ X hg hsize hdg hW hn ⟨r1, r2, rfl, hx, sta_is al S, hz⟩
  exact ⟨v, B, X', ⟨[], ⟨hv, rfl, hh⟩, hl, hk, hs⟩, st⟩
end StrChars.Road
namespace StrChars.Road
open Jvm Sem ClassFile Op Lib Jvm.Stand Jvm.Free Jvm.Free.XT
open Jvm.Lib.Cold (StaticIs)
/-- what backV says of its String, as the contracts of this text ask it: cs's low bytes, coder 0 -/
theorem codOf {cs : List Int32} {n : Nat} (hn : cs.length = n) (hb : ∀ c ∈ cs, ¬ 255 < c) : CodA cs 0 (Int32.ofNat n) ((cs.map lo8).map Value.int) := Or.inl ⟨rfl, by rw [hn], by simp [List.map_map, Function.comp_def], hb⟩
end StrChars.Road
end Jvm.Pilot.@@N@@
namespace Jvm.Pilot.@@N@@
namespace W
open Jvm Jvm.ClassFile Sem Op Lib Jvm.Free Jvm.Stand Jvm.LawKit Jvm.RoadKit Bundle
/-! the run goes on from here and ends as P says -/
def Go (p : Program) (e : Env) (below : List Frame) (P : Outcome → State → Prop) (T : State) (f : JFrame) : Prop :=
  ∃ t o, Steps p.tables e below (T.setTop f) t ∧ t.status = .running ∧ Ended t below o ∧ P o t
theorem Go.of {p : Program} {e : Env} {below : List Frame} {P : Outcome → State → Prop} {T T' : State} {f f' : JFrame}
    (h : ∀ target, Steps p.tables e below (T'.setTop f') target → Steps p.tables e below (T.setTop f) target) (k : Go p e below P T' f') : Go p e below P T f := by
  obtain ⟨t, o, h1, h2⟩ := k
  exact ⟨t, o, h t h1, h2⟩
theorem Go.cast {p : Program} {e : Env} {below : List Frame} {P : Outcome → State → Prop} {T : State} {f f' : JFrame} (q : f = f') (k : Go p e below P T f') : Go p e below P T f := q ▸ k
/-! what has moved since h0: the old objects ws at the most, and new ones -/
def Mv (h0 h : Heap) (ws : List Addr) (L : List Loc) : Prop := Keep h0 h ws ∧ ∀ y ∈ L, y.base ∈ ws ∨ h0.size ≤ y.base
section Mvs
variable {h0 h h' : Heap} {ws ws' : List Addr} {L L' : List Loc} {a : Addr} {sl : Nat} {v : Value}
theorem Mv.refl (h : Heap) (ws : List Addr) : Mv h h ws [] := ⟨Keep.refl h ws, fun _ q => nomatch q⟩
theorem Mv.le (M : Mv h0 h ws L) : h0.size ≤ h.size := M.1.1
theorem Mv.ext (M : Mv h0 h ws L) (E : Ext h h') : Mv h0 h' ws L := ⟨M.1.ext E, M.2⟩
theorem Mv.wr (M : Mv h0 h ws L) (W : Wr h h' a sl v) (q : a ∈ ws ∨ h0.size ≤ a) : Mv h0 h' ws (L ++ [⟨a, sl⟩]) :=
  ⟨M.1.wr W q, fun y hy => (List.mem_append.mp hy).elim (M.2 y) fun z => by cases List.mem_singleton.mp z; exact q⟩
theorem Mv.app (M : Mv h0 h ws L) (M' : Mv h h' ws' L') (q : ∀ x ∈ ws', x ∈ ws ∨ h0.size ≤ x) : Mv h0 h' ws (L ++ L') :=
  ⟨M.1.trans M'.1 q, fun y hy => (List.mem_append.mp hy).elim (M.2 y) fun z => (M'.2 y z).elim (q _) fun r => Or.inr (Nat.le_trans M.1.1 r)⟩
theorem Mv.app0 (M : Mv h0 h ws L) (M' : Mv h h' [] L') : Mv h0 h' ws (L ++ L') := M.app M' fun _ q => nomatch q
theorem keepE (E : Ext h h') : Keep h h' [] := (Keep.refl h []).ext E
theorem Mv.fr (M : Mv h0 h [] L) : Fr h0.size L := fun y hy => (M.2 y hy).elim (fun q => nomatch q) id
theorem Mv.ofFr {n0 : Nat} (K : Keep h0 h ws) (F : ∀ y ∈ L, y.base ∈ ws) : Mv h0 h ws L := ⟨K, fun y hy => Or.inl (F y hy)⟩
end Mvs
theorem StaKeep {Z : State} {h h' : Heap} {C n d : String} {v : Value} {ws : List Addr} (F : Sta Z h C n d v) (K : Keep h h' ws) (q : ∀ x ∈ ws, ∀ c : Cell, h[x]? = some c → c.vm.isStatics = false) : Sta Z h' C n d v := by
  obtain ⟨cf, i, k, f, st, cell, h1, h2, h3, h4, h5, h6, h7⟩ := F
  refine ⟨cf, i, k, f, st, cell, h1, h2, h3, h4, K.2.1 _ _ h5 (fun z => ?_), h6, h7⟩
  rw [q st z cell h5] at h6; cases h6
theorem staExa {Z : State} {h : Heap} {a : Addr} {C : String} (F : Exa Z h a C) : ∀ c : Cell, h[a]? = some c → c.vm.isStatics = false := fun c hc => by
  obtain ⟨c', _, h1, -, -, h4, -⟩ := F; cases h1.symm.trans hc; exact h4
theorem staArv {Z : State} {h : Heap} {a : Addr} {k : ClassId} {ty : FieldType} {n : Int32} {vs : List Value} {d : Value} (F : Arv Z h a k ty n vs d) : ∀ c : Cell, h[a]? = some c → c.vm.isStatics = false := fun c hc => by
  obtain ⟨c', A, -⟩ := F; cases A.1.symm.trans hc; exact A.plain
/-! a contract -/
def MeetsW (l : Launch) (Z : State) (y : MethodName) (bytes : ByteArray) (maxL : Nat) (ret : Option FieldType) (rm : Room) (as : Array Value) (h0 : Heap) (Q : Option Value → Heap → List Loc → Prop) : Prop :=
  ∀ ws : List Jvm.Cond, MetFree l y (head1 (Jvm.Cond.code y bytes maxL ret :: ws) rm) (fun a U => a = as ∧ Z.Warmed39 U.vm ∧ U.heap = h0) (fun _ _ _ _ _ => True)
    (fun _ U o U' => ∃ v L, o = .returned v ∧ Q v U'.heap L ∧ FrameEnd U o U' L rm.cells rm.slots)
def Pu (h : Heap) (S : Option Value → Prop) (v : Option Value) (h' : Heap) (L : List Loc) : Prop := L = [] ∧ h' = h ∧ S v
theorem MeetsW.of {l : Launch} {Z : State} {y : MethodName} {bytes : ByteArray} {maxL : Nat} {ret : Option FieldType} {rm : Room} {as : Array Value} {h0 : Heap} {Q : Option Value → Heap → List Loc → Prop} (hpl : plainFor y = true)
    (body : ∀ (p : Program) (e : Env) (s : State) (m : MethodId) (below : List Frame) (meth : Method) (c : Code) (s₁ : State) (P : Outcome → State → Prop), p.tables.exec = Jvm.exec → c.code = bytes → c.maxLocals = maxL → Z.Warmed39 s.vm → s.vm.findClass y.cls = some m.cls → meth.name = y.name → meth.sig.returnType = ret → meth.locks = false →
      Stand p l e rm s m as below meth c s₁ [] 0 0 → s₁.heap = h0 → (∀ v t L, Q v t.heap L → FrameEnd s (.returned v) t L rm.cells rm.slots → P (.returned v) t) → Go p e below P s₁ (entryFrame m as maxL)) : MeetsW l Z y bytes maxL ret rm as h0 Q := by
  intro ws
  refine MetFree.of_bodySF hpl hisR ?_
  intro p e s m args below meth c s₁ Bd hml0 hP hK
  obtain ⟨rfl, hZ, hh⟩ := hP
  exact body p e s m below meth c s₁ _ Bd.exec Bd.bytes hml0 hZ (findClass_of_methodNamed Bd.named) (name_of_methodNamed Bd.named Bd.method).1 Bd.returns (BodyLoose.notSynchronized Bd) (Stand.of_body Bd) (by rw [← hh, Bd.state]; rfl) (fun v t L hq hf => ⟨v, L, rfl, hq, hf⟩)
def MeetsI (l : Launch) (Z : State) (y : MethodName) (bytes : ByteArray) (maxL : Nat) (ret : Option FieldType) (rm : Room) (as : Array Value) (h0 : Heap) (Q : Option Value → Heap → List Loc → Prop) : Prop :=
  ∀ ws : List Jvm.Cond, MetFree l y (head1 (Jvm.Cond.code y bytes maxL ret :: ws) rm) (fun a U => a = as ∧ Z.Warmed39 U.vm ∧ U.heap = h0) (fun _ _ _ _ _ => True)
    (fun _ U o U' => ∃ v L, o = .returned v ∧ Q v U'.heap L ∧ ReturnedEndW U o U' L rm.cells rm.slots)
theorem MeetsI.of {l : Launch} {Z : State} {y : MethodName} {bytes : ByteArray} {maxL : Nat} {ret : Option FieldType} {rm : Room} {as : Array Value} {h0 : Heap} {Q : Option Value → Heap → List Loc → Prop} (hpl : plainFor y = true)
    (body : ∀ (p : Program) (e : Env) (s : State) (m : MethodId) (below : List Frame) (meth : Method) (c : Code) (s₁ : State) (P : Outcome → State → Prop), p.tables.exec = Jvm.exec → c.code = bytes → c.maxLocals = maxL → Z.Warmed39 s.vm → s.vm.findClass y.cls = some m.cls → meth.name = y.name → meth.sig.returnType = ret → meth.locks = false →
      Stand p l e rm (s.setVm s.vm) m as below meth c s₁ [] 0 0 → s₁.heap = h0 → s.Since s.vm h0.size → (∀ v t L, Q v t.heap L → ReturnedEndW s (.returned v) t L rm.cells rm.slots → P (.returned v) t) → Go p e below P s₁ (entryFrame m as maxL)) : MeetsI l Z y bytes maxL ret rm as h0 Q := by
  intro ws
  refine MetFree.of_bodySF hpl hisR ?_
  intro p e s m args below meth c s₁ Bd hml0 hP hK
  obtain ⟨rfl, hZ, hh⟩ := hP
  exact body p e s m below meth c s₁ _ Bd.exec Bd.bytes hml0 hZ (findClass_of_methodNamed Bd.named) (name_of_methodNamed Bd.named Bd.method).1 Bd.returns (BodyLoose.notSynchronized Bd) (Stand.of_body Bd) (by rw [← hh, Bd.state]; rfl) ((State.WarmedH.refl s).since _) (fun v t L hq hf => ⟨v, L, rfl, hq, hf⟩)
/-! a call that comes back -/
def BK (l : Launch) (R : Room) (p : Program) (e : Env) (below : List Frame) (s : State) (args : Array Value) (y : MethodName) (W : Nat) (as : Array Value) (h : Heap) (C S : Nat) (Q : Option Value → Heap → List Loc → Prop) : Prop :=
  Back l R p e below s args y 3 W (fun A a => a = as ∧ A.U.heap = h ∧ A.cells + C ≤ R.cells ∧ A.slots + S ≤ R.slots)
    (fun A _ v B => ∃ L, Q v B.U.heap L ∧ B.locs = A.locs ++ L ∧ B.cells = A.cells + C ∧ B.slots = A.slots + S)
section Calls
variable {p : Program} {l : Launch} {e : Env} {R : Room} {s : State} {m : MethodId} {args : Array Value} {below : List Frame} {meth : Method} {c : Code} {T : State} {locs : List Loc} {cells slots : Nat} {Z : State} {a0 : Array Value} {h : Heap} {P : Outcome → State → Prop}
theorem standUp {C S : Nat} (X : Stand p l e R s m args below meth c T locs cells slots) (hc : cells ≤ C) (hs : slots ≤ S) : Stand p l e R s m args below meth c T locs C S :=
  ⟨X.admits, X.cas, X.clock, X.frames, X.room, X.hears, X.method, X.code, X.here, X.tail, X.warmed, X.limits, X.bytes, X.same.mono hc hs⟩
theorem MeetsW.bk {y : MethodName} {bytes : ByteArray} {maxL : Nat} {ret : Option FieldType} {rm : Room} {as : Array Value} {Q : Option Value → Heap → List Loc → Prop} {W : Nat} (M : MeetsW l Z y bytes maxL ret rm as h Q) (hZ : Z.Warmed39 s.vm)
    (wc : (Jvm.Cond.code y bytes maxL ret).before a0 Z = true) (wz : (Jvm.Cond.initialized y.cls).before a0 Z = true) (hf : rm.frames + 1 ≤ R.frames) (hl : W + (maxL + 11) + rm.locals ≤ R.locals) : BK l R p e below s args y W as h rm.cells rm.slots Q :=
  backOf (M []) hZ wc wz hf hl
theorem BK.mono {y : MethodName} {W : Nat} {as : Array Value} {C S : Nat} {Q Q' : Option Value → Heap → List Loc → Prop} (B : BK l R p e below s args y W as h C S Q) (q : ∀ v h' L, Q v h' L → Q' v h' L) : BK l R p e below s args y W as h C S Q' :=
  Back.mono B (fun _ _ z => z) (fun _ _ _ _ _ ⟨L, z, r⟩ => ⟨L, q _ _ _ z, r⟩)
theorem goS (X : Stand p l e R s m args below meth c T locs cells slots) (hx : p.tables.exec = Jvm.exec) (hZ : Z.Warmed39 s.vm) {own : String} {index : Nat} {y : MethodName} {bytes : ByteArray} {maxL : Nat} {ret : Option FieldType} (hown : s.vm.findClass own = some m.cls)
    (w1 : (Jvm.Cond.methodLink own index y).before a0 Z = true) (w2 : (Jvm.Cond.static y).before a0 Z = true) (w3 : (Jvm.Cond.initialized y.cls).before a0 Z = true) (w4 : (Jvm.Cond.code y bytes maxL ret).before a0 Z = true) (hy : y.cls ≠ "java/lang/invoke/MethodHandle" ∧ y.cls ≠ "java/lang/invoke/VarHandle")
    {W C S : Nat} {as : Array Value} {Q : Option Value → Heap → List Loc → Prop} (B : BK l R p e below s args y W as h C S Q) (eT : T.heap = h) {pc : Nat} {Ls : Array Slot} {st argsL rest : List Value} (hml : Ls.size = c.maxLocals)
    (hlen : ∀ sig, parseMethodDescriptor y.desc = some sig → argsL.length = sig.parameters.length) (hst : st = argsL.reverse ++ rest) (has : argsL.toArray = as) (hd : decode c.code pc = .ok (.invokestatic index, 3)) (hW : (rest.map fun v => v.category).sum ≤ W) (hc : cells + C ≤ R.cells) (hs : slots + S ≤ R.slots)
    (k : ∀ v T' L, Stand p l e R s m args below meth c T' (locs ++ L) (cells + C) (slots + S) → Q v T'.heap L → Go p e below P T' (mkF m (pc + 3) Ls (v.toList ++ rest))) : Go p e below P T (mkF m pc Ls st) := by
  obtain ⟨v, _, ⟨T', L', k', n'⟩, -, X', ⟨Lc, hQ, l1, l2, l3⟩, stp⟩ := Jvm.LawKit.callS X hx hown (mvT hZ w1) (mvT hZ w2) (mvT hZ w3) (mvT hZ w4) hy B (g := mkF m pc Ls st) rfl hml hlen hst (by show 2 * 0 + _ ≤ _; simpa using hW) hd (fun _ _ => ⟨has, eT, hc, hs⟩)
  dsimp only [Pt.U, Pt.locs, Pt.cells, Pt.slots] at X' l1 l2 l3 stp hQ
  subst l1 l2 l3
  exact Go.of stp (k v T' Lc X' hQ)
theorem goI (X : Stand p l e R s m args below meth c T locs cells slots) (hx : p.tables.exec = Jvm.exec) (hZ : Z.Warmed39 s.vm) {own : String} {index : Nat} {y : MethodName} {bytes : ByteArray} {maxL : Nat} (hn : y.name = "<init>") (hown : s.vm.findClass own = some m.cls)
    (w1 : (Jvm.Cond.methodLink own index y).before a0 Z = true) (w2 : (Jvm.Cond.instanceMethod y).before a0 Z = true) (w4 : (Jvm.Cond.code y bytes maxL none).before a0 Z = true) (hy : y.cls ≠ "java/lang/invoke/MethodHandle" ∧ y.cls ≠ "java/lang/invoke/VarHandle")
    {W C S : Nat} {as : Array Value} {Q : Option Value → Heap → List Loc → Prop} (B : BK l R p e below s args y W as h C S Q) (eT : T.heap = h) {pc : Nat} {Ls : Array Slot} {a : Addr} {st argsL rest : List Value} (hml : Ls.size = c.maxLocals)
    (hlen : ∀ sig, parseMethodDescriptor y.desc = some sig → argsL.length = sig.parameters.length) (hst : st = argsL.reverse ++ .ref a :: rest) (has : (.ref a :: argsL).toArray = as) (hd : decode c.code pc = .ok (.invokespecial index, 3)) (hW : (rest.map fun v => v.category).sum ≤ W) (hc : cells + C ≤ R.cells) (hs : slots + S ≤ R.slots)
    (k : ∀ v T' L, Stand p l e R s m args below meth c T' (locs ++ L) (cells + C) (slots + S) → Q v T'.heap L → Go p e below P T' (mkF m (pc + 3) Ls (v.toList ++ rest))) : Go p e below P T (mkF m pc Ls st) := by
  obtain ⟨v, _, ⟨T', L', k', n'⟩, -, X', ⟨Lc, hQ, l1, l2, l3⟩, stp⟩ := X.specialBack hx hn hown (mvT hZ w1) (mvT hZ w2) (mvT hZ w4) hy B (g := mkF m pc Ls st) rfl hml (Steps.refl _) hlen hst (by show 2 * 0 + _ ≤ _; simpa using hW) hd (fun _ _ => ⟨has, eT, hc, hs⟩)
  dsimp only [Pt.U, Pt.locs, Pt.cells, Pt.slots] at X' l1 l2 l3 stp hQ
  subst l1 l2 l3
  exact Go.of (fun _ z => stp.trans z) (k v T' Lc X' hQ)
theorem goV (X : Stand p l e R s m args below meth c T locs cells slots) (hx : p.tables.exec = Jvm.exec) (hZ : Z.Warmed39 s.vm) {own K : String} {index : Nat} {y z : MethodName} (hown : s.vm.findClass own = some m.cls)
    (w1 : (Jvm.Cond.methodLink own index y).before a0 Z = true) (w2 : (Jvm.Cond.declares y).before a0 Z = true) (hnf : NotFace s y) (w3 : (Jvm.Cond.selects K y z).before a0 Z = true) (w4 : (Jvm.Cond.instanceMethod z).before a0 Z = true) (hy : y.cls ≠ "java/lang/invoke/MethodHandle" ∧ y.cls ≠ "java/lang/invoke/VarHandle")
    {W C S : Nat} {as : Array Value} {Q : Option Value → Heap → List Loc → Prop} (B : BK l R p e below s args z W as h C S Q) (eT : T.heap = h) {b : Addr} (E : Exa Z h b K) {pc : Nat} {Ls : Array Slot} {st argsL rest : List Value} (hml : Ls.size = c.maxLocals)
    (hlen : ∀ sig, parseMethodDescriptor y.desc = some sig → argsL.length = sig.parameters.length) (hst : st = argsL.reverse ++ .ref b :: rest) (has : (.ref b :: argsL).toArray = as) (hd : decode c.code pc = .ok (.invokevirtual index, 3)) (hW : (rest.map fun v => v.category).sum ≤ W) (hc : cells + C ≤ R.cells) (hs : slots + S ≤ R.slots)
    (k : ∀ v T' L, Stand p l e R s m args below meth c T' (locs ++ L) (cells + C) (slots + S) → Q v T'.heap L → Go p e below P T' (mkF m (pc + 3) Ls (v.toList ++ rest))) : Go p e below P T (mkF m pc Ls st) := by
  obtain ⟨cq, kq, qa, -, qc⟩ := isOf hZ eT E
  obtain ⟨v, _, ⟨T', L', k', n'⟩, -, X', ⟨Lc, hQ, l1, l2, l3⟩, stp⟩ := X.virtualBack hx hown (mvT hZ w1) (mvT hZ w2) hnf (mvT hZ w3) (mvT hZ w4) hy B qa qc (g := mkF m pc Ls st) rfl hml (Steps.refl _) hlen hst (by show 2 * 0 + _ ≤ _; simpa using hW) hd (fun _ _ => ⟨has, eT, hc, hs⟩)
  dsimp only [Pt.U, Pt.locs, Pt.cells, Pt.slots] at X' l1 l2 l3 stp hQ
  subst l1 l2 l3
  exact Go.of (fun _ z => stp.trans z) (k v T' Lc X' hQ)
theorem goP (X : Stand p l e R s m args below meth c T locs cells slots) (hx : p.tables.exec = Jvm.exec) (hZ : Z.Warmed39 s.vm) {own : String} {index n : Nat} {y : MethodName} {bytes : ByteArray} {maxL : Nat} {ret : Option FieldType} (hown : s.vm.findClass own = some m.cls)
    (w1 : (Jvm.Cond.methodLink own index y).before a0 Z = true) (w2 : (Jvm.Cond.instanceMethod y).before a0 Z = true) (w3 : (Jvm.Cond.privateMethod y).before a0 Z = true) (w4 : (Jvm.Cond.code y bytes maxL ret).before a0 Z = true) (wi : (Jvm.Cond.instantiable y.cls n).before a0 Z = true) (hy : y.cls ≠ "java/lang/invoke/MethodHandle" ∧ y.cls ≠ "java/lang/invoke/VarHandle")
    {W C S : Nat} {as : Array Value} {Q : Option Value → Heap → List Loc → Prop} (B : BK l R p e below s args y W as h C S Q) (eT : T.heap = h) {b : Addr} {K : String} (E : Exa Z h b K) {pc : Nat} {Ls : Array Slot} {st argsL rest : List Value} (hml : Ls.size = c.maxLocals)
    (hlen : ∀ sig, parseMethodDescriptor y.desc = some sig → argsL.length = sig.parameters.length) (hst : st = argsL.reverse ++ .ref b :: rest) (has : (.ref b :: argsL).toArray = as) (hd : decode c.code pc = .ok (.invokevirtual index, 3)) (hW : (rest.map fun v => v.category).sum ≤ W) (hc : cells + C ≤ R.cells) (hs : slots + S ≤ R.slots)
    (k : ∀ v T' L, Stand p l e R s m args below meth c T' (locs ++ L) (cells + C) (slots + S) → Q v T'.heap L → Go p e below P T' (mkF m (pc + 3) Ls (v.toList ++ rest))) : Go p e below P T (mkF m pc Ls st) := by
  have hp := Cond.privateMethod_at (mvP hZ w3 (args := args))
  obtain ⟨ci, ki, i1, i2, i3, i4, i5, -⟩ := Cond.instantiable_spec (mvT hZ wi (args := args))
  have hsel : (Jvm.Cond.selects y.cls y y).before args s = true := Jvm.Stand.selects_self_of_private i1 i2 (Bool.or_eq_false_iff.mp i4).1 hp (mvT hZ w2) hy
  obtain ⟨cq, q1, q2⟩ := E.cell
  obtain ⟨v, _, ⟨T', L', k', n'⟩, -, X', ⟨Lc, hQ, l1, l2, l3⟩, stp⟩ := X.privateBack hx hown (mvT hZ w1) (mvT hZ w2) hsel hp (mvT hZ w4) hy B (g := mkF m pc Ls st) rfl hml (Steps.refl _) (by rw [eT]; exact q1) q2 hlen hst (by show 2 * 0 + _ ≤ _; simpa using hW) hd (fun _ _ => ⟨has, eT, hc, hs⟩)
  dsimp only [Pt.U, Pt.locs, Pt.cells, Pt.slots] at X' l1 l2 l3 stp hQ
  subst l1 l2 l3
  exact Go.of (fun _ z => stp.trans z) (k v T' Lc X' hQ)
/-! pure: what a contract 'Pu' gives -/
theorem standNil {L : List Loc} (X : Stand p l e R s m args below meth c T (locs ++ L) (cells + 0) (slots + 0)) (q : L = []) : Stand p l e R s m args below meth c T locs cells slots := by
  subst q; rw [List.append_nil] at X; exact X
/-! the end -/
theorem goRet0 (X : Stand p l e R s m args below meth c T locs cells slots) (hx : p.tables.exec = Jvm.exec) (hret : meth.sig.returnType = none) (hlk : meth.locks = false) {pc : Nat} {Ls : Array Slot} {C S : Nat} {Q : Option Value → Heap → List Loc → Prop}
    (hd : decode c.code pc = .ok (.return_, 1)) (K : ∀ v t L, Q v t.heap L → FrameEnd s (.returned v) t L C S → P (.returned v) t) (hc : cells ≤ C) (hs : slots ≤ S) (eT : T.heap = h) (hq : Q none h locs) : Go p e below P T (mkF m pc Ls []) := by
  obtain ⟨fs, hr, hrun, hended, hW, hsame⟩ := X.leave (v := none) (fun _ => rfl) hlk
  exact ⟨_, _, X.returnOut hx hret hd hr, hrun, hended, K _ _ _ (by rw [← eT] at hq; exact hq) ⟨⟨_, rfl⟩, hW, hsame.mono hc hs⟩⟩
theorem goRet (X : Stand p l e R s m args below meth c T locs cells slots) (hx : p.tables.exec = Jvm.exec) {t : FieldType} (hret : meth.sig.returnType = some t) (hlk : meth.locks = false) {pc : Nat} {Ls : Array Slot} {C S : Nat} {w : Value} {rest : List Value} {i : Instr} {Q : Option Value → Heap → List Loc → Prop}
    (hn : narrow t w = w) (hi : (i = .ireturn ∧ (t = .int ∨ t = .boolean ∨ t = .byte ∨ t = .char ∨ t = .short) ∧ ∃ z, w = .int z) ∨ (i = .lreturn ∧ t = .long ∧ ∃ z, w = .long z) ∨ (i = .dreturn ∧ t = .double ∧ ∃ z, w = .double z) ∨ (i = .freturn ∧ t = .float ∧ ∃ z, w = .float z) ∨ (i = .areturn ∧ t.isReference = true ∧ w.isRef = true))
    (hd : decode c.code pc = .ok (i, 1)) (K : ∀ v t L, Q v t.heap L → FrameEnd s (.returned v) t L C S → P (.returned v) t) (hc : cells ≤ C) (hs : slots ≤ S) (eT : T.heap = h) (hq : Q (some w) h locs) : Go p e below P T (mkF m pc Ls (w :: rest)) := by
  obtain ⟨fs, hr, hrun, hended, hW, hsame⟩ := X.leave (v := some w) (fun q => by rw [hret] at q; cases q) hlk
  exact ⟨_, _, retOut X hx hret hn hi hd hr, hrun, hended, K _ _ _ (by rw [← eT] at hq; exact hq) ⟨⟨_, rfl⟩, hW, hsame.mono hc hs⟩⟩
theorem goRetI (X : Stand p l e R s m args below meth c T locs cells slots) (hx : p.tables.exec = Jvm.exec) {t : FieldType} (hret : meth.sig.returnType = some t) (hlk : meth.locks = false) {pc : Nat} {Ls : Array Slot} {C S : Nat} {z : Int32} {rest : List Value} {Q : Option Value → Heap → List Loc → Prop}
    (hn : narrow t (.int z) = .int z) (ht : t = .int ∨ t = .boolean ∨ t = .byte ∨ t = .char ∨ t = .short) (hd : decode c.code pc = .ok (.ireturn, 1)) (K : ∀ v t L, Q v t.heap L → FrameEnd s (.returned v) t L C S → P (.returned v) t) (hc : cells ≤ C) (hs : slots ≤ S) (eT : T.heap = h) (hq : Q (some (.int z)) h locs) : Go p e below P T (mkF m pc Ls (.int z :: rest)) :=
  goRet X hx hret hlk hn (Or.inl ⟨rfl, ht, z, rfl⟩) hd K hc hs eT hq
theorem goRetJ (X : Stand p l e R s m args below meth c T locs cells slots) (hx : p.tables.exec = Jvm.exec) (hret : meth.sig.returnType = some .long) (hlk : meth.locks = false) {pc : Nat} {Ls : Array Slot} {C S : Nat} {z : Int64} {rest : List Value} {Q : Option Value → Heap → List Loc → Prop}
    (hd : decode c.code pc = .ok (.lreturn, 1)) (K : ∀ v t L, Q v t.heap L → FrameEnd s (.returned v) t L C S → P (.returned v) t) (hc : cells ≤ C) (hs : slots ≤ S) (eT : T.heap = h) (hq : Q (some (.long z)) h locs) : Go p e below P T (mkF m pc Ls (.long z :: rest)) :=
  goRet X hx hret hlk rfl (Or.inr (Or.inl ⟨rfl, rfl, z, rfl⟩)) hd K hc hs eT hq
theorem goRetR (X : Stand p l e R s m args below meth c T locs cells slots) (hx : p.tables.exec = Jvm.exec) {t : FieldType} (hret : meth.sig.returnType = some t) (ht : t.isReference = true) (hlk : meth.locks = false) {pc : Nat} {Ls : Array Slot} {C S : Nat} {w : Value} {rest : List Value} {Q : Option Value → Heap → List Loc → Prop}
    (hw : w.isRef = true) (hn : narrow t w = w) (hd : decode c.code pc = .ok (.areturn, 1)) (K : ∀ v t L, Q v t.heap L → FrameEnd s (.returned v) t L C S → P (.returned v) t) (hc : cells ≤ C) (hs : slots ≤ S) (eT : T.heap = h) (hq : Q (some w) h locs) : Go p e below P T (mkF m pc Ls (w :: rest)) :=
  goRet X hx hret hlk hn (Or.inr (Or.inr (Or.inr (Or.inr ⟨rfl, ht, hw⟩)))) hd K hc hs eT hq
/-! the wide end: where a String constant may have been interned -/
theorem goRetW {vm1 : Vm} {k1 : Nat} (X : Stand p l e R (s.setVm vm1) m args below meth c T locs cells slots) (hx : p.tables.exec = Jvm.exec) (hS : s.Since vm1 k1) (hk : k1 ≤ h.size) {t : FieldType} (hret : meth.sig.returnType = some t) (hlk : meth.locks = false) {pc : Nat} {Ls : Array Slot} {C S : Nat} {w : Value} {rest : List Value} {i : Instr} {Q : Option Value → Heap → List Loc → Prop}
    (hn : narrow t w = w) (hi : (i = .ireturn ∧ (t = .int ∨ t = .boolean ∨ t = .byte ∨ t = .char ∨ t = .short) ∧ ∃ z, w = .int z) ∨ (i = .lreturn ∧ t = .long ∧ ∃ z, w = .long z) ∨ (i = .dreturn ∧ t = .double ∧ ∃ z, w = .double z) ∨ (i = .freturn ∧ t = .float ∧ ∃ z, w = .float z) ∨ (i = .areturn ∧ t.isReference = true ∧ w.isRef = true))
    (hd : decode c.code pc = .ok (i, 1)) (K : ∀ v t L, Q v t.heap L → ReturnedEndW s (.returned v) t L C S → P (.returned v) t) (hc : cells ≤ C) (hs : slots ≤ S) (eT : T.heap = h) (hq : Q (some w) h locs) : Go p e below P T (mkF m pc Ls (w :: rest)) := by
  obtain ⟨fs, hr, hrun, hended, h1, h2, h3, h4⟩ := X.leaveW hS (by rw [eT]; exact hk) (v := some w) (fun q => by rw [hret] at q; cases q) hlk
  exact ⟨_, _, retOut X hx hret hn hi hd hr, hrun, hended, K _ _ _ (by rw [← eT] at hq; exact hq) ⟨h1, h2, h3, h4.mono hc hs⟩⟩
theorem goRetIW {vm1 : Vm} {k1 : Nat} (X : Stand p l e R (s.setVm vm1) m args below meth c T locs cells slots) (hx : p.tables.exec = Jvm.exec) (hS : s.Since vm1 k1) (hk : k1 ≤ h.size) {t : FieldType} (hret : meth.sig.returnType = some t) (hlk : meth.locks = false) {pc : Nat} {Ls : Array Slot} {C S : Nat} {z : Int32} {rest : List Value} {Q : Option Value → Heap → List Loc → Prop}
    (hn : narrow t (.int z) = .int z) (ht : t = .int ∨ t = .boolean ∨ t = .byte ∨ t = .char ∨ t = .short) (hd : decode c.code pc = .ok (.ireturn, 1)) (K : ∀ v t L, Q v t.heap L → ReturnedEndW s (.returned v) t L C S → P (.returned v) t) (hc : cells ≤ C) (hs : slots ≤ S) (eT : T.heap = h) (hq : Q (some (.int z)) h locs) : Go p e below P T (mkF m pc Ls (.int z :: rest)) :=
  goRetW X hx hS hk hret hlk hn (Or.inl ⟨rfl, ht, z, rfl⟩) hd K hc hs eT hq
theorem goRetRW {vm1 : Vm} {k1 : Nat} (X : Stand p l e R (s.setVm vm1) m args below meth c T locs cells slots) (hx : p.tables.exec = Jvm.exec) (hS : s.Since vm1 k1) (hk : k1 ≤ h.size) {t : FieldType} (hret : meth.sig.returnType = some t) (ht : t.isReference = true) (hlk : meth.locks = false) {pc : Nat} {Ls : Array Slot} {C S : Nat} {w : Value} {rest : List Value} {Q : Option Value → Heap → List Loc → Prop}
    (hw : w.isRef = true) (hn : narrow t w = w) (hd : decode c.code pc = .ok (.areturn, 1)) (K : ∀ v t L, Q v t.heap L → ReturnedEndW s (.returned v) t L C S → P (.returned v) t) (hc : cells ≤ C) (hs : slots ≤ S) (eT : T.heap = h) (hq : Q (some w) h locs) : Go p e below P T (mkF m pc Ls (w :: rest)) :=
  goRetW X hx hS hk hret hlk hn (Or.inr (Or.inr (Or.inr (Or.inr ⟨rfl, ht, hw⟩)))) hd K hc hs eT hq
theorem goRet0W {vm1 : Vm} {k1 : Nat} (X : Stand p l e R (s.setVm vm1) m args below meth c T locs cells slots) (hx : p.tables.exec = Jvm.exec) (hS : s.Since vm1 k1) (hk : k1 ≤ h.size) (hret : meth.sig.returnType = none) (hlk : meth.locks = false) {pc : Nat} {Ls : Array Slot} {C S : Nat} {Q : Option Value → Heap → List Loc → Prop}
    (hd : decode c.code pc = .ok (.return_, 1)) (K : ∀ v t L, Q v t.heap L → ReturnedEndW s (.returned v) t L C S → P (.returned v) t) (hc : cells ≤ C) (hs : slots ≤ S) (eT : T.heap = h) (hq : Q none h locs) : Go p e below P T (mkF m pc Ls []) := by
  obtain ⟨fs, hr, hrun, hended, h1, h2, h3, h4⟩ := X.leaveW hS (by rw [eT]; exact hk) (v := none) (fun _ => rfl) hlk
  exact ⟨_, _, X.returnOut hx hret hd hr, hrun, hended, K _ _ _ (by rw [← eT] at hq; exact hq) ⟨h1, h2, h3, h4.mono hc hs⟩⟩
theorem lremM {g : JFrame} {target : State} (X : Stand p l e R s m args below meth c T locs cells slots) (hx : p.tables.exec = Jvm.exec) (hg : g.method = m) {x y : Int64} {rest : List Value} (hd : decode c.code g.pc = .ok (.lrem, 1)) (hs : g.stack = .long y :: .long x :: rest) (hy : y ≠ 0)
    (hr : Steps p.tables e below (T.setTop { g with pc := g.pc + 1, stack := .long (x % y) :: rest }) target) : Steps p.tables e below (T.setTop g) target := by
  have q : x - x / y * y = x % y := lrem_mod x y
  exact XS.lrem X.here hx hg hd hs hy (by rw [q]; exact hr)
end Calls
theorem refcat {v : Value} (h : v.isRef = true) : v.category = 1 := by rcases ref_cases h with rfl | ⟨a, rfl⟩ <;> rfl
theorem narref {t : FieldType} {v : Value} (h : v.isRef = true) : narrow t v = v := by rcases ref_cases h with rfl | ⟨a, rfl⟩ <;> cases t <;> rfl
theorem fitrefO {C : String} {v : Value} (h : v.isRef = true) : fits (.object C) v = true := by rcases ref_cases h with rfl | ⟨a, rfl⟩ <;> rfl
theorem fitrefA {t : FieldType} {v : Value} (h : v.isRef = true) : fits (.array t) v = true := by rcases ref_cases h with rfl | ⟨a, rfl⟩ <;> rfl
/-! booleans -/
def bi (φ : Prop) [Decidable φ] : Int32 := if φ then 1 else 0
theorem bi_t {φ : Prop} [Decidable φ] (h : φ) : bi φ = 1 := if_pos h
theorem bi_f {φ : Prop} [Decidable φ] (h : ¬ φ) : bi φ = 0 := if_neg h
theorem bi_ne {φ : Prop} [Decidable φ] (h : φ) : ¬ bi φ = 0 := by rw [bi_t h]; decide
theorem narrow_bi {φ : Prop} [Decidable φ] : narrow .boolean (.int (bi φ)) = .int (bi φ) := by unfold bi; split <;> rfl
end W
end Jvm.Pilot.@@N@@
namespace Jvm.Pilot.@@N@@
namespace W
open Jvm Jvm.ClassFile Sem Op Lib Jvm.Free Jvm.Stand Jvm.LawKit Jvm.RoadKit Bundle
/-! a String by its chars -/
def Str (Z : State) (h : Heap) (a t : Addr) (cs : List Int32) : Prop := ∃ (kb : ClassId) (cd N : Int32) (vs : List Value), Exa Z h a "java/lang/String" ∧ Fld Z h a "java/lang/String" "value" "[B" (.ref t) ∧ Fld Z h a "java/lang/String" "coder" "B" (.int cd) ∧ Arv Z h t kb .byte N vs (.int 0) ∧ StrChars.Road.CodA cs cd N vs ∧ (∀ c ∈ cs, ¬ c < 0 ∧ ¬ (65535 : Int32) < c) ∧ cs.length ≤ 4000
section Strs
variable {Z : State} {h h' : Heap} {a t : Addr} {cs : List Int32} {ws : List Addr}
theorem Str.keep (F : Str Z h a t cs) (K : Keep h h' ws) (q : a ∉ ws) (r : t ∉ ws) : Str Z h' a t cs := by
  obtain ⟨kb, cd, N, vs, E, V, C, A, g⟩ := F
  exact ⟨kb, cd, N, vs, E.keep K, V.keep K q, C.keep K q, A.keep K r, g⟩
theorem Str.exa (F : Str Z h a t cs) : Exa Z h a "java/lang/String" := by obtain ⟨kb, cd, N, vs, E, -⟩ := F; exact E
theorem Str.lt1 (F : Str Z h a t cs) : a < h.size := F.exa.lt
theorem Str.lt2 (F : Str Z h a t cs) : t < h.size := by obtain ⟨kb, cd, N, vs, E, V, C, A, g⟩ := F; exact A.lt
end Strs
theorem up255 {cs : List Int32} (h : ∀ c ∈ cs, ¬ c < 0 ∧ ¬ (255 : Int32) < c) : ∀ c ∈ cs, ¬ c < 0 ∧ ¬ (65535 : Int32) < c := fun c hc => ⟨(h c hc).1, fun q => (h c hc).2 (by rw [Int32.lt_iff_toInt_lt] at q ⊢; have e1 : (65535 : Int32).toInt = 65535 := rfl; have e2 : (255 : Int32).toInt = 255 := rfl; omega)⟩
theorem nat32 {n : Nat} (h : n < 2 ^ 31) : (Int32.ofNat n).toNatClampNeg = n := by
  show (Int32.ofNat n).toInt.toNat = n
  rw [Int32.toInt_ofNat_of_lt h]; rfl
theorem str1 {Z : State} {h : Heap} {a t : Addr} {k : ClassId} {c : Int32} (hp : ¬ c < 0 ∧ ¬ (255 : Int32) < c) (E : Exa Z h a "java/lang/String") (V : Fld Z h a "java/lang/String" "value" "[B" (.ref t)) (C : Fld Z h a "java/lang/String" "coder" "B" (.int (0 : Int32))) (A : Arv Z h t k .byte (1 : Int32) [.int (c.toInt8.toInt32)] (.int (0 : Int32))) : Str Z h a t [c] := by
  have hq : ∀ d ∈ [c], ¬ d < 0 ∧ ¬ (255 : Int32) < d := fun d hd => by cases List.mem_singleton.mp hd; exact hp
  exact ⟨k, 0, 1, _, E, V, C, A, Or.inl ⟨rfl, rfl, rfl, fun d hd => (hq d hd).2⟩, up255 hq, by simp⟩
theorem nar_b (x : Int32) : nar .byte (x.toInt8.toInt32) = x.toInt8.toInt32 := by
  show x.toInt8.toInt32.toInt8.toInt32 = _
  simp
section StrCalls
variable {p : Program} {l : Launch} {e : Env} {R : Room} {s : State} {args : Array Value} {below : List Frame} {W : Nat} {Z : State} {a0 : Array Value} {h : Heap}
theorem newStr (hZ : Z.Warmed39 s.vm) (hw : ∀ d ∈ StrChars.Road.words, d.before a0 Z = true) {kI : Nat} (wi : (Jvm.Cond.instantiable "java/lang/String" kI).before a0 Z = true) {x b : Addr} {k : ClassId} {zn z : Int32} {cs : List Int32} {dv v0 c0 : Value} (E : Exa Z h x "java/lang/String") (V : Fld Z h x "java/lang/String" "value" "[B" v0) (C : Fld Z h x "java/lang/String" "coder" "B" c0)
    {vs : List Value} (A : Arv Z h b k .char zn vs dv) (hvs : vs = cs.map Value.int) (S : Sta Z h "java/lang/String" "COMPACT_STRINGS" "Z" (.int z)) (hz : ¬ z = 0) {n : Nat} (hn : cs.length = n) (hN : zn = Int32.ofNat n) (l0 : 0 < n) (l2 : n ≤ 4000) (hp : ∀ c ∈ cs, ¬ c < 0 ∧ ¬ (255 : Int32) < c) (hfr : 4 ≤ R.frames) (hlo : W + 65 ≤ R.locals) :
    BK l R p e below s args (⟨"java/lang/String", "<init>", "([C)V"⟩ : MethodName) W #[.ref x, .ref b] h 1 n (fun v h' L => v = none ∧ Mv h h' [x] L ∧ ∃ t, h.size ≤ t ∧ Str Z h' x t cs) := by
  subst hn hN hvs
  have hlen : (Int32.ofNat cs.length).toNatClampNeg = cs.length := nat32 (by omega)
  refine BK.mono (Q := StrChars.Road.QA Z x (Int32.ofNat cs.length) cs h) (StrChars.Road.backArv hZ hw wi E V C A S hz hlen l0 (by omega) (fun c hc => (hp c hc).2) hfr hlo) ?_
  intro v h' L hq
  obtain ⟨q1, q2, q3, q4, q5, q6, q7, ⟨kb, v1, v2⟩, q9⟩ := hq
  refine ⟨q1, ⟨q3, fun y hy => Or.inl (by rw [q2 y hy]; exact List.mem_singleton.mpr rfl)⟩, h.size, Nat.le_refl _, kb, 0, _, _, q5, q6, q7, v2, ?_, up255 hp, l2⟩
  have := StrChars.Road.codOf (cs := cs) rfl (fun c hc => (hp c hc).2)
  rw [List.map_map] at this
  exact this
theorem lenStr (hZ : Z.Warmed39 s.vm) (hw : ∀ d ∈ StrChars.Road.wordsLen, d.before a0 Z = true) {kI : Nat} (wi : (Jvm.Cond.instantiable "java/lang/String" kI).before a0 Z = true) {x t : Addr} {cs : List Int32} {z : Int32} (F : Str Z h x t cs) (S : Sta Z h "java/lang/String" "COMPACT_STRINGS" "Z" (.int z)) (hz : ¬ z = 0) (hfr : 2 ≤ R.frames) (hlo : W + 25 ≤ R.locals) :
    BK l R p e below s args (⟨"java/lang/String", "length", "()I"⟩ : MethodName) W #[.ref x] h 0 0 (Pu h (fun v => v = some (.int (Int32.ofNat cs.length)))) := by
  obtain ⟨kb, cd, N, vs, E, V, C, A, g1, g2, g3⟩ := F
  exact BK.mono (Q := fun v h' L => v = some (.int (Int32.ofNat cs.length)) ∧ L = [] ∧ h' = h) (StrChars.Road.lenW hZ hw wi E V C A g1 g2 S hz g3 hfr hlo) fun v h' L hq => ⟨hq.2.1, hq.2.2, hq.1⟩
end StrCalls
end W
end Jvm.Pilot.@@N@@
namespace Jvm.Pilot.@@N@@
namespace W
open Jvm Jvm.ClassFile Sem Op Lib Jvm.Free Jvm.Stand Jvm.LawKit Jvm.RoadKit Bundle
/-! contracts under the invariant on held String constants -/
def MeetsH (l : Launch) (Z : State) (EL : List (String × Nat)) (y : MethodName) (bytes : ByteArray) (maxL : Nat) (ret : Option FieldType) (rm : Room) (as : Array Value) (h0 : Heap) (Q : Option Value → Heap → List Loc → Prop) : Prop :=
  ∀ ws : List Jvm.Cond, MetFree l y (head1 (Jvm.Cond.code y bytes maxL ret :: ws) rm) (fun a U => a = as ∧ Z.Warmed39 U.vm ∧ U.heap = h0 ∧ CHv Z EL U.vm h0) (fun _ _ _ _ _ => True)
    (fun _ U o U' => ∃ v L, o = .returned v ∧ Q v U'.heap L ∧ CHr Z EL U.vm U.heap U'.vm U'.heap ∧ ReturnedEndW U o U' L rm.cells rm.slots)
theorem MeetsH.of {l : Launch} {Z : State} {EL : List (String × Nat)} {y : MethodName} {bytes : ByteArray} {maxL : Nat} {ret : Option FieldType} {rm : Room} {as : Array Value} {h0 : Heap} {Q : Option Value → Heap → List Loc → Prop} (hpl : plainFor y = true)
    (body : ∀ (p : Program) (e : Env) (s : State) (m : MethodId) (below : List Frame) (meth : Method) (c : Code) (s₁ : State) (P : Outcome → State → Prop), p.tables.exec = Jvm.exec → c.code = bytes → c.maxLocals = maxL → Z.Warmed39 s.vm → s.vm.findClass y.cls = some m.cls → meth.name = y.name → meth.sig.returnType = ret → meth.locks = false →
      Stand p l e rm (s.setVm s.vm) m as below meth c s₁ [] 0 0 → s₁.heap = h0 → s.Since s.vm h0.size → CHr Z EL s.vm h0 s.vm h0 → (∀ v t L, Q v t.heap L → CHr Z EL s.vm h0 t.vm t.heap → ReturnedEndW s (.returned v) t L rm.cells rm.slots → P (.returned v) t) → Go p e below P s₁ (entryFrame m as maxL)) : MeetsH l Z EL y bytes maxL ret rm as h0 Q := by
  intro ws
  refine MetFree.of_bodySF hpl hisR ?_
  intro p e s m args below meth c s₁ Bd hml0 hP hK
  obtain ⟨rfl, hZ, hh, hH⟩ := hP
  exact body p e s m below meth c s₁ _ Bd.exec Bd.bytes hml0 hZ (findClass_of_methodNamed Bd.named) (name_of_methodNamed Bd.named Bd.method).1 Bd.returns (BodyLoose.notSynchronized Bd) (Stand.of_body Bd) (by rw [← hh, Bd.state]; rfl) ((State.WarmedH.refl s).since _) (CHr.refl hH) (fun v t L hq hc hf => ⟨v, L, rfl, hq, by rw [hh]; exact hc, hf⟩)
section HeldCalls
variable {p : Program} {l : Launch} {e : Env} {R : Room} {s : State} {m : MethodId} {args : Array Value} {below : List Frame} {meth : Method} {c : Code} {T : State} {locs : List Loc} {cells slots : Nat} {Z : State} {a0 : Array Value} {h h0 : Heap} {P : Outcome → State → Prop} {EL : List (String × Nat)} {vm0 : Vm} {k0 : Nat}
theorem goSH (X : Stand p l e R (s.setVm vm0) m args below meth c T locs cells slots) (hx : p.tables.exec = Jvm.exec) (hZ : Z.Warmed39 vm0) {own : String} {index : Nat} {y : MethodName} {bytes : ByteArray} {maxL : Nat} {ret : Option FieldType} (hown : vm0.findClass own = some m.cls)
    (w1 : (Jvm.Cond.methodLink own index y).before a0 Z = true) (w2 : (Jvm.Cond.static y).before a0 Z = true) (w3 : (Jvm.Cond.initialized y.cls).before a0 Z = true) (w4 : (Jvm.Cond.code y bytes maxL ret).before a0 Z = true) (hy : y.cls ≠ "java/lang/invoke/MethodHandle" ∧ y.cls ≠ "java/lang/invoke/VarHandle")
    {W C S : Nat} {rm : Room} {as : Array Value} {Q : Option Value → Heap → List Loc → Prop} (M : MeetsH l Z EL y bytes maxL ret rm as h Q) (hC : rm.cells = C) (hSl : rm.slots = S) (hf : rm.frames + 1 ≤ R.frames) (hl : W + (maxL + 11) + rm.locals ≤ R.locals) (hS : s.Since vm0 k0) (hk : k0 ≤ h.size) (hEL : EW Z a0 EL) (H : CHv Z EL vm0 h) (eT : T.heap = h) {pc : Nat} {Ls : Array Slot} {st argsL rest : List Value} (hml : Ls.size = c.maxLocals)
    (hlen : ∀ sig, parseMethodDescriptor y.desc = some sig → argsL.length = sig.parameters.length) (hst : st = argsL.reverse ++ rest) (has : argsL.toArray = as) (hd : decode c.code pc = .ok (.invokestatic index, 3)) (hW : (rest.map fun v => v.category).sum ≤ W) (hc : cells + C ≤ R.cells) (hs : slots + S ≤ R.slots)
    (k : ∀ v T' L, Stand p l e R (s.setVm T'.vm) m args below meth c T' (locs ++ L) (cells + C) (slots + S) → Q v T'.heap L → s.Since T'.vm T'.heap.size → Z.Warmed39 (s.setVm T'.vm).vm → (s.setVm T'.vm).vm.findClass own = some m.cls → CHr Z EL vm0 h T'.vm T'.heap → Go p e below P T' (mkF m (pc + 3) Ls (v.toList ++ rest))) : Go p e below P T (mkF m pc Ls st) := by
  subst hC hSl
  have mvs : ∀ {d : Jvm.Cond}, d.before a0 Z = true → (d.onTables && d.keepsFace) = true → d.before args (s.setVm vm0) = true := fun q r => mvT (s := s.setVm vm0) hZ q r
  obtain ⟨v, _, ⟨T', L', k', n'⟩, hW1, X', hS', hg', ⟨Lc, hQ, l1, l2, l3, hR⟩, stp⟩ := callSS X hx (own := own) hown (mvs w1 (by first | rfl | simp [Cond.onTables, Cond.keepsFace, Cond.keeps, Cond.steady])) (mvs w2 (by first | rfl | simp [Cond.onTables, Cond.keepsFace, Cond.keeps, Cond.steady])) (mvs w3 (by first | rfl | simp [Cond.onTables, Cond.keepsFace, Cond.keeps, Cond.steady])) (mvs w4 (by first | rfl | simp [Cond.onTables, Cond.keepsFace, Cond.keeps, Cond.steady])) hy (backOfSH (W := W) (M []) hZ w4 w3 hf hl hEL H) (g := mkF m pc Ls st) rfl hml hlen hst (by show 2 * 0 + _ ≤ _; simpa using hW) hd (fun _ _ => ⟨has, eT, hc, hs⟩)
  dsimp only [Pt.U, Pt.locs, Pt.cells, Pt.slots] at X' l1 l2 l3 stp hQ hR hS' hg'
  subst l1 l2 l3
  have hS2 : s.Since T'.vm T'.heap.size := hS.trans hS' (Nat.le_trans hk (by rw [← eT]; exact hg'))
  exact Go.of (fun _ z => stp.trans z) (k v T' Lc X' hQ hS2 (State.Warmed39.trans (t := s.setVm vm0) hZ hS'.1) (by rw [show (s.setVm T'.vm).vm = T'.vm from rfl, hS'.1.alike.findClass]; exact hown) hR)
theorem goIH (X : Stand p l e R (s.setVm vm0) m args below meth c T locs cells slots) (hx : p.tables.exec = Jvm.exec) (hZ : Z.Warmed39 vm0) {own : String} {index : Nat} {y : MethodName} {bytes : ByteArray} {maxL : Nat} (hn : y.name = "<init>") (hown : vm0.findClass own = some m.cls)
    (w1 : (Jvm.Cond.methodLink own index y).before a0 Z = true) (w2 : (Jvm.Cond.instanceMethod y).before a0 Z = true) (w3 : (Jvm.Cond.initialized y.cls).before a0 Z = true) (w4 : (Jvm.Cond.code y bytes maxL none).before a0 Z = true) (hy : y.cls ≠ "java/lang/invoke/MethodHandle" ∧ y.cls ≠ "java/lang/invoke/VarHandle")
    {W C S : Nat} {rm : Room} {as : Array Value} {Q : Option Value → Heap → List Loc → Prop} (M : MeetsH l Z EL y bytes maxL none rm as h Q) (hC : rm.cells = C) (hSl : rm.slots = S) (hf : rm.frames + 1 ≤ R.frames) (hl : W + (maxL + 11) + rm.locals ≤ R.locals) (hS : s.Since vm0 k0) (hk : k0 ≤ h.size) (hEL : EW Z a0 EL) (H : CHv Z EL vm0 h) (eT : T.heap = h) {pc : Nat} {Ls : Array Slot} {a : Addr} {st argsL rest : List Value} (hml : Ls.size = c.maxLocals)
    (hlen : ∀ sig, parseMethodDescriptor y.desc = some sig → argsL.length = sig.parameters.length) (hst : st = argsL.reverse ++ .ref a :: rest) (has : (.ref a :: argsL).toArray = as) (hd : decode c.code pc = .ok (.invokespecial index, 3)) (hW : (rest.map fun v => v.category).sum ≤ W) (hc : cells + C ≤ R.cells) (hs : slots + S ≤ R.slots)
    (k : ∀ v T' L, Stand p l e R (s.setVm T'.vm) m args below meth c T' (locs ++ L) (cells + C) (slots + S) → Q v T'.heap L → s.Since T'.vm T'.heap.size → Z.Warmed39 (s.setVm T'.vm).vm → (s.setVm T'.vm).vm.findClass own = some m.cls → CHr Z EL vm0 h T'.vm T'.heap → Go p e below P T' (mkF m (pc + 3) Ls (v.toList ++ rest))) : Go p e below P T (mkF m pc Ls st) := by
  subst hC hSl
  have mvs : ∀ {d : Jvm.Cond}, d.before a0 Z = true → (d.onTables && d.keepsFace) = true → d.before args (s.setVm vm0) = true := fun q r => mvT (s := s.setVm vm0) hZ q r
  obtain ⟨v, _, ⟨T', L', k', n'⟩, hW1, X', hS', hg', ⟨Lc, hQ, l1, l2, l3, hR⟩, stp⟩ := X.specialBackS hx (own := own) hn hown (mvs w1 (by first | rfl | simp [Cond.onTables, Cond.keepsFace, Cond.keeps, Cond.steady])) (mvs w2 (by first | rfl | simp [Cond.onTables, Cond.keepsFace, Cond.keeps, Cond.steady])) (mvs w4 (by first | rfl | simp [Cond.onTables, Cond.keepsFace, Cond.keeps, Cond.steady])) hy (backOfSH (W := W) (M []) hZ w4 w3 hf hl hEL H) (g := mkF m pc Ls st) rfl hml (Steps.refl _) hlen hst (by show 2 * 0 + _ ≤ _; simpa using hW) hd (fun _ _ => ⟨has, eT, hc, hs⟩)
  dsimp only [Pt.U, Pt.locs, Pt.cells, Pt.slots] at X' l1 l2 l3 stp hQ hR hS' hg'
  subst l1 l2 l3
  have hS2 : s.Since T'.vm T'.heap.size := hS.trans hS' (Nat.le_trans hk (by rw [← eT]; exact hg'))
  exact Go.of (fun _ z => stp.trans z) (k v T' Lc X' hQ hS2 (State.Warmed39.trans (t := s.setVm vm0) hZ hS'.1) (by rw [show (s.setVm T'.vm).vm = T'.vm from rfl, hS'.1.alike.findClass]; exact hown) hR)
theorem goRetH (X : Stand p l e R (s.setVm vm0) m args below meth c T locs cells slots) (hx : p.tables.exec = Jvm.exec) (hZ : Z.Warmed39 vm0) (hS : s.Since vm0 k0) (hk : k0 ≤ h.size) (hEL : EW Z a0 EL) (RH : CHr Z EL s.vm h0 vm0 h) {t : FieldType} (hret : meth.sig.returnType = some t) (hlk : meth.locks = false) {pc : Nat} {Ls : Array Slot} {C S : Nat} {w : Value} {rest : List Value} {i : Instr} {Q : Option Value → Heap → List Loc → Prop}
    (hn : narrow t w = w) (hi : (i = .ireturn ∧ (t = .int ∨ t = .boolean ∨ t = .byte ∨ t = .char ∨ t = .short) ∧ ∃ z, w = .int z) ∨ (i = .lreturn ∧ t = .long ∧ ∃ z, w = .long z) ∨ (i = .dreturn ∧ t = .double ∧ ∃ z, w = .double z) ∨ (i = .freturn ∧ t = .float ∧ ∃ z, w = .float z) ∨ (i = .areturn ∧ t.isReference = true ∧ w.isRef = true))
    (hd : decode c.code pc = .ok (i, 1)) (K : ∀ v t L, Q v t.heap L → CHr Z EL s.vm h0 t.vm t.heap → ReturnedEndW s (.returned v) t L C S → P (.returned v) t) (hc : cells ≤ C) (hs : slots ≤ S) (eT : T.heap = h) (hq : Q (some w) h locs) : Go p e below P T (mkF m pc Ls (w :: rest)) := by
  obtain ⟨fs, hr, hrun, hended, h1, h2, h3, h4⟩ := X.leaveW hS (by rw [eT]; exact hk) (v := some w) (fun q => by rw [hret] at q; cases q) hlk
  subst eT
  exact ⟨_, _, retOut X hx hret hn hi hd hr, hrun, hended, K _ _ _ hq (by have q := CHv.at X hZ hEL RH.1; exact RH.trans q) ⟨h1, h2, h3, h4.mono hc hs⟩⟩
theorem goRetIH (X : Stand p l e R (s.setVm vm0) m args below meth c T locs cells slots) (hx : p.tables.exec = Jvm.exec) (hZ : Z.Warmed39 vm0) (hS : s.Since vm0 k0) (hk : k0 ≤ h.size) (hEL : EW Z a0 EL) (RH : CHr Z EL s.vm h0 vm0 h) {t : FieldType} (hret : meth.sig.returnType = some t) (hlk : meth.locks = false) {pc : Nat} {Ls : Array Slot} {C S : Nat} {z : Int32} {rest : List Value} {Q : Option Value → Heap → List Loc → Prop}
    (hn : narrow t (.int z) = .int z) (ht : t = .int ∨ t = .boolean ∨ t = .byte ∨ t = .char ∨ t = .short) (hd : decode c.code pc = .ok (.ireturn, 1)) (K : ∀ v t L, Q v t.heap L → CHr Z EL s.vm h0 t.vm t.heap → ReturnedEndW s (.returned v) t L C S → P (.returned v) t) (hc : cells ≤ C) (hs : slots ≤ S) (eT : T.heap = h) (hq : Q (some (.int z)) h locs) : Go p e below P T (mkF m pc Ls (.int z :: rest)) :=
  goRetH X hx hZ hS hk hEL RH hret hlk hn (Or.inl ⟨rfl, ht, z, rfl⟩) hd K hc hs eT hq
theorem goRetRH (X : Stand p l e R (s.setVm vm0) m args below meth c T locs cells slots) (hx : p.tables.exec = Jvm.exec) (hZ : Z.Warmed39 vm0) (hS : s.Since vm0 k0) (hk : k0 ≤ h.size) (hEL : EW Z a0 EL) (RH : CHr Z EL s.vm h0 vm0 h) {t : FieldType} (hret : meth.sig.returnType = some t) (ht : t.isReference = true) (hlk : meth.locks = false) {pc : Nat} {Ls : Array Slot} {C S : Nat} {w : Value} {rest : List Value} {Q : Option Value → Heap → List Loc → Prop}
    (hw : w.isRef = true) (hn : narrow t w = w) (hd : decode c.code pc = .ok (.areturn, 1)) (K : ∀ v t L, Q v t.heap L → CHr Z EL s.vm h0 t.vm t.heap → ReturnedEndW s (.returned v) t L C S → P (.returned v) t) (hc : cells ≤ C) (hs : slots ≤ S) (eT : T.heap = h) (hq : Q (some w) h locs) : Go p e below P T (mkF m pc Ls (w :: rest)) :=
  goRetH X hx hZ hS hk hEL RH hret hlk hn (Or.inr (Or.inr (Or.inr (Or.inr ⟨rfl, ht, hw⟩)))) hd K hc hs eT hq
theorem goRet0H (X : Stand p l e R (s.setVm vm0) m args below meth c T locs cells slots) (hx : p.tables.exec = Jvm.exec) (hZ : Z.Warmed39 vm0) (hS : s.Since vm0 k0) (hk : k0 ≤ h.size) (hEL : EW Z a0 EL) (RH : CHr Z EL s.vm h0 vm0 h) (hret : meth.sig.returnType = none) (hlk : meth.locks = false) {pc : Nat} {Ls : Array Slot} {C S : Nat} {Q : Option Value → Heap → List Loc → Prop}
    (hd : decode c.code pc = .ok (.return_, 1)) (K : ∀ v t L, Q v t.heap L → CHr Z EL s.vm h0 t.vm t.heap → ReturnedEndW s (.returned v) t L C S → P (.returned v) t) (hc : cells ≤ C) (hs : slots ≤ S) (eT : T.heap = h) (hq : Q none h locs) : Go p e below P T (mkF m pc Ls []) := by
  obtain ⟨fs, hr, hrun, hended, h1, h2, h3, h4⟩ := X.leaveW hS (by rw [eT]; exact hk) (v := none) (fun _ => rfl) hlk
  subst eT
  exact ⟨_, _, X.returnOut hx hret hd hr, hrun, hended, K _ _ _ hq (by have q := CHv.at X hZ hEL RH.1; exact RH.trans q) ⟨h1, h2, h3, h4.mono hc hs⟩⟩
end HeldCalls
theorem safeArv {Z : State} {EL : List (String × Nat)} {vm : Vm} {h : Heap} {x : Addr} {k : ClassId} {ty : FieldType} {n : Int32} {vs : List Value} {d : Value} (hal : Z.vm.Alike vm) (A : Arv Z h x k ty n vs d) (ht : ty ≠ .byte) : Safe Z EL vm h x := by
  obtain ⟨cl, A, -⟩ := A
  exact Safe.arr hal A ht
theorem safeNull {Z : State} {EL : List (String × Nat)} {vm : Vm} {h : Heap} {x : Addr} (hal : Z.vm.Alike vm) (E : Exa Z h x "java/lang/String") (V : Fld Z h x "java/lang/String" "value" "[B" .null) : Safe Z EL vm h x := fun B => by
  obtain ⟨cell, k, e1, e2, e3, -, -⟩ := E
  obtain ⟨p, -, u, a, -, q, -, F, rfl | rfl⟩ := B
  · obtain ⟨cS, ⟨⟨s1, s2, s3, ⟨cv, kv, iv, s4, s4'⟩, ⟨cc, kc, ic, s5, s5'⟩, s6, s7, s8, s9, s10, s11⟩, hfS, hcS⟩, -⟩ := F
    obtain ⟨kv', z4⟩ := Jvm.RoadKit.ff_back (U := Wst Z vm h) hal s4
    have V2 : Fld Z h q.sa "java/lang/String" "value" "[B" (.ref q.sd) := ⟨q.sC, cv, kv', iv, q.fSV, s1, z4, s6, s2, s3, by rw [← hal.assignable]; exact s4', s8⟩
    exact Fld.ne V V2 (by simp) rfl
  · cases (show h[q.sd]? = some q.SA from F.hd).symm.trans e1
    obtain ⟨cS, -, -, f, -⟩ := F
    rw [show (Wst Z vm h).vm = vm from rfl, hal.findClass] at f
    obtain ⟨k1, q1, q2⟩ := Vm.findClass_spec f
    obtain ⟨k2, q3, q4⟩ := Vm.findClass_spec e2
    cases q1.symm.trans q3
    exact absurd (q2.symm.trans q4) (by decide)
theorem strT_ne {Z : State} {a0 : Array Value} {h : Heap} {a t x : Addr} {cs : List Int32} {C : String} {n : Nat} (F : Str Z h a t cs) (E : Exa Z h x C) (w : (Jvm.Cond.instantiable C n).before a0 Z = true) : t ≠ x := by
  obtain ⟨kb, cd, N, vs, E', V, C', A, g⟩ := F
  exact Ne.symm (Exa.neArv E A w)
theorem strA_ne {Z : State} {h : Heap} {a t x : Addr} {cs : List Int32} {C : String} (F : Str Z h a t cs) (E : Exa Z h x C) (hn : "java/lang/String" ≠ C) : a ≠ x := ne_exa F.exa E hn
theorem str0 {Z : State} {h : Heap} {a t : Addr} {k : ClassId} (E : Exa Z h a "java/lang/String") (V : Fld Z h a "java/lang/String" "value" "[B" (.ref t)) (C : Fld Z h a "java/lang/String" "coder" "B" (.int (0 : Int32))) (A : Arv Z h t k .byte (0 : Int32) [] (.int (0 : Int32))) : Str Z h a t [] :=
  ⟨k, 0, 0, [], E, V, C, A, Or.inl ⟨rfl, rfl, rfl, by simp⟩, by simp, by simp⟩
end W
end Jvm.Pilot.@@N@@
namespace Jvm.Pilot.@@N@@
namespace W
/-! the empty String constant at an `ldc_w`: the kit reads a held constant at `ldc` alone -/
section EmptyConst
open Jvm Jvm.ClassFile Sem Op Lib Bundle Jvm.Stand Jvm.Free Jvm.Free.SB Jvm.Free.SBG Jvm.LawKit Jvm.RoadKit
variable {p : Program} {l : Launch} {e : Env} {R : Room} {s T U : State} {m : MethodId} {args a0 : Array Value} {below : List Frame} {meth : Method} {c : Code} {locs : List Loc} {cells slots ix i k0 : Nat} {own : String} {cf : ClassFile} {kl : Class} {vm vm0 : Vm} {a b : Addr} {Z : State} {EL : List (String × Nat)} {h h0 : Heap} {P : Outcome → State → Prop} {g : JFrame}
abbrev noUnits : Array UInt16 := #[]
/-- class d of U bears, at ix, a String constant without signs -/
def Bears (U : State) (d : ClassId) (ix i : Nat) (cf : ClassFile) (kl : Class) : Prop :=
  U.vm.classes[d]? = some kl ∧ kl.cf = some cf ∧ cf.constantPool[ix]? = some (.string i) ∧ cf.constantPool[i]? = some (.utf8 noUnits) ∧ namesOf? cf.constantPool ix = some (.string "")
theorem Bears.note {d : ClassId} (B : Bears U d ix i cf kl) (open_ : kl.resolved[ix]? = some none) (W : U.Warmed39 vm) (hf : vm.interned.find? (fun q => q.1 == noUnits) = some (noUnits, a)) : U.Warmed39 (vm.noted d ix (.string a)) :=
  W.notedString B.1 (Or.inl open_) (by rw [B.2.1]; exact B.2.2.2.2) (by rw [B.2.1]; exact B.2.2.1) (by rw [B.2.1]; simp [ConstantPool.utf8?, B.2.2.2.1]) hf
theorem noText {us : Array UInt16} (q : utf16ToString? us = some "") : us = noUnits := by
  have r := units_of_text q (fun _ z => by simp at z)
  exact Array.toList_inj.mp (by simpa using r)
/-- the same entry at the walk's start and now: open at both, or resolved now -/
theorem bears (X : Stand p l e R s m args below meth c T locs cells slots) (hown : s.vm.findClass own = some m.cls) (w : (Cond.stringLink own ix "").before args s = true) :
    ∃ i cf kl kt, Bears s m.cls ix i cf kl ∧ Bears T m.cls ix i cf kt ∧ ((kl.resolved[ix]? = some none ∧ kt.resolved[ix]? = some none) ∨ ∃ a, kt.resolved[ix]? = some (some (.string a))) := by
  obtain ⟨kl, cf, i, us, r1, r2, r3, r4, r5, r6, r7⟩ := Cond.stringLink_spec hown w
  cases noText r6
  obtain ⟨kt, t1, t2⟩ := X.warmed.alike.2.2 _ _ r1
  have tcf : kt.cf = some cf := by rw [t2]; exact r2
  refine ⟨i, cf, kl, kt, ⟨r1, r2, r3, r4, r5⟩, ⟨t1, tcf, r3, r4, r5⟩, ?_⟩
  have now := X.warmed.wide.entry r1 t1 ix
  rcases now with same | ⟨-, r, z, odd | ⟨a, -, rfl, -⟩⟩
  · rw [same]
    exact r7.elim (fun o => Or.inl ⟨o, o⟩) Or.inr
  · cases r <;> simp [State.rightAt, r1, r2, r5] at odd
  · exact Or.inr ⟨a, z⟩
/-- what the step leaves: a is the constant; nothing was interned, or a was, and its cells are the two last -/
def Left (p : Program) (l : Launch) (e : Env) (R : Room) (s : State) (m : MethodId) (args : Array Value) (below : List Frame) (meth : Method) (c : Code) (T : State) (locs : List Loc) (cells slots ix : Nat) (g : JFrame) (a : Addr) (U : State) : Prop :=
  Stand p l e R (s.setVm U.vm) m args below meth c U locs (cells + 2) (slots + 4) ∧ s.Since U.vm U.heap.size ∧ (∃ ku, U.vm.classes[m.cls]? = some ku ∧ ku.resolved[ix]? = some (some (.string a))) ∧ Ext T.heap U.heap ∧
  (U.vm.interned = T.vm.interned ∨ (U.vm.interned = T.vm.interned.push (noUnits, a) ∧ T.vm.interned.find? (fun q => q.1 == noUnits) = none ∧ SlIn 0 T.heap.size U a noUnits)) ∧
  ∀ target, Steps p.tables e below (U.setTop { g with pc := g.pc + 3, stack := .ref a :: g.stack }) target → Steps p.tables e below (T.setTop g) target
theorem twoCells (h : Heap) (x y : Cell) : Ext h ((h.push x).push y) ∧ ((h.push x).push y)[h.size]? = some x ∧ ((h.push x).push y)[h.size + 1]? = some y ∧ ((h.push x).push y).size = h.size + 2 := by
  refine ⟨⟨by simp; omega, fun j q r => ?_⟩, ?_, ?_, by simp⟩
  · have lt : j < h.size := (Array.getElem?_eq_some_iff.mp r).1
    rw [Array.getElem?_push, Array.size_push, if_neg (Nat.ne_of_lt (Nat.lt_succ_of_lt lt)), Array.getElem?_push, if_neg (Nat.ne_of_lt lt)]; exact r
  · rw [Array.getElem?_push, Array.size_push, if_neg (Nat.ne_of_lt (Nat.lt_succ_self _)), Array.getElem?_push, if_pos rfl]
  · rw [Array.getElem?_push, Array.size_push, if_pos rfl]
theorem leftResolved (X : Stand p l e R s m args below meth c T locs cells slots) (hx : p.tables.exec = Jvm.exec) (hg : g.method = m) (hd : decode c.code g.pc = .ok (.ldc_w ix, 3)) {kt : Class} (Bt : Bears T m.cls ix i cf kt) (r : kt.resolved[ix]? = some (some (.string a))) : Left p l e R s m args below meth c T locs cells slots ix g a T := by
  subst hg
  refine ⟨(X.mono (by omega) (by omega)).retabled X.warmed.wide, X.warmed.since _, ⟨kt, Bt.1, r⟩, ⟨Nat.le_refl _, fun _ _ z => z⟩, Or.inl rfl, fun target go => ?_⟩
  jvm_step X.here [hx, hd, ldc_w.wp_string (e := e) (s := T) (f := g) X.here.top Bt.1 Bt.2.1 Bt.2.2.1 r]
  exact go
theorem leftFound (X : Stand p l e R s m args below meth c T locs cells slots) (hx : p.tables.exec = Jvm.exec) (hg : g.method = m) (hd : decode c.code g.pc = .ok (.ldc_w ix, 3)) {kt : Class} (Bs : Bears s m.cls ix i cf kl) (Bt : Bears T m.cls ix i cf kt) (o : kl.resolved[ix]? = some none) (ot : kt.resolved[ix]? = some none) (hf : T.vm.interned.find? (fun q => q.1 == noUnits) = some (noUnits, a)) : Left p l e R s m args below meth c T locs cells slots ix g a (T.setVm (T.vm.noted m.cls ix (.string a))) := by
  subst hg
  have W := Bs.note o X.warmed.wide hf
  refine ⟨(X.mono (by omega) (by omega)).retabled W, ⟨W, State.Booked.step (T₂ := T.setVm (T.vm.noted g.method.cls ix (.string a))) (X.warmed.no_new_pair _) X.same.2.1 ⟨Nat.le_refl _, Or.inl rfl⟩⟩, ⟨_, Vm.classes_note_self ix (.string a) Bt.1, Class.resolved_note_self (.string a) ot⟩, ⟨Nat.le_refl _, fun _ _ z => z⟩, Or.inl rfl, fun target go => ?_⟩
  jvm_step X.here [hx, hd, ldc_w.wp_string_found (e := e) (s := T) (f := g) X.here.top Bt.1 Bt.2.1 Bt.2.2.1 Bt.2.2.2.1 ot hf]
  exact go
set_option maxHeartbeats 4000000 in
theorem leftNew (X : Stand p l e R s m args below meth c T locs cells slots) (hx : p.tables.exec = Jvm.exec) (hg : g.method = m) (hd : decode c.code g.pc = .ok (.ldc_w ix, 3)) {kt : Class} (Bs : Bears s m.cls ix i cf kl) (Bt : Bears T m.cls ix i cf kt) (atoms : ∀ d ∈ stringAtoms, d.before args s = true) (hc : cells + 2 ≤ R.cells) (hs : slots + 4 ≤ R.slots) (o : kl.resolved[ix]? = some none) (ot : kt.resolved[ix]? = some none) (hf : T.vm.interned.find? (fun q => q.1 == noUnits) = none) : ∃ U, Left p l e R s m args below meth c T locs cells slots ix g (T.heap.size + 1) U := by
  subst hg
  obtain ⟨D, laid, four, fitV, fitC⟩ := StringT.of_atoms atoms
  obtain ⟨kS, kB, laidT, same⟩ := laid.warmer X.warmed.alike
  have cellsT := twoCells T.heap (bytesOf D.cB noUnits) (stringAt D.cS kS D.fv D.fc noUnits T.heap.size)
  obtain ⟨V, eV⟩ : ∃ V, V = withString T D.cB D.cS kS D.fv D.fc noUnits := ⟨_, rfl⟩
  have eH : V.heap = (T.heap.push (bytesOf D.cB noUnits)).push (stringAt D.cS kS D.fv D.fc noUnits T.heap.size) := by rw [eV, withString_eq]; rfl
  rw [← eH] at cellsT
  obtain ⟨E, at0, at1, size2⟩ := cellsT
  have found : (T.vm.interned.push (noUnits, T.heap.size + 1)).find? (fun q => q.1 == noUnits) = some (noUnits, T.heap.size + 1) := by rw [Array.find?_push, hf]; simp
  obtain ⟨vn, en⟩ : ∃ vn : Vm, vn = ({ T.vm with interned := T.vm.interned.push (noUnits, T.heap.size + 1) } : Vm).noted g.method.cls ix (.string (T.heap.size + 1)) := ⟨_, rfl⟩
  have W : s.Warmed39 vn := by rw [en]; exact Bs.note o (X.warmed.wide.interns noUnits (T.heap.size + 1)) found
  have ei : vn.interned = T.vm.interned.push (noUnits, T.heap.size + 1) := by rw [en]; rfl
  have Y : Stand p l e R (s.setVm vn) g.method args below meth c (V.setVm vn) locs (cells + 2) (slots + 4) := by
    have Y0 := (X.pushed (bytesOf D.cB noUnits)).pushed (stringAt D.cS kS D.fv D.fc noUnits T.heap.size)
    rw [← withString_eq, ← eV] at Y0
    exact (Y0.mono (by omega) (by
      have z0 : (bytesOf D.cB noUnits).slots.size = 0 := by rw [(Cell.writeAll_facts _ _).2.2]; simp [bytes0, stringBytes]
      have z4 : (stringAt D.cS kS D.fv D.fc noUnits T.heap.size).slots.size = 4 := by simp [string0, Cell.setSlot, same, four]
      rw [z0, z4]; omega)).retabled W
  have one : T.Interned1 (V.setVm vn) := ⟨E.1, Or.inr ⟨noUnits, _, ei, Nat.le_succ _, by show _ < V.heap.size; omega⟩⟩
  refine ⟨V.setVm vn, Y, ⟨W, State.Booked.step (X.warmed.no_new_pair _) X.same.2.1 one⟩, ?_, E, Or.inr ⟨ei, hf, ?_⟩, fun target go => ?_⟩
  · show ∃ ku, vn.classes[_]? = some ku ∧ _
    rw [en]; exact ⟨_, Vm.classes_note_self (vm := { T.vm with interned := _ }) ix _ Bt.1, Class.resolved_note_self _ ot⟩
  · exact made_sl (W := V.setVm vn) atoms laid four same W.alike at0 at1 (by simp) (by simp [stringBytes]) 0
  · refine Steps.instr (c := _) (by simpa using X.here) ?_
    simp [jvm, wpRun, exec, X.here.top, hx, hd]
    have fs : T.fitsSlot = s.fitsSlot := State.fitsSlot_setVm (s := s) X.warmed.alike
    have none0 : (stringBytes noUnits).size = 0 := by simp [stringBytes]
    refine ldc_w.wp_string_new (e := e) (s := T) (f := g) X.here.top Bt.1 Bt.2.1 Bt.2.2.1 Bt.2.2.2.1 ot hf laidT.found laidT.cls laidT.initialized laidT.ordinary laidT.foundB laidT.clsB laidT.kindB laidT.value laidT.coder (by rw [none0]; exact Nat.not_lt_zero _) (by rw [none0, Nat.zero_mul]; exact Nat.not_lt_zero _) (X.cellsAbove hc) ?_ (fun q hq => by simp [stringBytes] at hq) laidT.valueSlot laidT.coderSlot (by rw [fs]; exact fitV _) (by rw [fs]; exact fitC _) fun _ _ => ?_
    · have room := X.slotsAbove hs
      show T.slotsUsed + _ + kS.instanceTypes.size ≤ _
      rw [same, four, none0]; omega
    · intro _
      rw [← eV, ← en]
      have top : V.topJava?.isSome := by rw [eV]; simpa [withString] using X.here.top
      simp [jvm, afterInstr, top, show (V.setVm vn).topJava?.isSome by simpa using top]
      rw [State.modifyTopJava_setTop]
      exact go
theorem leftAny (X : Stand p l e R s m args below meth c T locs cells slots) (hx : p.tables.exec = Jvm.exec) (hg : g.method = m) (hd : decode c.code g.pc = .ok (.ldc_w ix, 3)) (hown : s.vm.findClass own = some m.cls) (w : (Cond.stringLink own ix "").before args s = true)
    (atoms : ∀ d ∈ stringAtoms, d.before args s = true) (hc : cells + 2 ≤ R.cells) (hs : slots + 4 ≤ R.slots) : ∃ a U, Left p l e R s m args below meth c T locs cells slots ix g a U := by
  obtain ⟨i, cf, kl, kt, Bs, Bt, ⟨o, ot⟩ | ⟨a, r⟩⟩ := bears X hown w
  · cases hf : T.vm.interned.find? (fun q => q.1 == noUnits) with
    | none => exact ⟨_, leftNew X hx hg hd Bs Bt atoms hc hs o ot hf⟩
    | some pr =>
      obtain ⟨u, a⟩ := pr
      obtain rfl : u = noUnits := by simpa using Array.find?_some hf
      exact ⟨a, _, leftFound X hx hg hd Bs Bt o ot hf⟩
  · exact ⟨a, T, leftResolved X hx hg hd Bt r⟩
/-! the cells of a held constant, in the walk's own words -/
theorem slObj {q : SQ} {cS : ClassId} {W : State} (hal : Z.vm.Alike W.vm) (F : Sl q cS W) (hS : ∃ kS : Class, W.vm.classes[cS]? = some kS ∧ kS.kind = .ordinary ∧ q.sC.slots.size = kS.instanceTypes.size) : Exa Z W.heap q.sa "java/lang/String" ∧ Fld Z W.heap q.sa "java/lang/String" "value" "[B" (.ref q.sd) ∧ Fld Z W.heap q.sa "java/lang/String" "coder" "B" (.int 0) := by
  obtain ⟨⟨f1, f2, f3, ⟨v1, v2, v3, v4, v5⟩, ⟨c1, c2, c3, c4, c5⟩, f6, f7, f8, f9, -⟩, fS, eS⟩ := F
  obtain ⟨_, vb⟩ := ff_back (U := W) hal v4
  obtain ⟨_, cb⟩ := ff_back (U := W) hal c4
  have as_ : ∀ x y, W.vm.assignable x y = Z.vm.assignable x y := fun _ _ => by rw [hal.assignable]
  have mine : Z.vm.findClass "java/lang/String" = some q.sC.cls := by rw [← hal.findClass, eS]; exact fS
  obtain ⟨kz, z1, -⟩ := Vm.findClass_spec mine
  obtain ⟨kw, z2, z3⟩ := hal.2.2 _ _ z1
  obtain ⟨kS, s1, -, s3⟩ := hS
  rw [← eS] at s1
  cases z2.symm.trans s1
  exact ⟨⟨_, kz, f1, mine, z1, f3, fun _ => by rw [s3, z3]⟩, ⟨_, _, _, _, _, f1, vb, f6, f2, f3, as_ _ _ ▸ v5, f8⟩, ⟨_, _, _, _, _, f1, cb, f7, f2, f3, as_ _ _ ▸ c5, f9⟩⟩
theorem slNone {q : SQ} {cS : ClassId} {W : State} (hal : Z.vm.Alike W.vm) (F : Sl q cS W) (hB : W.vm.findClass "[B" = some q.SA.cls) (hb : q.SA.slots = stringBytes noUnits) : Arv Z W.heap q.sd q.SA.cls .byte 0 [] (.int 0) := by
  obtain ⟨⟨-, -, -, -, -, -, -, -, -, d1, ⟨d2, kd, d3, comp, d4⟩, d5, -⟩, -⟩ := F
  have mine : Z.vm.findClass "[B" = some q.SA.cls := by rw [← hal.findClass]; exact hB
  obtain ⟨kz, z1, -⟩ := Vm.findClass_spec mine
  obtain ⟨kw, z2, z3⟩ := hal.2.2 _ _ z1
  cases z2.symm.trans d3
  have none0 : q.SA.slots.size = 0 := by rw [hb]; simp [stringBytes]
  have no : ∀ {j}, ¬ j < q.SA.slots.size := fun {j} z => by omega
  exact ⟨q.SA, ⟨d1, ⟨d2, kz, z1, comp, by rw [z3] at d4; exact d4⟩, d5⟩, rfl, none0, by decide, fun _ z => absurd z no, fun _ z => absurd z no⟩
/-- ldc_w of an empty constant of EL, read -/
theorem ldcWE (X : Stand p l e R (s.setVm vm0) m args below meth c T locs cells slots) (hx : p.tables.exec = Jvm.exec) (hZ : Z.Warmed39 vm0) (hown : vm0.findClass own = some m.cls) (w : (Cond.stringLink own ix "").before a0 Z = true) (wS : ∀ a ∈ Bundle.stringAtoms, a.before a0 Z = true)
    (eT : T.heap = h) (hS : s.Since vm0 k0) (hk : k0 ≤ h.size) (hEL : EW Z a0 EL) (hmem : (own, ix) ∈ EL) (H : CHv Z EL vm0 h) (hg : g.method = m) (hd : decode c.code g.pc = .ok (.ldc_w ix, 3)) (hc : cells + 2 ≤ R.cells) (hl' : slots + 4 ≤ R.slots) :
    ∃ (a : Addr) (T' : State) (h' : Heap) (k1 : Nat) (b : Addr) (k : ClassId), Stand p l e R (s.setVm T'.vm) m args below meth c T' locs (cells + 2) (slots + 4) ∧ T'.heap = h' ∧ Ext h h' ∧ s.Since T'.vm k1 ∧ k1 ≤ h'.size ∧ Z.Warmed39 (s.setVm T'.vm).vm ∧ (s.setVm T'.vm).vm.findClass own = some m.cls ∧
      Exa Z h' a "java/lang/String" ∧ Fld Z h' a "java/lang/String" "coder" "B" (.int 0) ∧ Fld Z h' a "java/lang/String" "value" "[B" (.ref b) ∧ Arv Z h' b k .byte 0 [] (.int 0) ∧ CHr Z EL vm0 h T'.vm h' ∧ (∀ x, Safe Z EL T'.vm h' x → x ≠ a ∧ x ≠ b) ∧
      ∀ target, Steps p.tables e below (T'.setTop { g with pc := g.pc + 3, stack := .ref a :: g.stack }) target → Steps p.tables e below (T.setTop g) target := by
  subst eT
  have atoms : ∀ d ∈ stringAtoms, d.before args (s.setVm vm0) = true := by
    intro d q
    have r := wS d q
    simp only [stringAtoms, List.mem_cons, List.not_mem_nil, or_false] at q
    rcases q with q | q | q | q | q | q | q <;> subst q
    iterate 2 exact mv (s := s.setVm vm0) hZ r
    · exact mvA (s := s.setVm vm0) hZ r
    all_goals exact mv (s := s.setVm vm0) hZ r
  obtain ⟨a, U, Y, since, ⟨ku, u1, u2⟩, E, new, go⟩ := leftAny X hx hg hd hown (mvS hZ w) atoms hc hl'
  have hU : Z.Warmed39 U.vm := State.Warmed39.trans (t := s.setVm vm0) hZ since.1
  have fU : U.vm.findClass own = some m.cls := (since.1.alike.findClass own _).trans hown
  have was : T.vm.interned = vm0.interned := X.warmed.interned_eq
  rw [was] at new
  have L := CHv.later (vm := vm0) (vm1 := U.vm) (h' := U.heap) hZ (show (Wst Z vm0 T.heap).Warmed39 U.vm from since.1) hEL E (new.imp id fun ⟨n1, n2, n3⟩ => ⟨noUnits, a, n1, n2, fun _ => by
    obtain ⟨q, cS, q1, q2, q3, q4, q5, q6⟩ := n3
    exact ⟨q, q1, SlB.carry (W := U) ⟨cS, q2, q3, q4, q5⟩ (Vm.Alike.refl _) q2.1.1 (SlB.hd ⟨cS, q2, q3, q4, q5⟩), q6.elim (fun z => absurd z.1 (Nat.not_lt_zero _)) id⟩⟩) H
  -- the entry, as the tables behind the step book it
  obtain ⟨k2, cf, i, us, v1, v2, v3, v4, -, v6, -⟩ := Cond.stringLink_spec (s := Wst Z U.vm U.heap) fU (mvS (s := { Z with heap := U.heap }) (args := a0) hU w)
  cases (show U.vm.classes[m.cls]? = some k2 from v1).symm.trans u1
  cases noText v6
  have books : Booksv U.vm own ix noUnits a := ⟨m.cls, ku, cf, i, fU, u1, v2, v3, v4, Or.inl u2⟩
  obtain ⟨q, rfl, F⟩ := SlB.of (L.1 _ hmem noUnits a books)
  have apart : ∀ x, Safe Z EL U.vm U.heap x → x ≠ q.sa ∧ x ≠ q.sd := fun x S => ⟨fun z => S ⟨_, hmem, noUnits, q.sa, books, q, rfl, F, Or.inl z⟩, fun z => S ⟨_, hmem, noUnits, q.sa, books, q, rfl, F, Or.inr z⟩⟩
  obtain ⟨cS, F1, F2, F3, F4⟩ := F
  obtain ⟨o1, o2, o3⟩ := slObj (W := Wst Z U.vm U.heap) hU.alike F1 F2
  exact ⟨q.sa, U, _, _, q.sd, q.SA.cls, Y, rfl, E, hS.trans since (Nat.le_trans hk E.1), Nat.le_refl _, hU, fU, o1, o3, o2, slNone (W := Wst Z U.vm U.heap) hU.alike F1 F3 F4, ⟨L.1, E.1, L.2⟩, apart, go⟩
end EmptyConst
section WideLdc
open Jvm Jvm.ClassFile Sem Op Lib Bundle Jvm.Stand Jvm.Free Jvm.Free.SB Jvm.Free.SBG Jvm.LawKit Jvm.RoadKit
variable {p : Program} {l : Launch} {e : Env} {R : Room} {s : State} {m : MethodId} {args : Array Value} {below : List Frame} {meth : Method} {c : Code} {T : State} {locs : List Loc} {cells slots : Nat} {Z : State} {a0 : Array Value} {EL : List (String × Nat)} {h h0 : Heap} {vm0 : Vm} {own : String} {index k0 : Nat} {P : Outcome → State → Prop}
/-- a virtual call of a held callee -/
theorem goVH (X : Stand p l e R (s.setVm vm0) m args below meth c T locs cells slots) (hx : p.tables.exec = Jvm.exec) (hZ : Z.Warmed39 vm0) {K : String} {y z : MethodName} {bytes : ByteArray} {maxL : Nat} {ret : Option FieldType} (hown : vm0.findClass own = some m.cls)
    (w1 : (Jvm.Cond.methodLink own index y).before a0 Z = true) (w2 : (Jvm.Cond.declares y).before a0 Z = true) (hnf : NotFace (s.setVm vm0) y) (w3 : (Jvm.Cond.selects K y z).before a0 Z = true) (w4 : (Jvm.Cond.instanceMethod z).before a0 Z = true) (w5 : (Jvm.Cond.initialized z.cls).before a0 Z = true) (w6 : (Jvm.Cond.code z bytes maxL ret).before a0 Z = true) (hy : y.cls ≠ "java/lang/invoke/MethodHandle" ∧ y.cls ≠ "java/lang/invoke/VarHandle")
    {W C S : Nat} {rm : Room} {as : Array Value} {Q : Option Value → Heap → List Loc → Prop} (M : MeetsH l Z EL z bytes maxL ret rm as h Q) (hC : rm.cells = C) (hSl : rm.slots = S) (hf : rm.frames + 1 ≤ R.frames) (hl : W + (maxL + 11) + rm.locals ≤ R.locals) (hS : s.Since vm0 k0) (hk : k0 ≤ h.size) (hEL : EW Z a0 EL) (H : CHv Z EL vm0 h) (eT : T.heap = h) {b : Addr} (E : Exa Z h b K) {pc : Nat} {Ls : Array Slot} {st argsL rest : List Value} (hml : Ls.size = c.maxLocals)
    (hlen : ∀ sig, parseMethodDescriptor y.desc = some sig → argsL.length = sig.parameters.length) (hst : st = argsL.reverse ++ .ref b :: rest) (has : (.ref b :: argsL).toArray = as) (hd : decode c.code pc = .ok (.invokevirtual index, 3)) (hW : (rest.map fun v => v.category).sum ≤ W) (hc : cells + C ≤ R.cells) (hs : slots + S ≤ R.slots)
    (k : ∀ v T' L, Stand p l e R (s.setVm T'.vm) m args below meth c T' (locs ++ L) (cells + C) (slots + S) → Q v T'.heap L → s.Since T'.vm T'.heap.size → Z.Warmed39 (s.setVm T'.vm).vm → (s.setVm T'.vm).vm.findClass own = some m.cls → CHr Z EL vm0 h T'.vm T'.heap → Go p e below P T' (mkF m (pc + 3) Ls (v.toList ++ rest))) : Go p e below P T (mkF m pc Ls st) := by
  subst hC hSl
  obtain ⟨cq, kq, qa, -, qc⟩ := isOf (s := s.setVm vm0) hZ eT E
  have mvs : ∀ {d : Jvm.Cond}, d.before a0 Z = true → (d.onTables && d.keepsFace) = true → d.before args (s.setVm vm0) = true := fun q r => mvT (s := s.setVm vm0) hZ q r
  obtain ⟨v, _, ⟨T', L', k', n'⟩, hW1, X', hS', hg', ⟨Lc, hQ, l1, l2, l3, hR⟩, stp⟩ := X.virtualBackS hx (own := own) hown (mvs w1 (by first | rfl | simp [Cond.onTables, Cond.keepsFace, Cond.keeps, Cond.steady])) (mvs w2 (by first | rfl | simp [Cond.onTables, Cond.keepsFace, Cond.keeps, Cond.steady])) hnf (mvs w3 (by first | rfl | simp [Cond.onTables, Cond.keepsFace, Cond.keeps, Cond.steady])) (mvs w4 (by first | rfl | simp [Cond.onTables, Cond.keepsFace, Cond.keeps, Cond.steady])) hy (backOfSH (W := W) (M []) hZ w6 w5 hf hl hEL H) qa qc (g := mkF m pc Ls st) rfl hml (Steps.refl _) hlen hst (by show 2 * 0 + _ ≤ _; simpa using hW) hd (fun _ _ => ⟨has, eT, hc, hs⟩)
  dsimp only [Pt.U, Pt.locs, Pt.cells, Pt.slots] at X' l1 l2 l3 stp hQ hR hS' hg'
  subst l1 l2 l3
  have hS2 : s.Since T'.vm T'.heap.size := hS.trans hS' (Nat.le_trans hk (by rw [← eT]; exact hg'))
  exact Go.of (fun _ z => stp.trans z) (k v T' Lc X' hQ hS2 (State.Warmed39.trans (t := s.setVm vm0) hZ hS'.1) (by rw [show (s.setVm T'.vm).vm = T'.vm from rfl, hS'.1.alike.findClass]; exact hown) hR)
end WideLdc
end W
end Jvm.Pilot.@@N@@
namespace Jvm.Pilot.@@N@@
open Jvm Jvm.ClassFile Sem Op Lib Jvm.Free Jvm.Stand Jvm.LawKit Jvm.RoadKit Bundle Jvm.Pilot.@@N@@.Jvm.D Jvm.Pilot.@@N@@.W
abbrev sI (x : Int32) : Slot := .val (.int x)
abbrev sR (a : Addr) : Slot := .val (.ref a)
theorem m255 (x : Int32) : ¬ (x &&& (255 : Int32)).toUInt32.toUInt16.toUInt32.toInt32 < 0 ∧ ¬ (255 : Int32) < (x &&& (255 : Int32)).toUInt32.toUInt16.toUInt32.toInt32 := by
  rw [i2c_mask]
  have h := c_mask x 255 8 (by decide) (by decide)
  have e1 : (0 : Int32).toInt = 0 := by decide
  have e2 : (255 : Int32).toInt = 255 := by decide
  rw [Int32.lt_iff_toInt_lt, Int32.lt_iff_toInt_lt, h, e1, e2]; omega
theorem narC (x : Int32) : nar .char (x.toUInt32.toUInt16.toUInt32.toInt32) = x.toUInt32.toUInt16.toUInt32.toInt32 := by
  have h1 := c_i2c x
  have h2 := c_i2c (x.toUInt32.toUInt16.toUInt32.toInt32)
  show x.toUInt32.toUInt16.toUInt32.toInt32.toUInt32.toUInt16.toUInt32.toInt32 = x.toUInt32.toUInt16.toUInt32.toInt32
  apply Int32.toInt_inj.mp
  omega

theorem eqInt {t : Term} {n : Int32} {args : Array Value} {s : State} (h : (Jvm.Cond.eq t (Term.int n)).before args s = true) : t.eval args s none [] s = some (.int n) := by
  replace h := Cond.before_iff.mp h
  obtain ⟨x, y, e1, e2, k1, k2⟩ := cmp_v (Or.inl h)
  cases (Term.int_eval n).symm.trans e2
  obtain ⟨z, rfl⟩ := k2
  rw [gotT (Cond.eq_ints e1 (Term.int_eval n)) h] at e1
  exact e1

theorem n32i {n : Nat} (h : n ≤ 100000) : (Int32.ofNat n).toInt = n := Int32.toInt_ofNat_of_lt (by omega)
theorem ltN {i n : Nat} (hi : i ≤ 4000) (hn : n ≤ 4000) : Int32.ofNat i < Int32.ofNat n ↔ i < n := by
  rw [Int32.lt_iff_toInt_lt, n32i (by omega), n32i (by omega)]; omega
theorem nneg {i : Nat} (hi : i ≤ 10000) : ¬ Int32.ofNat i < 0 := by
  have e0 : (0 : Int32).toInt = 0 := by decide
  rw [Int32.lt_iff_toInt_lt, n32i (by omega), e0]; omega
theorem neN {i n : Nat} (hi : i ≤ 4000) (hn : n ≤ 4000) (h : i ≠ n) : ¬ Int32.ofNat i = Int32.ofNat n := fun q => h (by
  have := congrArg Int32.toInt q
  rw [n32i (by omega), n32i (by omega)] at this; omega)
theorem sh1 {i : Nat} (h : i ≤ 4000) : ((Int32.ofNat i) <<< ((1 : Int32) &&& 31)) = Int32.ofNat (2 * i) := by
  have q := c_ishl (Int32.ofNat i) 1 1 (by decide)
  have b := Int32.toInt_lt ((Int32.ofNat i) <<< ((1 : Int32) &&& 31))
  have b' := Int32.le_toInt ((Int32.ofNat i) <<< ((1 : Int32) &&& 31))
  rw [n32i (by omega)] at q
  apply Int32.toInt_inj.mp
  rw [n32i (by omega)]; omega
theorem sr1 {i : Nat} (h : i ≤ 4000) : ((Int32.ofNat (2 * i)) >>> ((1 : Int32) &&& 31)) = Int32.ofNat i := by
  have q := c_ishr (Int32.ofNat (2 * i)) 1 1 (by decide)
  rw [n32i (by omega)] at q
  apply Int32.toInt_inj.mp
  rw [n32i (by omega)]; omega
theorem inbN {c : Cell} {k n : Nat} (S : c.slots.size = (Int32.ofNat n).toNatClampNeg) (h : k < n) (hn : n ≤ 10000) : ¬ ((Int32.ofNat k) < 0 ∨ c.slots.size ≤ (Int32.ofNat k).toNatClampNeg) := by
  rw [S, nat32 (by omega), nat32 (by omega)]
  rintro (q | q)
  · exact nneg (by omega) q
  · omega
theorem gp16 {cs : List Int32} {i : Nat} (hbr : ∀ c ∈ cs, ¬ c < 0 ∧ ¬ (65535 : Int32) < c) (hi : i < cs.length) : StrChars.pairCh (StrChars.lo8 (cs.getD i 0)) (StrChars.hi8 (cs.getD i 0)) = cs.getD i 0 := by
  have q := hbr _ (List.getElem_mem hi)
  rw [show cs.getD i 0 = cs[i] by simp [List.getD_eq_getElem?_getD, hi]]
  exact StrChars.pair_says q.1 q.2
theorem str16 {Z : State} {h : Heap} {a t : Addr} {k : ClassId} {cs : List Int32} {N : Int32} {vs : List Value} (hN : N = Int32.ofNat (2 * cs.length)) (hv : vs = StrChars.Road.wideBytes cs) (hl : cs.length ≤ 4000) (hbr : ∀ c ∈ cs, ¬ c < 0 ∧ ¬ (65535 : Int32) < c) (hw : ∃ c ∈ cs, (255 : Int32) < c) (E : Exa Z h a "java/lang/String") (V : Fld Z h a "java/lang/String" "value" "[B" (.ref t)) (C : Fld Z h a "java/lang/String" "coder" "B" (.int (1 : Int32))) (A : Arv Z h t k .byte N vs (.int (0 : Int32))) : Str Z h a t cs :=
  ⟨k, 1, N, vs, E, V, C, A, Or.inr ⟨rfl, hN, hv, hw⟩, hbr, hl⟩

theorem pn_java_lang_StringUTF16 : plainName "java/lang/StringUTF16" = true := by first | (simp [plainName, overriddenIn]; done) | decide +kernel
theorem ef_rm_len16 (m : MethodId) (x0 : Addr)  : entryFrame m #[(.ref x0)] 1 = mkF m 0 #[.val (.ref x0)] [] := by first | (simp [entryFrame, mkF, argsToLocals, Value.category]; done) | rfl
theorem d_0_0 : decode jdk_52_method_6_code 0 = .ok (.aload_n 0, 1) := by decide +kernel
theorem d_0_1 : decode jdk_52_method_6_code 1 = .ok (.arraylength, 1) := by decide +kernel
theorem d_0_2 : decode jdk_52_method_6_code 2 = .ok (.iconst 1, 1) := by decide +kernel
theorem d_0_3 : decode jdk_52_method_6_code 3 = .ok (.ishr, 1) := by decide +kernel
theorem d_0_4 : decode jdk_52_method_6_code 4 = .ok (.ireturn, 1) := by decide +kernel
set_option maxRecDepth 65536 in
set_option maxHeartbeats 40000000 in
theorem rm_len16 (l : Launch) (Z : State) (a0 : Array Value) (hw : ∀ d ∈ tables_1, d.before a0 Z = true) (a1 : Addr) (ka : ClassId) (cs : List Int32) (h0 : Heap) (V_a1 : Arv Z h0 a1 ka .byte (Int32.ofNat (2 * cs.length)) (StrChars.Road.wideBytes cs) (.int (0 : Int32))) (hl : cs.length ≤ 4000) :
    MeetsW l Z (⟨"java/lang/StringUTF16", "length", "([B)I"⟩ : MethodName) jdk_52_method_6_code 1 (some .int) ({ frames := 0, cells := 0, slots := 0, locals := 0 } : Room) #[(.ref a1)] h0 (Pu h0 (fun v => v = some (.int (Int32.ofNat cs.length)))) := by
  refine MeetsW.of (plainFor_of_name pn_java_lang_StringUTF16) ?_
  intro p e s m below meth c s₁ P hx hby hml hZ hown hnm hret hlk X0 e0 K
  have M0 : Mv h0 h0 [] [] := Mv.refl _ _
  refine Go.cast (ef_rm_len16 m a1 ) ?_
  refine Go.of (T' := s₁) (f' := (mkF m 1 #[sR a1] [(.ref a1)])) (fun _ k => XS.aloadN X0.here hx rfl (hb hby d_0_0) rfl rfl k) ?_
  obtain ⟨cl1, Ar1, -, Sz1, Nn1, -, -⟩ := id V_a1
  refine Go.of (T' := s₁) (f' := (mkF m 2 #[sR a1] [(.int (Int32.ofNat (2 * cs.length)))])) (fun _ k => X0.arraylength hx (by rw [e0]; exact Ar1.1) (State.isArrayOf_alike hZ.alike Ar1.2.1) (g := (mkF m 1 #[sR a1] [(.ref a1)])) rfl rfl (hb hby d_0_1) _ (by rw [len_of Sz1 Nn1]; exact k)) ?_
  refine Go.of (T' := s₁) (f' := (mkF m 3 #[sR a1] [(.int (1 : Int32)), (.int (Int32.ofNat (2 * cs.length)))])) (fun _ k => XS.iconst X0.here hx rfl (hb hby d_0_2) k) ?_
  refine Go.of (T' := s₁) (f' := (mkF m 4 #[sR a1] [(.int ((Int32.ofNat (2 * cs.length)) >>> ((1 : Int32) &&& 31)))])) (fun _ k => XS.ishr X0.here hx rfl (hb hby d_0_3) rfl k) ?_
  exact goRetI (Q := Pu h0 (fun v => v = some (.int (Int32.ofNat cs.length)))) X0 hx (t := .int) hret hlk rfl (by simp) (hb hby d_0_4) K (by decide) (by decide) e0 (⟨rfl, rfl, congrArg (fun z => some (Value.int z)) (sr1 hl)⟩)
theorem ef_rm_getChar (m : MethodId) (x0 : Addr) (x1 : Int32)  : entryFrame m #[(.ref x0), (.int x1)] 2 = mkF m 0 #[.val (.ref x0), .val (.int x1)] [] := by first | (simp [entryFrame, mkF, argsToLocals, Value.category]; done) | rfl
theorem d_1_0 : decode jdk_52_method_5_code 0 = .ok (.getstatic 44, 3) := by decide +kernel
theorem d_1_3 : decode jdk_52_method_5_code 3 = .ok (.ifCond .ne 25, 3) := by decide +kernel
theorem d_1_28 : decode jdk_52_method_5_code 28 = .ok (.iload_n 1, 1) := by decide +kernel
theorem d_1_29 : decode jdk_52_method_5_code 29 = .ok (.iconst 1, 1) := by decide +kernel
theorem d_1_30 : decode jdk_52_method_5_code 30 = .ok (.ishl, 1) := by decide +kernel
theorem d_1_31 : decode jdk_52_method_5_code 31 = .ok (.istore_n 1, 1) := by decide +kernel
theorem d_1_32 : decode jdk_52_method_5_code 32 = .ok (.aload_n 0, 1) := by decide +kernel
theorem d_1_33 : decode jdk_52_method_5_code 33 = .ok (.iload_n 1, 1) := by decide +kernel
theorem d_1_34 : decode jdk_52_method_5_code 34 = .ok (.iinc 1 1, 3) := by decide +kernel
theorem d_1_37 : decode jdk_52_method_5_code 37 = .ok (.baload, 1) := by decide +kernel
theorem d_1_38 : decode jdk_52_method_5_code 38 = .ok (.sipush 255, 3) := by decide +kernel
theorem d_1_41 : decode jdk_52_method_5_code 41 = .ok (.iand, 1) := by decide +kernel
theorem d_1_42 : decode jdk_52_method_5_code 42 = .ok (.getstatic 59, 3) := by decide +kernel
theorem d_1_45 : decode jdk_52_method_5_code 45 = .ok (.ishl, 1) := by decide +kernel
theorem d_1_46 : decode jdk_52_method_5_code 46 = .ok (.aload_n 0, 1) := by decide +kernel
theorem d_1_47 : decode jdk_52_method_5_code 47 = .ok (.iload_n 1, 1) := by decide +kernel
theorem d_1_48 : decode jdk_52_method_5_code 48 = .ok (.baload, 1) := by decide +kernel
theorem d_1_49 : decode jdk_52_method_5_code 49 = .ok (.sipush 255, 3) := by decide +kernel
theorem d_1_52 : decode jdk_52_method_5_code 52 = .ok (.iand, 1) := by decide +kernel
theorem d_1_53 : decode jdk_52_method_5_code 53 = .ok (.getstatic 63, 3) := by decide +kernel
theorem d_1_56 : decode jdk_52_method_5_code 56 = .ok (.ishl, 1) := by decide +kernel
theorem d_1_57 : decode jdk_52_method_5_code 57 = .ok (.ior, 1) := by decide +kernel
theorem d_1_58 : decode jdk_52_method_5_code 58 = .ok (.i2c, 1) := by decide +kernel
theorem d_1_59 : decode jdk_52_method_5_code 59 = .ok (.ireturn, 1) := by decide +kernel
set_option maxRecDepth 65536 in
set_option maxHeartbeats 40000000 in
theorem rm_getChar (l : Launch) (Z : State) (a0 : Array Value) (hw : ∀ d ∈ tables_1, d.before a0 Z = true) (a1 : Addr) (ka : ClassId) (cs : List Int32) (i : Nat) (h0 : Heap) (V_a1 : Arv Z h0 a1 ka .byte (Int32.ofNat (2 * cs.length)) (StrChars.Road.wideBytes cs) (.int (0 : Int32))) (hl : cs.length ≤ 4000) (hi : i < cs.length) (hbr : ∀ c ∈ cs, ¬ c < 0 ∧ ¬ (65535 : Int32) < c) (Z_ad : Sta Z h0 "java/lang/StringUTF16" "$assertionsDisabled" "Z" (.int (1 : Int32))) (Z_hs : Sta Z h0 "java/lang/StringUTF16" "HI_BYTE_SHIFT" "I" (.int (0 : Int32))) (Z_ls : Sta Z h0 "java/lang/StringUTF16" "LO_BYTE_SHIFT" "I" (.int (8 : Int32))) :
    MeetsW l Z (⟨"java/lang/StringUTF16", "getChar", "([BI)C"⟩ : MethodName) jdk_52_method_5_code 2 (some .char) ({ frames := 0, cells := 0, slots := 0, locals := 0 } : Room) #[(.ref a1), (.int (Int32.ofNat i))] h0 (Pu h0 (fun v => v = some (.int (cs.getD i 0)))) := by
  refine MeetsW.of (plainFor_of_name pn_java_lang_StringUTF16) ?_
  intro p e s m below meth c s₁ P hx hby hml hZ hown hnm hret hlk X0 e0 K
  have M0 : Mv h0 h0 [] [] := Mv.refl _ _
  refine Go.cast (ef_rm_getChar m a1 (Int32.ofNat i) ) ?_
  obtain ⟨T1, X1, e1, st1⟩ := getS2 X0 hx hZ hown (host := "") (Or.inl (hw _ (List.mem_of_getElem? (i := 152) rfl))) Via.refl e0 Z_ad (g := (mkF m 0 #[sR a1, sI (Int32.ofNat i)] [])) rfl (hb hby d_1_0)
  refine Go.of (T' := T1) (f' := (mkF m 3 #[sR a1, sI (Int32.ofNat i)] [(.int (1 : Int32))])) st1 ?_
  refine Go.of (T' := T1) (f' := (mkF m 28 #[sR a1, sI (Int32.ofNat i)] [])) (fun _ k => XS.ifYes X1.here hx rfl (pc0 := 3) (pc' := 28) rfl (hb hby d_1_3) rfl (by decide) (by decide) (by decide) k) ?_
  refine Go.of (T' := T1) (f' := (mkF m 29 #[sR a1, sI (Int32.ofNat i)] [(.int (Int32.ofNat i))])) (fun _ k => XS.iloadN X1.here hx rfl (hb hby d_1_28) rfl k) ?_
  refine Go.of (T' := T1) (f' := (mkF m 30 #[sR a1, sI (Int32.ofNat i)] [(.int (1 : Int32)), (.int (Int32.ofNat i))])) (fun _ k => XS.iconst X1.here hx rfl (hb hby d_1_29) k) ?_
  refine Go.of (T' := T1) (f' := (mkF m 31 #[sR a1, sI (Int32.ofNat i)] [(.int ((Int32.ofNat i) <<< ((1 : Int32) &&& 31)))])) (fun _ k => XS.ishl X1.here hx rfl (hb hby d_1_30) rfl k) ?_
  rw [sh1 (i := i) (by omega)]
  refine Go.of (T' := T1) (f' := (mkF m 32 #[sR a1, sI (Int32.ofNat (2 * i))] [])) (fun _ k => XS.istoreN X1.here hx rfl (hb hby d_1_31) rfl (l' := #[sR a1, sI (Int32.ofNat (2 * i))]) rfl k) ?_
  refine Go.of (T' := T1) (f' := (mkF m 33 #[sR a1, sI (Int32.ofNat (2 * i))] [(.ref a1)])) (fun _ k => XS.aloadN X1.here hx rfl (hb hby d_1_32) rfl rfl k) ?_
  refine Go.of (T' := T1) (f' := (mkF m 34 #[sR a1, sI (Int32.ofNat (2 * i))] [(.int (Int32.ofNat (2 * i))), (.ref a1)])) (fun _ k => XS.iloadN X1.here hx rfl (hb hby d_1_33) rfl k) ?_
  refine Go.of (T' := T1) (f' := (mkF m 37 #[sR a1, sI ((Int32.ofNat (2 * i)) + (1 : Int32))] [(.int (Int32.ofNat (2 * i))), (.ref a1)])) (fun _ k => XS.iinc X1.here hx rfl (hb hby d_1_34) rfl (l' := #[sR a1, sI ((Int32.ofNat (2 * i)) + (1 : Int32))]) rfl k) ?_
  rw [show (Int32.ofNat (2 * i)) + (1 : Int32) = Int32.ofNat (2 * i + 1) from (Int32.ofNat_add _ 1).symm]
  obtain ⟨cl2, Ar2, cq2, Sz2, Nn2, Hs2, Gs2⟩ := id V_a1
  have hin2 : ¬ ((Int32.ofNat (2 * i)) < 0 ∨ cl2.slots.size ≤ ((Int32.ofNat (2 * i))).toNatClampNeg) := inbN Sz2 (by omega) (by omega)
  have hat2 : cl2.slots[((Int32.ofNat (2 * i))).toNatClampNeg]? = some (.int (StrChars.lo8 (cs.getD i 0))) := Has.at Hs2 hin2 (by rw [nat32 (by omega)]; exact StrChars.Road.wide_lo _ cs i hi)
  refine Go.of (T' := T1) (f' := (mkF m 38 #[sR a1, sI (Int32.ofNat (2 * i + 1))] [(.int (StrChars.lo8 (cs.getD i 0)))])) (fun _ k => X1.baloadBytes hx (j := (Int32.ofNat (2 * i))) (v := (.int (StrChars.lo8 (cs.getD i 0)))) (by rw [e1]; exact Ar2.1) (State.isArrayOf_alike hZ.alike Ar2.2.1) Ar2.2.2 hin2 hat2 (g := (mkF m 37 #[sR a1, sI (Int32.ofNat (2 * i + 1))] [(.int (Int32.ofNat (2 * i))), (.ref a1)])) rfl rfl (hb hby d_1_37) _ k) ?_
  refine Go.of (T' := T1) (f' := (mkF m 41 #[sR a1, sI (Int32.ofNat (2 * i + 1))] [(.int (255 : Int32)), (.int (StrChars.lo8 (cs.getD i 0)))])) (fun _ k => XS.sipush X1.here hx rfl (hb hby d_1_38) k) ?_
  refine Go.of (T' := T1) (f' := (mkF m 42 #[sR a1, sI (Int32.ofNat (2 * i + 1))] [(.int ((StrChars.lo8 (cs.getD i 0)) &&& (255 : Int32)))])) (fun _ k => XS.iand X1.here hx rfl (hb hby d_1_41) rfl k) ?_
  obtain ⟨T3, X3, e3, st3⟩ := getS2 X1 hx hZ hown (host := "") (Or.inl (hw _ (List.mem_of_getElem? (i := 153) rfl))) Via.refl e1 Z_hs (g := (mkF m 42 #[sR a1, sI (Int32.ofNat (2 * i + 1))] [(.int ((StrChars.lo8 (cs.getD i 0)) &&& (255 : Int32)))])) rfl (hb hby d_1_42)
  refine Go.of (T' := T3) (f' := (mkF m 45 #[sR a1, sI (Int32.ofNat (2 * i + 1))] [(.int (0 : Int32)), (.int ((StrChars.lo8 (cs.getD i 0)) &&& (255 : Int32)))])) st3 ?_
  refine Go.of (T' := T3) (f' := (mkF m 46 #[sR a1, sI (Int32.ofNat (2 * i + 1))] [(.int (((StrChars.lo8 (cs.getD i 0)) &&& (255 : Int32)) <<< ((0 : Int32) &&& 31)))])) (fun _ k => XS.ishl X3.here hx rfl (hb hby d_1_45) rfl k) ?_
  refine Go.of (T' := T3) (f' := (mkF m 47 #[sR a1, sI (Int32.ofNat (2 * i + 1))] [(.ref a1), (.int (((StrChars.lo8 (cs.getD i 0)) &&& (255 : Int32)) <<< ((0 : Int32) &&& 31)))])) (fun _ k => XS.aloadN X3.here hx rfl (hb hby d_1_46) rfl rfl k) ?_
  refine Go.of (T' := T3) (f' := (mkF m 48 #[sR a1, sI (Int32.ofNat (2 * i + 1))] [(.int (Int32.ofNat (2 * i + 1))), (.ref a1), (.int (((StrChars.lo8 (cs.getD i 0)) &&& (255 : Int32)) <<< ((0 : Int32) &&& 31)))])) (fun _ k => XS.iloadN X3.here hx rfl (hb hby d_1_47) rfl k) ?_
  obtain ⟨cl4, Ar4, cq4, Sz4, Nn4, Hs4, Gs4⟩ := id V_a1
  have hin4 : ¬ ((Int32.ofNat (2 * i + 1)) < 0 ∨ cl4.slots.size ≤ ((Int32.ofNat (2 * i + 1))).toNatClampNeg) := inbN Sz4 (by omega) (by omega)
  have hat4 : cl4.slots[((Int32.ofNat (2 * i + 1))).toNatClampNeg]? = some (.int (StrChars.hi8 (cs.getD i 0))) := Has.at Hs4 hin4 (by rw [nat32 (by omega)]; exact StrChars.Road.wide_hi _ cs i hi)
  refine Go.of (T' := T3) (f' := (mkF m 49 #[sR a1, sI (Int32.ofNat (2 * i + 1))] [(.int (StrChars.hi8 (cs.getD i 0))), (.int (((StrChars.lo8 (cs.getD i 0)) &&& (255 : Int32)) <<< ((0 : Int32) &&& 31)))])) (fun _ k => X3.baloadBytes hx (j := (Int32.ofNat (2 * i + 1))) (v := (.int (StrChars.hi8 (cs.getD i 0)))) (by rw [e3]; exact Ar4.1) (State.isArrayOf_alike hZ.alike Ar4.2.1) Ar4.2.2 hin4 hat4 (g := (mkF m 48 #[sR a1, sI (Int32.ofNat (2 * i + 1))] [(.int (Int32.ofNat (2 * i + 1))), (.ref a1), (.int (((StrChars.lo8 (cs.getD i 0)) &&& (255 : Int32)) <<< ((0 : Int32) &&& 31)))])) rfl rfl (hb hby d_1_48) _ k) ?_
  refine Go.of (T' := T3) (f' := (mkF m 52 #[sR a1, sI (Int32.ofNat (2 * i + 1))] [(.int (255 : Int32)), (.int (StrChars.hi8 (cs.getD i 0))), (.int (((StrChars.lo8 (cs.getD i 0)) &&& (255 : Int32)) <<< ((0 : Int32) &&& 31)))])) (fun _ k => XS.sipush X3.here hx rfl (hb hby d_1_49) k) ?_
  refine Go.of (T' := T3) (f' := (mkF m 53 #[sR a1, sI (Int32.ofNat (2 * i + 1))] [(.int ((StrChars.hi8 (cs.getD i 0)) &&& (255 : Int32))), (.int (((StrChars.lo8 (cs.getD i 0)) &&& (255 : Int32)) <<< ((0 : Int32) &&& 31)))])) (fun _ k => XS.iand X3.here hx rfl (hb hby d_1_52) rfl k) ?_
  obtain ⟨T5, X5, e5, st5⟩ := getS2 X3 hx hZ hown (host := "") (Or.inl (hw _ (List.mem_of_getElem? (i := 154) rfl))) Via.refl e3 Z_ls (g := (mkF m 53 #[sR a1, sI (Int32.ofNat (2 * i + 1))] [(.int ((StrChars.hi8 (cs.getD i 0)) &&& (255 : Int32))), (.int (((StrChars.lo8 (cs.getD i 0)) &&& (255 : Int32)) <<< ((0 : Int32) &&& 31)))])) rfl (hb hby d_1_53)
  refine Go.of (T' := T5) (f' := (mkF m 56 #[sR a1, sI (Int32.ofNat (2 * i + 1))] [(.int (8 : Int32)), (.int ((StrChars.hi8 (cs.getD i 0)) &&& (255 : Int32))), (.int (((StrChars.lo8 (cs.getD i 0)) &&& (255 : Int32)) <<< ((0 : Int32) &&& 31)))])) st5 ?_
  refine Go.of (T' := T5) (f' := (mkF m 57 #[sR a1, sI (Int32.ofNat (2 * i + 1))] [(.int (((StrChars.hi8 (cs.getD i 0)) &&& (255 : Int32)) <<< ((8 : Int32) &&& 31))), (.int (((StrChars.lo8 (cs.getD i 0)) &&& (255 : Int32)) <<< ((0 : Int32) &&& 31)))])) (fun _ k => XS.ishl X5.here hx rfl (hb hby d_1_56) rfl k) ?_
  refine Go.of (T' := T5) (f' := (mkF m 58 #[sR a1, sI (Int32.ofNat (2 * i + 1))] [(.int ((((StrChars.lo8 (cs.getD i 0)) &&& (255 : Int32)) <<< ((0 : Int32) &&& 31)) ||| (((StrChars.hi8 (cs.getD i 0)) &&& (255 : Int32)) <<< ((8 : Int32) &&& 31))))])) (fun _ k => XS.ior X5.here hx rfl (hb hby d_1_57) rfl k) ?_
  refine Go.of (T' := T5) (f' := (mkF m 59 #[sR a1, sI (Int32.ofNat (2 * i + 1))] [(.int (((((StrChars.lo8 (cs.getD i 0)) &&& (255 : Int32)) <<< ((0 : Int32) &&& 31)) ||| (((StrChars.hi8 (cs.getD i 0)) &&& (255 : Int32)) <<< ((8 : Int32) &&& 31))).toUInt32.toUInt16.toUInt32.toInt32))])) (fun _ k => XS.i2c X5.here hx rfl (hb hby d_1_58) rfl k) ?_
  exact goRetI (Q := Pu h0 (fun v => v = some (.int (cs.getD i 0)))) X5 hx (t := .char) hret hlk (congrArg Value.int (narC _)) (by simp) (hb hby d_1_59) K (by decide) (by decide) e5 (⟨rfl, rfl, congrArg (fun z => some (Value.int z)) (gp16 hbr hi)⟩)
theorem nar16 {cs : List Int32} {i : Nat} (hbr : ∀ c ∈ cs, ¬ c < 0 ∧ ¬ (65535 : Int32) < c) (hi : i < cs.length) : narrow .char (.int (cs.getD i 0)) = .int (cs.getD i 0) := by
  have q := hbr _ (List.getElem_mem hi)
  rw [show cs.getD i 0 = cs[i] by simp [List.getD_eq_getElem?_getD, hi]]
  have h1 := c_i2c cs[i]
  have e1 : (0 : Int32).toInt = 0 := by decide
  have e2 : (65535 : Int32).toInt = 65535 := by decide
  rw [Int32.lt_iff_toInt_lt, Int32.lt_iff_toInt_lt, e1, e2] at q
  exact congrArg Value.int (show cs[i].toUInt32.toUInt16.toUInt32.toInt32 = cs[i] from Int32.toInt_inj.mp (by omega))
theorem pn_java_lang_String : plainName "java/lang/String" = true := by first | (simp [plainName, overriddenIn]; done) | decide +kernel
theorem ef_rm_isL (m : MethodId) (x0 : Addr)  : entryFrame m #[(.ref x0)] 1 = mkF m 0 #[.val (.ref x0)] [] := by first | (simp [entryFrame, mkF, argsToLocals, Value.category]; done) | rfl
theorem d_2_0 : decode jdk_42_method_154_code 0 = .ok (.getstatic 38, 3) := by decide +kernel
theorem d_2_3 : decode jdk_42_method_154_code 3 = .ok (.ifCond .eq 14, 3) := by decide +kernel
theorem d_2_6 : decode jdk_42_method_154_code 6 = .ok (.aload_n 0, 1) := by decide +kernel
theorem d_2_7 : decode jdk_42_method_154_code 7 = .ok (.getfield 15, 3) := by decide +kernel
theorem d_2_10 : decode jdk_42_method_154_code 10 = .ok (.ifCond .ne 7, 3) := by decide +kernel
theorem d_2_17 : decode jdk_42_method_154_code 17 = .ok (.iconst 0, 1) := by decide +kernel
theorem d_2_18 : decode jdk_42_method_154_code 18 = .ok (.ireturn, 1) := by decide +kernel
set_option maxRecDepth 65536 in
set_option maxHeartbeats 40000000 in
theorem rm_isL (l : Launch) (Z : State) (a0 : Array Value) (hw : ∀ d ∈ tables_1, d.before a0 Z = true) (a1 : Addr) (zc : Int32) (h0 : Heap) (F_coder : Fld Z h0 a1 "java/lang/String" "coder" "B" (.int (1 : Int32))) (Z_cs : Sta Z h0 "java/lang/String" "COMPACT_STRINGS" "Z" (.int zc)) (hz : ¬ zc = 0) :
    MeetsW l Z (⟨"java/lang/String", "isLatin1", "()Z"⟩ : MethodName) jdk_42_method_154_code 1 (some .boolean) ({ frames := 0, cells := 0, slots := 0, locals := 0 } : Room) #[(.ref a1)] h0 (Pu h0 (fun v => v = some (.int 0))) := by
  refine MeetsW.of (plainFor_of_name pn_java_lang_String) ?_
  intro p e s m below meth c s₁ P hx hby hml hZ hown hnm hret hlk X0 e0 K
  have M0 : Mv h0 h0 [] [] := Mv.refl _ _
  refine Go.cast (ef_rm_isL m a1 ) ?_
  obtain ⟨T1, X1, e1, st1⟩ := getS2 X0 hx hZ hown (host := "") (Or.inl (hw _ (List.mem_of_getElem? (i := 21) rfl))) Via.refl e0 Z_cs (g := (mkF m 0 #[sR a1] [])) rfl (hb hby d_2_0)
  refine Go.of (T' := T1) (f' := (mkF m 3 #[sR a1] [(.int zc)])) st1 ?_
  have hc3 : ¬ (zc = (0 : Int32)) := hz
  refine Go.of (T' := T1) (f' := (mkF m 6 #[sR a1] [])) (fun _ k => XS.ifNo X1.here hx rfl (hb hby d_2_3) rfl ((if0 _ _).trans (feq hc3).1) k) ?_
  refine Go.of (T' := T1) (f' := (mkF m 7 #[sR a1] [(.ref a1)])) (fun _ k => XS.aloadN X1.here hx rfl (hb hby d_2_6) rfl rfl k) ?_
  obtain ⟨T2, X2, e2, st2⟩ := getF X1 hx hZ hown (host := "") (Or.inl (hw _ (List.mem_of_getElem? (i := 33) rfl))) Via.refl e1 F_coder (g := (mkF m 7 #[sR a1] [(.ref a1)])) rfl rfl (hb hby d_2_7)
  refine Go.of (T' := T2) (f' := (mkF m 10 #[sR a1] [(.int (1 : Int32))])) st2 ?_
  refine Go.of (T' := T2) (f' := (mkF m 17 #[sR a1] [])) (fun _ k => XS.ifYes X2.here hx rfl (pc0 := 10) (pc' := 17) rfl (hb hby d_2_10) rfl (by decide) (by decide) (by decide) k) ?_
  refine Go.of (T' := T2) (f' := (mkF m 18 #[sR a1] [(.int (0 : Int32))])) (fun _ k => XS.iconst X2.here hx rfl (hb hby d_2_17) k) ?_
  exact goRetI (Q := Pu h0 (fun v => v = some (.int 0))) X2 hx (t := .boolean) hret hlk rfl (by simp) (hb hby d_2_18) K (by decide) (by decide) e2 (⟨rfl, rfl, rfl⟩)
theorem inbS {c : Cell} {k : Int32} {N : Int32} {m : Nat} (S : c.slots.size = N.toNatClampNeg) (hN : N.toNatClampNeg = m) : (¬ (k < 0 ∨ c.slots.size ≤ k.toNatClampNeg)) = (¬ k < 0 ∧ ¬ m ≤ k.toNatClampNeg) := by rw [S, hN]; simp
theorem ef_rm_putChar (m : MethodId) (x0 : Addr) (x1 : Int32) (x2 : Int32)  : entryFrame m #[(.ref x0), (.int x1), (.int x2)] 3 = mkF m 0 #[.val (.ref x0), .val (.int x1), .val (.int x2)] [] := by first | (simp [entryFrame, mkF, argsToLocals, Value.category]; done) | rfl
theorem d_3_0 : decode jdk_52_method_4_code 0 = .ok (.getstatic 44, 3) := by decide +kernel
theorem d_3_3 : decode jdk_52_method_4_code 3 = .ok (.ifCond .ne 25, 3) := by decide +kernel
theorem d_3_28 : decode jdk_52_method_4_code 28 = .ok (.iload_n 1, 1) := by decide +kernel
theorem d_3_29 : decode jdk_52_method_4_code 29 = .ok (.iconst 1, 1) := by decide +kernel
theorem d_3_30 : decode jdk_52_method_4_code 30 = .ok (.ishl, 1) := by decide +kernel
theorem d_3_31 : decode jdk_52_method_4_code 31 = .ok (.istore_n 1, 1) := by decide +kernel
theorem d_3_32 : decode jdk_52_method_4_code 32 = .ok (.aload_n 0, 1) := by decide +kernel
theorem d_3_33 : decode jdk_52_method_4_code 33 = .ok (.iload_n 1, 1) := by decide +kernel
theorem d_3_34 : decode jdk_52_method_4_code 34 = .ok (.iinc 1 1, 3) := by decide +kernel
theorem d_3_37 : decode jdk_52_method_4_code 37 = .ok (.iload_n 2, 1) := by decide +kernel
theorem d_3_38 : decode jdk_52_method_4_code 38 = .ok (.getstatic 59, 3) := by decide +kernel
theorem d_3_41 : decode jdk_52_method_4_code 41 = .ok (.ishr, 1) := by decide +kernel
theorem d_3_42 : decode jdk_52_method_4_code 42 = .ok (.i2b, 1) := by decide +kernel
theorem d_3_43 : decode jdk_52_method_4_code 43 = .ok (.bastore, 1) := by decide +kernel
theorem d_3_44 : decode jdk_52_method_4_code 44 = .ok (.aload_n 0, 1) := by decide +kernel
theorem d_3_45 : decode jdk_52_method_4_code 45 = .ok (.iload_n 1, 1) := by decide +kernel
theorem d_3_46 : decode jdk_52_method_4_code 46 = .ok (.iload_n 2, 1) := by decide +kernel
theorem d_3_47 : decode jdk_52_method_4_code 47 = .ok (.getstatic 63, 3) := by decide +kernel
theorem d_3_50 : decode jdk_52_method_4_code 50 = .ok (.ishr, 1) := by decide +kernel
theorem d_3_51 : decode jdk_52_method_4_code 51 = .ok (.i2b, 1) := by decide +kernel
theorem d_3_52 : decode jdk_52_method_4_code 52 = .ok (.bastore, 1) := by decide +kernel
theorem d_3_53 : decode jdk_52_method_4_code 53 = .ok (.return_, 1) := by decide +kernel
set_option maxRecDepth 65536 in
set_option maxHeartbeats 40000000 in
theorem rm_putChar (l : Launch) (Z : State) (a0 : Array Value) (hw : ∀ d ∈ tables_1, d.before a0 Z = true) (a1 : Addr) (ka : ClassId) (N : Int32) (vs : List Value) (i : Nat) (p3 : Int32) (h0 : Heap) (V_a1 : Arv Z h0 a1 ka .byte N vs (.int (0 : Int32))) (hN : N.toNatClampNeg = vs.length) (hi : 2 * i + 1 < vs.length) (hl : i ≤ 4000) (Z_ad : Sta Z h0 "java/lang/StringUTF16" "$assertionsDisabled" "Z" (.int (1 : Int32))) (Z_hs : Sta Z h0 "java/lang/StringUTF16" "HI_BYTE_SHIFT" "I" (.int (0 : Int32))) (Z_ls : Sta Z h0 "java/lang/StringUTF16" "LO_BYTE_SHIFT" "I" (.int (8 : Int32))) :
    MeetsW l Z (⟨"java/lang/StringUTF16", "putChar", "([BII)V"⟩ : MethodName) jdk_52_method_4_code 3 none ({ frames := 0, cells := 0, slots := 0, locals := 0 } : Room) #[(.ref a1), (.int (Int32.ofNat i)), (.int p3)] h0 (fun v h L => v = none ∧ Mv h0 h [a1] L ∧ Arv Z h a1 ka .byte N ((vs.set (2 * i) (.int (StrChars.lo8 p3))).set (2 * i + 1) (.int (StrChars.hi8 p3))) (.int (0 : Int32))) := by
  refine MeetsW.of (plainFor_of_name pn_java_lang_StringUTF16) ?_
  intro p e s m below meth c s₁ P hx hby hml hZ hown hnm hret hlk X0 e0 K
  have M0 : Mv h0 h0 [a1] [] := Mv.refl _ _
  refine Go.cast (ef_rm_putChar m a1 (Int32.ofNat i) p3 ) ?_
  obtain ⟨T1, X1, e1, st1⟩ := getS2 X0 hx hZ hown (host := "") (Or.inl (hw _ (List.mem_of_getElem? (i := 152) rfl))) Via.refl e0 Z_ad (g := (mkF m 0 #[sR a1, sI (Int32.ofNat i), sI p3] [])) rfl (hb hby d_3_0)
  refine Go.of (T' := T1) (f' := (mkF m 3 #[sR a1, sI (Int32.ofNat i), sI p3] [(.int (1 : Int32))])) st1 ?_
  refine Go.of (T' := T1) (f' := (mkF m 28 #[sR a1, sI (Int32.ofNat i), sI p3] [])) (fun _ k => XS.ifYes X1.here hx rfl (pc0 := 3) (pc' := 28) rfl (hb hby d_3_3) rfl (by decide) (by decide) (by decide) k) ?_
  refine Go.of (T' := T1) (f' := (mkF m 29 #[sR a1, sI (Int32.ofNat i), sI p3] [(.int (Int32.ofNat i))])) (fun _ k => XS.iloadN X1.here hx rfl (hb hby d_3_28) rfl k) ?_
  refine Go.of (T' := T1) (f' := (mkF m 30 #[sR a1, sI (Int32.ofNat i), sI p3] [(.int (1 : Int32)), (.int (Int32.ofNat i))])) (fun _ k => XS.iconst X1.here hx rfl (hb hby d_3_29) k) ?_
  refine Go.of (T' := T1) (f' := (mkF m 31 #[sR a1, sI (Int32.ofNat i), sI p3] [(.int ((Int32.ofNat i) <<< ((1 : Int32) &&& 31)))])) (fun _ k => XS.ishl X1.here hx rfl (hb hby d_3_30) rfl k) ?_
  rw [sh1 (i := i) (by omega)]
  refine Go.of (T' := T1) (f' := (mkF m 32 #[sR a1, sI (Int32.ofNat (2 * i)), sI p3] [])) (fun _ k => XS.istoreN X1.here hx rfl (hb hby d_3_31) rfl (l' := #[sR a1, sI (Int32.ofNat (2 * i)), sI p3]) rfl k) ?_
  refine Go.of (T' := T1) (f' := (mkF m 33 #[sR a1, sI (Int32.ofNat (2 * i)), sI p3] [(.ref a1)])) (fun _ k => XS.aloadN X1.here hx rfl (hb hby d_3_32) rfl rfl k) ?_
  refine Go.of (T' := T1) (f' := (mkF m 34 #[sR a1, sI (Int32.ofNat (2 * i)), sI p3] [(.int (Int32.ofNat (2 * i))), (.ref a1)])) (fun _ k => XS.iloadN X1.here hx rfl (hb hby d_3_33) rfl k) ?_
  refine Go.of (T' := T1) (f' := (mkF m 37 #[sR a1, sI ((Int32.ofNat (2 * i)) + (1 : Int32)), sI p3] [(.int (Int32.ofNat (2 * i))), (.ref a1)])) (fun _ k => XS.iinc X1.here hx rfl (hb hby d_3_34) rfl (l' := #[sR a1, sI ((Int32.ofNat (2 * i)) + (1 : Int32)), sI p3]) rfl k) ?_
  rw [show (Int32.ofNat (2 * i)) + (1 : Int32) = Int32.ofNat (2 * i + 1) from (Int32.ofNat_add _ 1).symm]
  refine Go.of (T' := T1) (f' := (mkF m 38 #[sR a1, sI (Int32.ofNat (2 * i + 1)), sI p3] [(.int p3), (.int (Int32.ofNat (2 * i))), (.ref a1)])) (fun _ k => XS.iloadN X1.here hx rfl (hb hby d_3_37) rfl k) ?_
  obtain ⟨T2, X2, e2, st2⟩ := getS2 X1 hx hZ hown (host := "") (Or.inl (hw _ (List.mem_of_getElem? (i := 153) rfl))) Via.refl e1 Z_hs (g := (mkF m 38 #[sR a1, sI (Int32.ofNat (2 * i + 1)), sI p3] [(.int p3), (.int (Int32.ofNat (2 * i))), (.ref a1)])) rfl (hb hby d_3_38)
  refine Go.of (T' := T2) (f' := (mkF m 41 #[sR a1, sI (Int32.ofNat (2 * i + 1)), sI p3] [(.int (0 : Int32)), (.int p3), (.int (Int32.ofNat (2 * i))), (.ref a1)])) st2 ?_
  refine Go.of (T' := T2) (f' := (mkF m 42 #[sR a1, sI (Int32.ofNat (2 * i + 1)), sI p3] [(.int (p3 >>> ((0 : Int32) &&& 31))), (.int (Int32.ofNat (2 * i))), (.ref a1)])) (fun _ k => XS.ishr X2.here hx rfl (hb hby d_3_41) rfl k) ?_
  refine Go.of (T' := T2) (f' := (mkF m 43 #[sR a1, sI (Int32.ofNat (2 * i + 1)), sI p3] [(.int ((p3 >>> ((0 : Int32) &&& 31)).toInt8.toInt32)), (.int (Int32.ofNat (2 * i))), (.ref a1)])) (fun _ k => XS.i2b X2.here hx rfl (hb hby d_3_42) rfl k) ?_
  obtain ⟨cl3, Ar3, cq3, Sz3, Nn3, Hs3, Gs3⟩ := id V_a1
  have hin3 : ¬ ((Int32.ofNat (2 * i)) < 0 ∨ cl3.slots.size ≤ ((Int32.ofNat (2 * i))).toNatClampNeg) := by rw [inbS Sz3 hN]; exact ⟨nneg (by omega), by rw [nat32 (by omega)]; omega⟩
  obtain ⟨T3, h3, X3, e3, W3, st3⟩ := stB X2 hx hZ e2 Ar3 (j := (Int32.ofNat (2 * i))) hin3 (g := (mkF m 43 #[sR a1, sI (Int32.ofNat (2 * i + 1)), sI p3] [(.int ((p3 >>> ((0 : Int32) &&& 31)).toInt8.toInt32)), (.int (Int32.ofNat (2 * i))), (.ref a1)])) rfl rfl (hb hby d_3_43)
  have fq3 : fits .byte (.int (nar .byte ((p3 >>> ((0 : Int32) &&& 31)).toInt8.toInt32))) = true := fits_nar_byte _
  rw [show nar .byte ((p3 >>> ((0 : Int32) &&& 31)).toInt8.toInt32) = (StrChars.lo8 p3) from (nar_b _).trans (congrArg StrChars.lo8 (StrChars.shr0 p3))] at W3 fq3
  have V3 := Arv.set Ar3 cq3 Sz3 Nn3 Hs3 Gs3 fq3 W3 (2 * i) (nat32 (by omega)) (by exact (by omega))
  have V_a1_o := V_a1
  have K3 := Keep.of_wr W3
  have M3 := M0.wr W3 (Or.inl (List.mem_of_getElem? (i := 0) rfl))
  replace Z_ad := StaKeep Z_ad K3 (allS (staArv V_a1_o) all0)
  replace Z_hs := StaKeep Z_hs K3 (allS (staArv V_a1_o) all0)
  replace Z_ls := StaKeep Z_ls K3 (allS (staArv V_a1_o) all0)
  replace V_a1 := V3
  refine Go.of (T' := T3) (f' := (mkF m 44 #[sR a1, sI (Int32.ofNat (2 * i + 1)), sI p3] [])) st3 ?_
  refine Go.of (T' := T3) (f' := (mkF m 45 #[sR a1, sI (Int32.ofNat (2 * i + 1)), sI p3] [(.ref a1)])) (fun _ k => XS.aloadN X3.here hx rfl (hb hby d_3_44) rfl rfl k) ?_
  refine Go.of (T' := T3) (f' := (mkF m 46 #[sR a1, sI (Int32.ofNat (2 * i + 1)), sI p3] [(.int (Int32.ofNat (2 * i + 1))), (.ref a1)])) (fun _ k => XS.iloadN X3.here hx rfl (hb hby d_3_45) rfl k) ?_
  refine Go.of (T' := T3) (f' := (mkF m 47 #[sR a1, sI (Int32.ofNat (2 * i + 1)), sI p3] [(.int p3), (.int (Int32.ofNat (2 * i + 1))), (.ref a1)])) (fun _ k => XS.iloadN X3.here hx rfl (hb hby d_3_46) rfl k) ?_
  obtain ⟨T4, X4, e4, st4⟩ := getS2 X3 hx hZ hown (host := "") (Or.inl (hw _ (List.mem_of_getElem? (i := 154) rfl))) Via.refl e3 Z_ls (g := (mkF m 47 #[sR a1, sI (Int32.ofNat (2 * i + 1)), sI p3] [(.int p3), (.int (Int32.ofNat (2 * i + 1))), (.ref a1)])) rfl (hb hby d_3_47)
  refine Go.of (T' := T4) (f' := (mkF m 50 #[sR a1, sI (Int32.ofNat (2 * i + 1)), sI p3] [(.int (8 : Int32)), (.int p3), (.int (Int32.ofNat (2 * i + 1))), (.ref a1)])) st4 ?_
  refine Go.of (T' := T4) (f' := (mkF m 51 #[sR a1, sI (Int32.ofNat (2 * i + 1)), sI p3] [(.int (p3 >>> ((8 : Int32) &&& 31))), (.int (Int32.ofNat (2 * i + 1))), (.ref a1)])) (fun _ k => XS.ishr X4.here hx rfl (hb hby d_3_50) rfl k) ?_
  refine Go.of (T' := T4) (f' := (mkF m 52 #[sR a1, sI (Int32.ofNat (2 * i + 1)), sI p3] [(.int ((p3 >>> ((8 : Int32) &&& 31)).toInt8.toInt32)), (.int (Int32.ofNat (2 * i + 1))), (.ref a1)])) (fun _ k => XS.i2b X4.here hx rfl (hb hby d_3_51) rfl k) ?_
  obtain ⟨cl5, Ar5, cq5, Sz5, Nn5, Hs5, Gs5⟩ := id V_a1
  have hin5 : ¬ ((Int32.ofNat (2 * i + 1)) < 0 ∨ cl5.slots.size ≤ ((Int32.ofNat (2 * i + 1))).toNatClampNeg) := by rw [inbS Sz5 hN]; exact ⟨nneg (by omega), by rw [nat32 (by omega)]; omega⟩
  obtain ⟨T5, h5, X5, e5, W5, st5⟩ := stB X4 hx hZ e4 Ar5 (j := (Int32.ofNat (2 * i + 1))) hin5 (g := (mkF m 52 #[sR a1, sI (Int32.ofNat (2 * i + 1)), sI p3] [(.int ((p3 >>> ((8 : Int32) &&& 31)).toInt8.toInt32)), (.int (Int32.ofNat (2 * i + 1))), (.ref a1)])) rfl rfl (hb hby d_3_52)
  have fq5 : fits .byte (.int (nar .byte ((p3 >>> ((8 : Int32) &&& 31)).toInt8.toInt32))) = true := fits_nar_byte _
  rw [show nar .byte ((p3 >>> ((8 : Int32) &&& 31)).toInt8.toInt32) = (StrChars.hi8 p3) from nar_b _] at W5 fq5
  have V5 := Arv.set Ar5 cq5 Sz5 Nn5 Hs5 Gs5 fq5 W5 (2 * i + 1) (nat32 (by omega)) (by rw [List.length_set]; exact hi)
  have V_a1_o := V_a1
  have K5 := Keep.of_wr W5
  have M5 := M3.wr W5 (Or.inl (List.mem_of_getElem? (i := 0) rfl))
  replace Z_ad := StaKeep Z_ad K5 (allS (staArv V_a1_o) all0)
  replace Z_hs := StaKeep Z_hs K5 (allS (staArv V_a1_o) all0)
  replace Z_ls := StaKeep Z_ls K5 (allS (staArv V_a1_o) all0)
  replace V_a1 := V5
  refine Go.of (T' := T5) (f' := (mkF m 53 #[sR a1, sI (Int32.ofNat (2 * i + 1)), sI p3] [])) st5 ?_
  exact goRet0 (Q := fun v h L => v = none ∧ Mv h0 h [a1] L ∧ Arv Z h a1 ka .byte N ((vs.set (2 * i) (.int (StrChars.lo8 p3))).set (2 * i + 1) (.int (StrChars.hi8 p3))) (.int (0 : Int32))) X5 hx hret hlk (hb hby d_3_53) K (by decide) (by decide) e5 (⟨rfl, M5, V_a1⟩)
theorem mapGet {cs : List Int32} {i : Nat} {d : Value} (hi : i < cs.length) : (cs.map Value.int).getD i d = .int (cs.getD i 0) := by simp [List.getD_eq_getElem?_getD, hi]
def WB (vs : List Value) (cs : List Int32) (i : Nat) : Prop := vs.length = 2 * cs.length ∧ ∀ j, j < i → vs[2 * j]? = some (.int (StrChars.lo8 (cs.getD j 0))) ∧ vs[2 * j + 1]? = some (.int (StrChars.hi8 (cs.getD j 0)))
theorem wb0 (cs : List Int32) : WB ([] ++ List.replicate (2 * cs.length) (.int (0 : Int32))) cs 0 := ⟨by simp, fun j hj => absurd hj (Nat.not_lt_zero _)⟩
theorem wbStep {vs : List Value} {cs : List Int32} {i : Nat} (h : WB vs cs i) (hi : i < cs.length) : WB ((vs.set (2 * i) (.int (StrChars.lo8 (cs.getD i 0)))).set (2 * i + 1) (.int (StrChars.hi8 (cs.getD i 0)))) cs (i + 1) := by
  obtain ⟨h1, h2⟩ := h
  refine ⟨by simp [h1], fun j hj => ?_⟩
  by_cases q : j = i
  · subst q
    constructor
    · rw [List.getElem?_set_ne (by omega), List.getElem?_set_self (by omega)]
    · rw [List.getElem?_set_self (by simp; omega)]
  · have := h2 j (by omega)
    constructor
    · rw [List.getElem?_set_ne (by omega), List.getElem?_set_ne (by omega)]; exact this.1
    · rw [List.getElem?_set_ne (by omega), List.getElem?_set_ne (by omega)]; exact this.2
theorem wbLen : ∀ cs : List Int32, (StrChars.Road.wideBytes cs).length = 2 * cs.length
  | [] => rfl
  | c :: cs => by have := wbLen cs; simp [StrChars.Road.wideBytes, this]; omega
theorem wbEnd {vs : List Value} {cs : List Int32} {i : Nat} (h : WB vs cs i) (hi : cs.length ≤ i) : vs = StrChars.Road.wideBytes cs := by
  obtain ⟨h1, h2⟩ := h
  apply List.ext_getElem?
  intro k
  by_cases hk : k < 2 * cs.length
  · have hlo := StrChars.Road.wide_lo (.int 0) cs (k / 2) (by omega)
    have hhi := StrChars.Road.wide_hi (.int 0) cs (k / 2) (by omega)
    have hl := wbLen cs
    rcases Nat.mod_two_eq_zero_or_one k with q | q
    · have e : k = 2 * (k / 2) := by omega
      rw [e, (h2 (k / 2) (by omega)).1, ← hlo, List.getD_eq_getElem?_getD, List.getElem?_eq_getElem (by omega)]; rfl
    · have e : k = 2 * (k / 2) + 1 := by omega
      rw [e, (h2 (k / 2) (by omega)).2, ← hhi, List.getD_eq_getElem?_getD, List.getElem?_eq_getElem (by omega)]; rfl
  · rw [List.getElem?_eq_none (by omega), List.getElem?_eq_none (by rw [wbLen]; omega)]
theorem wideNo {cs : List Int32} {i : Nat} (h : ∃ c ∈ cs, (255 : Int32) < c) (hall : ∀ j, j < i → ¬ (255 : Int32) < cs.getD j 0) (hi : cs.length ≤ i) : False := by
  obtain ⟨c, hc, q⟩ := h
  obtain ⟨j, hj, rfl⟩ := List.getElem_of_mem hc
  exact hall j (by omega) (by rw [show cs.getD j 0 = cs[j] by simp [List.getD_eq_getElem?_getD, hj]]; exact q)
theorem allStep {cs : List Int32} {i : Nat} (hall : ∀ j, j < i → ¬ (255 : Int32) < cs.getD j 0) (h : ¬ (255 : Int32) < cs.getD i 0) : ∀ j, j < i + 1 → ¬ (255 : Int32) < cs.getD j 0 := fun j hj => by
  by_cases q : j = i
  · subst q; exact h
  · exact hall j (by omega)
theorem cfa1 {n : Nat} (h0 : 0 < n) (h : n ≤ 4000) : (((Int32.ofNat n - Int32.ofNat (2 * n)).toUInt32 >>> ((31 : Int32) &&& 31).toUInt32).toInt32).toInt8.toInt32 = 1 := by
  have q := c_isub (Int32.ofNat n) (Int32.ofNat (2 * n))
  have b := Int32.toInt_lt (Int32.ofNat n - Int32.ofNat (2 * n))
  have b' := Int32.le_toInt (Int32.ofNat n - Int32.ofNat (2 * n))
  rw [n32i (by omega), n32i (by omega)] at q
  have r := c_iushr (Int32.ofNat n - Int32.ofNat (2 * n)) 31 31 (by decide) (by decide)
  have e : ((Int32.ofNat n - Int32.ofNat (2 * n)).toUInt32 >>> ((31 : Int32) &&& 31).toUInt32).toInt32 = 1 := by
    apply Int32.toInt_inj.mp
    have e1 : (1 : Int32).toInt = 1 := by decide
    rw [r, e1]; omega
  rw [e]; decide

theorem ltMax {n : Nat} (h : n ≤ 4000) : Int32.ofNat n < (1073741823 : Int32) := by
  have e : (1073741823 : Int32).toInt = 1073741823 := by decide
  rw [Int32.lt_iff_toInt_lt, n32i (by omega), e]; omega
theorem ef_rm_nbl (m : MethodId) (x0 : Int32)  : entryFrame m #[(.int x0)] 1 = mkF m 0 #[.val (.int x0)] [] := by first | (simp [entryFrame, mkF, argsToLocals, Value.category]; done) | rfl
theorem d_4_0 : decode jdk_52_method_3_code 0 = .ok (.iload_n 0, 1) := by decide +kernel
theorem d_4_1 : decode jdk_52_method_3_code 1 = .ok (.ifCond .ge 11, 3) := by decide +kernel
theorem d_4_12 : decode jdk_52_method_3_code 12 = .ok (.iload_n 0, 1) := by decide +kernel
theorem d_4_13 : decode jdk_52_method_3_code 13 = .ok (.ldc 20, 2) := by decide +kernel
theorem d_4_15 : decode jdk_52_method_3_code 15 = .ok (.if_icmp .lt 40, 3) := by decide +kernel
theorem d_4_55 : decode jdk_52_method_3_code 55 = .ok (.iload_n 0, 1) := by decide +kernel
theorem d_4_56 : decode jdk_52_method_3_code 56 = .ok (.iconst 1, 1) := by decide +kernel
theorem d_4_57 : decode jdk_52_method_3_code 57 = .ok (.ishl, 1) := by decide +kernel
theorem d_4_58 : decode jdk_52_method_3_code 58 = .ok (.ireturn, 1) := by decide +kernel
set_option maxRecDepth 65536 in
set_option maxHeartbeats 40000000 in
theorem rm_nbl (l : Launch) (Z : State) (a0 : Array Value) (hw : ∀ d ∈ tables_1, d.before a0 Z = true) (n : Nat) (h0 : Heap) (h8 : n ≤ 8) :
    MeetsW l Z (⟨"java/lang/StringUTF16", "newBytesLength", "(I)I"⟩ : MethodName) jdk_52_method_3_code 1 (some .int) ({ frames := 0, cells := 0, slots := 0, locals := 0 } : Room) #[(.int (Int32.ofNat n))] h0 (Pu h0 (fun v => v = some (.int (Int32.ofNat (2 * n))))) := by
  refine MeetsW.of (plainFor_of_name pn_java_lang_StringUTF16) ?_
  intro p e s m below meth c s₁ P hx hby hml hZ hown hnm hret hlk X0 e0 K
  have M0 : Mv h0 h0 [] [] := Mv.refl _ _
  refine Go.cast (ef_rm_nbl m (Int32.ofNat n) ) ?_
  refine Go.of (T' := s₁) (f' := (mkF m 1 #[sI (Int32.ofNat n)] [(.int (Int32.ofNat n))])) (fun _ k => XS.iloadN X0.here hx rfl (hb hby d_4_0) rfl k) ?_
  have hc1 : ¬ ((Int32.ofNat n) < (0 : Int32)) := nneg (by omega)
  refine Go.of (T' := s₁) (f' := (mkF m 12 #[sI (Int32.ofNat n)] [])) (fun _ k => XS.ifYes X0.here hx rfl (pc0 := 1) (pc' := 12) rfl (hb hby d_4_1) rfl ((if0 _ _).trans (flt hc1).2.1) (by decide) (by decide) k) ?_
  refine Go.of (T' := s₁) (f' := (mkF m 13 #[sI (Int32.ofNat n)] [(.int (Int32.ofNat n))])) (fun _ k => XS.iloadN X0.here hx rfl (hb hby d_4_12) rfl k) ?_
  refine Go.of (T' := s₁) (f' := (mkF m 15 #[sI (Int32.ofNat n)] [(.int (1073741823 : Int32)), (.int (Int32.ofNat n))])) (fun _ k => X0.ldcInt hx hown (mvT hZ (hw _ (List.mem_of_getElem? (i := 148) rfl))) (g := (mkF m 13 #[sI (Int32.ofNat n)] [(.int (Int32.ofNat n))])) rfl (hb hby d_4_13) _ k) ?_
  have hc15 : (Int32.ofNat n) < (1073741823 : Int32) := ltMax (by omega)
  refine Go.of (T' := s₁) (f' := (mkF m 55 #[sI (Int32.ofNat n)] [])) (fun _ k => XS.icmpYes X0.here hx rfl (pc0 := 15) (pc' := 55) rfl (hb hby d_4_15) rfl (tlt hc15).1 (by decide) (by decide) k) ?_
  refine Go.of (T' := s₁) (f' := (mkF m 56 #[sI (Int32.ofNat n)] [(.int (Int32.ofNat n))])) (fun _ k => XS.iloadN X0.here hx rfl (hb hby d_4_55) rfl k) ?_
  refine Go.of (T' := s₁) (f' := (mkF m 57 #[sI (Int32.ofNat n)] [(.int (1 : Int32)), (.int (Int32.ofNat n))])) (fun _ k => XS.iconst X0.here hx rfl (hb hby d_4_56) k) ?_
  refine Go.of (T' := s₁) (f' := (mkF m 58 #[sI (Int32.ofNat n)] [(.int ((Int32.ofNat n) <<< ((1 : Int32) &&& 31)))])) (fun _ k => XS.ishl X0.here hx rfl (hb hby d_4_57) rfl k) ?_
  exact goRetI (Q := Pu h0 (fun v => v = some (.int (Int32.ofNat (2 * n))))) X0 hx (t := .int) hret hlk rfl (by simp) (hb hby d_4_58) K (by decide) (by decide) e0 (⟨rfl, rfl, congrArg (fun z => some (Value.int z)) (sh1 (by omega))⟩)
theorem ef_rm_nbf (m : MethodId) (x0 : Int32)  : entryFrame m #[(.int x0)] 1 = mkF m 0 #[.val (.int x0)] [] := by first | (simp [entryFrame, mkF, argsToLocals, Value.category]; done) | rfl
theorem d_5_0 : decode jdk_52_method_2_code 0 = .ok (.iload_n 0, 1) := by decide +kernel
theorem d_5_1 : decode jdk_52_method_2_code 1 = .ok (.invokestatic 11, 3) := by decide +kernel
theorem pd__I_I : parseMethodDescriptor "(I)I" = some ⟨[.int], some .int⟩ := by decide +kernel
theorem d_5_4 : decode jdk_52_method_2_code 4 = .ok (.newarray .byte, 2) := by decide +kernel
theorem d_5_6 : decode jdk_52_method_2_code 6 = .ok (.areturn, 1) := by decide +kernel
set_option maxRecDepth 65536 in
set_option maxHeartbeats 40000000 in
theorem rm_nbf (l : Launch) (Z : State) (a0 : Array Value) (hw : ∀ d ∈ tables_1, d.before a0 Z = true) (cs : List Int32) (h0 : Heap) (h8 : cs.length ≤ 8) :
    MeetsW l Z (⟨"java/lang/StringUTF16", "newBytesFor", "(I)[B"⟩ : MethodName) jdk_52_method_2_code 1 (some (.array .byte)) ({ frames := 1, cells := 1, slots := 16, locals := 12 } : Room) #[(.int (Int32.ofNat cs.length))] h0 (fun v h L => Mv h0 h [] L ∧ ∃ (b : Addr) (k : ClassId), v = some (.ref b) ∧ h0.size ≤ b ∧ Arv Z h b k .byte (Int32.ofNat (2 * cs.length)) ([] ++ List.replicate (2 * cs.length) (.int (0 : Int32))) (.int (0 : Int32))) := by
  refine MeetsW.of (plainFor_of_name pn_java_lang_StringUTF16) ?_
  intro p e s m below meth c s₁ P hx hby hml hZ hown hnm hret hlk X0 e0 K
  have M0 : Mv h0 h0 [] [] := Mv.refl _ _
  refine Go.cast (ef_rm_nbf m (Int32.ofNat cs.length) ) ?_
  refine Go.of (T' := s₁) (f' := (mkF m 1 #[sI (Int32.ofNat cs.length)] [(.int (Int32.ofNat cs.length))])) (fun _ k => XS.iloadN X0.here hx rfl (hb hby d_5_0) rfl k) ?_
  refine goS X0 hx hZ hown (hw _ (List.mem_of_getElem? (i := 145) rfl)) (hw _ (List.mem_of_getElem? (i := 146) rfl)) (hw _ (List.mem_of_getElem? (i := 24) rfl)) (hw _ (List.mem_of_getElem? (i := 147) rfl)) (by decide) (C := 0) (S := 0) ((rm_nbl l Z a0 hw cs.length h0 (by omega)).bk (W := 0) hZ (hw _ (List.mem_of_getElem? (i := 147) rfl)) (hw _ (List.mem_of_getElem? (i := 24) rfl)) (by decide) (by decide)) e0 (argsL := [(.int (Int32.ofNat cs.length))]) (rest := []) (by rw [hml]; rfl) (lenOf pd__I_I rfl) rfl rfl (hb hby d_5_1) (Nat.le_of_eq rfl) (by decide) (by decide) ?_
  intro v1 T1 L1 X1 hQ1
  obtain ⟨nq1, e1, rfl⟩ := hQ1
  replace X1 := standNil X1 nq1
  show Go p e below P T1 (mkF m 4 #[sI (Int32.ofNat cs.length)] [(.int (Int32.ofNat (2 * cs.length)))])
  obtain ⟨T2, h2, k2, X2, e2, E2, A2, st2⟩ := newP X1 hx hZ (hw _ (List.mem_of_getElem? (i := 26) rfl)) e1 (g := (mkF m 4 #[sI (Int32.ofNat cs.length)] [(.int (Int32.ofNat (2 * cs.length)))])) rfl (hb hby d_5_4) rfl (nneg (by omega)) (cap := 16) (by rw [nat32 (by omega)]; omega) (by decide) (by decide) (by decide)
  obtain ⟨b2, g2⟩ : ∃ z, z = h0.size := ⟨_, rfl⟩
  rw [← g2] at A2 st2
  have fr_b2 : h0.size ≤ b2 := Nat.le_trans M0.le (Nat.le_of_eq g2.symm)
  have K2 := keepE E2
  have M2 := M0.ext E2
  have V_b2 : Arv Z h2 b2 k2 .byte (Int32.ofNat (2 * cs.length)) [] (.int (0 : Int32)) := Arv.new A2 (nneg (by omega))
  refine Go.of (T' := T2) (f' := (mkF m 6 #[sI (Int32.ofNat cs.length)] [(.ref b2)])) st2 ?_
  exact goRetR (Q := fun v h L => Mv h0 h [] L ∧ ∃ (b : Addr) (k : ClassId), v = some (.ref b) ∧ h0.size ≤ b ∧ Arv Z h b k .byte (Int32.ofNat (2 * cs.length)) ([] ++ List.replicate (2 * cs.length) (.int (0 : Int32))) (.int (0 : Int32))) X2 hx hret rfl hlk rfl rfl (hb hby d_5_6) K (by decide) (by decide) e2 (⟨M2, b2, _, rfl, fr_b2, V_b2.pad (pad_rep [] _ _)⟩)
theorem ef_rm_tb (m : MethodId) (x0 : Addr) (x1 : Int32) (x2 : Int32)  : entryFrame m #[(.ref x0), (.int x1), (.int x2)] 5 = mkF m 0 #[.val (.ref x0), .val (.int x1), .val (.int x2), .unset, .unset] [] := by first | (simp [entryFrame, mkF, argsToLocals, Value.category]; done) | rfl
theorem d_6_0 : decode jdk_52_method_14_code 0 = .ok (.iload_n 2, 1) := by decide +kernel
theorem d_6_1 : decode jdk_52_method_14_code 1 = .ok (.invokestatic 107, 3) := by decide +kernel
theorem pd__I__B : parseMethodDescriptor "(I)[B" = some ⟨[.int], some (.array .byte)⟩ := by decide +kernel
theorem d_6_4 : decode jdk_52_method_14_code 4 = .ok (.astore_n 3, 1) := by decide +kernel
theorem d_6_5 : decode jdk_52_method_14_code 5 = .ok (.iconst 0, 1) := by decide +kernel
theorem d_6_6 : decode jdk_52_method_14_code 6 = .ok (.istore 4, 2) := by decide +kernel
theorem d_6_8 : decode jdk_52_method_14_code 8 = .ok (.iload 4, 2) := by decide +kernel
theorem d_6_10 : decode jdk_52_method_14_code 10 = .ok (.iload_n 2, 1) := by decide +kernel
theorem d_6_11 : decode jdk_52_method_14_code 11 = .ok (.if_icmp .ge 21, 3) := by decide +kernel
theorem d_6_32 : decode jdk_52_method_14_code 32 = .ok (.aload_n 3, 1) := by decide +kernel
theorem d_6_33 : decode jdk_52_method_14_code 33 = .ok (.areturn, 1) := by decide +kernel
theorem d_6_14 : decode jdk_52_method_14_code 14 = .ok (.aload_n 3, 1) := by decide +kernel
theorem d_6_15 : decode jdk_52_method_14_code 15 = .ok (.iload 4, 2) := by decide +kernel
theorem d_6_17 : decode jdk_52_method_14_code 17 = .ok (.aload_n 0, 1) := by decide +kernel
theorem d_6_18 : decode jdk_52_method_14_code 18 = .ok (.iload_n 1, 1) := by decide +kernel
theorem d_6_19 : decode jdk_52_method_14_code 19 = .ok (.caload, 1) := by decide +kernel
theorem d_6_20 : decode jdk_52_method_14_code 20 = .ok (.invokestatic 111, 3) := by decide +kernel
theorem pd___BII_V : parseMethodDescriptor "([BII)V" = some ⟨[(.array .byte), .int, .int], none⟩ := by decide +kernel
theorem d_6_23 : decode jdk_52_method_14_code 23 = .ok (.iinc 1 1, 3) := by decide +kernel
theorem d_6_26 : decode jdk_52_method_14_code 26 = .ok (.iinc 4 1, 3) := by decide +kernel
theorem d_6_29 : decode jdk_52_method_14_code 29 = .ok (.goto (-21), 3) := by decide +kernel
set_option maxRecDepth 65536 in
set_option maxHeartbeats 40000000 in
theorem rm_tb (l : Launch) (Z : State) (a0 : Array Value) (hw : ∀ d ∈ tables_1, d.before a0 Z = true) (a1 : Addr) (ka : ClassId) (cs : List Int32) (h0 : Heap) (V_a1 : Arv Z h0 a1 ka .char (Int32.ofNat cs.length) (cs.map Value.int) (.int (0 : Int32))) (h8 : cs.length ≤ 8) (Z_ad : Sta Z h0 "java/lang/StringUTF16" "$assertionsDisabled" "Z" (.int (1 : Int32))) (Z_hs : Sta Z h0 "java/lang/StringUTF16" "HI_BYTE_SHIFT" "I" (.int (0 : Int32))) (Z_ls : Sta Z h0 "java/lang/StringUTF16" "LO_BYTE_SHIFT" "I" (.int (8 : Int32))) :
    MeetsW l Z (⟨"java/lang/StringUTF16", "toBytes", "([CII)[B"⟩ : MethodName) jdk_52_method_14_code 5 (some (.array .byte)) ({ frames := 2, cells := 1, slots := 16, locals := 24 } : Room) #[(.ref a1), (.int (0 : Int32)), (.int (Int32.ofNat cs.length))] h0 (fun v h L => Mv h0 h [] L ∧ ∃ (b : Addr) (k : ClassId), v = some (.ref b) ∧ h0.size ≤ b ∧ Arv Z h b k .byte (Int32.ofNat (2 * cs.length)) (StrChars.Road.wideBytes cs) (.int (0 : Int32))) := by
  refine MeetsW.of (plainFor_of_name pn_java_lang_StringUTF16) ?_
  intro p e s m below meth c s₁ P hx hby hml hZ hown hnm hret hlk X0 e0 K
  have M0 : Mv h0 h0 [] [] := Mv.refl _ _
  refine Go.cast (ef_rm_tb m a1 (0 : Int32) (Int32.ofNat cs.length) ) ?_
  refine Go.of (T' := s₁) (f' := (mkF m 1 #[sR a1, sI 0, sI (Int32.ofNat cs.length), .unset, .unset] [(.int (Int32.ofNat cs.length))])) (fun _ k => XS.iloadN X0.here hx rfl (hb hby d_6_0) rfl k) ?_
  refine goS X0 hx hZ hown (hw _ (List.mem_of_getElem? (i := 142) rfl)) (hw _ (List.mem_of_getElem? (i := 143) rfl)) (hw _ (List.mem_of_getElem? (i := 24) rfl)) (hw _ (List.mem_of_getElem? (i := 144) rfl)) (by decide) (C := 1) (S := 16) ((rm_nbf l Z a0 hw cs h0 h8).bk (W := 0) hZ (hw _ (List.mem_of_getElem? (i := 144) rfl)) (hw _ (List.mem_of_getElem? (i := 24) rfl)) (by decide) (by decide)) e0 (argsL := [(.int (Int32.ofNat cs.length))]) (rest := []) (by rw [hml]; rfl) (lenOf pd__I__B rfl) rfl rfl (hb hby d_6_1) (Nat.le_of_eq rfl) (by decide) (by decide) ?_
  intro v1 T1 L1 X1 hQ1
  obtain ⟨h1, e1⟩ : ∃ z, T1.heap = z := ⟨_, rfl⟩
  rw [e1] at hQ1
  obtain ⟨Mc1, b1, k1, rfl, le1, V_b1⟩ := hQ1
  have ne_a1_b1 : a1 ≠ b1 := Nat.ne_of_lt (Nat.lt_of_lt_of_le V_a1.lt le1)
  have fr_b1 : h0.size ≤ b1 := Nat.le_trans M0.le le1
  have M1 := M0.app0 Mc1
  replace V_a1 := V_a1.keep Mc1.1 nin0
  replace Z_ad := StaKeep Z_ad Mc1.1 all0
  replace Z_hs := StaKeep Z_hs Mc1.1 all0
  replace Z_ls := StaKeep Z_ls Mc1.1 all0
  show Go p e below P T1 (mkF m 4 #[sR a1, sI 0, sI (Int32.ofNat cs.length), .unset, .unset] [(.ref b1)])
  refine Go.of (T' := T1) (f' := (mkF m 5 #[sR a1, sI 0, sI (Int32.ofNat cs.length), sR b1, .unset] [])) (fun _ k => XS.astoreN X1.here hx rfl (hb hby d_6_4) rfl rfl (l' := #[sR a1, sI 0, sI (Int32.ofNat cs.length), sR b1, .unset]) rfl k) ?_
  refine Go.of (T' := T1) (f' := (mkF m 6 #[sR a1, sI 0, sI (Int32.ofNat cs.length), sR b1, .unset] [(.int (0 : Int32))])) (fun _ k => XS.iconst X1.here hx rfl (hb hby d_6_5) k) ?_
  refine Go.of (T' := T1) (f' := (mkF m 8 #[sR a1, sI 0, sI (Int32.ofNat cs.length), sR b1, sI 0] [])) (fun _ k => XS.istore X1.here hx rfl (hb hby d_6_6) rfl (l' := #[sR a1, sI 0, sI (Int32.ofNat cs.length), sR b1, sI 0]) rfl k) ?_
  show Go p e below P T1 (mkF m 8 #[sR a1, sI (Int32.ofNat 0), sI (Int32.ofNat cs.length), sR b1, sI (Int32.ofNat 0)] [])
  have J : ∀ (n : Nat) (i : Nat) (vs : List Value) (Tj : State) (hj : Heap) (Lj : List Loc), cs.length ≤ i + n → i ≤ cs.length → (WB vs cs i) → Stand p l e ({ frames := 2, cells := 1, slots := 16, locals := 24 } : Room) s m #[(.ref a1), (.int (0 : Int32)), (.int (Int32.ofNat cs.length))] below meth c Tj Lj 1 16 → Tj.heap = hj → Mv h0 hj [] Lj → Arv Z hj a1 ka (.char) (Int32.ofNat cs.length) (cs.map Value.int) (.int (0 : Int32)) → Arv Z hj b1 k1 (.byte) (Int32.ofNat (2 * cs.length)) vs (.int (0 : Int32)) → Sta Z hj "java/lang/StringUTF16" "$assertionsDisabled" "Z" (.int (1 : Int32)) → Sta Z hj "java/lang/StringUTF16" "HI_BYTE_SHIFT" "I" (.int (0 : Int32)) → Sta Z hj "java/lang/StringUTF16" "LO_BYTE_SHIFT" "I" (.int (8 : Int32)) → Go p e below P Tj (mkF m 8 #[sR a1, sI (Int32.ofNat i), sI (Int32.ofNat cs.length), sR b1, sI (Int32.ofNat i)] []) := by
    intro n
    induction n with
    | zero =>
      intro i vs Tj hj Lj hle hi1 hwb Xj ej Mj V_a1 V_b1 Z_ad Z_hs Z_ls
      refine Go.of (T' := Tj) (f' := (mkF m 10 #[sR a1, sI (Int32.ofNat i), sI (Int32.ofNat cs.length), sR b1, sI (Int32.ofNat i)] [(.int (Int32.ofNat i))])) (fun _ k => XS.iload Xj.here hx rfl (hb hby d_6_8) rfl k) ?_
      refine Go.of (T' := Tj) (f' := (mkF m 11 #[sR a1, sI (Int32.ofNat i), sI (Int32.ofNat cs.length), sR b1, sI (Int32.ofNat i)] [(.int (Int32.ofNat cs.length)), (.int (Int32.ofNat i))])) (fun _ k => XS.iloadN Xj.here hx rfl (hb hby d_6_10) rfl k) ?_
      have hc11 : ¬ ((Int32.ofNat i) < (Int32.ofNat cs.length)) := fun q => by have q := (ltN (by omega) (by omega)).mp q; omega
      refine Go.of (T' := Tj) (f' := (mkF m 32 #[sR a1, sI (Int32.ofNat i), sI (Int32.ofNat cs.length), sR b1, sI (Int32.ofNat i)] [])) (fun _ k => XS.icmpYes Xj.here hx rfl (pc0 := 11) (pc' := 32) rfl (hb hby d_6_11) rfl (flt hc11).2.1 (by decide) (by decide) k) ?_
      refine Go.of (T' := Tj) (f' := (mkF m 33 #[sR a1, sI (Int32.ofNat i), sI (Int32.ofNat cs.length), sR b1, sI (Int32.ofNat i)] [(.ref b1)])) (fun _ k => XS.aloadN Xj.here hx rfl (hb hby d_6_32) rfl rfl k) ?_
      exact goRetR (Q := fun v h L => Mv h0 h [] L ∧ ∃ (b : Addr) (k : ClassId), v = some (.ref b) ∧ h0.size ≤ b ∧ Arv Z h b k .byte (Int32.ofNat (2 * cs.length)) (StrChars.Road.wideBytes cs) (.int (0 : Int32))) Xj hx hret rfl hlk rfl rfl (hb hby d_6_33) K (by decide) (by decide) ej (⟨Mj, b1, _, rfl, fr_b1, (wbEnd hwb (by first | exact Nat.le_of_not_lt fun q => hc11 ((ltN (by omega) (by omega)).mpr q) | omega)) ▸ V_b1⟩)
    | succ n ih =>
      intro i vs Tj hj Lj hle hi1 hwb Xj ej Mj V_a1 V_b1 Z_ad Z_hs Z_ls
      refine Go.of (T' := Tj) (f' := (mkF m 10 #[sR a1, sI (Int32.ofNat i), sI (Int32.ofNat cs.length), sR b1, sI (Int32.ofNat i)] [(.int (Int32.ofNat i))])) (fun _ k => XS.iload Xj.here hx rfl (hb hby d_6_8) rfl k) ?_
      refine Go.of (T' := Tj) (f' := (mkF m 11 #[sR a1, sI (Int32.ofNat i), sI (Int32.ofNat cs.length), sR b1, sI (Int32.ofNat i)] [(.int (Int32.ofNat cs.length)), (.int (Int32.ofNat i))])) (fun _ k => XS.iloadN Xj.here hx rfl (hb hby d_6_10) rfl k) ?_
      by_cases hc11 : (Int32.ofNat i) < (Int32.ofNat cs.length)
      ·
        refine Go.of (T' := Tj) (f' := (mkF m 14 #[sR a1, sI (Int32.ofNat i), sI (Int32.ofNat cs.length), sR b1, sI (Int32.ofNat i)] [])) (fun _ k => XS.icmpNo Xj.here hx rfl (hb hby d_6_11) rfl (tlt hc11).2.1 k) ?_
        have hi : i < cs.length := (ltN (by omega) (by omega)).mp hc11
        refine Go.of (T' := Tj) (f' := (mkF m 15 #[sR a1, sI (Int32.ofNat i), sI (Int32.ofNat cs.length), sR b1, sI (Int32.ofNat i)] [(.ref b1)])) (fun _ k => XS.aloadN Xj.here hx rfl (hb hby d_6_14) rfl rfl k) ?_
        refine Go.of (T' := Tj) (f' := (mkF m 17 #[sR a1, sI (Int32.ofNat i), sI (Int32.ofNat cs.length), sR b1, sI (Int32.ofNat i)] [(.int (Int32.ofNat i)), (.ref b1)])) (fun _ k => XS.iload Xj.here hx rfl (hb hby d_6_15) rfl k) ?_
        refine Go.of (T' := Tj) (f' := (mkF m 18 #[sR a1, sI (Int32.ofNat i), sI (Int32.ofNat cs.length), sR b1, sI (Int32.ofNat i)] [(.ref a1), (.int (Int32.ofNat i)), (.ref b1)])) (fun _ k => XS.aloadN Xj.here hx rfl (hb hby d_6_17) rfl rfl k) ?_
        refine Go.of (T' := Tj) (f' := (mkF m 19 #[sR a1, sI (Int32.ofNat i), sI (Int32.ofNat cs.length), sR b1, sI (Int32.ofNat i)] [(.int (Int32.ofNat i)), (.ref a1), (.int (Int32.ofNat i)), (.ref b1)])) (fun _ k => XS.iloadN Xj.here hx rfl (hb hby d_6_18) rfl k) ?_
        obtain ⟨cl2, Ar2, cq2, Sz2, Nn2, Hs2, Gs2⟩ := id V_a1
        have hin2 : ¬ ((Int32.ofNat i) < 0 ∨ cl2.slots.size ≤ ((Int32.ofNat i)).toNatClampNeg) := inbN Sz2 hi (by omega)
        have hat2 : cl2.slots[((Int32.ofNat i)).toNatClampNeg]? = some (.int (cs.getD i 0)) := Has.at Hs2 hin2 (by rw [nat32 (by omega)]; exact mapGet hi)
        refine Go.of (T' := Tj) (f' := (mkF m 20 #[sR a1, sI (Int32.ofNat i), sI (Int32.ofNat cs.length), sR b1, sI (Int32.ofNat i)] [(.int (cs.getD i 0)), (.int (Int32.ofNat i)), (.ref b1)])) (fun _ k => Xj.caload hx (j := (Int32.ofNat i)) (v := (.int (cs.getD i 0))) (by rw [ej]; exact Ar2.1) (State.isArrayOf_alike hZ.alike Ar2.2.1) Ar2.2.2 hin2 hat2 (g := (mkF m 19 #[sR a1, sI (Int32.ofNat i), sI (Int32.ofNat cs.length), sR b1, sI (Int32.ofNat i)] [(.int (Int32.ofNat i)), (.ref a1), (.int (Int32.ofNat i)), (.ref b1)])) rfl rfl (hb hby d_6_19) _ k) ?_
        refine goS Xj hx hZ hown (hw _ (List.mem_of_getElem? (i := 149) rfl)) (hw _ (List.mem_of_getElem? (i := 150) rfl)) (hw _ (List.mem_of_getElem? (i := 24) rfl)) (hw _ (List.mem_of_getElem? (i := 151) rfl)) (by decide) (C := 0) (S := 0) ((rm_putChar l Z a0 hw b1 k1 (Int32.ofNat (2 * cs.length)) _ i (cs.getD i 0) hj V_b1 (by rw [nat32 (by omega)]; have := hwb.1; omega) (by have := hwb.1; omega) (by omega) Z_ad Z_hs Z_ls).bk (W := 0) hZ (hw _ (List.mem_of_getElem? (i := 151) rfl)) (hw _ (List.mem_of_getElem? (i := 24) rfl)) (by decide) (by decide)) ej (argsL := [(.ref b1), (.int (Int32.ofNat i)), (.int (cs.getD i 0))]) (rest := []) (by rw [hml]; rfl) (lenOf pd___BII_V rfl) rfl rfl (hb hby d_6_20) (Nat.le_of_eq rfl) (by decide) (by decide) ?_
        intro v3 T3 L3 X3 hQ3
        obtain ⟨h3, e3⟩ : ∃ z, T3.heap = z := ⟨_, rfl⟩
        rw [e3] at hQ3
        have V_b1_o := V_b1
        obtain ⟨rfl, Mc3, Vc3⟩ := hQ3
        have M3 := Mj.app Mc3 (allS (Or.inr fr_b1) all0)
        replace V_a1 := V_a1.keep Mc3.1 (ninS ne_a1_b1 nin0)
        replace Z_ad := StaKeep Z_ad Mc3.1 (allS (staArv V_b1_o) all0)
        replace Z_hs := StaKeep Z_hs Mc3.1 (allS (staArv V_b1_o) all0)
        replace Z_ls := StaKeep Z_ls Mc3.1 (allS (staArv V_b1_o) all0)
        replace V_b1 := Vc3
        show Go p e below P T3 (mkF m 23 #[sR a1, sI (Int32.ofNat i), sI (Int32.ofNat cs.length), sR b1, sI (Int32.ofNat i)] [])
        refine Go.of (T' := T3) (f' := (mkF m 26 #[sR a1, sI ((Int32.ofNat i) + (1 : Int32)), sI (Int32.ofNat cs.length), sR b1, sI (Int32.ofNat i)] [])) (fun _ k => XS.iinc X3.here hx rfl (hb hby d_6_23) rfl (l' := #[sR a1, sI ((Int32.ofNat i) + (1 : Int32)), sI (Int32.ofNat cs.length), sR b1, sI (Int32.ofNat i)]) rfl k) ?_
        refine Go.of (T' := T3) (f' := (mkF m 29 #[sR a1, sI ((Int32.ofNat i) + (1 : Int32)), sI (Int32.ofNat cs.length), sR b1, sI ((Int32.ofNat i) + (1 : Int32))] [])) (fun _ k => XS.iinc X3.here hx rfl (hb hby d_6_26) rfl (l' := #[sR a1, sI ((Int32.ofNat i) + (1 : Int32)), sI (Int32.ofNat cs.length), sR b1, sI ((Int32.ofNat i) + (1 : Int32))]) rfl k) ?_
        refine Go.of (T' := T3) (f' := (mkF m 8 #[sR a1, sI ((Int32.ofNat i) + (1 : Int32)), sI (Int32.ofNat cs.length), sR b1, sI ((Int32.ofNat i) + (1 : Int32))] [])) (fun _ k => XS.goto X3.here hx rfl (pc0 := 29) (pc' := 8) rfl (hb hby d_6_29) (by decide) (by decide) k) ?_
        rw [show (Int32.ofNat i) + (1 : Int32) = Int32.ofNat (i + 1) from (Int32.ofNat_add _ _).symm]
        exact ih (i + 1) _ T3 h3 _ (by omega) hi (wbStep hwb hi) (standUp X3 (by decide) (by decide)) e3 M3 V_a1 V_b1 Z_ad Z_hs Z_ls
      ·
        refine Go.of (T' := Tj) (f' := (mkF m 32 #[sR a1, sI (Int32.ofNat i), sI (Int32.ofNat cs.length), sR b1, sI (Int32.ofNat i)] [])) (fun _ k => XS.icmpYes Xj.here hx rfl (pc0 := 11) (pc' := 32) rfl (hb hby d_6_11) rfl (flt hc11).2.1 (by decide) (by decide) k) ?_
        refine Go.of (T' := Tj) (f' := (mkF m 33 #[sR a1, sI (Int32.ofNat i), sI (Int32.ofNat cs.length), sR b1, sI (Int32.ofNat i)] [(.ref b1)])) (fun _ k => XS.aloadN Xj.here hx rfl (hb hby d_6_32) rfl rfl k) ?_
        exact goRetR (Q := fun v h L => Mv h0 h [] L ∧ ∃ (b : Addr) (k : ClassId), v = some (.ref b) ∧ h0.size ≤ b ∧ Arv Z h b k .byte (Int32.ofNat (2 * cs.length)) (StrChars.Road.wideBytes cs) (.int (0 : Int32))) Xj hx hret rfl hlk rfl rfl (hb hby d_6_33) K (by decide) (by decide) ej (⟨Mj, b1, _, rfl, fr_b1, (wbEnd hwb (by first | exact Nat.le_of_not_lt fun q => hc11 ((ltN (by omega) (by omega)).mpr q) | omega)) ▸ V_b1⟩)
  exact J cs.length 0 _ T1 h1 _ (by omega) (by omega) (wb0 cs) (standUp X1 (by decide) (by decide)) e1 M1 V_a1 V_b1 Z_ad Z_hs Z_ls
theorem ef_rm_ci (m : MethodId) (x0 : Addr) (x1 : Int32) (x2 : Addr) (x3 : Int32) (x4 : Int32)  : entryFrame m #[(.ref x0), (.int x1), (.ref x2), (.int x3), (.int x4)] 7 = mkF m 0 #[.val (.ref x0), .val (.int x1), .val (.ref x2), .val (.int x3), .val (.int x4), .unset, .unset] [] := by first | (simp [entryFrame, mkF, argsToLocals, Value.category]; done) | rfl
theorem d_7_0 : decode jdk_52_method_21_code 0 = .ok (.iconst 0, 1) := by decide +kernel
theorem d_7_1 : decode jdk_52_method_21_code 1 = .ok (.istore 5, 2) := by decide +kernel
theorem d_7_3 : decode jdk_52_method_21_code 3 = .ok (.iload 5, 2) := by decide +kernel
theorem d_7_5 : decode jdk_52_method_21_code 5 = .ok (.iload 4, 2) := by decide +kernel
theorem d_7_7 : decode jdk_52_method_21_code 7 = .ok (.if_icmp .ge 37, 3) := by decide +kernel
theorem d_7_44 : decode jdk_52_method_21_code 44 = .ok (.iload 4, 2) := by decide +kernel
theorem d_7_46 : decode jdk_52_method_21_code 46 = .ok (.ireturn, 1) := by decide +kernel
theorem d_7_10 : decode jdk_52_method_21_code 10 = .ok (.aload_n 0, 1) := by decide +kernel
theorem d_7_11 : decode jdk_52_method_21_code 11 = .ok (.iload_n 1, 1) := by decide +kernel
theorem d_7_12 : decode jdk_52_method_21_code 12 = .ok (.caload, 1) := by decide +kernel
theorem d_7_13 : decode jdk_52_method_21_code 13 = .ok (.istore 6, 2) := by decide +kernel
theorem d_7_15 : decode jdk_52_method_21_code 15 = .ok (.iload 6, 2) := by decide +kernel
theorem d_7_17 : decode jdk_52_method_21_code 17 = .ok (.sipush 255, 3) := by decide +kernel
theorem d_7_20 : decode jdk_52_method_21_code 20 = .ok (.if_icmp .le 6, 3) := by decide +kernel
theorem d_7_23 : decode jdk_52_method_21_code 23 = .ok (.iload 5, 2) := by decide +kernel
theorem d_7_25 : decode jdk_52_method_21_code 25 = .ok (.ireturn, 1) := by decide +kernel
theorem d_7_26 : decode jdk_52_method_21_code 26 = .ok (.aload_n 2, 1) := by decide +kernel
theorem d_7_27 : decode jdk_52_method_21_code 27 = .ok (.iload_n 3, 1) := by decide +kernel
theorem d_7_28 : decode jdk_52_method_21_code 28 = .ok (.iload 6, 2) := by decide +kernel
theorem d_7_30 : decode jdk_52_method_21_code 30 = .ok (.i2b, 1) := by decide +kernel
theorem d_7_31 : decode jdk_52_method_21_code 31 = .ok (.bastore, 1) := by decide +kernel
theorem d_7_32 : decode jdk_52_method_21_code 32 = .ok (.iinc 1 1, 3) := by decide +kernel
theorem d_7_35 : decode jdk_52_method_21_code 35 = .ok (.iinc 3 1, 3) := by decide +kernel
theorem d_7_38 : decode jdk_52_method_21_code 38 = .ok (.iinc 5 1, 3) := by decide +kernel
theorem d_7_41 : decode jdk_52_method_21_code 41 = .ok (.goto (-38), 3) := by decide +kernel
set_option maxRecDepth 65536 in
set_option maxHeartbeats 40000000 in
theorem rm_ci (l : Launch) (Z : State) (a0 : Array Value) (hw : ∀ d ∈ tables_1, d.before a0 Z = true) (a1 a2 : Addr) (ka kb : ClassId) (cs : List Int32) (vs : List Value) (h0 : Heap) (V_a1 : Arv Z h0 a1 ka .char (Int32.ofNat cs.length) (cs.map Value.int) (.int (0 : Int32))) (h8 : cs.length ≤ 8) (V_a2 : Arv Z h0 a2 kb .byte (Int32.ofNat cs.length) vs (.int (0 : Int32))) (hv : vs.length = cs.length) (hne : a1 ≠ a2) (hwd : ∃ c ∈ cs, (255 : Int32) < c) :
    MeetsW l Z (⟨"java/lang/StringUTF16", "compress", "([CI[BII)I"⟩ : MethodName) jdk_52_method_21_code 7 (some .int) ({ frames := 0, cells := 0, slots := 0, locals := 0 } : Room) #[(.ref a1), (.int (0 : Int32)), (.ref a2), (.int (0 : Int32)), (.int (Int32.ofNat cs.length))] h0 (fun v h L => Mv h0 h [a2] L ∧ ∃ k : Nat, k < cs.length ∧ (255 : Int32) < cs.getD k 0 ∧ v = some (.int (Int32.ofNat k))) := by
  refine MeetsW.of (plainFor_of_name pn_java_lang_StringUTF16) ?_
  intro p e s m below meth c s₁ P hx hby hml hZ hown hnm hret hlk X0 e0 K
  have M0 : Mv h0 h0 [a2] [] := Mv.refl _ _
  refine Go.cast (ef_rm_ci m a1 (0 : Int32) a2 (0 : Int32) (Int32.ofNat cs.length) ) ?_
  refine Go.of (T' := s₁) (f' := (mkF m 1 #[sR a1, sI 0, sR a2, sI 0, sI (Int32.ofNat cs.length), .unset, .unset] [(.int (0 : Int32))])) (fun _ k => XS.iconst X0.here hx rfl (hb hby d_7_0) k) ?_
  refine Go.of (T' := s₁) (f' := (mkF m 3 #[sR a1, sI 0, sR a2, sI 0, sI (Int32.ofNat cs.length), sI 0, .unset] [])) (fun _ k => XS.istore X0.here hx rfl (hb hby d_7_1) rfl (l' := #[sR a1, sI 0, sR a2, sI 0, sI (Int32.ofNat cs.length), sI 0, .unset]) rfl k) ?_
  show Go p e below P s₁ (mkF m 3 #[sR a1, sI (Int32.ofNat 0), sR a2, sI (Int32.ofNat 0), sI (Int32.ofNat cs.length), sI (Int32.ofNat 0), .unset] [])
  have J : ∀ (n : Nat) (i : Nat) (vs : List Value) (cj : Int32) (Tj : State) (hj : Heap) (Lj : List Loc), cs.length ≤ i + n → i ≤ cs.length → (vs.length = cs.length) → (∀ j, j < i → ¬ (255 : Int32) < cs.getD j 0) → Stand p l e ({ frames := 0, cells := 0, slots := 0, locals := 0 } : Room) s m #[(.ref a1), (.int (0 : Int32)), (.ref a2), (.int (0 : Int32)), (.int (Int32.ofNat cs.length))] below meth c Tj Lj 0 0 → Tj.heap = hj → Mv h0 hj [a2] Lj → Arv Z hj a1 ka (.char) (Int32.ofNat cs.length) (cs.map Value.int) (.int (0 : Int32)) → Arv Z hj a2 kb (.byte) (Int32.ofNat cs.length) vs (.int (0 : Int32)) → Go p e below P Tj (mkF m 3 #[sR a1, sI (Int32.ofNat i), sR a2, sI (Int32.ofNat i), sI (Int32.ofNat cs.length), sI (Int32.ofNat i), sI cj] []) := by
    intro n
    induction n with
    | zero =>
      intro i vs cj Tj hj Lj hle hi1 hv hall Xj ej Mj V_a1 V_a2
      refine Go.of (T' := Tj) (f' := (mkF m 5 #[sR a1, sI (Int32.ofNat i), sR a2, sI (Int32.ofNat i), sI (Int32.ofNat cs.length), sI (Int32.ofNat i), sI cj] [(.int (Int32.ofNat i))])) (fun _ k => XS.iload Xj.here hx rfl (hb hby d_7_3) rfl k) ?_
      refine Go.of (T' := Tj) (f' := (mkF m 7 #[sR a1, sI (Int32.ofNat i), sR a2, sI (Int32.ofNat i), sI (Int32.ofNat cs.length), sI (Int32.ofNat i), sI cj] [(.int (Int32.ofNat cs.length)), (.int (Int32.ofNat i))])) (fun _ k => XS.iload Xj.here hx rfl (hb hby d_7_5) rfl k) ?_
      have hc7 : ¬ ((Int32.ofNat i) < (Int32.ofNat cs.length)) := fun q => by have q := (ltN (by omega) (by omega)).mp q; omega
      refine Go.of (T' := Tj) (f' := (mkF m 44 #[sR a1, sI (Int32.ofNat i), sR a2, sI (Int32.ofNat i), sI (Int32.ofNat cs.length), sI (Int32.ofNat i), sI cj] [])) (fun _ k => XS.icmpYes Xj.here hx rfl (pc0 := 7) (pc' := 44) rfl (hb hby d_7_7) rfl (flt hc7).2.1 (by decide) (by decide) k) ?_
      refine Go.of (T' := Tj) (f' := (mkF m 46 #[sR a1, sI (Int32.ofNat i), sR a2, sI (Int32.ofNat i), sI (Int32.ofNat cs.length), sI (Int32.ofNat i), sI cj] [(.int (Int32.ofNat cs.length))])) (fun _ k => XS.iload Xj.here hx rfl (hb hby d_7_44) rfl k) ?_
      exact goRetI (Q := fun v h L => Mv h0 h [a2] L ∧ ∃ k : Nat, k < cs.length ∧ (255 : Int32) < cs.getD k 0 ∧ v = some (.int (Int32.ofNat k))) Xj hx (t := .int) hret hlk rfl (by simp) (hb hby d_7_46) K (by decide) (by decide) ej ((wideNo hwd hall (by first | exact Nat.le_of_not_lt fun q => hc7 ((ltN (by omega) (by omega)).mpr q) | omega)).elim)
    | succ n ih =>
      intro i vs cj Tj hj Lj hle hi1 hv hall Xj ej Mj V_a1 V_a2
      refine Go.of (T' := Tj) (f' := (mkF m 5 #[sR a1, sI (Int32.ofNat i), sR a2, sI (Int32.ofNat i), sI (Int32.ofNat cs.length), sI (Int32.ofNat i), sI cj] [(.int (Int32.ofNat i))])) (fun _ k => XS.iload Xj.here hx rfl (hb hby d_7_3) rfl k) ?_
      refine Go.of (T' := Tj) (f' := (mkF m 7 #[sR a1, sI (Int32.ofNat i), sR a2, sI (Int32.ofNat i), sI (Int32.ofNat cs.length), sI (Int32.ofNat i), sI cj] [(.int (Int32.ofNat cs.length)), (.int (Int32.ofNat i))])) (fun _ k => XS.iload Xj.here hx rfl (hb hby d_7_5) rfl k) ?_
      by_cases hc7 : (Int32.ofNat i) < (Int32.ofNat cs.length)
      ·
        refine Go.of (T' := Tj) (f' := (mkF m 10 #[sR a1, sI (Int32.ofNat i), sR a2, sI (Int32.ofNat i), sI (Int32.ofNat cs.length), sI (Int32.ofNat i), sI cj] [])) (fun _ k => XS.icmpNo Xj.here hx rfl (hb hby d_7_7) rfl (tlt hc7).2.1 k) ?_
        have hi : i < cs.length := (ltN (by omega) (by omega)).mp hc7
        refine Go.of (T' := Tj) (f' := (mkF m 11 #[sR a1, sI (Int32.ofNat i), sR a2, sI (Int32.ofNat i), sI (Int32.ofNat cs.length), sI (Int32.ofNat i), sI cj] [(.ref a1)])) (fun _ k => XS.aloadN Xj.here hx rfl (hb hby d_7_10) rfl rfl k) ?_
        refine Go.of (T' := Tj) (f' := (mkF m 12 #[sR a1, sI (Int32.ofNat i), sR a2, sI (Int32.ofNat i), sI (Int32.ofNat cs.length), sI (Int32.ofNat i), sI cj] [(.int (Int32.ofNat i)), (.ref a1)])) (fun _ k => XS.iloadN Xj.here hx rfl (hb hby d_7_11) rfl k) ?_
        obtain ⟨cl1, Ar1, cq1, Sz1, Nn1, Hs1, Gs1⟩ := id V_a1
        have hin1 : ¬ ((Int32.ofNat i) < 0 ∨ cl1.slots.size ≤ ((Int32.ofNat i)).toNatClampNeg) := inbN Sz1 hi (by omega)
        have hat1 : cl1.slots[((Int32.ofNat i)).toNatClampNeg]? = some (.int (cs.getD i 0)) := Has.at Hs1 hin1 (by rw [nat32 (by omega)]; exact mapGet hi)
        refine Go.of (T' := Tj) (f' := (mkF m 13 #[sR a1, sI (Int32.ofNat i), sR a2, sI (Int32.ofNat i), sI (Int32.ofNat cs.length), sI (Int32.ofNat i), sI cj] [(.int (cs.getD i 0))])) (fun _ k => Xj.caload hx (j := (Int32.ofNat i)) (v := (.int (cs.getD i 0))) (by rw [ej]; exact Ar1.1) (State.isArrayOf_alike hZ.alike Ar1.2.1) Ar1.2.2 hin1 hat1 (g := (mkF m 12 #[sR a1, sI (Int32.ofNat i), sR a2, sI (Int32.ofNat i), sI (Int32.ofNat cs.length), sI (Int32.ofNat i), sI cj] [(.int (Int32.ofNat i)), (.ref a1)])) rfl rfl (hb hby d_7_12) _ k) ?_
        refine Go.of (T' := Tj) (f' := (mkF m 15 #[sR a1, sI (Int32.ofNat i), sR a2, sI (Int32.ofNat i), sI (Int32.ofNat cs.length), sI (Int32.ofNat i), sI (cs.getD i 0)] [])) (fun _ k => XS.istore Xj.here hx rfl (hb hby d_7_13) rfl (l' := #[sR a1, sI (Int32.ofNat i), sR a2, sI (Int32.ofNat i), sI (Int32.ofNat cs.length), sI (Int32.ofNat i), sI (cs.getD i 0)]) rfl k) ?_
        refine Go.of (T' := Tj) (f' := (mkF m 17 #[sR a1, sI (Int32.ofNat i), sR a2, sI (Int32.ofNat i), sI (Int32.ofNat cs.length), sI (Int32.ofNat i), sI (cs.getD i 0)] [(.int (cs.getD i 0))])) (fun _ k => XS.iload Xj.here hx rfl (hb hby d_7_15) rfl k) ?_
        refine Go.of (T' := Tj) (f' := (mkF m 20 #[sR a1, sI (Int32.ofNat i), sR a2, sI (Int32.ofNat i), sI (Int32.ofNat cs.length), sI (Int32.ofNat i), sI (cs.getD i 0)] [(.int (255 : Int32)), (.int (cs.getD i 0))])) (fun _ k => XS.sipush Xj.here hx rfl (hb hby d_7_17) k) ?_
        by_cases hc20 : (255 : Int32) < (cs.getD i 0)
        ·
          refine Go.of (T' := Tj) (f' := (mkF m 23 #[sR a1, sI (Int32.ofNat i), sR a2, sI (Int32.ofNat i), sI (Int32.ofNat cs.length), sI (Int32.ofNat i), sI (cs.getD i 0)] [])) (fun _ k => XS.icmpNo Xj.here hx rfl (hb hby d_7_20) rfl (tlt hc20).2.2.2 k) ?_
          refine Go.of (T' := Tj) (f' := (mkF m 25 #[sR a1, sI (Int32.ofNat i), sR a2, sI (Int32.ofNat i), sI (Int32.ofNat cs.length), sI (Int32.ofNat i), sI (cs.getD i 0)] [(.int (Int32.ofNat i))])) (fun _ k => XS.iload Xj.here hx rfl (hb hby d_7_23) rfl k) ?_
          exact goRetI (Q := fun v h L => Mv h0 h [a2] L ∧ ∃ k : Nat, k < cs.length ∧ (255 : Int32) < cs.getD k 0 ∧ v = some (.int (Int32.ofNat k))) Xj hx (t := .int) hret hlk rfl (by simp) (hb hby d_7_25) K (by decide) (by decide) ej (⟨Mj, i, hi, hc20, rfl⟩)
        ·
          refine Go.of (T' := Tj) (f' := (mkF m 26 #[sR a1, sI (Int32.ofNat i), sR a2, sI (Int32.ofNat i), sI (Int32.ofNat cs.length), sI (Int32.ofNat i), sI (cs.getD i 0)] [])) (fun _ k => XS.icmpYes Xj.here hx rfl (pc0 := 20) (pc' := 26) rfl (hb hby d_7_20) rfl (flt hc20).2.2.2 (by decide) (by decide) k) ?_
          refine Go.of (T' := Tj) (f' := (mkF m 27 #[sR a1, sI (Int32.ofNat i), sR a2, sI (Int32.ofNat i), sI (Int32.ofNat cs.length), sI (Int32.ofNat i), sI (cs.getD i 0)] [(.ref a2)])) (fun _ k => XS.aloadN Xj.here hx rfl (hb hby d_7_26) rfl rfl k) ?_
          refine Go.of (T' := Tj) (f' := (mkF m 28 #[sR a1, sI (Int32.ofNat i), sR a2, sI (Int32.ofNat i), sI (Int32.ofNat cs.length), sI (Int32.ofNat i), sI (cs.getD i 0)] [(.int (Int32.ofNat i)), (.ref a2)])) (fun _ k => XS.iloadN Xj.here hx rfl (hb hby d_7_27) rfl k) ?_
          refine Go.of (T' := Tj) (f' := (mkF m 30 #[sR a1, sI (Int32.ofNat i), sR a2, sI (Int32.ofNat i), sI (Int32.ofNat cs.length), sI (Int32.ofNat i), sI (cs.getD i 0)] [(.int (cs.getD i 0)), (.int (Int32.ofNat i)), (.ref a2)])) (fun _ k => XS.iload Xj.here hx rfl (hb hby d_7_28) rfl k) ?_
          refine Go.of (T' := Tj) (f' := (mkF m 31 #[sR a1, sI (Int32.ofNat i), sR a2, sI (Int32.ofNat i), sI (Int32.ofNat cs.length), sI (Int32.ofNat i), sI (cs.getD i 0)] [(.int ((cs.getD i 0).toInt8.toInt32)), (.int (Int32.ofNat i)), (.ref a2)])) (fun _ k => XS.i2b Xj.here hx rfl (hb hby d_7_30) rfl k) ?_
          obtain ⟨cl2, Ar2, cq2, Sz2, Nn2, Hs2, Gs2⟩ := id V_a2
          have hin2 : ¬ ((Int32.ofNat i) < 0 ∨ cl2.slots.size ≤ ((Int32.ofNat i)).toNatClampNeg) := by rw [inbS Sz2 (m := cs.length) (nat32 (by omega))]; exact ⟨nneg (by omega), by rw [nat32 (by omega)]; omega⟩
          obtain ⟨T2, h2, X2, e2, W2, st2⟩ := stB Xj hx hZ ej Ar2 (j := (Int32.ofNat i)) hin2 (g := (mkF m 31 #[sR a1, sI (Int32.ofNat i), sR a2, sI (Int32.ofNat i), sI (Int32.ofNat cs.length), sI (Int32.ofNat i), sI (cs.getD i 0)] [(.int ((cs.getD i 0).toInt8.toInt32)), (.int (Int32.ofNat i)), (.ref a2)])) rfl rfl (hb hby d_7_31)
          have V2 := Arv.set Ar2 cq2 Sz2 Nn2 Hs2 Gs2 (fits_nar_byte _) W2 (i) (nat32 (by omega)) (by omega)
          have K2 := Keep.of_wr W2
          have M2 := Mj.wr W2 (Or.inl (List.mem_of_getElem? (i := 0) rfl))
          replace V_a1 := V_a1.keep K2 (ninS hne nin0)
          replace V_a2 := V2
          refine Go.of (T' := T2) (f' := (mkF m 32 #[sR a1, sI (Int32.ofNat i), sR a2, sI (Int32.ofNat i), sI (Int32.ofNat cs.length), sI (Int32.ofNat i), sI (cs.getD i 0)] [])) st2 ?_
          refine Go.of (T' := T2) (f' := (mkF m 35 #[sR a1, sI ((Int32.ofNat i) + (1 : Int32)), sR a2, sI (Int32.ofNat i), sI (Int32.ofNat cs.length), sI (Int32.ofNat i), sI (cs.getD i 0)] [])) (fun _ k => XS.iinc X2.here hx rfl (hb hby d_7_32) rfl (l' := #[sR a1, sI ((Int32.ofNat i) + (1 : Int32)), sR a2, sI (Int32.ofNat i), sI (Int32.ofNat cs.length), sI (Int32.ofNat i), sI (cs.getD i 0)]) rfl k) ?_
          refine Go.of (T' := T2) (f' := (mkF m 38 #[sR a1, sI ((Int32.ofNat i) + (1 : Int32)), sR a2, sI ((Int32.ofNat i) + (1 : Int32)), sI (Int32.ofNat cs.length), sI (Int32.ofNat i), sI (cs.getD i 0)] [])) (fun _ k => XS.iinc X2.here hx rfl (hb hby d_7_35) rfl (l' := #[sR a1, sI ((Int32.ofNat i) + (1 : Int32)), sR a2, sI ((Int32.ofNat i) + (1 : Int32)), sI (Int32.ofNat cs.length), sI (Int32.ofNat i), sI (cs.getD i 0)]) rfl k) ?_
          refine Go.of (T' := T2) (f' := (mkF m 41 #[sR a1, sI ((Int32.ofNat i) + (1 : Int32)), sR a2, sI ((Int32.ofNat i) + (1 : Int32)), sI (Int32.ofNat cs.length), sI ((Int32.ofNat i) + (1 : Int32)), sI (cs.getD i 0)] [])) (fun _ k => XS.iinc X2.here hx rfl (hb hby d_7_38) rfl (l' := #[sR a1, sI ((Int32.ofNat i) + (1 : Int32)), sR a2, sI ((Int32.ofNat i) + (1 : Int32)), sI (Int32.ofNat cs.length), sI ((Int32.ofNat i) + (1 : Int32)), sI (cs.getD i 0)]) rfl k) ?_
          refine Go.of (T' := T2) (f' := (mkF m 3 #[sR a1, sI ((Int32.ofNat i) + (1 : Int32)), sR a2, sI ((Int32.ofNat i) + (1 : Int32)), sI (Int32.ofNat cs.length), sI ((Int32.ofNat i) + (1 : Int32)), sI (cs.getD i 0)] [])) (fun _ k => XS.goto X2.here hx rfl (pc0 := 41) (pc' := 3) rfl (hb hby d_7_41) (by decide) (by decide) k) ?_
          rw [show (Int32.ofNat i) + (1 : Int32) = Int32.ofNat (i + 1) from (Int32.ofNat_add _ _).symm]
          exact ih (i + 1) _ _ T2 h2 _ (by omega) hi (by rw [List.length_set]; exact hv) (allStep hall hc20) (standUp X2 (by decide) (by decide)) e2 M2 V_a1 V_a2
      ·
        refine Go.of (T' := Tj) (f' := (mkF m 44 #[sR a1, sI (Int32.ofNat i), sR a2, sI (Int32.ofNat i), sI (Int32.ofNat cs.length), sI (Int32.ofNat i), sI cj] [])) (fun _ k => XS.icmpYes Xj.here hx rfl (pc0 := 7) (pc' := 44) rfl (hb hby d_7_7) rfl (flt hc7).2.1 (by decide) (by decide) k) ?_
        refine Go.of (T' := Tj) (f' := (mkF m 46 #[sR a1, sI (Int32.ofNat i), sR a2, sI (Int32.ofNat i), sI (Int32.ofNat cs.length), sI (Int32.ofNat i), sI cj] [(.int (Int32.ofNat cs.length))])) (fun _ k => XS.iload Xj.here hx rfl (hb hby d_7_44) rfl k) ?_
        exact goRetI (Q := fun v h L => Mv h0 h [a2] L ∧ ∃ k : Nat, k < cs.length ∧ (255 : Int32) < cs.getD k 0 ∧ v = some (.int (Int32.ofNat k))) Xj hx (t := .int) hret hlk rfl (by simp) (hb hby d_7_46) K (by decide) (by decide) ej ((wideNo hwd hall (by first | exact Nat.le_of_not_lt fun q => hc7 ((ltN (by omega) (by omega)).mpr q) | omega)).elim)
  have hall : ∀ j, j < 0 → ¬ (255 : Int32) < cs.getD j 0 := fun j hj => absurd hj (Nat.not_lt_zero _)
  refine Go.of (T' := s₁) (f' := (mkF m 5 #[sR a1, sI (Int32.ofNat 0), sR a2, sI (Int32.ofNat 0), sI (Int32.ofNat cs.length), sI (Int32.ofNat 0), .unset] [(.int (Int32.ofNat 0))])) (fun _ k => XS.iload X0.here hx rfl (hb hby d_7_3) rfl k) ?_
  refine Go.of (T' := s₁) (f' := (mkF m 7 #[sR a1, sI (Int32.ofNat 0), sR a2, sI (Int32.ofNat 0), sI (Int32.ofNat cs.length), sI (Int32.ofNat 0), .unset] [(.int (Int32.ofNat cs.length)), (.int (Int32.ofNat 0))])) (fun _ k => XS.iload X0.here hx rfl (hb hby d_7_5) rfl k) ?_
  by_cases hc7 : (Int32.ofNat 0) < (Int32.ofNat cs.length)
  ·
    refine Go.of (T' := s₁) (f' := (mkF m 10 #[sR a1, sI (Int32.ofNat 0), sR a2, sI (Int32.ofNat 0), sI (Int32.ofNat cs.length), sI (Int32.ofNat 0), .unset] [])) (fun _ k => XS.icmpNo X0.here hx rfl (hb hby d_7_7) rfl (tlt hc7).2.1 k) ?_
    have hi : 0 < cs.length := (ltN (by omega) (by omega)).mp hc7
    refine Go.of (T' := s₁) (f' := (mkF m 11 #[sR a1, sI (Int32.ofNat 0), sR a2, sI (Int32.ofNat 0), sI (Int32.ofNat cs.length), sI (Int32.ofNat 0), .unset] [(.ref a1)])) (fun _ k => XS.aloadN X0.here hx rfl (hb hby d_7_10) rfl rfl k) ?_
    refine Go.of (T' := s₁) (f' := (mkF m 12 #[sR a1, sI (Int32.ofNat 0), sR a2, sI (Int32.ofNat 0), sI (Int32.ofNat cs.length), sI (Int32.ofNat 0), .unset] [(.int (Int32.ofNat 0)), (.ref a1)])) (fun _ k => XS.iloadN X0.here hx rfl (hb hby d_7_11) rfl k) ?_
    obtain ⟨cl3, Ar3, cq3, Sz3, Nn3, Hs3, Gs3⟩ := id V_a1
    have hin3 : ¬ ((Int32.ofNat 0) < 0 ∨ cl3.slots.size ≤ ((Int32.ofNat 0)).toNatClampNeg) := inbN Sz3 hi (by omega)
    have hat3 : cl3.slots[((Int32.ofNat 0)).toNatClampNeg]? = some (.int (cs.getD 0 0)) := Has.at Hs3 hin3 (by rw [nat32 (by omega)]; exact mapGet hi)
    refine Go.of (T' := s₁) (f' := (mkF m 13 #[sR a1, sI (Int32.ofNat 0), sR a2, sI (Int32.ofNat 0), sI (Int32.ofNat cs.length), sI (Int32.ofNat 0), .unset] [(.int (cs.getD 0 0))])) (fun _ k => X0.caload hx (j := (Int32.ofNat 0)) (v := (.int (cs.getD 0 0))) (by rw [e0]; exact Ar3.1) (State.isArrayOf_alike hZ.alike Ar3.2.1) Ar3.2.2 hin3 hat3 (g := (mkF m 12 #[sR a1, sI (Int32.ofNat 0), sR a2, sI (Int32.ofNat 0), sI (Int32.ofNat cs.length), sI (Int32.ofNat 0), .unset] [(.int (Int32.ofNat 0)), (.ref a1)])) rfl rfl (hb hby d_7_12) _ k) ?_
    refine Go.of (T' := s₁) (f' := (mkF m 15 #[sR a1, sI (Int32.ofNat 0), sR a2, sI (Int32.ofNat 0), sI (Int32.ofNat cs.length), sI (Int32.ofNat 0), sI (cs.getD 0 0)] [])) (fun _ k => XS.istore X0.here hx rfl (hb hby d_7_13) rfl (l' := #[sR a1, sI (Int32.ofNat 0), sR a2, sI (Int32.ofNat 0), sI (Int32.ofNat cs.length), sI (Int32.ofNat 0), sI (cs.getD 0 0)]) rfl k) ?_
    refine Go.of (T' := s₁) (f' := (mkF m 17 #[sR a1, sI (Int32.ofNat 0), sR a2, sI (Int32.ofNat 0), sI (Int32.ofNat cs.length), sI (Int32.ofNat 0), sI (cs.getD 0 0)] [(.int (cs.getD 0 0))])) (fun _ k => XS.iload X0.here hx rfl (hb hby d_7_15) rfl k) ?_
    refine Go.of (T' := s₁) (f' := (mkF m 20 #[sR a1, sI (Int32.ofNat 0), sR a2, sI (Int32.ofNat 0), sI (Int32.ofNat cs.length), sI (Int32.ofNat 0), sI (cs.getD 0 0)] [(.int (255 : Int32)), (.int (cs.getD 0 0))])) (fun _ k => XS.sipush X0.here hx rfl (hb hby d_7_17) k) ?_
    by_cases hc20 : (255 : Int32) < (cs.getD 0 0)
    ·
      refine Go.of (T' := s₁) (f' := (mkF m 23 #[sR a1, sI (Int32.ofNat 0), sR a2, sI (Int32.ofNat 0), sI (Int32.ofNat cs.length), sI (Int32.ofNat 0), sI (cs.getD 0 0)] [])) (fun _ k => XS.icmpNo X0.here hx rfl (hb hby d_7_20) rfl (tlt hc20).2.2.2 k) ?_
      refine Go.of (T' := s₁) (f' := (mkF m 25 #[sR a1, sI (Int32.ofNat 0), sR a2, sI (Int32.ofNat 0), sI (Int32.ofNat cs.length), sI (Int32.ofNat 0), sI (cs.getD 0 0)] [(.int (Int32.ofNat 0))])) (fun _ k => XS.iload X0.here hx rfl (hb hby d_7_23) rfl k) ?_
      exact goRetI (Q := fun v h L => Mv h0 h [a2] L ∧ ∃ k : Nat, k < cs.length ∧ (255 : Int32) < cs.getD k 0 ∧ v = some (.int (Int32.ofNat k))) X0 hx (t := .int) hret hlk rfl (by simp) (hb hby d_7_25) K (by decide) (by decide) e0 (⟨M0, 0, hi, hc20, rfl⟩)
    ·
      refine Go.of (T' := s₁) (f' := (mkF m 26 #[sR a1, sI (Int32.ofNat 0), sR a2, sI (Int32.ofNat 0), sI (Int32.ofNat cs.length), sI (Int32.ofNat 0), sI (cs.getD 0 0)] [])) (fun _ k => XS.icmpYes X0.here hx rfl (pc0 := 20) (pc' := 26) rfl (hb hby d_7_20) rfl (flt hc20).2.2.2 (by decide) (by decide) k) ?_
      refine Go.of (T' := s₁) (f' := (mkF m 27 #[sR a1, sI (Int32.ofNat 0), sR a2, sI (Int32.ofNat 0), sI (Int32.ofNat cs.length), sI (Int32.ofNat 0), sI (cs.getD 0 0)] [(.ref a2)])) (fun _ k => XS.aloadN X0.here hx rfl (hb hby d_7_26) rfl rfl k) ?_
      refine Go.of (T' := s₁) (f' := (mkF m 28 #[sR a1, sI (Int32.ofNat 0), sR a2, sI (Int32.ofNat 0), sI (Int32.ofNat cs.length), sI (Int32.ofNat 0), sI (cs.getD 0 0)] [(.int (Int32.ofNat 0)), (.ref a2)])) (fun _ k => XS.iloadN X0.here hx rfl (hb hby d_7_27) rfl k) ?_
      refine Go.of (T' := s₁) (f' := (mkF m 30 #[sR a1, sI (Int32.ofNat 0), sR a2, sI (Int32.ofNat 0), sI (Int32.ofNat cs.length), sI (Int32.ofNat 0), sI (cs.getD 0 0)] [(.int (cs.getD 0 0)), (.int (Int32.ofNat 0)), (.ref a2)])) (fun _ k => XS.iload X0.here hx rfl (hb hby d_7_28) rfl k) ?_
      refine Go.of (T' := s₁) (f' := (mkF m 31 #[sR a1, sI (Int32.ofNat 0), sR a2, sI (Int32.ofNat 0), sI (Int32.ofNat cs.length), sI (Int32.ofNat 0), sI (cs.getD 0 0)] [(.int ((cs.getD 0 0).toInt8.toInt32)), (.int (Int32.ofNat 0)), (.ref a2)])) (fun _ k => XS.i2b X0.here hx rfl (hb hby d_7_30) rfl k) ?_
      obtain ⟨cl4, Ar4, cq4, Sz4, Nn4, Hs4, Gs4⟩ := id V_a2
      have hin4 : ¬ ((Int32.ofNat 0) < 0 ∨ cl4.slots.size ≤ ((Int32.ofNat 0)).toNatClampNeg) := by rw [inbS Sz4 (m := cs.length) (nat32 (by omega))]; exact ⟨nneg (by omega), by rw [nat32 (by omega)]; omega⟩
      obtain ⟨T4, h4, X4, e4, W4, st4⟩ := stB X0 hx hZ e0 Ar4 (j := (Int32.ofNat 0)) hin4 (g := (mkF m 31 #[sR a1, sI (Int32.ofNat 0), sR a2, sI (Int32.ofNat 0), sI (Int32.ofNat cs.length), sI (Int32.ofNat 0), sI (cs.getD 0 0)] [(.int ((cs.getD 0 0).toInt8.toInt32)), (.int (Int32.ofNat 0)), (.ref a2)])) rfl rfl (hb hby d_7_31)
      have V4 := Arv.set Ar4 cq4 Sz4 Nn4 Hs4 Gs4 (fits_nar_byte _) W4 (0) (nat32 (by omega)) (by omega)
      have K4 := Keep.of_wr W4
      have M4 := M0.wr W4 (Or.inl (List.mem_of_getElem? (i := 0) rfl))
      replace V_a1 := V_a1.keep K4 (ninS hne nin0)
      replace V_a2 := V4
      refine Go.of (T' := T4) (f' := (mkF m 32 #[sR a1, sI (Int32.ofNat 0), sR a2, sI (Int32.ofNat 0), sI (Int32.ofNat cs.length), sI (Int32.ofNat 0), sI (cs.getD 0 0)] [])) st4 ?_
      refine Go.of (T' := T4) (f' := (mkF m 35 #[sR a1, sI ((Int32.ofNat 0) + (1 : Int32)), sR a2, sI (Int32.ofNat 0), sI (Int32.ofNat cs.length), sI (Int32.ofNat 0), sI (cs.getD 0 0)] [])) (fun _ k => XS.iinc X4.here hx rfl (hb hby d_7_32) rfl (l' := #[sR a1, sI ((Int32.ofNat 0) + (1 : Int32)), sR a2, sI (Int32.ofNat 0), sI (Int32.ofNat cs.length), sI (Int32.ofNat 0), sI (cs.getD 0 0)]) rfl k) ?_
      refine Go.of (T' := T4) (f' := (mkF m 38 #[sR a1, sI ((Int32.ofNat 0) + (1 : Int32)), sR a2, sI ((Int32.ofNat 0) + (1 : Int32)), sI (Int32.ofNat cs.length), sI (Int32.ofNat 0), sI (cs.getD 0 0)] [])) (fun _ k => XS.iinc X4.here hx rfl (hb hby d_7_35) rfl (l' := #[sR a1, sI ((Int32.ofNat 0) + (1 : Int32)), sR a2, sI ((Int32.ofNat 0) + (1 : Int32)), sI (Int32.ofNat cs.length), sI (Int32.ofNat 0), sI (cs.getD 0 0)]) rfl k) ?_
      refine Go.of (T' := T4) (f' := (mkF m 41 #[sR a1, sI ((Int32.ofNat 0) + (1 : Int32)), sR a2, sI ((Int32.ofNat 0) + (1 : Int32)), sI (Int32.ofNat cs.length), sI ((Int32.ofNat 0) + (1 : Int32)), sI (cs.getD 0 0)] [])) (fun _ k => XS.iinc X4.here hx rfl (hb hby d_7_38) rfl (l' := #[sR a1, sI ((Int32.ofNat 0) + (1 : Int32)), sR a2, sI ((Int32.ofNat 0) + (1 : Int32)), sI (Int32.ofNat cs.length), sI ((Int32.ofNat 0) + (1 : Int32)), sI (cs.getD 0 0)]) rfl k) ?_
      refine Go.of (T' := T4) (f' := (mkF m 3 #[sR a1, sI ((Int32.ofNat 0) + (1 : Int32)), sR a2, sI ((Int32.ofNat 0) + (1 : Int32)), sI (Int32.ofNat cs.length), sI ((Int32.ofNat 0) + (1 : Int32)), sI (cs.getD 0 0)] [])) (fun _ k => XS.goto X4.here hx rfl (pc0 := 41) (pc' := 3) rfl (hb hby d_7_41) (by decide) (by decide) k) ?_
      rw [show (Int32.ofNat 0) + (1 : Int32) = Int32.ofNat (0 + 1) from (Int32.ofNat_add _ _).symm]
      exact J cs.length (0 + 1) _ _ T4 h4 _ (by omega) hi (by rw [List.length_set]; exact hv) (allStep hall hc20) (standUp X4 (by decide) (by decide)) e4 M4 V_a1 V_a2
  ·
    refine Go.of (T' := s₁) (f' := (mkF m 44 #[sR a1, sI (Int32.ofNat 0), sR a2, sI (Int32.ofNat 0), sI (Int32.ofNat cs.length), sI (Int32.ofNat 0), .unset] [])) (fun _ k => XS.icmpYes X0.here hx rfl (pc0 := 7) (pc' := 44) rfl (hb hby d_7_7) rfl (flt hc7).2.1 (by decide) (by decide) k) ?_
    refine Go.of (T' := s₁) (f' := (mkF m 46 #[sR a1, sI (Int32.ofNat 0), sR a2, sI (Int32.ofNat 0), sI (Int32.ofNat cs.length), sI (Int32.ofNat 0), .unset] [(.int (Int32.ofNat cs.length))])) (fun _ k => XS.iload X0.here hx rfl (hb hby d_7_44) rfl k) ?_
    exact goRetI (Q := fun v h L => Mv h0 h [a2] L ∧ ∃ k : Nat, k < cs.length ∧ (255 : Int32) < cs.getD k 0 ∧ v = some (.int (Int32.ofNat k))) X0 hx (t := .int) hret hlk rfl (by simp) (hb hby d_7_46) K (by decide) (by decide) e0 ((wideNo hwd hall (by first | exact Nat.le_of_not_lt fun q => hc7 ((ltN (by omega) (by omega)).mpr q) | omega)).elim)
theorem ef_rm_cp (m : MethodId) (x0 : Addr) (x1 : Int32) (x2 : Int32)  : entryFrame m #[(.ref x0), (.int x1), (.int x2)] 6 = mkF m 0 #[.val (.ref x0), .val (.int x1), .val (.int x2), .unset, .unset, .unset] [] := by first | (simp [entryFrame, mkF, argsToLocals, Value.category]; done) | rfl
theorem d_8_0 : decode jdk_52_method_16_code 0 = .ok (.iload_n 2, 1) := by decide +kernel
theorem d_8_1 : decode jdk_52_method_16_code 1 = .ok (.newarray .byte, 2) := by decide +kernel
theorem d_8_3 : decode jdk_52_method_16_code 3 = .ok (.astore_n 3, 1) := by decide +kernel
theorem d_8_4 : decode jdk_52_method_16_code 4 = .ok (.aload_n 0, 1) := by decide +kernel
theorem d_8_5 : decode jdk_52_method_16_code 5 = .ok (.iload_n 1, 1) := by decide +kernel
theorem d_8_6 : decode jdk_52_method_16_code 6 = .ok (.aload_n 3, 1) := by decide +kernel
theorem d_8_7 : decode jdk_52_method_16_code 7 = .ok (.iconst 0, 1) := by decide +kernel
theorem d_8_8 : decode jdk_52_method_16_code 8 = .ok (.iload_n 2, 1) := by decide +kernel
theorem d_8_9 : decode jdk_52_method_16_code 9 = .ok (.invokestatic 115, 3) := by decide +kernel
theorem pd___CI_BII_I : parseMethodDescriptor "([CI[BII)I" = some ⟨[(.array .char), .int, (.array .byte), .int, .int], some .int⟩ := by decide +kernel
theorem d_8_12 : decode jdk_52_method_16_code 12 = .ok (.istore 4, 2) := by decide +kernel
theorem d_8_14 : decode jdk_52_method_16_code 14 = .ok (.iload 4, 2) := by decide +kernel
theorem d_8_16 : decode jdk_52_method_16_code 16 = .ok (.iload_n 2, 1) := by decide +kernel
theorem d_8_17 : decode jdk_52_method_16_code 17 = .ok (.if_icmp .eq 40, 3) := by decide +kernel
theorem d_8_20 : decode jdk_52_method_16_code 20 = .ok (.aload_n 0, 1) := by decide +kernel
theorem d_8_21 : decode jdk_52_method_16_code 21 = .ok (.iload_n 1, 1) := by decide +kernel
theorem d_8_22 : decode jdk_52_method_16_code 22 = .ok (.iload_n 2, 1) := by decide +kernel
theorem d_8_23 : decode jdk_52_method_16_code 23 = .ok (.invokestatic 119, 3) := by decide +kernel
theorem pd___CII__B : parseMethodDescriptor "([CII)[B" = some ⟨[(.array .char), .int, .int], some (.array .byte)⟩ := by decide +kernel
theorem d_8_26 : decode jdk_52_method_16_code 26 = .ok (.astore 5, 2) := by decide +kernel
theorem d_8_28 : decode jdk_52_method_16_code 28 = .ok (.aload 5, 2) := by decide +kernel
theorem d_8_30 : decode jdk_52_method_16_code 30 = .ok (.iload 4, 2) := by decide +kernel
theorem d_8_32 : decode jdk_52_method_16_code 32 = .ok (.invokestatic 71, 3) := by decide +kernel
theorem pd___BI_C : parseMethodDescriptor "([BI)C" = some ⟨[(.array .byte), .int], some .char⟩ := by decide +kernel
theorem d_8_35 : decode jdk_52_method_16_code 35 = .ok (.sipush 255, 3) := by decide +kernel
theorem d_8_38 : decode jdk_52_method_16_code 38 = .ok (.if_icmp .gt 16, 3) := by decide +kernel
theorem d_8_54 : decode jdk_52_method_16_code 54 = .ok (.aload 5, 2) := by decide +kernel
theorem d_8_56 : decode jdk_52_method_16_code 56 = .ok (.areturn, 1) := by decide +kernel
set_option maxRecDepth 65536 in
set_option maxHeartbeats 40000000 in
theorem rm_cp (l : Launch) (Z : State) (a0 : Array Value) (hw : ∀ d ∈ tables_1, d.before a0 Z = true) (a1 : Addr) (ka : ClassId) (cs : List Int32) (h0 : Heap) (V_a1 : Arv Z h0 a1 ka .char (Int32.ofNat cs.length) (cs.map Value.int) (.int (0 : Int32))) (h8 : cs.length ≤ 8) (hwd : ∃ c ∈ cs, (255 : Int32) < c) (hbr : ∀ c ∈ cs, ¬ c < 0 ∧ ¬ (65535 : Int32) < c) (Z_ad : Sta Z h0 "java/lang/StringUTF16" "$assertionsDisabled" "Z" (.int (1 : Int32))) (Z_hs : Sta Z h0 "java/lang/StringUTF16" "HI_BYTE_SHIFT" "I" (.int (0 : Int32))) (Z_ls : Sta Z h0 "java/lang/StringUTF16" "LO_BYTE_SHIFT" "I" (.int (8 : Int32))) :
    MeetsW l Z (⟨"java/lang/StringUTF16", "compress", "([CII)[B"⟩ : MethodName) jdk_52_method_16_code 6 (some (.array .byte)) ({ frames := 3, cells := 2, slots := 24, locals := 40 } : Room) #[(.ref a1), (.int (0 : Int32)), (.int (Int32.ofNat cs.length))] h0 (fun v h L => Mv h0 h [] L ∧ ∃ (b : Addr) (k : ClassId), v = some (.ref b) ∧ h0.size ≤ b ∧ Arv Z h b k .byte (Int32.ofNat (2 * cs.length)) (StrChars.Road.wideBytes cs) (.int (0 : Int32))) := by
  refine MeetsW.of (plainFor_of_name pn_java_lang_StringUTF16) ?_
  intro p e s m below meth c s₁ P hx hby hml hZ hown hnm hret hlk X0 e0 K
  have M0 : Mv h0 h0 [] [] := Mv.refl _ _
  refine Go.cast (ef_rm_cp m a1 (0 : Int32) (Int32.ofNat cs.length) ) ?_
  have hl : cs.length ≤ 4000 := by omega
  refine Go.of (T' := s₁) (f' := (mkF m 1 #[sR a1, sI 0, sI (Int32.ofNat cs.length), .unset, .unset, .unset] [(.int (Int32.ofNat cs.length))])) (fun _ k => XS.iloadN X0.here hx rfl (hb hby d_8_0) rfl k) ?_
  obtain ⟨T1, h1, k1, X1, e1, E1, A1, st1⟩ := newP X0 hx hZ (hw _ (List.mem_of_getElem? (i := 26) rfl)) e0 (g := (mkF m 1 #[sR a1, sI 0, sI (Int32.ofNat cs.length), .unset, .unset, .unset] [(.int (Int32.ofNat cs.length))])) rfl (hb hby d_8_1) rfl (nneg (by omega)) (cap := 8) (by rw [nat32 (by omega)]; omega) (by decide) (by decide) (by decide)
  obtain ⟨b1, g1⟩ : ∃ z, z = h0.size := ⟨_, rfl⟩
  rw [← g1] at A1 st1
  have ne_a1_b1 : a1 ≠ b1 := Nat.ne_of_lt (Nat.lt_of_lt_of_le V_a1.lt (Nat.le_of_eq g1.symm))
  have fr_b1 : h0.size ≤ b1 := Nat.le_trans M0.le (Nat.le_of_eq g1.symm)
  have K1 := keepE E1
  have M1 := M0.ext E1
  replace V_a1 := V_a1.keep K1 nin0
  replace Z_ad := StaKeep Z_ad K1 all0
  replace Z_hs := StaKeep Z_hs K1 all0
  replace Z_ls := StaKeep Z_ls K1 all0
  have V_b1 : Arv Z h1 b1 k1 .byte (Int32.ofNat cs.length) [] (.int (0 : Int32)) := Arv.new A1 (nneg (by omega))
  refine Go.of (T' := T1) (f' := (mkF m 3 #[sR a1, sI 0, sI (Int32.ofNat cs.length), .unset, .unset, .unset] [(.ref b1)])) st1 ?_
  refine Go.of (T' := T1) (f' := (mkF m 4 #[sR a1, sI 0, sI (Int32.ofNat cs.length), sR b1, .unset, .unset] [])) (fun _ k => XS.astoreN X1.here hx rfl (hb hby d_8_3) rfl rfl (l' := #[sR a1, sI 0, sI (Int32.ofNat cs.length), sR b1, .unset, .unset]) rfl k) ?_
  refine Go.of (T' := T1) (f' := (mkF m 5 #[sR a1, sI 0, sI (Int32.ofNat cs.length), sR b1, .unset, .unset] [(.ref a1)])) (fun _ k => XS.aloadN X1.here hx rfl (hb hby d_8_4) rfl rfl k) ?_
  refine Go.of (T' := T1) (f' := (mkF m 6 #[sR a1, sI 0, sI (Int32.ofNat cs.length), sR b1, .unset, .unset] [(.int (0 : Int32)), (.ref a1)])) (fun _ k => XS.iloadN X1.here hx rfl (hb hby d_8_5) rfl k) ?_
  refine Go.of (T' := T1) (f' := (mkF m 7 #[sR a1, sI 0, sI (Int32.ofNat cs.length), sR b1, .unset, .unset] [(.ref b1), (.int (0 : Int32)), (.ref a1)])) (fun _ k => XS.aloadN X1.here hx rfl (hb hby d_8_6) rfl rfl k) ?_
  refine Go.of (T' := T1) (f' := (mkF m 8 #[sR a1, sI 0, sI (Int32.ofNat cs.length), sR b1, .unset, .unset] [(.int (0 : Int32)), (.ref b1), (.int (0 : Int32)), (.ref a1)])) (fun _ k => XS.iconst X1.here hx rfl (hb hby d_8_7) k) ?_
  refine Go.of (T' := T1) (f' := (mkF m 9 #[sR a1, sI 0, sI (Int32.ofNat cs.length), sR b1, .unset, .unset] [(.int (Int32.ofNat cs.length)), (.int (0 : Int32)), (.ref b1), (.int (0 : Int32)), (.ref a1)])) (fun _ k => XS.iloadN X1.here hx rfl (hb hby d_8_8) rfl k) ?_
  refine goS X1 hx hZ hown (hw _ (List.mem_of_getElem? (i := 27) rfl)) (hw _ (List.mem_of_getElem? (i := 28) rfl)) (hw _ (List.mem_of_getElem? (i := 24) rfl)) (hw _ (List.mem_of_getElem? (i := 29) rfl)) (by decide) (C := 0) (S := 0) ((rm_ci l Z a0 hw a1 b1 ka k1 cs _ h1 V_a1 h8 (V_b1.pad (pad_rep [] _ cs.length)) (by simp) ne_a1_b1 hwd).bk (W := 0) hZ (hw _ (List.mem_of_getElem? (i := 29) rfl)) (hw _ (List.mem_of_getElem? (i := 24) rfl)) (by decide) (by decide)) e1 (argsL := [(.ref a1), (.int (0 : Int32)), (.ref b1), (.int (0 : Int32)), (.int (Int32.ofNat cs.length))]) (rest := []) (by rw [hml]; rfl) (lenOf pd___CI_BII_I rfl) rfl rfl (hb hby d_8_9) (Nat.le_of_eq rfl) (by decide) (by decide) ?_
  intro v2 T2 L2 X2 hQ2
  obtain ⟨h2, e2⟩ : ∃ z, T2.heap = z := ⟨_, rfl⟩
  rw [e2] at hQ2
  have V_b1_o := V_b1
  obtain ⟨Mc2, kk, hkk, hgt, rfl⟩ := hQ2
  have M2 := M1.app Mc2 (allS (Or.inr fr_b1) all0)
  replace V_a1 := V_a1.keep Mc2.1 (ninS ne_a1_b1 nin0)
  replace Z_ad := StaKeep Z_ad Mc2.1 (allS (staArv V_b1_o) all0)
  replace Z_hs := StaKeep Z_hs Mc2.1 (allS (staArv V_b1_o) all0)
  replace Z_ls := StaKeep Z_ls Mc2.1 (allS (staArv V_b1_o) all0)
  show Go p e below P T2 (mkF m 12 #[sR a1, sI 0, sI (Int32.ofNat cs.length), sR b1, .unset, .unset] [(.int (Int32.ofNat kk))])
  refine Go.of (T' := T2) (f' := (mkF m 14 #[sR a1, sI 0, sI (Int32.ofNat cs.length), sR b1, sI (Int32.ofNat kk), .unset] [])) (fun _ k => XS.istore X2.here hx rfl (hb hby d_8_12) rfl (l' := #[sR a1, sI 0, sI (Int32.ofNat cs.length), sR b1, sI (Int32.ofNat kk), .unset]) rfl k) ?_
  refine Go.of (T' := T2) (f' := (mkF m 16 #[sR a1, sI 0, sI (Int32.ofNat cs.length), sR b1, sI (Int32.ofNat kk), .unset] [(.int (Int32.ofNat kk))])) (fun _ k => XS.iload X2.here hx rfl (hb hby d_8_14) rfl k) ?_
  refine Go.of (T' := T2) (f' := (mkF m 17 #[sR a1, sI 0, sI (Int32.ofNat cs.length), sR b1, sI (Int32.ofNat kk), .unset] [(.int (Int32.ofNat cs.length)), (.int (Int32.ofNat kk))])) (fun _ k => XS.iloadN X2.here hx rfl (hb hby d_8_16) rfl k) ?_
  have hc17 : ¬ ((Int32.ofNat kk) = (Int32.ofNat cs.length)) := neN (by omega) (by omega) (by omega)
  refine Go.of (T' := T2) (f' := (mkF m 20 #[sR a1, sI 0, sI (Int32.ofNat cs.length), sR b1, sI (Int32.ofNat kk), .unset] [])) (fun _ k => XS.icmpNo X2.here hx rfl (hb hby d_8_17) rfl (feq hc17).1 k) ?_
  refine Go.of (T' := T2) (f' := (mkF m 21 #[sR a1, sI 0, sI (Int32.ofNat cs.length), sR b1, sI (Int32.ofNat kk), .unset] [(.ref a1)])) (fun _ k => XS.aloadN X2.here hx rfl (hb hby d_8_20) rfl rfl k) ?_
  refine Go.of (T' := T2) (f' := (mkF m 22 #[sR a1, sI 0, sI (Int32.ofNat cs.length), sR b1, sI (Int32.ofNat kk), .unset] [(.int (0 : Int32)), (.ref a1)])) (fun _ k => XS.iloadN X2.here hx rfl (hb hby d_8_21) rfl k) ?_
  refine Go.of (T' := T2) (f' := (mkF m 23 #[sR a1, sI 0, sI (Int32.ofNat cs.length), sR b1, sI (Int32.ofNat kk), .unset] [(.int (Int32.ofNat cs.length)), (.int (0 : Int32)), (.ref a1)])) (fun _ k => XS.iloadN X2.here hx rfl (hb hby d_8_22) rfl k) ?_
  refine goS X2 hx hZ hown (hw _ (List.mem_of_getElem? (i := 139) rfl)) (hw _ (List.mem_of_getElem? (i := 140) rfl)) (hw _ (List.mem_of_getElem? (i := 24) rfl)) (hw _ (List.mem_of_getElem? (i := 141) rfl)) (by decide) (C := 1) (S := 16) ((rm_tb l Z a0 hw a1 ka cs h2 V_a1 h8 Z_ad Z_hs Z_ls).bk (W := 0) hZ (hw _ (List.mem_of_getElem? (i := 141) rfl)) (hw _ (List.mem_of_getElem? (i := 24) rfl)) (by decide) (by decide)) e2 (argsL := [(.ref a1), (.int (0 : Int32)), (.int (Int32.ofNat cs.length))]) (rest := []) (by rw [hml]; rfl) (lenOf pd___CII__B rfl) rfl rfl (hb hby d_8_23) (Nat.le_of_eq rfl) (by decide) (by decide) ?_
  intro v3 T3 L3 X3 hQ3
  obtain ⟨h3, e3⟩ : ∃ z, T3.heap = z := ⟨_, rfl⟩
  rw [e3] at hQ3
  obtain ⟨Mc3, b3, k3, rfl, le3, V_b3⟩ := hQ3
  have ne_a1_b3 : a1 ≠ b3 := Nat.ne_of_lt (Nat.lt_of_lt_of_le V_a1.lt le3)
  have fr_b3 : h0.size ≤ b3 := Nat.le_trans M2.le le3
  have M3 := M2.app0 Mc3
  replace V_a1 := V_a1.keep Mc3.1 nin0
  replace Z_ad := StaKeep Z_ad Mc3.1 all0
  replace Z_hs := StaKeep Z_hs Mc3.1 all0
  replace Z_ls := StaKeep Z_ls Mc3.1 all0
  show Go p e below P T3 (mkF m 26 #[sR a1, sI 0, sI (Int32.ofNat cs.length), sR b1, sI (Int32.ofNat kk), .unset] [(.ref b3)])
  refine Go.of (T' := T3) (f' := (mkF m 28 #[sR a1, sI 0, sI (Int32.ofNat cs.length), sR b1, sI (Int32.ofNat kk), sR b3] [])) (fun _ k => XS.astore X3.here hx rfl (hb hby d_8_26) rfl rfl (l' := #[sR a1, sI 0, sI (Int32.ofNat cs.length), sR b1, sI (Int32.ofNat kk), sR b3]) rfl k) ?_
  refine Go.of (T' := T3) (f' := (mkF m 30 #[sR a1, sI 0, sI (Int32.ofNat cs.length), sR b1, sI (Int32.ofNat kk), sR b3] [(.ref b3)])) (fun _ k => XS.aload X3.here hx rfl (hb hby d_8_28) rfl rfl k) ?_
  refine Go.of (T' := T3) (f' := (mkF m 32 #[sR a1, sI 0, sI (Int32.ofNat cs.length), sR b1, sI (Int32.ofNat kk), sR b3] [(.int (Int32.ofNat kk)), (.ref b3)])) (fun _ k => XS.iload X3.here hx rfl (hb hby d_8_30) rfl k) ?_
  refine goS X3 hx hZ hown (hw _ (List.mem_of_getElem? (i := 155) rfl)) (hw _ (List.mem_of_getElem? (i := 156) rfl)) (hw _ (List.mem_of_getElem? (i := 24) rfl)) (hw _ (List.mem_of_getElem? (i := 157) rfl)) (by decide) (C := 0) (S := 0) ((rm_getChar l Z a0 hw b3 k3 cs kk h3 V_b3 hl hkk hbr Z_ad Z_hs Z_ls).bk (W := 0) hZ (hw _ (List.mem_of_getElem? (i := 157) rfl)) (hw _ (List.mem_of_getElem? (i := 24) rfl)) (by decide) (by decide)) e3 (argsL := [(.ref b3), (.int (Int32.ofNat kk))]) (rest := []) (by rw [hml]; rfl) (lenOf pd___BI_C rfl) rfl rfl (hb hby d_8_32) (Nat.le_of_eq rfl) (by decide) (by decide) ?_
  intro v4 T4 L4 X4 hQ4
  obtain ⟨nq4, e4, rfl⟩ := hQ4
  replace X4 := standNil X4 nq4
  show Go p e below P T4 (mkF m 35 #[sR a1, sI 0, sI (Int32.ofNat cs.length), sR b1, sI (Int32.ofNat kk), sR b3] [(.int (cs.getD kk 0))])
  refine Go.of (T' := T4) (f' := (mkF m 38 #[sR a1, sI 0, sI (Int32.ofNat cs.length), sR b1, sI (Int32.ofNat kk), sR b3] [(.int (255 : Int32)), (.int (cs.getD kk 0))])) (fun _ k => XS.sipush X4.here hx rfl (hb hby d_8_35) k) ?_
  have hc38 : (255 : Int32) < (cs.getD kk 0) := hgt
  refine Go.of (T' := T4) (f' := (mkF m 54 #[sR a1, sI 0, sI (Int32.ofNat cs.length), sR b1, sI (Int32.ofNat kk), sR b3] [])) (fun _ k => XS.icmpYes X4.here hx rfl (pc0 := 38) (pc' := 54) rfl (hb hby d_8_38) rfl (tlt hc38).2.2.1 (by decide) (by decide) k) ?_
  refine Go.of (T' := T4) (f' := (mkF m 56 #[sR a1, sI 0, sI (Int32.ofNat cs.length), sR b1, sI (Int32.ofNat kk), sR b3] [(.ref b3)])) (fun _ k => XS.aload X4.here hx rfl (hb hby d_8_54) rfl rfl k) ?_
  exact goRetR (Q := fun v h L => Mv h0 h [] L ∧ ∃ (b : Addr) (k : ClassId), v = some (.ref b) ∧ h0.size ≤ b ∧ Arv Z h b k .byte (Int32.ofNat (2 * cs.length)) (StrChars.Road.wideBytes cs) (.int (0 : Int32))) X4 hx hret rfl hlk rfl rfl (hb hby d_8_56) K (by decide) (by decide) e4 (⟨M3, b3, _, rfl, fr_b3, V_b3⟩)
theorem ef_rm_cfa (m : MethodId) (x0 : Addr) (x1 : Int32)  : entryFrame m #[(.ref x0), (.int x1)] 2 = mkF m 0 #[.val (.ref x0), .val (.int x1)] [] := by first | (simp [entryFrame, mkF, argsToLocals, Value.category]; done) | rfl
theorem d_9_0 : decode jdk_52_method_15_code 0 = .ok (.iload_n 1, 1) := by decide +kernel
theorem d_9_1 : decode jdk_52_method_15_code 1 = .ok (.aload_n 0, 1) := by decide +kernel
theorem d_9_2 : decode jdk_52_method_15_code 2 = .ok (.arraylength, 1) := by decide +kernel
theorem d_9_3 : decode jdk_52_method_15_code 3 = .ok (.isub, 1) := by decide +kernel
theorem d_9_4 : decode jdk_52_method_15_code 4 = .ok (.bipush 31, 2) := by decide +kernel
theorem d_9_6 : decode jdk_52_method_15_code 6 = .ok (.iushr, 1) := by decide +kernel
theorem d_9_7 : decode jdk_52_method_15_code 7 = .ok (.i2b, 1) := by decide +kernel
theorem d_9_8 : decode jdk_52_method_15_code 8 = .ok (.ireturn, 1) := by decide +kernel
set_option maxRecDepth 65536 in
set_option maxHeartbeats 40000000 in
theorem rm_cfa (l : Launch) (Z : State) (a0 : Array Value) (hw : ∀ d ∈ tables_1, d.before a0 Z = true) (a1 : Addr) (ka : ClassId) (n : Nat) (vs : List Value) (h0 : Heap) (V_a1 : Arv Z h0 a1 ka .byte (Int32.ofNat (2 * n)) vs (.int (0 : Int32))) (h8 : n ≤ 8) (h1 : 0 < n) :
    MeetsW l Z (⟨"java/lang/StringUTF16", "coderFromArrayLen", "([BI)B"⟩ : MethodName) jdk_52_method_15_code 2 (some .byte) ({ frames := 0, cells := 0, slots := 0, locals := 0 } : Room) #[(.ref a1), (.int (Int32.ofNat n))] h0 (Pu h0 (fun v => v = some (.int 1))) := by
  refine MeetsW.of (plainFor_of_name pn_java_lang_StringUTF16) ?_
  intro p e s m below meth c s₁ P hx hby hml hZ hown hnm hret hlk X0 e0 K
  have M0 : Mv h0 h0 [] [] := Mv.refl _ _
  refine Go.cast (ef_rm_cfa m a1 (Int32.ofNat n) ) ?_
  refine Go.of (T' := s₁) (f' := (mkF m 1 #[sR a1, sI (Int32.ofNat n)] [(.int (Int32.ofNat n))])) (fun _ k => XS.iloadN X0.here hx rfl (hb hby d_9_0) rfl k) ?_
  refine Go.of (T' := s₁) (f' := (mkF m 2 #[sR a1, sI (Int32.ofNat n)] [(.ref a1), (.int (Int32.ofNat n))])) (fun _ k => XS.aloadN X0.here hx rfl (hb hby d_9_1) rfl rfl k) ?_
  obtain ⟨cl1, Ar1, -, Sz1, Nn1, -, -⟩ := id V_a1
  refine Go.of (T' := s₁) (f' := (mkF m 3 #[sR a1, sI (Int32.ofNat n)] [(.int (Int32.ofNat (2 * n))), (.int (Int32.ofNat n))])) (fun _ k => X0.arraylength hx (by rw [e0]; exact Ar1.1) (State.isArrayOf_alike hZ.alike Ar1.2.1) (g := (mkF m 2 #[sR a1, sI (Int32.ofNat n)] [(.ref a1), (.int (Int32.ofNat n))])) rfl rfl (hb hby d_9_2) _ (by rw [len_of Sz1 Nn1]; exact k)) ?_
  refine Go.of (T' := s₁) (f' := (mkF m 4 #[sR a1, sI (Int32.ofNat n)] [(.int ((Int32.ofNat n) - (Int32.ofNat (2 * n))))])) (fun _ k => XS.isub X0.here hx rfl (hb hby d_9_3) rfl k) ?_
  refine Go.of (T' := s₁) (f' := (mkF m 6 #[sR a1, sI (Int32.ofNat n)] [(.int (31 : Int32)), (.int ((Int32.ofNat n) - (Int32.ofNat (2 * n))))])) (fun _ k => XS.bipush X0.here hx rfl (hb hby d_9_4) k) ?_
  refine Go.of (T' := s₁) (f' := (mkF m 7 #[sR a1, sI (Int32.ofNat n)] [(.int ((((Int32.ofNat n) - (Int32.ofNat (2 * n))).toUInt32 >>> ((31 : Int32) &&& 31).toUInt32).toInt32))])) (fun _ k => XS.iushr X0.here hx rfl (hb hby d_9_6) rfl k) ?_
  refine Go.of (T' := s₁) (f' := (mkF m 8 #[sR a1, sI (Int32.ofNat n)] [(.int (((((Int32.ofNat n) - (Int32.ofNat (2 * n))).toUInt32 >>> ((31 : Int32) &&& 31).toUInt32).toInt32).toInt8.toInt32))])) (fun _ k => XS.i2b X0.here hx rfl (hb hby d_9_7) rfl k) ?_
  exact goRetI (Q := Pu h0 (fun v => v = some (.int 1))) X0 hx (t := .byte) hret hlk (by rw [cfa1 h1 (by omega)]; rfl) (by simp) (hb hby d_9_8) K (by decide) (by decide) e0 (⟨rfl, rfl, congrArg (fun z => some (Value.int z)) (cfa1 h1 (by omega))⟩)
theorem ef_rm_iv (m : MethodId) (x0 : Addr) (x1 : Addr) (x2 : Int32) (x3 : Int32)  : entryFrame m #[(.ref x0), (.ref x1), (.int x2), (.int x3), .null] 6 = mkF m 0 #[.val (.ref x0), .val (.ref x1), .val (.int x2), .val (.int x3), .val .null, .unset] [] := by first | (simp [entryFrame, mkF, argsToLocals, Value.category]; done) | rfl
theorem d_10_0 : decode jdk_42_method_149_code 0 = .ok (.aload_n 0, 1) := by decide +kernel
theorem d_10_1 : decode jdk_42_method_149_code 1 = .ok (.invokespecial 1, 3) := by decide +kernel
theorem d_10_4 : decode jdk_42_method_149_code 4 = .ok (.iload_n 3, 1) := by decide +kernel
theorem d_10_5 : decode jdk_42_method_149_code 5 = .ok (.ifCond .ne 22, 3) := by decide +kernel
theorem d_10_27 : decode jdk_42_method_149_code 27 = .ok (.getstatic 38, 3) := by decide +kernel
theorem d_10_30 : decode jdk_42_method_149_code 30 = .ok (.ifCond .eq 28, 3) := by decide +kernel
theorem d_10_33 : decode jdk_42_method_149_code 33 = .ok (.aload_n 1, 1) := by decide +kernel
theorem d_10_34 : decode jdk_42_method_149_code 34 = .ok (.iload_n 2, 1) := by decide +kernel
theorem d_10_35 : decode jdk_42_method_149_code 35 = .ok (.iload_n 3, 1) := by decide +kernel
theorem d_10_36 : decode jdk_42_method_149_code 36 = .ok (.invokestatic 177, 3) := by decide +kernel
theorem d_10_39 : decode jdk_42_method_149_code 39 = .ok (.astore 5, 2) := by decide +kernel
theorem d_10_41 : decode jdk_42_method_149_code 41 = .ok (.aload_n 0, 1) := by decide +kernel
theorem d_10_42 : decode jdk_42_method_149_code 42 = .ok (.aload 5, 2) := by decide +kernel
theorem d_10_44 : decode jdk_42_method_149_code 44 = .ok (.iload_n 3, 1) := by decide +kernel
theorem d_10_45 : decode jdk_42_method_149_code 45 = .ok (.invokestatic 47, 3) := by decide +kernel
theorem pd___BI_B : parseMethodDescriptor "([BI)B" = some ⟨[(.array .byte), .int], some .byte⟩ := by decide +kernel
theorem d_10_48 : decode jdk_42_method_149_code 48 = .ok (.putfield 15, 3) := by decide +kernel
theorem d_10_51 : decode jdk_42_method_149_code 51 = .ok (.aload_n 0, 1) := by decide +kernel
theorem d_10_52 : decode jdk_42_method_149_code 52 = .ok (.aload 5, 2) := by decide +kernel
theorem d_10_54 : decode jdk_42_method_149_code 54 = .ok (.putfield 9, 3) := by decide +kernel
theorem d_10_57 : decode jdk_42_method_149_code 57 = .ok (.return_, 1) := by decide +kernel
set_option maxRecDepth 65536 in
set_option maxHeartbeats 40000000 in
theorem rm_iv (l : Launch) (Z : State) (a0 : Array Value) (hw : ∀ d ∈ tables_1, d.before a0 Z = true) (a0_ a1 : Addr) (ka : ClassId) (cs : List Int32) (zc : Int32) (h0 : Heap) (E_a0 : Exa Z h0 a0_ "java/lang/String") (F_value : Fld Z h0 a0_ "java/lang/String" "value" "[B" .null) (F_coder : Fld Z h0 a0_ "java/lang/String" "coder" "B" (.int (0 : Int32))) (V_a1 : Arv Z h0 a1 ka .char (Int32.ofNat cs.length) (cs.map Value.int) (.int (0 : Int32))) (h8 : cs.length ≤ 8) (h1 : 0 < cs.length) (hne : a1 ≠ a0_) (hwd : ∃ c ∈ cs, (255 : Int32) < c) (hbr : ∀ c ∈ cs, ¬ c < 0 ∧ ¬ (65535 : Int32) < c) (Z_ad : Sta Z h0 "java/lang/StringUTF16" "$assertionsDisabled" "Z" (.int (1 : Int32))) (Z_hs : Sta Z h0 "java/lang/StringUTF16" "HI_BYTE_SHIFT" "I" (.int (0 : Int32))) (Z_ls : Sta Z h0 "java/lang/StringUTF16" "LO_BYTE_SHIFT" "I" (.int (8 : Int32))) (Z_cs : Sta Z h0 "java/lang/String" "COMPACT_STRINGS" "Z" (.int zc)) (hz : ¬ zc = 0) :
    MeetsW l Z (⟨"java/lang/String", "<init>", "([CIILjava/lang/Void;)V"⟩ : MethodName) jdk_42_method_149_code 6 none ({ frames := 4, cells := 2, slots := 24, locals := 57 } : Room) #[(.ref a0_), (.ref a1), (.int (0 : Int32)), (.int (Int32.ofNat cs.length)), .null] h0 (fun v h L => v = none ∧ Mv h0 h [a0_] L ∧ ∃ t, h0.size ≤ t ∧ Str Z h a0_ t cs) := by
  refine MeetsW.of (plainFor_of_name pn_java_lang_String) ?_
  intro p e s m below meth c s₁ P hx hby hml hZ hown hnm hret hlk X0 e0 K
  have M0 : Mv h0 h0 [a0_] [] := Mv.refl _ _
  refine Go.cast (ef_rm_iv m a0_ a1 (0 : Int32) (Int32.ofNat cs.length) ) ?_
  refine Go.of (T' := s₁) (f' := (mkF m 1 #[sR a0_, sR a1, sI 0, sI (Int32.ofNat cs.length), .val .null, .unset] [(.ref a0_)])) (fun _ k => XS.aloadN X0.here hx rfl (hb hby d_10_0) rfl rfl k) ?_
  obtain ⟨T1, X1, e1, st1⟩ := initO X0 hx hZ hown (hw _ (List.mem_of_getElem? (i := 18) rfl)) (hw _ (List.mem_of_getElem? (i := 19) rfl)) (hw _ (List.mem_of_getElem? (i := 20) rfl)) e0 (g := (mkF m 1 #[sR a0_, sR a1, sI 0, sI (Int32.ofNat cs.length), .val .null, .unset] [(.ref a0_)])) rfl (by rw [hml]; rfl) rfl (hb hby d_10_1) (by decide) (W := 0) (by show 2 * 0 + _ ≤ _; exact Nat.le_of_eq rfl) (by decide)
  refine Go.of (T' := T1) (f' := (mkF m 4 #[sR a0_, sR a1, sI 0, sI (Int32.ofNat cs.length), .val .null, .unset] [])) st1 ?_
  refine Go.of (T' := T1) (f' := (mkF m 5 #[sR a0_, sR a1, sI 0, sI (Int32.ofNat cs.length), .val .null, .unset] [(.int (Int32.ofNat cs.length))])) (fun _ k => XS.iloadN X1.here hx rfl (hb hby d_10_4) rfl k) ?_
  have hc5 : ¬ ((Int32.ofNat cs.length) = (0 : Int32)) := neN (n := 0) (by omega) (by omega) (by omega)
  refine Go.of (T' := T1) (f' := (mkF m 27 #[sR a0_, sR a1, sI 0, sI (Int32.ofNat cs.length), .val .null, .unset] [])) (fun _ k => XS.ifYes X1.here hx rfl (pc0 := 5) (pc' := 27) rfl (hb hby d_10_5) rfl ((if0 _ _).trans (feq hc5).2) (by decide) (by decide) k) ?_
  obtain ⟨T2, X2, e2, st2⟩ := getS2 X1 hx hZ hown (host := "") (Or.inl (hw _ (List.mem_of_getElem? (i := 21) rfl))) Via.refl e1 Z_cs (g := (mkF m 27 #[sR a0_, sR a1, sI 0, sI (Int32.ofNat cs.length), .val .null, .unset] [])) rfl (hb hby d_10_27)
  refine Go.of (T' := T2) (f' := (mkF m 30 #[sR a0_, sR a1, sI 0, sI (Int32.ofNat cs.length), .val .null, .unset] [(.int zc)])) st2 ?_
  have hc30 : ¬ (zc = (0 : Int32)) := hz
  refine Go.of (T' := T2) (f' := (mkF m 33 #[sR a0_, sR a1, sI 0, sI (Int32.ofNat cs.length), .val .null, .unset] [])) (fun _ k => XS.ifNo X2.here hx rfl (hb hby d_10_30) rfl ((if0 _ _).trans (feq hc30).1) k) ?_
  refine Go.of (T' := T2) (f' := (mkF m 34 #[sR a0_, sR a1, sI 0, sI (Int32.ofNat cs.length), .val .null, .unset] [(.ref a1)])) (fun _ k => XS.aloadN X2.here hx rfl (hb hby d_10_33) rfl rfl k) ?_
  refine Go.of (T' := T2) (f' := (mkF m 35 #[sR a0_, sR a1, sI 0, sI (Int32.ofNat cs.length), .val .null, .unset] [(.int (0 : Int32)), (.ref a1)])) (fun _ k => XS.iloadN X2.here hx rfl (hb hby d_10_34) rfl k) ?_
  refine Go.of (T' := T2) (f' := (mkF m 36 #[sR a0_, sR a1, sI 0, sI (Int32.ofNat cs.length), .val .null, .unset] [(.int (Int32.ofNat cs.length)), (.int (0 : Int32)), (.ref a1)])) (fun _ k => XS.iloadN X2.here hx rfl (hb hby d_10_35) rfl k) ?_
  refine goS X2 hx hZ hown (hw _ (List.mem_of_getElem? (i := 22) rfl)) (hw _ (List.mem_of_getElem? (i := 23) rfl)) (hw _ (List.mem_of_getElem? (i := 24) rfl)) (hw _ (List.mem_of_getElem? (i := 25) rfl)) (by decide) (C := 2) (S := 24) ((rm_cp l Z a0 hw a1 ka cs h0 V_a1 h8 hwd hbr Z_ad Z_hs Z_ls).bk (W := 0) hZ (hw _ (List.mem_of_getElem? (i := 25) rfl)) (hw _ (List.mem_of_getElem? (i := 24) rfl)) (by decide) (by decide)) e2 (argsL := [(.ref a1), (.int (0 : Int32)), (.int (Int32.ofNat cs.length))]) (rest := []) (by rw [hml]; rfl) (lenOf pd___CII__B rfl) rfl rfl (hb hby d_10_36) (Nat.le_of_eq rfl) (by decide) (by decide) ?_
  intro v3 T3 L3 X3 hQ3
  obtain ⟨h3, e3⟩ : ∃ z, T3.heap = z := ⟨_, rfl⟩
  rw [e3] at hQ3
  obtain ⟨Mc3, b3, k3, rfl, le3, V_b3⟩ := hQ3
  have ne_a0__b3 : a0_ ≠ b3 := Nat.ne_of_lt (Nat.lt_of_lt_of_le E_a0.lt le3)
  have ne_a1_b3 : a1 ≠ b3 := Nat.ne_of_lt (Nat.lt_of_lt_of_le V_a1.lt le3)
  have fr_b3 : h0.size ≤ b3 := Nat.le_trans M0.le le3
  have M3 := M0.app0 Mc3
  replace E_a0 := E_a0.keep Mc3.1
  replace F_value := F_value.keep Mc3.1 nin0
  replace F_coder := F_coder.keep Mc3.1 nin0
  replace V_a1 := V_a1.keep Mc3.1 nin0
  replace Z_ad := StaKeep Z_ad Mc3.1 all0
  replace Z_hs := StaKeep Z_hs Mc3.1 all0
  replace Z_ls := StaKeep Z_ls Mc3.1 all0
  replace Z_cs := StaKeep Z_cs Mc3.1 all0
  show Go p e below P T3 (mkF m 39 #[sR a0_, sR a1, sI 0, sI (Int32.ofNat cs.length), .val .null, .unset] [(.ref b3)])
  refine Go.of (T' := T3) (f' := (mkF m 41 #[sR a0_, sR a1, sI 0, sI (Int32.ofNat cs.length), .val .null, sR b3] [])) (fun _ k => XS.astore X3.here hx rfl (hb hby d_10_39) rfl rfl (l' := #[sR a0_, sR a1, sI 0, sI (Int32.ofNat cs.length), .val .null, sR b3]) rfl k) ?_
  refine Go.of (T' := T3) (f' := (mkF m 42 #[sR a0_, sR a1, sI 0, sI (Int32.ofNat cs.length), .val .null, sR b3] [(.ref a0_)])) (fun _ k => XS.aloadN X3.here hx rfl (hb hby d_10_41) rfl rfl k) ?_
  refine Go.of (T' := T3) (f' := (mkF m 44 #[sR a0_, sR a1, sI 0, sI (Int32.ofNat cs.length), .val .null, sR b3] [(.ref b3), (.ref a0_)])) (fun _ k => XS.aload X3.here hx rfl (hb hby d_10_42) rfl rfl k) ?_
  refine Go.of (T' := T3) (f' := (mkF m 45 #[sR a0_, sR a1, sI 0, sI (Int32.ofNat cs.length), .val .null, sR b3] [(.int (Int32.ofNat cs.length)), (.ref b3), (.ref a0_)])) (fun _ k => XS.iloadN X3.here hx rfl (hb hby d_10_44) rfl k) ?_
  refine goS X3 hx hZ hown (hw _ (List.mem_of_getElem? (i := 30) rfl)) (hw _ (List.mem_of_getElem? (i := 31) rfl)) (hw _ (List.mem_of_getElem? (i := 24) rfl)) (hw _ (List.mem_of_getElem? (i := 32) rfl)) (by decide) (C := 0) (S := 0) ((rm_cfa l Z a0 hw b3 k3 cs.length _ h3 V_b3 (by omega) (by omega)).bk (W := 1) hZ (hw _ (List.mem_of_getElem? (i := 32) rfl)) (hw _ (List.mem_of_getElem? (i := 24) rfl)) (by decide) (by decide)) e3 (argsL := [(.ref b3), (.int (Int32.ofNat cs.length))]) (rest := [(.ref a0_)]) (by rw [hml]; rfl) (lenOf pd___BI_B rfl) rfl rfl (hb hby d_10_45) (Nat.le_of_eq rfl) (by decide) (by decide) ?_
  intro v4 T4 L4 X4 hQ4
  obtain ⟨nq4, e4, rfl⟩ := hQ4
  replace X4 := standNil X4 nq4
  show Go p e below P T4 (mkF m 48 #[sR a0_, sR a1, sI 0, sI (Int32.ofNat cs.length), .val .null, sR b3] [(.int (1 : Int32)), (.ref a0_)])
  obtain ⟨T5, h5, X5, e5, W5, st5⟩ := putF X4 hx hZ hown (host := "") (Or.inl (hw _ (List.mem_of_getElem? (i := 33) rfl))) Via.refl e4 F_coder E_a0 (Or.inr ⟨(hw _ (List.mem_of_getElem? (i := 34) rfl)), rfl, hnm⟩) (hw _ (List.mem_of_getElem? (i := 9) rfl)) (ty := .byte) (by decide) rfl rfl (g := (mkF m 48 #[sR a0_, sR a1, sI 0, sI (Int32.ofNat cs.length), .val .null, sR b3] [(.int (1 : Int32)), (.ref a0_)])) rfl rfl (hb hby d_10_48)
  have E_a0_o := E_a0
  have K5 := Keep.of_wr W5
  have M5 := M3.wr W5 (Or.inl (List.mem_of_getElem? (i := 0) rfl))
  replace F_value := F_value.other W5 (Or.inr (slot_ne (Or.inr (hw _ (List.mem_of_getElem? (i := 36) rfl))) (Or.inr (hw _ (List.mem_of_getElem? (i := 34) rfl))) (by decide) (t := (.array .byte)) (t' := .byte) (by decide) (by decide)))
  replace F_coder := F_coder.same W5
  replace E_a0 := E_a0.keep K5
  replace V_a1 := V_a1.keep K5 (ninS hne nin0)
  replace Z_ad := StaKeep Z_ad K5 (allS (staExa E_a0_o) all0)
  replace Z_hs := StaKeep Z_hs K5 (allS (staExa E_a0_o) all0)
  replace Z_ls := StaKeep Z_ls K5 (allS (staExa E_a0_o) all0)
  replace Z_cs := StaKeep Z_cs K5 (allS (staExa E_a0_o) all0)
  replace V_b3 := V_b3.keep K5 (ninS (Ne.symm ne_a0__b3) nin0)
  refine Go.of (T' := T5) (f' := (mkF m 51 #[sR a0_, sR a1, sI 0, sI (Int32.ofNat cs.length), .val .null, sR b3] [])) st5 ?_
  refine Go.of (T' := T5) (f' := (mkF m 52 #[sR a0_, sR a1, sI 0, sI (Int32.ofNat cs.length), .val .null, sR b3] [(.ref a0_)])) (fun _ k => XS.aloadN X5.here hx rfl (hb hby d_10_51) rfl rfl k) ?_
  refine Go.of (T' := T5) (f' := (mkF m 54 #[sR a0_, sR a1, sI 0, sI (Int32.ofNat cs.length), .val .null, sR b3] [(.ref b3), (.ref a0_)])) (fun _ k => XS.aload X5.here hx rfl (hb hby d_10_52) rfl rfl k) ?_
  obtain ⟨T6, h6, X6, e6, W6, st6⟩ := putF X5 hx hZ hown (host := "") (Or.inl (hw _ (List.mem_of_getElem? (i := 35) rfl))) Via.refl e5 F_value E_a0 (Or.inr ⟨(hw _ (List.mem_of_getElem? (i := 36) rfl)), rfl, hnm⟩) (hw _ (List.mem_of_getElem? (i := 9) rfl)) (ty := (.array .byte)) (by decide) rfl rfl (g := (mkF m 54 #[sR a0_, sR a1, sI 0, sI (Int32.ofNat cs.length), .val .null, sR b3] [(.ref b3), (.ref a0_)])) rfl rfl (hb hby d_10_54)
  have E_a0_o := E_a0
  have K6 := Keep.of_wr W6
  have M6 := M5.wr W6 (Or.inl (List.mem_of_getElem? (i := 0) rfl))
  replace F_value := F_value.same W6
  replace F_coder := F_coder.other W6 (Or.inr (slot_ne (Or.inr (hw _ (List.mem_of_getElem? (i := 34) rfl))) (Or.inr (hw _ (List.mem_of_getElem? (i := 36) rfl))) (by decide) (t := .byte) (t' := (.array .byte)) (by decide) (by decide)))
  replace E_a0 := E_a0.keep K6
  replace V_a1 := V_a1.keep K6 (ninS hne nin0)
  replace Z_ad := StaKeep Z_ad K6 (allS (staExa E_a0_o) all0)
  replace Z_hs := StaKeep Z_hs K6 (allS (staExa E_a0_o) all0)
  replace Z_ls := StaKeep Z_ls K6 (allS (staExa E_a0_o) all0)
  replace Z_cs := StaKeep Z_cs K6 (allS (staExa E_a0_o) all0)
  replace V_b3 := V_b3.keep K6 (ninS (Ne.symm ne_a0__b3) nin0)
  refine Go.of (T' := T6) (f' := (mkF m 57 #[sR a0_, sR a1, sI 0, sI (Int32.ofNat cs.length), .val .null, sR b3] [])) st6 ?_
  exact goRet0 (Q := fun v h L => v = none ∧ Mv h0 h [a0_] L ∧ ∃ t, h0.size ≤ t ∧ Str Z h a0_ t cs) X6 hx hret hlk (hb hby d_10_57) K (by decide) (by decide) e6 (⟨rfl, M6, b3, fr_b3, str16 rfl rfl (by omega) hbr hwd E_a0 F_value F_coder V_b3⟩)
theorem ef_rm_in (m : MethodId) (x0 : Addr) (x1 : Addr)  : entryFrame m #[(.ref x0), (.ref x1)] 2 = mkF m 0 #[.val (.ref x0), .val (.ref x1)] [] := by first | (simp [entryFrame, mkF, argsToLocals, Value.category]; done) | rfl
theorem d_11_0 : decode jdk_42_method_3_code 0 = .ok (.aload_n 0, 1) := by decide +kernel
theorem d_11_1 : decode jdk_42_method_3_code 1 = .ok (.aload_n 1, 1) := by decide +kernel
theorem d_11_2 : decode jdk_42_method_3_code 2 = .ok (.iconst 0, 1) := by decide +kernel
theorem d_11_3 : decode jdk_42_method_3_code 3 = .ok (.aload_n 1, 1) := by decide +kernel
theorem d_11_4 : decode jdk_42_method_3_code 4 = .ok (.arraylength, 1) := by decide +kernel
theorem d_11_5 : decode jdk_42_method_3_code 5 = .ok (.aconst_null, 1) := by decide +kernel
theorem d_11_6 : decode jdk_42_method_3_code 6 = .ok (.invokespecial 27, 3) := by decide +kernel
theorem pd___CIILjava_lang_Void__V : parseMethodDescriptor "([CIILjava/lang/Void;)V" = some ⟨[(.array .char), .int, .int, (.object "java/lang/Void")], none⟩ := by decide +kernel
theorem d_11_9 : decode jdk_42_method_3_code 9 = .ok (.return_, 1) := by decide +kernel
set_option maxRecDepth 65536 in
set_option maxHeartbeats 40000000 in
theorem rm_in (l : Launch) (Z : State) (a0 : Array Value) (hw : ∀ d ∈ tables_1, d.before a0 Z = true) (a0_ a1 : Addr) (ka : ClassId) (cs : List Int32) (zc : Int32) (h0 : Heap) (E_a0 : Exa Z h0 a0_ "java/lang/String") (F_value : Fld Z h0 a0_ "java/lang/String" "value" "[B" .null) (F_coder : Fld Z h0 a0_ "java/lang/String" "coder" "B" (.int (0 : Int32))) (V_a1 : Arv Z h0 a1 ka .char (Int32.ofNat cs.length) (cs.map Value.int) (.int (0 : Int32))) (h8 : cs.length ≤ 8) (h1 : 0 < cs.length) (hne : a1 ≠ a0_) (hwd : ∃ c ∈ cs, (255 : Int32) < c) (hbr : ∀ c ∈ cs, ¬ c < 0 ∧ ¬ (65535 : Int32) < c) (Z_ad : Sta Z h0 "java/lang/StringUTF16" "$assertionsDisabled" "Z" (.int (1 : Int32))) (Z_hs : Sta Z h0 "java/lang/StringUTF16" "HI_BYTE_SHIFT" "I" (.int (0 : Int32))) (Z_ls : Sta Z h0 "java/lang/StringUTF16" "LO_BYTE_SHIFT" "I" (.int (8 : Int32))) (Z_cs : Sta Z h0 "java/lang/String" "COMPACT_STRINGS" "Z" (.int zc)) (hz : ¬ zc = 0) :
    MeetsW l Z (⟨"java/lang/String", "<init>", "([C)V"⟩ : MethodName) jdk_42_method_3_code 2 none ({ frames := 5, cells := 2, slots := 24, locals := 74 } : Room) #[(.ref a0_), (.ref a1)] h0 (fun v h L => v = none ∧ Mv h0 h [a0_] L ∧ ∃ t, h0.size ≤ t ∧ Str Z h a0_ t cs) := by
  refine MeetsW.of (plainFor_of_name pn_java_lang_String) ?_
  intro p e s m below meth c s₁ P hx hby hml hZ hown hnm hret hlk X0 e0 K
  have M0 : Mv h0 h0 [a0_] [] := Mv.refl _ _
  refine Go.cast (ef_rm_in m a0_ a1 ) ?_
  refine Go.of (T' := s₁) (f' := (mkF m 1 #[sR a0_, sR a1] [(.ref a0_)])) (fun _ k => XS.aloadN X0.here hx rfl (hb hby d_11_0) rfl rfl k) ?_
  refine Go.of (T' := s₁) (f' := (mkF m 2 #[sR a0_, sR a1] [(.ref a1), (.ref a0_)])) (fun _ k => XS.aloadN X0.here hx rfl (hb hby d_11_1) rfl rfl k) ?_
  refine Go.of (T' := s₁) (f' := (mkF m 3 #[sR a0_, sR a1] [(.int (0 : Int32)), (.ref a1), (.ref a0_)])) (fun _ k => XS.iconst X0.here hx rfl (hb hby d_11_2) k) ?_
  refine Go.of (T' := s₁) (f' := (mkF m 4 #[sR a0_, sR a1] [(.ref a1), (.int (0 : Int32)), (.ref a1), (.ref a0_)])) (fun _ k => XS.aloadN X0.here hx rfl (hb hby d_11_3) rfl rfl k) ?_
  obtain ⟨cl1, Ar1, -, Sz1, Nn1, -, -⟩ := id V_a1
  refine Go.of (T' := s₁) (f' := (mkF m 5 #[sR a0_, sR a1] [(.int (Int32.ofNat cs.length)), (.int (0 : Int32)), (.ref a1), (.ref a0_)])) (fun _ k => X0.arraylength hx (by rw [e0]; exact Ar1.1) (State.isArrayOf_alike hZ.alike Ar1.2.1) (g := (mkF m 4 #[sR a0_, sR a1] [(.ref a1), (.int (0 : Int32)), (.ref a1), (.ref a0_)])) rfl rfl (hb hby d_11_4) _ (by rw [len_of Sz1 Nn1]; exact k)) ?_
  refine Go.of (T' := s₁) (f' := (mkF m 6 #[sR a0_, sR a1] [.null, (.int (Int32.ofNat cs.length)), (.int (0 : Int32)), (.ref a1), (.ref a0_)])) (fun _ k => XS.aconstNull X0.here hx rfl (hb hby d_11_5) k) ?_
  refine goI X0 hx hZ rfl hown (hw _ (List.mem_of_getElem? (i := 14) rfl)) (hw _ (List.mem_of_getElem? (i := 15) rfl)) (hw _ (List.mem_of_getElem? (i := 17) rfl)) (by decide) (C := 2) (S := 24) ((rm_iv l Z a0 hw a0_ a1 ka cs zc h0 E_a0 F_value F_coder V_a1 h8 h1 hne hwd hbr Z_ad Z_hs Z_ls Z_cs hz).bk (W := 0) hZ (hw _ (List.mem_of_getElem? (i := 17) rfl)) (hw _ (List.mem_of_getElem? (i := 10) rfl)) (by decide) (by decide)) e0 (argsL := [(.ref a1), (.int (0 : Int32)), (.int (Int32.ofNat cs.length)), .null]) (rest := []) (by rw [hml]; rfl) (lenOf pd___CIILjava_lang_Void__V rfl) rfl rfl (hb hby d_11_6) (Nat.le_of_eq rfl) (by decide) (by decide) ?_
  intro v2 T2 L2 X2 hQ2
  obtain ⟨h2, e2⟩ : ∃ z, T2.heap = z := ⟨_, rfl⟩
  rw [e2] at hQ2
  have E_a0_o := E_a0
  obtain ⟨rfl, Mc2, t2, le2, S2⟩ := hQ2
  have ne_a0__t2 : a0_ ≠ t2 := Nat.ne_of_lt (Nat.lt_of_lt_of_le E_a0.lt le2)
  have ne_a1_t2 : a1 ≠ t2 := Nat.ne_of_lt (Nat.lt_of_lt_of_le V_a1.lt le2)
  have fr_t2 : h0.size ≤ t2 := Nat.le_trans M0.le le2
  have M2 := M0.app Mc2 (allS (Or.inl (List.mem_of_getElem? (i := 0) rfl)) all0)
  replace E_a0 := E_a0.keep Mc2.1
  replace V_a1 := V_a1.keep Mc2.1 (ninS hne nin0)
  replace Z_ad := StaKeep Z_ad Mc2.1 (allS (staExa E_a0_o) all0)
  replace Z_hs := StaKeep Z_hs Mc2.1 (allS (staExa E_a0_o) all0)
  replace Z_ls := StaKeep Z_ls Mc2.1 (allS (staExa E_a0_o) all0)
  replace Z_cs := StaKeep Z_cs Mc2.1 (allS (staExa E_a0_o) all0)
  have S_a0_ := S2
  show Go p e below P T2 (mkF m 9 #[sR a0_, sR a1] [])
  exact goRet0 (Q := fun v h L => v = none ∧ Mv h0 h [a0_] L ∧ ∃ t, h0.size ≤ t ∧ Str Z h a0_ t cs) X2 hx hret hlk (hb hby d_11_9) K (by decide) (by decide) e2 (⟨rfl, M2, t2, fr_t2, S_a0_⟩)
theorem hEL_1 {Z : State} {a0 : Array Value} (hw : ∀ d ∈ tables_1, d.before a0 Z = true) : EW Z a0 consts_1 := (EW.cons (hw _ (List.mem_of_getElem? (i := 37) rfl)) (by decide) (EW.cons (hw _ (List.mem_of_getElem? (i := 180) rfl)) (by decide) (EW.cons (hw _ (List.mem_of_getElem? (i := 138) rfl)) (by decide) (EW.cons (hw _ (List.mem_of_getElem? (i := 179) rfl)) (by decide) EW.nil))))
theorem ef_rm_initV0 (m : MethodId) (x0 : Addr) (x1 : Addr) (x2 : Int32) (x3 : Int32)  : entryFrame m #[(.ref x0), (.ref x1), (.int x2), (.int x3), .null] 6 = mkF m 0 #[.val (.ref x0), .val (.ref x1), .val (.int x2), .val (.int x3), .val .null, .unset] [] := by first | (simp [entryFrame, mkF, argsToLocals, Value.category]; done) | rfl
theorem d_10_8 : decode jdk_42_method_149_code 8 = .ok (.aload_n 0, 1) := by decide +kernel
theorem d_10_9 : decode jdk_42_method_149_code 9 = .ok (.ldc 7, 2) := by decide +kernel
theorem hw_sA {Z : State} {a0 : Array Value} (hw : ∀ d ∈ tables_1, d.before a0 Z = true) : ∀ d ∈ Bundle.stringAtoms, d.before a0 Z = true := fun d hd => hw d ((by decide +kernel : ∀ d ∈ Bundle.stringAtoms, d ∈ tables_1) d hd)
theorem d_10_11 : decode jdk_42_method_149_code 11 = .ok (.getfield 9, 3) := by decide +kernel
theorem d_10_14 : decode jdk_42_method_149_code 14 = .ok (.putfield 9, 3) := by decide +kernel
theorem d_10_17 : decode jdk_42_method_149_code 17 = .ok (.aload_n 0, 1) := by decide +kernel
theorem d_10_18 : decode jdk_42_method_149_code 18 = .ok (.ldc 7, 2) := by decide +kernel
theorem d_10_20 : decode jdk_42_method_149_code 20 = .ok (.getfield 15, 3) := by decide +kernel
theorem d_10_23 : decode jdk_42_method_149_code 23 = .ok (.putfield 15, 3) := by decide +kernel
theorem d_10_26 : decode jdk_42_method_149_code 26 = .ok (.return_, 1) := by decide +kernel
set_option maxRecDepth 65536 in
set_option maxHeartbeats 40000000 in
theorem rm_initV0 (l : Launch) (Z : State) (a0 : Array Value) (hw : ∀ d ∈ tables_1, d.before a0 Z = true) (a1 a2 : Addr) (h0 : Heap) (E_a1 : Exa Z h0 a1 "java/lang/String") (F_value : Fld Z h0 a1 "java/lang/String" "value" "[B" .null) (F_coder : Fld Z h0 a1 "java/lang/String" "coder" "B" (.int (0 : Int32))) :
    MeetsH l Z consts_1 (⟨"java/lang/String", "<init>", "([CIILjava/lang/Void;)V"⟩ : MethodName) jdk_42_method_149_code 6 none ({ frames := 1, cells := 4, slots := 8, locals := 12 } : Room) #[(.ref a1), (.ref a2), (.int (0 : Int32)), (.int (0 : Int32)), .null] h0 (fun v h L => v = none ∧ Mv h0 h [a1] L ∧ ∃ t, Str Z h a1 t []) := by
  refine MeetsH.of (plainFor_of_name pn_java_lang_String) ?_
  intro p e s m below meth c s₁ P hx hby hml hZ hown hnm hret hlk X0 e0 hS RH K
  have hk : h0.size ≤ h0.size := Nat.le_refl _
  replace hZ : Z.Warmed39 (s.setVm s.vm).vm := hZ
  replace hown : (s.setVm s.vm).vm.findClass "java/lang/String" = some m.cls := hown
  have M0 : Mv h0 h0 [a1] [] := Mv.refl _ _
  refine Go.cast (ef_rm_initV0 m a1 a2 (0 : Int32) (0 : Int32) ) ?_
  have Sf_a1 := safeNull (EL := consts_1) hZ.alike E_a1 F_value
  refine Go.of (T' := s₁) (f' := (mkF m 1 #[sR a1, sR a2, sI 0, sI 0, .val .null, .unset] [(.ref a1)])) (fun _ k => XS.aloadN X0.here hx rfl (hb hby d_10_0) rfl rfl k) ?_
  obtain ⟨T1, X1, e1, st1⟩ := initO X0 hx hZ hown (hw _ (List.mem_of_getElem? (i := 18) rfl)) (hw _ (List.mem_of_getElem? (i := 19) rfl)) (hw _ (List.mem_of_getElem? (i := 20) rfl)) e0 (g := (mkF m 1 #[sR a1, sR a2, sI 0, sI 0, .val .null, .unset] [(.ref a1)])) rfl (by rw [hml]; rfl) rfl (hb hby d_10_1) (by decide) (W := 0) (by show 2 * 0 + _ ≤ _; exact Nat.le_of_eq rfl) (by decide)
  refine Go.of (T' := T1) (f' := (mkF m 4 #[sR a1, sR a2, sI 0, sI 0, .val .null, .unset] [])) st1 ?_
  refine Go.of (T' := T1) (f' := (mkF m 5 #[sR a1, sR a2, sI 0, sI 0, .val .null, .unset] [(.int (0 : Int32))])) (fun _ k => XS.iloadN X1.here hx rfl (hb hby d_10_4) rfl k) ?_
  refine Go.of (T' := T1) (f' := (mkF m 8 #[sR a1, sR a2, sI 0, sI 0, .val .null, .unset] [])) (fun _ k => XS.ifNo X1.here hx rfl (hb hby d_10_5) rfl (by decide) k) ?_
  refine Go.of (T' := T1) (f' := (mkF m 9 #[sR a1, sR a2, sI 0, sI 0, .val .null, .unset] [(.ref a1)])) (fun _ k => XS.aloadN X1.here hx rfl (hb hby d_10_8) rfl rfl k) ?_
  obtain ⟨sa2, T2, h2, k2, sb2, kb2, X2, e2, E2, hS2, hk2, hZ2, hown2, E_sa2, F_cd2, F_vl2, V_sb2, -, -, A2, -, hne2, st2⟩ := ldcCH X1 hx hZ hown (hw _ (List.mem_of_getElem? (i := 180) rfl)) (hw_sA hw) e1 hS hk (hEL_1 hw) (by decide) RH.1 (vs := []) (z := (0 : Int32)) ⟨by decide, by decide⟩ (by decide) (by decide) (g := (mkF m 9 #[sR a1, sR a2, sI 0, sI 0, .val .null, .unset] [(.ref a1)])) rfl (hb hby d_10_9) (n := 0) (by decide) (by decide) (by decide) (by decide)
  have K2 := keepE E2
  have M2 := M0.ext E2
  clear hS hk
  replace Sf_a1 := CHr.safe A2 E_a1.lt Sf_a1
  replace RH := RH.trans A2
  replace E_a1 := E_a1.keep K2
  replace F_value := F_value.keep K2 nin0
  replace F_coder := F_coder.keep K2 nin0
  have hS := hS2
  have hk := hk2
  replace hZ := hZ2
  replace hown := hown2
  have ne_a1_sa2 := (hne2 _ Sf_a1).1
  have ne_a1_sb2 := (hne2 _ Sf_a1).2
  refine Go.of (T' := T2) (f' := (mkF m 11 #[sR a1, sR a2, sI 0, sI 0, .val .null, .unset] [(.ref sa2), (.ref a1)])) st2 ?_
  obtain ⟨T3, X3, e3, st3⟩ := getF X2 hx hZ hown (host := "") (Or.inl (hw _ (List.mem_of_getElem? (i := 35) rfl))) Via.refl e2 F_vl2 (g := (mkF m 11 #[sR a1, sR a2, sI 0, sI 0, .val .null, .unset] [(.ref sa2), (.ref a1)])) rfl rfl (hb hby d_10_11)
  refine Go.of (T' := T3) (f' := (mkF m 14 #[sR a1, sR a2, sI 0, sI 0, .val .null, .unset] [(.ref sb2), (.ref a1)])) st3 ?_
  obtain ⟨T4, h4, X4, e4, W4, st4⟩ := putF X3 hx hZ hown (host := "") (Or.inl (hw _ (List.mem_of_getElem? (i := 35) rfl))) Via.refl e3 F_value E_a1 (Or.inr ⟨(hw _ (List.mem_of_getElem? (i := 36) rfl)), rfl, hnm⟩) (hw _ (List.mem_of_getElem? (i := 9) rfl)) (ty := (.array .byte)) (by decide) rfl rfl (g := (mkF m 14 #[sR a1, sR a2, sI 0, sI 0, .val .null, .unset] [(.ref sb2), (.ref a1)])) rfl rfl (hb hby d_10_14)
  have K4 := Keep.of_wr W4
  have M4 := M2.wr W4 (Or.inl (List.mem_of_getElem? (i := 0) rfl))
  replace F_value := F_value.same W4
  replace F_coder := F_coder.other W4 (Or.inr (slot_ne (Or.inr (hw _ (List.mem_of_getElem? (i := 34) rfl))) (Or.inr (hw _ (List.mem_of_getElem? (i := 36) rfl))) (by decide) (t := .byte) (t' := (.array .byte)) (by decide) (by decide)))
  replace hk := Nat.le_trans hk (K4).1
  have hq5 : ∀ x ∈ ([a1] : List Addr), Safe Z consts_1 T2.vm h2 x := (sfS Sf_a1 sf0)
  have hs5 := CHr.keep (K4) hq5 RH.1
  replace Sf_a1 := Safe.keep (K4) hq5 RH.1 Sf_a1
  replace RH := RH.trans hs5
  replace E_a1 := E_a1.keep K4
  replace E_sa2 := E_sa2.keep K4
  replace F_cd2 := F_cd2.keep K4 (ninS (Ne.symm ne_a1_sa2) nin0)
  replace F_vl2 := F_vl2.keep K4 (ninS (Ne.symm ne_a1_sa2) nin0)
  replace V_sb2 := V_sb2.keep K4 (ninS (Ne.symm ne_a1_sb2) nin0)
  refine Go.of (T' := T4) (f' := (mkF m 17 #[sR a1, sR a2, sI 0, sI 0, .val .null, .unset] [])) st4 ?_
  refine Go.of (T' := T4) (f' := (mkF m 18 #[sR a1, sR a2, sI 0, sI 0, .val .null, .unset] [(.ref a1)])) (fun _ k => XS.aloadN X4.here hx rfl (hb hby d_10_17) rfl rfl k) ?_
  obtain ⟨sa6, T6, h6, k6, sb6, kb6, X6, e6, E6, hS6, hk6, hZ6, hown6, E_sa6, F_cd6, F_vl6, V_sb6, -, -, A6, -, hne6, st6⟩ := ldcCH X4 hx hZ hown (hw _ (List.mem_of_getElem? (i := 180) rfl)) (hw_sA hw) e4 hS hk (hEL_1 hw) (by decide) RH.1 (vs := []) (z := (0 : Int32)) ⟨by decide, by decide⟩ (by decide) (by decide) (g := (mkF m 18 #[sR a1, sR a2, sI 0, sI 0, .val .null, .unset] [(.ref a1)])) rfl (hb hby d_10_18) (n := 0) (by decide) (by decide) (by decide) (by decide)
  have K6 := keepE E6
  have M6 := M4.ext E6
  clear hS hk
  replace Sf_a1 := CHr.safe A6 E_a1.lt Sf_a1
  replace RH := RH.trans A6
  replace E_a1 := E_a1.keep K6
  replace F_value := F_value.keep K6 nin0
  replace F_coder := F_coder.keep K6 nin0
  replace E_sa2 := E_sa2.keep K6
  replace F_cd2 := F_cd2.keep K6 nin0
  replace F_vl2 := F_vl2.keep K6 nin0
  replace V_sb2 := V_sb2.keep K6 nin0
  have hS := hS6
  have hk := hk6
  replace hZ := hZ6
  replace hown := hown6
  have ne_a1_sa6 := (hne6 _ Sf_a1).1
  have ne_a1_sb6 := (hne6 _ Sf_a1).2
  refine Go.of (T' := T6) (f' := (mkF m 20 #[sR a1, sR a2, sI 0, sI 0, .val .null, .unset] [(.ref sa6), (.ref a1)])) st6 ?_
  obtain ⟨T7, X7, e7, st7⟩ := getF X6 hx hZ hown (host := "") (Or.inl (hw _ (List.mem_of_getElem? (i := 33) rfl))) Via.refl e6 F_cd6 (g := (mkF m 20 #[sR a1, sR a2, sI 0, sI 0, .val .null, .unset] [(.ref sa6), (.ref a1)])) rfl rfl (hb hby d_10_20)
  refine Go.of (T' := T7) (f' := (mkF m 23 #[sR a1, sR a2, sI 0, sI 0, .val .null, .unset] [(.int (0 : Int32)), (.ref a1)])) st7 ?_
  obtain ⟨T8, h8, X8, e8, W8, st8⟩ := putF X7 hx hZ hown (host := "") (Or.inl (hw _ (List.mem_of_getElem? (i := 33) rfl))) Via.refl e7 F_coder E_a1 (Or.inr ⟨(hw _ (List.mem_of_getElem? (i := 34) rfl)), rfl, hnm⟩) (hw _ (List.mem_of_getElem? (i := 9) rfl)) (ty := .byte) (by decide) rfl rfl (g := (mkF m 23 #[sR a1, sR a2, sI 0, sI 0, .val .null, .unset] [(.int (0 : Int32)), (.ref a1)])) rfl rfl (hb hby d_10_23)
  have K8 := Keep.of_wr W8
  have M8 := M6.wr W8 (Or.inl (List.mem_of_getElem? (i := 0) rfl))
  replace F_value := F_value.other W8 (Or.inr (slot_ne (Or.inr (hw _ (List.mem_of_getElem? (i := 36) rfl))) (Or.inr (hw _ (List.mem_of_getElem? (i := 34) rfl))) (by decide) (t := (.array .byte)) (t' := .byte) (by decide) (by decide)))
  replace F_coder := F_coder.same W8
  replace hk := Nat.le_trans hk (K8).1
  have hq9 : ∀ x ∈ ([a1] : List Addr), Safe Z consts_1 T6.vm h6 x := (sfS Sf_a1 sf0)
  have hs9 := CHr.keep (K8) hq9 RH.1
  replace Sf_a1 := Safe.keep (K8) hq9 RH.1 Sf_a1
  replace RH := RH.trans hs9
  replace E_a1 := E_a1.keep K8
  replace E_sa2 := E_sa2.keep K8
  replace F_cd2 := F_cd2.keep K8 (ninS (Ne.symm ne_a1_sa2) nin0)
  replace F_vl2 := F_vl2.keep K8 (ninS (Ne.symm ne_a1_sa2) nin0)
  replace V_sb2 := V_sb2.keep K8 (ninS (Ne.symm ne_a1_sb2) nin0)
  replace E_sa6 := E_sa6.keep K8
  replace F_cd6 := F_cd6.keep K8 (ninS (Ne.symm ne_a1_sa6) nin0)
  replace F_vl6 := F_vl6.keep K8 (ninS (Ne.symm ne_a1_sa6) nin0)
  replace V_sb6 := V_sb6.keep K8 (ninS (Ne.symm ne_a1_sb6) nin0)
  refine Go.of (T' := T8) (f' := (mkF m 26 #[sR a1, sR a2, sI 0, sI 0, .val .null, .unset] [])) st8 ?_
  exact goRet0H (Q := fun v h L => v = none ∧ Mv h0 h [a1] L ∧ ∃ t, Str Z h a1 t []) X8 hx hZ hS hk (hEL_1 hw) RH hret hlk (hb hby d_10_26) K (by decide) (by decide) e8 (⟨rfl, M8, sb2, str0 E_a1 F_value F_coder V_sb2⟩)
theorem ef_rm_init0 (m : MethodId) (x0 : Addr) (x1 : Addr)  : entryFrame m #[(.ref x0), (.ref x1)] 2 = mkF m 0 #[.val (.ref x0), .val (.ref x1)] [] := by first | (simp [entryFrame, mkF, argsToLocals, Value.category]; done) | rfl
set_option maxRecDepth 65536 in
set_option maxHeartbeats 40000000 in
theorem rm_init0 (l : Launch) (Z : State) (a0 : Array Value) (hw : ∀ d ∈ tables_1, d.before a0 Z = true) (a1 a2 : Addr) (ka : ClassId) (h0 : Heap) (E_a1 : Exa Z h0 a1 "java/lang/String") (F_value : Fld Z h0 a1 "java/lang/String" "value" "[B" .null) (F_coder : Fld Z h0 a1 "java/lang/String" "coder" "B" (.int (0 : Int32))) (V_a2 : Arv Z h0 a2 ka .char (0 : Int32) [] (.int (0 : Int32))) :
    MeetsH l Z consts_1 (⟨"java/lang/String", "<init>", "([C)V"⟩ : MethodName) jdk_42_method_3_code 2 none ({ frames := 2, cells := 4, slots := 8, locals := 29 } : Room) #[(.ref a1), (.ref a2)] h0 (fun v h L => v = none ∧ Mv h0 h [a1] L ∧ ∃ t, Str Z h a1 t []) := by
  refine MeetsH.of (plainFor_of_name pn_java_lang_String) ?_
  intro p e s m below meth c s₁ P hx hby hml hZ hown hnm hret hlk X0 e0 hS RH K
  have hk : h0.size ≤ h0.size := Nat.le_refl _
  replace hZ : Z.Warmed39 (s.setVm s.vm).vm := hZ
  replace hown : (s.setVm s.vm).vm.findClass "java/lang/String" = some m.cls := hown
  have M0 : Mv h0 h0 [a1] [] := Mv.refl _ _
  refine Go.cast (ef_rm_init0 m a1 a2 ) ?_
  have Sf_a1 := safeNull (EL := consts_1) hZ.alike E_a1 F_value
  have ne_a2_a1 : a2 ≠ a1 := Ne.symm (Exa.neArv E_a1 V_a2 (hw _ (List.mem_of_getElem? (i := 9) rfl)))
  refine Go.of (T' := s₁) (f' := (mkF m 1 #[sR a1, sR a2] [(.ref a1)])) (fun _ k => XS.aloadN X0.here hx rfl (hb hby d_11_0) rfl rfl k) ?_
  refine Go.of (T' := s₁) (f' := (mkF m 2 #[sR a1, sR a2] [(.ref a2), (.ref a1)])) (fun _ k => XS.aloadN X0.here hx rfl (hb hby d_11_1) rfl rfl k) ?_
  refine Go.of (T' := s₁) (f' := (mkF m 3 #[sR a1, sR a2] [(.int (0 : Int32)), (.ref a2), (.ref a1)])) (fun _ k => XS.iconst X0.here hx rfl (hb hby d_11_2) k) ?_
  refine Go.of (T' := s₁) (f' := (mkF m 4 #[sR a1, sR a2] [(.ref a2), (.int (0 : Int32)), (.ref a2), (.ref a1)])) (fun _ k => XS.aloadN X0.here hx rfl (hb hby d_11_3) rfl rfl k) ?_
  obtain ⟨cl1, Ar1, -, Sz1, Nn1, -, -⟩ := id V_a2
  refine Go.of (T' := s₁) (f' := (mkF m 5 #[sR a1, sR a2] [(.int (0 : Int32)), (.int (0 : Int32)), (.ref a2), (.ref a1)])) (fun _ k => X0.arraylength hx (by rw [e0]; exact Ar1.1) (State.isArrayOf_alike hZ.alike Ar1.2.1) (g := (mkF m 4 #[sR a1, sR a2] [(.ref a2), (.int (0 : Int32)), (.ref a2), (.ref a1)])) rfl rfl (hb hby d_11_4) _ (by rw [len_of Sz1 Nn1]; exact k)) ?_
  refine Go.of (T' := s₁) (f' := (mkF m 6 #[sR a1, sR a2] [.null, (.int (0 : Int32)), (.int (0 : Int32)), (.ref a2), (.ref a1)])) (fun _ k => XS.aconstNull X0.here hx rfl (hb hby d_11_5) k) ?_
  refine goIH X0 hx hZ rfl hown (hw _ (List.mem_of_getElem? (i := 14) rfl)) (hw _ (List.mem_of_getElem? (i := 15) rfl)) (hw _ (List.mem_of_getElem? (i := 10) rfl)) (hw _ (List.mem_of_getElem? (i := 17) rfl)) (by decide) (W := 0) (C := 4) (S := 8) (rm_initV0 l Z a0 hw a1 a2 h0 E_a1 F_value F_coder ) rfl rfl (by decide) (by decide) hS hk (hEL_1 hw) RH.1 e0 (argsL := [(.ref a2), (.int (0 : Int32)), (.int (0 : Int32)), .null]) (rest := []) (by rw [hml]; rfl) (lenOf pd___CIILjava_lang_Void__V rfl) rfl rfl (hb hby d_11_6) (Nat.le_of_eq rfl) (by decide) (by decide) ?_
  intro v2 T2 L2 X2 hQ2 hS2 hZ2 hown2 A2
  obtain ⟨h2, e2⟩ : ∃ z, T2.heap = z := ⟨_, rfl⟩
  rw [e2] at hQ2 hS2 A2
  obtain ⟨rfl, Mc2, t2, S2⟩ := hQ2
  have M2 := M0.app Mc2 (allS (Or.inl (List.mem_of_getElem? (i := 0) rfl)) all0)
  clear hS hk
  replace Sf_a1 := CHr.safe A2 E_a1.lt Sf_a1
  replace RH := RH.trans A2
  replace E_a1 := E_a1.keep Mc2.1
  replace V_a2 := V_a2.keep Mc2.1 (ninS ne_a2_a1 nin0)
  have S_a1 := S2
  have hS := hS2
  have hk : h2.size ≤ h2.size := Nat.le_refl _
  replace hZ := hZ2
  replace hown := hown2
  show Go p e below P T2 (mkF m 9 #[sR a1, sR a2] [])
  exact goRet0H (Q := fun v h L => v = none ∧ Mv h0 h [a1] L ∧ ∃ t, Str Z h a1 t []) X2 hx hZ hS hk (hEL_1 hw) RH hret hlk (hb hby d_11_9) K (by decide) (by decide) e2 (⟨rfl, M2, t2, S_a1⟩)
def Ws (c : Int32) : Prop := c = (32 : Int32) ∨ c = (9 : Int32) ∨ c = (10 : Int32) ∨ c = (13 : Int32)
instance (c : Int32) : Decidable (Ws c) := by unfold Ws; infer_instance
def fst : List Int32 → Nat
  | [] => 0
  | c :: r => if Ws c then fst r + 1 else 0
theorem fst_le : ∀ cs : List Int32, fst cs ≤ cs.length
  | [] => Nat.le_refl _
  | c :: r => by have := fst_le r; unfold fst; split <;> simp <;> omega
theorem fstNil {cs : List Int32} {i : Nat} (h : cs.length ≤ i) : fst (cs.drop i) = 0 := by rw [List.drop_eq_nil_of_le h]; rfl
theorem getDe {cs : List Int32} {i : Nat} (h : i < cs.length) : cs.getD i 0 = cs[i] := by simp [List.getD_eq_getElem?_getD, h]
theorem fstStop {cs : List Int32} {i : Nat} (h : i < cs.length) (q : ¬ Ws (cs.getD i 0)) : fst (cs.drop i) = 0 := by
  rw [getDe h] at q
  rw [List.drop_eq_getElem_cons h, fst, if_neg q]
theorem fstStep {cs : List Int32} {i : Nat} (h : i < cs.length) (q : Ws (cs.getD i 0)) : fst (cs.drop i) = fst (cs.drop (i + 1)) + 1 := by
  rw [getDe h] at q
  rw [List.drop_eq_getElem_cons h, fst, if_pos q]
theorem fstIdem : ∀ cs : List Int32, fst (cs.drop (fst cs)) = 0
  | [] => rfl
  | c :: r => by
    by_cases q : Ws c
    · rw [show fst (c :: r) = fst r + 1 by rw [fst, if_pos q]]; exact fstIdem r
    · rw [show fst (c :: r) = 0 by rw [fst, if_neg q]]; rw [List.drop_zero, fst, if_neg q]
theorem nar_rng {c : Int32} (q : ¬ c < 0 ∧ ¬ (65535 : Int32) < c) : nar .char c = c := by
  have e0 : (0 : Int32).toInt = 0 := by decide
  have e1 : (65535 : Int32).toInt = 65535 := by decide
  rw [Int32.lt_iff_toInt_lt, Int32.lt_iff_toInt_lt, e0, e1] at q
  have h1 := c_i2c c
  show c.toUInt32.toUInt16.toUInt32.toInt32 = c
  apply Int32.toInt_inj.mp
  omega
theorem i2c_rng (x : Int32) : ¬ x.toUInt32.toUInt16.toUInt32.toInt32 < 0 ∧ ¬ (65535 : Int32) < x.toUInt32.toUInt16.toUInt32.toInt32 := by
  have h := c_i2c x
  have e0 : (0 : Int32).toInt = 0 := by decide
  have e1 : (65535 : Int32).toInt = 65535 := by decide
  rw [Int32.lt_iff_toInt_lt, Int32.lt_iff_toInt_lt, e0, e1]; omega
theorem memD {cs : List Int32} {i : Nat} {P : Int32 → Prop} (h : ∀ c ∈ cs, P c) (hi : i < cs.length) : P (cs.getD i 0) := by rw [getDe hi]; exact h _ (List.getElem_mem hi)
theorem latRt {x : Int32} (h0 : ¬ x < 0) (h1 : ¬ (255 : Int32) < x) : nar .char ((StrChars.lo8 x &&& (255 : Int32)).toUInt32.toUInt16.toUInt32.toInt32) = x := by rw [narC, i2c_mask, StrChars.lo8_mask h0 h1]
def WC (vs : List Value) (cs : List Int32) (i : Nat) : Prop := vs.length = cs.length ∧ ∀ j, j < i → vs[j]? = some (.int (cs.getD j 0))
theorem wc0 (cs : List Int32) (vs : List Value) (h : vs.length = cs.length) : WC vs cs 0 := ⟨h, fun j hj => absurd hj (Nat.not_lt_zero _)⟩
theorem wcStep {vs : List Value} {cs : List Int32} {i : Nat} (h : WC vs cs i) (hi : i < cs.length) : WC (vs.set i (.int (cs.getD i 0))) cs (i + 1) := by
  obtain ⟨h1, h2⟩ := h
  refine ⟨by simp [h1], fun j hj => ?_⟩
  by_cases q : j = i
  · subst q; rw [List.getElem?_set_self (by omega)]
  · rw [List.getElem?_set_ne (by omega)]; exact h2 j (by omega)
theorem wcEnd {vs : List Value} {cs : List Int32} {i : Nat} (h : WC vs cs i) (hi : cs.length ≤ i) : vs = cs.map Value.int := by
  obtain ⟨h1, h2⟩ := h
  apply List.ext_getElem?
  intro k
  by_cases hk : k < cs.length
  · rw [h2 k (by omega), getDe hk]; simp [hk]
  · rw [List.getElem?_eq_none (by omega), List.getElem?_eq_none (by simp; omega)]
theorem gtk {l : List Int32} {k i : Nat} (h : i < k) : (l.take k).getD i 0 = l.getD i 0 := by simp [List.getD_eq_getElem?_getD, List.getElem?_take, h]
theorem ofk {k j : Nat} (hk : k ≤ 4000) (hj : j ≤ 4000) (h : Int32.ofNat k = Int32.ofNat j) : k = j := Classical.byContradiction fun q => neN hk hj q h

theorem pn_java_lang_StringLatin1 : plainName "java/lang/StringLatin1" = true := by first | (simp [plainName, overriddenIn]; done) | decide +kernel
theorem ef_rm_infl (m : MethodId) (x0 : Addr) (x1 : Int32) (x2 : Addr) (x3 : Int32) (x4 : Int32)  : entryFrame m #[(.ref x0), (.int x1), (.ref x2), (.int x3), (.int x4)] 6 = mkF m 0 #[.val (.ref x0), .val (.int x1), .val (.ref x2), .val (.int x3), .val (.int x4), .unset] [] := by first | (simp [entryFrame, mkF, argsToLocals, Value.category]; done) | rfl
theorem d_12_0 : decode jdk_43_method_49_code 0 = .ok (.iconst 0, 1) := by decide +kernel
theorem d_12_1 : decode jdk_43_method_49_code 1 = .ok (.istore 5, 2) := by decide +kernel
theorem d_12_3 : decode jdk_43_method_49_code 3 = .ok (.iload 5, 2) := by decide +kernel
theorem d_12_5 : decode jdk_43_method_49_code 5 = .ok (.iload 4, 2) := by decide +kernel
theorem d_12_7 : decode jdk_43_method_49_code 7 = .ok (.if_icmp .ge 26, 3) := by decide +kernel
theorem d_12_33 : decode jdk_43_method_49_code 33 = .ok (.return_, 1) := by decide +kernel
theorem d_12_10 : decode jdk_43_method_49_code 10 = .ok (.aload_n 2, 1) := by decide +kernel
theorem d_12_11 : decode jdk_43_method_49_code 11 = .ok (.iload_n 3, 1) := by decide +kernel
theorem d_12_12 : decode jdk_43_method_49_code 12 = .ok (.iinc 3 1, 3) := by decide +kernel
theorem d_12_15 : decode jdk_43_method_49_code 15 = .ok (.aload_n 0, 1) := by decide +kernel
theorem d_12_16 : decode jdk_43_method_49_code 16 = .ok (.iload_n 1, 1) := by decide +kernel
theorem d_12_17 : decode jdk_43_method_49_code 17 = .ok (.iinc 1 1, 3) := by decide +kernel
theorem d_12_20 : decode jdk_43_method_49_code 20 = .ok (.baload, 1) := by decide +kernel
theorem d_12_21 : decode jdk_43_method_49_code 21 = .ok (.sipush 255, 3) := by decide +kernel
theorem d_12_24 : decode jdk_43_method_49_code 24 = .ok (.iand, 1) := by decide +kernel
theorem d_12_25 : decode jdk_43_method_49_code 25 = .ok (.i2c, 1) := by decide +kernel
theorem d_12_26 : decode jdk_43_method_49_code 26 = .ok (.castore, 1) := by decide +kernel
theorem d_12_27 : decode jdk_43_method_49_code 27 = .ok (.iinc 5 1, 3) := by decide +kernel
theorem d_12_30 : decode jdk_43_method_49_code 30 = .ok (.goto (-27), 3) := by decide +kernel
set_option maxRecDepth 65536 in
set_option maxHeartbeats 40000000 in
theorem rm_infl (l : Launch) (Z : State) (a0 : Array Value) (hw : ∀ d ∈ tables_1, d.before a0 Z = true) (a1 a2 : Addr) (ka kb : ClassId) (cs : List Int32) (vs : List Value) (h0 : Heap) (V_a1 : Arv Z h0 a1 ka .byte (Int32.ofNat cs.length) (cs.map fun c => Value.int (StrChars.lo8 c)) (.int (0 : Int32))) (hle8 : cs.length ≤ 8) (hbr : ∀ c ∈ cs, ¬ c < 0 ∧ ¬ (65535 : Int32) < c) (hla : ∀ c ∈ cs, ¬ (255 : Int32) < c) (V_a2 : Arv Z h0 a2 kb .char (Int32.ofNat cs.length) vs (.int (0 : Int32))) (hv : vs.length = cs.length) (hne : a1 ≠ a2) :
    MeetsW l Z (⟨"java/lang/StringLatin1", "inflate", "([BI[CII)V"⟩ : MethodName) jdk_43_method_49_code 6 none ({ frames := 0, cells := 0, slots := 0, locals := 0 } : Room) #[(.ref a1), (.int (0 : Int32)), (.ref a2), (.int (0 : Int32)), (.int (Int32.ofNat cs.length))] h0 (fun v h L => v = none ∧ Mv h0 h [a2] L ∧ Arv Z h a2 kb .char (Int32.ofNat cs.length) (cs.map Value.int) (.int (0 : Int32))) := by
  refine MeetsW.of (plainFor_of_name pn_java_lang_StringLatin1) ?_
  intro p e s m below meth c s₁ P hx hby hml hZ hown hnm hret hlk X0 e0 K
  have M0 : Mv h0 h0 [a2] [] := Mv.refl _ _
  refine Go.cast (ef_rm_infl m a1 (0 : Int32) a2 (0 : Int32) (Int32.ofNat cs.length) ) ?_
  refine Go.of (T' := s₁) (f' := (mkF m 1 #[sR a1, sI 0, sR a2, sI 0, sI (Int32.ofNat cs.length), .unset] [(.int (0 : Int32))])) (fun _ k => XS.iconst X0.here hx rfl (hb hby d_12_0) k) ?_
  refine Go.of (T' := s₁) (f' := (mkF m 3 #[sR a1, sI 0, sR a2, sI 0, sI (Int32.ofNat cs.length), sI 0] [])) (fun _ k => XS.istore X0.here hx rfl (hb hby d_12_1) rfl (l' := #[sR a1, sI 0, sR a2, sI 0, sI (Int32.ofNat cs.length), sI 0]) rfl k) ?_
  show Go p e below P s₁ (mkF m 3 #[sR a1, sI (Int32.ofNat 0), sR a2, sI (Int32.ofNat 0), sI (Int32.ofNat cs.length), sI (Int32.ofNat 0)] [])
  have J : ∀ (n : Nat) (i : Nat) (vs : List Value) (Tj : State) (hj : Heap) (Lj : List Loc), cs.length ≤ i + n → i ≤ cs.length → (WC vs cs i) → Stand p l e ({ frames := 0, cells := 0, slots := 0, locals := 0 } : Room) s m #[(.ref a1), (.int (0 : Int32)), (.ref a2), (.int (0 : Int32)), (.int (Int32.ofNat cs.length))] below meth c Tj Lj 0 0 → Tj.heap = hj → Mv h0 hj [a2] Lj → Arv Z hj a1 ka (.byte) (Int32.ofNat cs.length) (cs.map fun c => Value.int (StrChars.lo8 c)) (.int (0 : Int32)) → Arv Z hj a2 kb (.char) (Int32.ofNat cs.length) vs (.int (0 : Int32)) → Go p e below P Tj (mkF m 3 #[sR a1, sI (Int32.ofNat i), sR a2, sI (Int32.ofNat i), sI (Int32.ofNat cs.length), sI (Int32.ofNat i)] []) := by
    intro n
    induction n with
    | zero =>
      intro i vs Tj hj Lj hle hi1 hwc Xj ej Mj V_a1 V_a2
      refine Go.of (T' := Tj) (f' := (mkF m 5 #[sR a1, sI (Int32.ofNat i), sR a2, sI (Int32.ofNat i), sI (Int32.ofNat cs.length), sI (Int32.ofNat i)] [(.int (Int32.ofNat i))])) (fun _ k => XS.iload Xj.here hx rfl (hb hby d_12_3) rfl k) ?_
      refine Go.of (T' := Tj) (f' := (mkF m 7 #[sR a1, sI (Int32.ofNat i), sR a2, sI (Int32.ofNat i), sI (Int32.ofNat cs.length), sI (Int32.ofNat i)] [(.int (Int32.ofNat cs.length)), (.int (Int32.ofNat i))])) (fun _ k => XS.iload Xj.here hx rfl (hb hby d_12_5) rfl k) ?_
      have hc7 : ¬ ((Int32.ofNat i) < (Int32.ofNat cs.length)) := fun q => by have q := (ltN (by omega) (by omega)).mp q; omega
      refine Go.of (T' := Tj) (f' := (mkF m 33 #[sR a1, sI (Int32.ofNat i), sR a2, sI (Int32.ofNat i), sI (Int32.ofNat cs.length), sI (Int32.ofNat i)] [])) (fun _ k => XS.icmpYes Xj.here hx rfl (pc0 := 7) (pc' := 33) rfl (hb hby d_12_7) rfl (flt hc7).2.1 (by decide) (by decide) k) ?_
      exact goRet0 (Q := fun v h L => v = none ∧ Mv h0 h [a2] L ∧ Arv Z h a2 kb .char (Int32.ofNat cs.length) (cs.map Value.int) (.int (0 : Int32))) Xj hx hret hlk (hb hby d_12_33) K (by decide) (by decide) ej (⟨rfl, Mj, (wcEnd hwc (by first | exact Nat.le_of_not_lt fun q => hc7 ((ltN (by omega) (by omega)).mpr q) | omega)) ▸ V_a2⟩)
    | succ n ih =>
      intro i vs Tj hj Lj hle hi1 hwc Xj ej Mj V_a1 V_a2
      refine Go.of (T' := Tj) (f' := (mkF m 5 #[sR a1, sI (Int32.ofNat i), sR a2, sI (Int32.ofNat i), sI (Int32.ofNat cs.length), sI (Int32.ofNat i)] [(.int (Int32.ofNat i))])) (fun _ k => XS.iload Xj.here hx rfl (hb hby d_12_3) rfl k) ?_
      refine Go.of (T' := Tj) (f' := (mkF m 7 #[sR a1, sI (Int32.ofNat i), sR a2, sI (Int32.ofNat i), sI (Int32.ofNat cs.length), sI (Int32.ofNat i)] [(.int (Int32.ofNat cs.length)), (.int (Int32.ofNat i))])) (fun _ k => XS.iload Xj.here hx rfl (hb hby d_12_5) rfl k) ?_
      by_cases hc7 : (Int32.ofNat i) < (Int32.ofNat cs.length)
      ·
        refine Go.of (T' := Tj) (f' := (mkF m 10 #[sR a1, sI (Int32.ofNat i), sR a2, sI (Int32.ofNat i), sI (Int32.ofNat cs.length), sI (Int32.ofNat i)] [])) (fun _ k => XS.icmpNo Xj.here hx rfl (hb hby d_12_7) rfl (tlt hc7).2.1 k) ?_
        have hi : i < cs.length := (ltN (by omega) (by omega)).mp hc7
        refine Go.of (T' := Tj) (f' := (mkF m 11 #[sR a1, sI (Int32.ofNat i), sR a2, sI (Int32.ofNat i), sI (Int32.ofNat cs.length), sI (Int32.ofNat i)] [(.ref a2)])) (fun _ k => XS.aloadN Xj.here hx rfl (hb hby d_12_10) rfl rfl k) ?_
        refine Go.of (T' := Tj) (f' := (mkF m 12 #[sR a1, sI (Int32.ofNat i), sR a2, sI (Int32.ofNat i), sI (Int32.ofNat cs.length), sI (Int32.ofNat i)] [(.int (Int32.ofNat i)), (.ref a2)])) (fun _ k => XS.iloadN Xj.here hx rfl (hb hby d_12_11) rfl k) ?_
        refine Go.of (T' := Tj) (f' := (mkF m 15 #[sR a1, sI (Int32.ofNat i), sR a2, sI ((Int32.ofNat i) + (1 : Int32)), sI (Int32.ofNat cs.length), sI (Int32.ofNat i)] [(.int (Int32.ofNat i)), (.ref a2)])) (fun _ k => XS.iinc Xj.here hx rfl (hb hby d_12_12) rfl (l' := #[sR a1, sI (Int32.ofNat i), sR a2, sI ((Int32.ofNat i) + (1 : Int32)), sI (Int32.ofNat cs.length), sI (Int32.ofNat i)]) rfl k) ?_
        refine Go.of (T' := Tj) (f' := (mkF m 16 #[sR a1, sI (Int32.ofNat i), sR a2, sI ((Int32.ofNat i) + (1 : Int32)), sI (Int32.ofNat cs.length), sI (Int32.ofNat i)] [(.ref a1), (.int (Int32.ofNat i)), (.ref a2)])) (fun _ k => XS.aloadN Xj.here hx rfl (hb hby d_12_15) rfl rfl k) ?_
        refine Go.of (T' := Tj) (f' := (mkF m 17 #[sR a1, sI (Int32.ofNat i), sR a2, sI ((Int32.ofNat i) + (1 : Int32)), sI (Int32.ofNat cs.length), sI (Int32.ofNat i)] [(.int (Int32.ofNat i)), (.ref a1), (.int (Int32.ofNat i)), (.ref a2)])) (fun _ k => XS.iloadN Xj.here hx rfl (hb hby d_12_16) rfl k) ?_
        refine Go.of (T' := Tj) (f' := (mkF m 20 #[sR a1, sI ((Int32.ofNat i) + (1 : Int32)), sR a2, sI ((Int32.ofNat i) + (1 : Int32)), sI (Int32.ofNat cs.length), sI (Int32.ofNat i)] [(.int (Int32.ofNat i)), (.ref a1), (.int (Int32.ofNat i)), (.ref a2)])) (fun _ k => XS.iinc Xj.here hx rfl (hb hby d_12_17) rfl (l' := #[sR a1, sI ((Int32.ofNat i) + (1 : Int32)), sR a2, sI ((Int32.ofNat i) + (1 : Int32)), sI (Int32.ofNat cs.length), sI (Int32.ofNat i)]) rfl k) ?_
        obtain ⟨cl1, Ar1, cq1, Sz1, Nn1, Hs1, Gs1⟩ := id V_a1
        have hin1 : ¬ ((Int32.ofNat i) < 0 ∨ cl1.slots.size ≤ ((Int32.ofNat i)).toNatClampNeg) := inbN Sz1 hi (by omega)
        have hat1 : cl1.slots[((Int32.ofNat i)).toNatClampNeg]? = some (.int (StrChars.lo8 (cs.getD i 0))) := Has.at Hs1 hin1 (by rw [nat32 (by omega)]; exact StrChars.Road.low_at _ cs i hi)
        refine Go.of (T' := Tj) (f' := (mkF m 21 #[sR a1, sI ((Int32.ofNat i) + (1 : Int32)), sR a2, sI ((Int32.ofNat i) + (1 : Int32)), sI (Int32.ofNat cs.length), sI (Int32.ofNat i)] [(.int (StrChars.lo8 (cs.getD i 0))), (.int (Int32.ofNat i)), (.ref a2)])) (fun _ k => Xj.baloadBytes hx (j := (Int32.ofNat i)) (v := (.int (StrChars.lo8 (cs.getD i 0)))) (by rw [ej]; exact Ar1.1) (State.isArrayOf_alike hZ.alike Ar1.2.1) Ar1.2.2 hin1 hat1 (g := (mkF m 20 #[sR a1, sI ((Int32.ofNat i) + (1 : Int32)), sR a2, sI ((Int32.ofNat i) + (1 : Int32)), sI (Int32.ofNat cs.length), sI (Int32.ofNat i)] [(.int (Int32.ofNat i)), (.ref a1), (.int (Int32.ofNat i)), (.ref a2)])) rfl rfl (hb hby d_12_20) _ k) ?_
        refine Go.of (T' := Tj) (f' := (mkF m 24 #[sR a1, sI ((Int32.ofNat i) + (1 : Int32)), sR a2, sI ((Int32.ofNat i) + (1 : Int32)), sI (Int32.ofNat cs.length), sI (Int32.ofNat i)] [(.int (255 : Int32)), (.int (StrChars.lo8 (cs.getD i 0))), (.int (Int32.ofNat i)), (.ref a2)])) (fun _ k => XS.sipush Xj.here hx rfl (hb hby d_12_21) k) ?_
        refine Go.of (T' := Tj) (f' := (mkF m 25 #[sR a1, sI ((Int32.ofNat i) + (1 : Int32)), sR a2, sI ((Int32.ofNat i) + (1 : Int32)), sI (Int32.ofNat cs.length), sI (Int32.ofNat i)] [(.int ((StrChars.lo8 (cs.getD i 0)) &&& (255 : Int32))), (.int (Int32.ofNat i)), (.ref a2)])) (fun _ k => XS.iand Xj.here hx rfl (hb hby d_12_24) rfl k) ?_
        refine Go.of (T' := Tj) (f' := (mkF m 26 #[sR a1, sI ((Int32.ofNat i) + (1 : Int32)), sR a2, sI ((Int32.ofNat i) + (1 : Int32)), sI (Int32.ofNat cs.length), sI (Int32.ofNat i)] [(.int (((StrChars.lo8 (cs.getD i 0)) &&& (255 : Int32)).toUInt32.toUInt16.toUInt32.toInt32)), (.int (Int32.ofNat i)), (.ref a2)])) (fun _ k => XS.i2c Xj.here hx rfl (hb hby d_12_25) rfl k) ?_
        obtain ⟨cl2, Ar2, cq2, Sz2, Nn2, Hs2, Gs2⟩ := id V_a2
        have hin2 : ¬ ((Int32.ofNat i) < 0 ∨ cl2.slots.size ≤ ((Int32.ofNat i)).toNatClampNeg) := by rw [inbS Sz2 (m := cs.length) (nat32 (by omega))]; exact ⟨nneg (by omega), by rw [nat32 (by omega)]; omega⟩
        obtain ⟨T2, h2, X2, e2, W2, st2⟩ := stC Xj hx hZ ej Ar2 (j := (Int32.ofNat i)) hin2 (g := (mkF m 26 #[sR a1, sI ((Int32.ofNat i) + (1 : Int32)), sR a2, sI ((Int32.ofNat i) + (1 : Int32)), sI (Int32.ofNat cs.length), sI (Int32.ofNat i)] [(.int (((StrChars.lo8 (cs.getD i 0)) &&& (255 : Int32)).toUInt32.toUInt16.toUInt32.toInt32)), (.int (Int32.ofNat i)), (.ref a2)])) rfl rfl (hb hby d_12_26)
        have fq2 : fits .char (.int (nar .char (((StrChars.lo8 (cs.getD i 0)) &&& (255 : Int32)).toUInt32.toUInt16.toUInt32.toInt32))) = true := fits_nar_char _
        rw [show nar .char (((StrChars.lo8 (cs.getD i 0)) &&& (255 : Int32)).toUInt32.toUInt16.toUInt32.toInt32) = (cs.getD i 0) from latRt (memD hbr hi).1 (memD hla hi)] at W2 fq2
        have V2 := Arv.set Ar2 cq2 Sz2 Nn2 Hs2 Gs2 fq2 W2 (i) (nat32 (by omega)) (by have := hwc.1; omega)
        have K2 := Keep.of_wr W2
        have M2 := Mj.wr W2 (Or.inl (List.mem_of_getElem? (i := 0) rfl))
        replace V_a1 := V_a1.keep K2 (ninS hne nin0)
        replace V_a2 := V2
        refine Go.of (T' := T2) (f' := (mkF m 27 #[sR a1, sI ((Int32.ofNat i) + (1 : Int32)), sR a2, sI ((Int32.ofNat i) + (1 : Int32)), sI (Int32.ofNat cs.length), sI (Int32.ofNat i)] [])) st2 ?_
        refine Go.of (T' := T2) (f' := (mkF m 30 #[sR a1, sI ((Int32.ofNat i) + (1 : Int32)), sR a2, sI ((Int32.ofNat i) + (1 : Int32)), sI (Int32.ofNat cs.length), sI ((Int32.ofNat i) + (1 : Int32))] [])) (fun _ k => XS.iinc X2.here hx rfl (hb hby d_12_27) rfl (l' := #[sR a1, sI ((Int32.ofNat i) + (1 : Int32)), sR a2, sI ((Int32.ofNat i) + (1 : Int32)), sI (Int32.ofNat cs.length), sI ((Int32.ofNat i) + (1 : Int32))]) rfl k) ?_
        refine Go.of (T' := T2) (f' := (mkF m 3 #[sR a1, sI ((Int32.ofNat i) + (1 : Int32)), sR a2, sI ((Int32.ofNat i) + (1 : Int32)), sI (Int32.ofNat cs.length), sI ((Int32.ofNat i) + (1 : Int32))] [])) (fun _ k => XS.goto X2.here hx rfl (pc0 := 30) (pc' := 3) rfl (hb hby d_12_30) (by decide) (by decide) k) ?_
        rw [show (Int32.ofNat i) + (1 : Int32) = Int32.ofNat (i + 1) from (Int32.ofNat_add _ _).symm]
        exact ih (i + 1) _ T2 h2 _ (by omega) hi (wcStep hwc hi) (standUp X2 (by decide) (by decide)) e2 M2 V_a1 V_a2
      ·
        refine Go.of (T' := Tj) (f' := (mkF m 33 #[sR a1, sI (Int32.ofNat i), sR a2, sI (Int32.ofNat i), sI (Int32.ofNat cs.length), sI (Int32.ofNat i)] [])) (fun _ k => XS.icmpYes Xj.here hx rfl (pc0 := 7) (pc' := 33) rfl (hb hby d_12_7) rfl (flt hc7).2.1 (by decide) (by decide) k) ?_
        exact goRet0 (Q := fun v h L => v = none ∧ Mv h0 h [a2] L ∧ Arv Z h a2 kb .char (Int32.ofNat cs.length) (cs.map Value.int) (.int (0 : Int32))) Xj hx hret hlk (hb hby d_12_33) K (by decide) (by decide) ej (⟨rfl, Mj, (wcEnd hwc (by first | exact Nat.le_of_not_lt fun q => hc7 ((ltN (by omega) (by omega)).mpr q) | omega)) ▸ V_a2⟩)
  exact J cs.length 0 _ s₁ h0 _ (by omega) (by omega) (wc0 cs _ hv) (standUp X0 (by decide) (by decide)) e0 M0 V_a1 V_a2
theorem ef_rm_tcL (m : MethodId) (x0 : Addr)  : entryFrame m #[(.ref x0)] 2 = mkF m 0 #[.val (.ref x0), .unset] [] := by first | (simp [entryFrame, mkF, argsToLocals, Value.category]; done) | rfl
theorem d_13_0 : decode jdk_43_method_9_code 0 = .ok (.aload_n 0, 1) := by decide +kernel
theorem d_13_1 : decode jdk_43_method_9_code 1 = .ok (.arraylength, 1) := by decide +kernel
theorem d_13_2 : decode jdk_43_method_9_code 2 = .ok (.newarray .char, 2) := by decide +kernel
theorem d_13_4 : decode jdk_43_method_9_code 4 = .ok (.astore_n 1, 1) := by decide +kernel
theorem d_13_5 : decode jdk_43_method_9_code 5 = .ok (.aload_n 0, 1) := by decide +kernel
theorem d_13_6 : decode jdk_43_method_9_code 6 = .ok (.iconst 0, 1) := by decide +kernel
theorem d_13_7 : decode jdk_43_method_9_code 7 = .ok (.aload_n 1, 1) := by decide +kernel
theorem d_13_8 : decode jdk_43_method_9_code 8 = .ok (.iconst 0, 1) := by decide +kernel
theorem d_13_9 : decode jdk_43_method_9_code 9 = .ok (.aload_n 0, 1) := by decide +kernel
theorem d_13_10 : decode jdk_43_method_9_code 10 = .ok (.arraylength, 1) := by decide +kernel
theorem d_13_11 : decode jdk_43_method_9_code 11 = .ok (.invokestatic 13, 3) := by decide +kernel
theorem pd___BI_CII_V : parseMethodDescriptor "([BI[CII)V" = some ⟨[(.array .byte), .int, (.array .char), .int, .int], none⟩ := by decide +kernel
theorem d_13_14 : decode jdk_43_method_9_code 14 = .ok (.aload_n 1, 1) := by decide +kernel
theorem d_13_15 : decode jdk_43_method_9_code 15 = .ok (.areturn, 1) := by decide +kernel
set_option maxRecDepth 65536 in
set_option maxHeartbeats 40000000 in
theorem rm_tcL (l : Launch) (Z : State) (a0 : Array Value) (hw : ∀ d ∈ tables_1, d.before a0 Z = true) (a1 : Addr) (ka : ClassId) (cs : List Int32) (h0 : Heap) (V_a1 : Arv Z h0 a1 ka .byte (Int32.ofNat cs.length) (cs.map fun c => Value.int (StrChars.lo8 c)) (.int (0 : Int32))) (hle8 : cs.length ≤ 8) (hbr : ∀ c ∈ cs, ¬ c < 0 ∧ ¬ (65535 : Int32) < c) (hla : ∀ c ∈ cs, ¬ (255 : Int32) < c) :
    MeetsW l Z (⟨"java/lang/StringLatin1", "toChars", "([B)[C"⟩ : MethodName) jdk_43_method_9_code 2 (some (.array .char)) ({ frames := 1, cells := 1, slots := 8, locals := 17 } : Room) #[(.ref a1)] h0 (fun v h L => Mv h0 h [] L ∧ ∃ (b : Addr) (k : ClassId), v = some (.ref b) ∧ h0.size ≤ b ∧ Arv Z h b k .char (Int32.ofNat cs.length) (cs.map Value.int) (.int (0 : Int32))) := by
  refine MeetsW.of (plainFor_of_name pn_java_lang_StringLatin1) ?_
  intro p e s m below meth c s₁ P hx hby hml hZ hown hnm hret hlk X0 e0 K
  have M0 : Mv h0 h0 [] [] := Mv.refl _ _
  refine Go.cast (ef_rm_tcL m a1 ) ?_
  refine Go.of (T' := s₁) (f' := (mkF m 1 #[sR a1, .unset] [(.ref a1)])) (fun _ k => XS.aloadN X0.here hx rfl (hb hby d_13_0) rfl rfl k) ?_
  obtain ⟨cl1, Ar1, -, Sz1, Nn1, -, -⟩ := id V_a1
  refine Go.of (T' := s₁) (f' := (mkF m 2 #[sR a1, .unset] [(.int (Int32.ofNat cs.length))])) (fun _ k => X0.arraylength hx (by rw [e0]; exact Ar1.1) (State.isArrayOf_alike hZ.alike Ar1.2.1) (g := (mkF m 1 #[sR a1, .unset] [(.ref a1)])) rfl rfl (hb hby d_13_1) _ (by rw [len_of Sz1 Nn1]; exact k)) ?_
  obtain ⟨T2, h2, k2, X2, e2, E2, A2, st2⟩ := newP X0 hx hZ (hw _ (List.mem_of_getElem? (i := 4) rfl)) e0 (g := (mkF m 2 #[sR a1, .unset] [(.int (Int32.ofNat cs.length))])) rfl (hb hby d_13_2) rfl (nneg (by omega)) (cap := 8) (by rw [nat32 (by omega)]; omega) (by decide) (by decide) (by decide)
  obtain ⟨b2, g2⟩ : ∃ z, z = h0.size := ⟨_, rfl⟩
  rw [← g2] at A2 st2
  have ne_a1_b2 : a1 ≠ b2 := Nat.ne_of_lt (Nat.lt_of_lt_of_le V_a1.lt (Nat.le_of_eq g2.symm))
  have fr_b2 : h0.size ≤ b2 := Nat.le_trans M0.le (Nat.le_of_eq g2.symm)
  have K2 := keepE E2
  have M2 := M0.ext E2
  replace V_a1 := V_a1.keep K2 nin0
  have V_b2 : Arv Z h2 b2 k2 .char (Int32.ofNat cs.length) [] (.int (0 : Int32)) := Arv.new A2 (nneg (by omega))
  refine Go.of (T' := T2) (f' := (mkF m 4 #[sR a1, .unset] [(.ref b2)])) st2 ?_
  refine Go.of (T' := T2) (f' := (mkF m 5 #[sR a1, sR b2] [])) (fun _ k => XS.astoreN X2.here hx rfl (hb hby d_13_4) rfl rfl (l' := #[sR a1, sR b2]) rfl k) ?_
  refine Go.of (T' := T2) (f' := (mkF m 6 #[sR a1, sR b2] [(.ref a1)])) (fun _ k => XS.aloadN X2.here hx rfl (hb hby d_13_5) rfl rfl k) ?_
  refine Go.of (T' := T2) (f' := (mkF m 7 #[sR a1, sR b2] [(.int (0 : Int32)), (.ref a1)])) (fun _ k => XS.iconst X2.here hx rfl (hb hby d_13_6) k) ?_
  refine Go.of (T' := T2) (f' := (mkF m 8 #[sR a1, sR b2] [(.ref b2), (.int (0 : Int32)), (.ref a1)])) (fun _ k => XS.aloadN X2.here hx rfl (hb hby d_13_7) rfl rfl k) ?_
  refine Go.of (T' := T2) (f' := (mkF m 9 #[sR a1, sR b2] [(.int (0 : Int32)), (.ref b2), (.int (0 : Int32)), (.ref a1)])) (fun _ k => XS.iconst X2.here hx rfl (hb hby d_13_8) k) ?_
  refine Go.of (T' := T2) (f' := (mkF m 10 #[sR a1, sR b2] [(.ref a1), (.int (0 : Int32)), (.ref b2), (.int (0 : Int32)), (.ref a1)])) (fun _ k => XS.aloadN X2.here hx rfl (hb hby d_13_9) rfl rfl k) ?_
  obtain ⟨cl3, Ar3, -, Sz3, Nn3, -, -⟩ := id V_a1
  refine Go.of (T' := T2) (f' := (mkF m 11 #[sR a1, sR b2] [(.int (Int32.ofNat cs.length)), (.int (0 : Int32)), (.ref b2), (.int (0 : Int32)), (.ref a1)])) (fun _ k => X2.arraylength hx (by rw [e2]; exact Ar3.1) (State.isArrayOf_alike hZ.alike Ar3.2.1) (g := (mkF m 10 #[sR a1, sR b2] [(.ref a1), (.int (0 : Int32)), (.ref b2), (.int (0 : Int32)), (.ref a1)])) rfl rfl (hb hby d_13_10) _ (by rw [len_of Sz3 Nn3]; exact k)) ?_
  refine goS X2 hx hZ hown (hw _ (List.mem_of_getElem? (i := 60) rfl)) (hw _ (List.mem_of_getElem? (i := 61) rfl)) (hw _ (List.mem_of_getElem? (i := 58) rfl)) (hw _ (List.mem_of_getElem? (i := 62) rfl)) (by decide) (C := 0) (S := 0) ((rm_infl l Z a0 hw a1 b2 ka k2 cs _ h2 V_a1 hle8 hbr hla (V_b2.pad (pad_rep [] _ cs.length)) (by simp) ne_a1_b2).bk (W := 0) hZ (hw _ (List.mem_of_getElem? (i := 62) rfl)) (hw _ (List.mem_of_getElem? (i := 58) rfl)) (by decide) (by decide)) e2 (argsL := [(.ref a1), (.int (0 : Int32)), (.ref b2), (.int (0 : Int32)), (.int (Int32.ofNat cs.length))]) (rest := []) (by rw [hml]; rfl) (lenOf pd___BI_CII_V rfl) rfl rfl (hb hby d_13_11) (Nat.le_of_eq rfl) (by decide) (by decide) ?_
  intro v4 T4 L4 X4 hQ4
  obtain ⟨h4, e4⟩ : ∃ z, T4.heap = z := ⟨_, rfl⟩
  rw [e4] at hQ4
  obtain ⟨rfl, Mc4, Vc4⟩ := hQ4
  have M4 := M2.app Mc4 (allS (Or.inr fr_b2) all0)
  replace V_a1 := V_a1.keep Mc4.1 (ninS ne_a1_b2 nin0)
  replace V_b2 := Vc4
  show Go p e below P T4 (mkF m 14 #[sR a1, sR b2] [])
  refine Go.of (T' := T4) (f' := (mkF m 15 #[sR a1, sR b2] [(.ref b2)])) (fun _ k => XS.aloadN X4.here hx rfl (hb hby d_13_14) rfl rfl k) ?_
  exact goRetR (Q := fun v h L => Mv h0 h [] L ∧ ∃ (b : Addr) (k : ClassId), v = some (.ref b) ∧ h0.size ≤ b ∧ Arv Z h b k .char (Int32.ofNat cs.length) (cs.map Value.int) (.int (0 : Int32))) X4 hx hret rfl hlk rfl rfl (hb hby d_13_15) K (by decide) (by decide) e4 (⟨M4, b2, _, rfl, fr_b2, V_b2⟩)
theorem cfisOr {m n : Nat} (hm : m ≤ n) (hn : n ≤ 4000) : ¬ ((Int32.ofNat n ||| (0 : Int32)) ||| Int32.ofNat m) < (0 : Int32) := by
  have a := nneg (i := n) (by omega)
  have b := nneg (i := m) (by omega)
  generalize Int32.ofNat n = x at *
  generalize Int32.ofNat m = y at *
  rw [Int32.lt_iff_toBitVec_slt] at *
  simp only [Int32.toBitVec_or, Int32.toBitVec_ofNat] at *
  have e : ∀ v : BitVec 32, v.slt 0#32 = v.msb := fun v => BitVec.slt_zero_eq_msb
  simp_all [BitVec.msb_or]
theorem pn_jdk_internal_util_Preconditions : plainName "jdk/internal/util/Preconditions" = true := by first | (simp [plainName, overriddenIn]; done) | decide +kernel
theorem ef_rm_cfis (m : MethodId) (x0 : Int32) (x1 : Int32) (x2 : Int32) (x3 : Value) (hx3 : x3.isRef = true) : entryFrame m #[(.int x0), (.int x1), (.int x2), x3] 4 = mkF m 0 #[.val (.int x0), .val (.int x1), .val (.int x2), .val x3] [] := by
  all_goals (rcases ref_cases hx3 with rfl | ⟨z3, rfl⟩)
  all_goals first | (simp [entryFrame, mkF, argsToLocals, Value.category]; done) | rfl
theorem d_14_0 : decode jdk_41_method_13_code 0 = .ok (.iload_n 2, 1) := by decide +kernel
theorem d_14_1 : decode jdk_41_method_13_code 1 = .ok (.iload_n 0, 1) := by decide +kernel
theorem d_14_2 : decode jdk_41_method_13_code 2 = .ok (.ior, 1) := by decide +kernel
theorem d_14_3 : decode jdk_41_method_13_code 3 = .ok (.iload_n 1, 1) := by decide +kernel
theorem d_14_4 : decode jdk_41_method_13_code 4 = .ok (.ior, 1) := by decide +kernel
theorem d_14_5 : decode jdk_41_method_13_code 5 = .ok (.ifCond .lt 10, 3) := by decide +kernel
theorem d_14_8 : decode jdk_41_method_13_code 8 = .ok (.iload_n 1, 1) := by decide +kernel
theorem d_14_9 : decode jdk_41_method_13_code 9 = .ok (.iload_n 2, 1) := by decide +kernel
theorem d_14_10 : decode jdk_41_method_13_code 10 = .ok (.iload_n 0, 1) := by decide +kernel
theorem d_14_11 : decode jdk_41_method_13_code 11 = .ok (.isub, 1) := by decide +kernel
theorem d_14_12 : decode jdk_41_method_13_code 12 = .ok (.if_icmp .le 11, 3) := by decide +kernel
theorem d_14_23 : decode jdk_41_method_13_code 23 = .ok (.iload_n 0, 1) := by decide +kernel
theorem d_14_24 : decode jdk_41_method_13_code 24 = .ok (.ireturn, 1) := by decide +kernel
set_option maxRecDepth 65536 in
set_option maxHeartbeats 40000000 in
theorem rm_cfis (l : Launch) (Z : State) (a0 : Array Value) (hw : ∀ d ∈ tables_1, d.before a0 Z = true) (mm n : Nat) (fm : Value) (h0 : Heap) (hfm : fm.isRef = true) (hm : mm ≤ n) (hn : n ≤ 4000) :
    MeetsW l Z (⟨"jdk/internal/util/Preconditions", "checkFromIndexSize", "(IIILjava/util/function/BiFunction;)I"⟩ : MethodName) jdk_41_method_13_code 4 (some .int) ({ frames := 0, cells := 0, slots := 0, locals := 0 } : Room) #[(.int (0 : Int32)), (.int (Int32.ofNat mm)), (.int (Int32.ofNat n)), fm] h0 (Pu h0 (fun v => v = some (.int 0))) := by
  refine MeetsW.of (plainFor_of_name pn_jdk_internal_util_Preconditions) ?_
  intro p e s m below meth c s₁ P hx hby hml hZ hown hnm hret hlk X0 e0 K
  have M0 : Mv h0 h0 [] [] := Mv.refl _ _
  refine Go.cast (ef_rm_cfis m (0 : Int32) (Int32.ofNat mm) (Int32.ofNat n) fm hfm) ?_
  refine Go.of (T' := s₁) (f' := (mkF m 1 #[sI 0, sI (Int32.ofNat mm), sI (Int32.ofNat n), .val fm] [(.int (Int32.ofNat n))])) (fun _ k => XS.iloadN X0.here hx rfl (hb hby d_14_0) rfl k) ?_
  refine Go.of (T' := s₁) (f' := (mkF m 2 #[sI 0, sI (Int32.ofNat mm), sI (Int32.ofNat n), .val fm] [(.int (0 : Int32)), (.int (Int32.ofNat n))])) (fun _ k => XS.iloadN X0.here hx rfl (hb hby d_14_1) rfl k) ?_
  refine Go.of (T' := s₁) (f' := (mkF m 3 #[sI 0, sI (Int32.ofNat mm), sI (Int32.ofNat n), .val fm] [(.int ((Int32.ofNat n) ||| (0 : Int32)))])) (fun _ k => XS.ior X0.here hx rfl (hb hby d_14_2) rfl k) ?_
  refine Go.of (T' := s₁) (f' := (mkF m 4 #[sI 0, sI (Int32.ofNat mm), sI (Int32.ofNat n), .val fm] [(.int (Int32.ofNat mm)), (.int ((Int32.ofNat n) ||| (0 : Int32)))])) (fun _ k => XS.iloadN X0.here hx rfl (hb hby d_14_3) rfl k) ?_
  refine Go.of (T' := s₁) (f' := (mkF m 5 #[sI 0, sI (Int32.ofNat mm), sI (Int32.ofNat n), .val fm] [(.int (((Int32.ofNat n) ||| (0 : Int32)) ||| (Int32.ofNat mm)))])) (fun _ k => XS.ior X0.here hx rfl (hb hby d_14_4) rfl k) ?_
  have hc5 : ¬ ((((Int32.ofNat n) ||| (0 : Int32)) ||| (Int32.ofNat mm)) < (0 : Int32)) := cfisOr hm hn
  refine Go.of (T' := s₁) (f' := (mkF m 8 #[sI 0, sI (Int32.ofNat mm), sI (Int32.ofNat n), .val fm] [])) (fun _ k => XS.ifNo X0.here hx rfl (hb hby d_14_5) rfl ((if0 _ _).trans (flt hc5).1) k) ?_
  refine Go.of (T' := s₁) (f' := (mkF m 9 #[sI 0, sI (Int32.ofNat mm), sI (Int32.ofNat n), .val fm] [(.int (Int32.ofNat mm))])) (fun _ k => XS.iloadN X0.here hx rfl (hb hby d_14_8) rfl k) ?_
  refine Go.of (T' := s₁) (f' := (mkF m 10 #[sI 0, sI (Int32.ofNat mm), sI (Int32.ofNat n), .val fm] [(.int (Int32.ofNat n)), (.int (Int32.ofNat mm))])) (fun _ k => XS.iloadN X0.here hx rfl (hb hby d_14_9) rfl k) ?_
  refine Go.of (T' := s₁) (f' := (mkF m 11 #[sI 0, sI (Int32.ofNat mm), sI (Int32.ofNat n), .val fm] [(.int (0 : Int32)), (.int (Int32.ofNat n)), (.int (Int32.ofNat mm))])) (fun _ k => XS.iloadN X0.here hx rfl (hb hby d_14_10) rfl k) ?_
  refine Go.of (T' := s₁) (f' := (mkF m 12 #[sI 0, sI (Int32.ofNat mm), sI (Int32.ofNat n), .val fm] [(.int ((Int32.ofNat n) - (0 : Int32))), (.int (Int32.ofNat mm))])) (fun _ k => XS.isub X0.here hx rfl (hb hby d_14_11) rfl k) ?_
  have hc12 : ¬ (((Int32.ofNat n) - (0 : Int32)) < (Int32.ofNat mm)) := fun q => by rw [Int32.sub_zero] at q; have q := (ltN (by omega) (by omega)).mp q; omega
  refine Go.of (T' := s₁) (f' := (mkF m 23 #[sI 0, sI (Int32.ofNat mm), sI (Int32.ofNat n), .val fm] [])) (fun _ k => XS.icmpYes X0.here hx rfl (pc0 := 12) (pc' := 23) rfl (hb hby d_14_12) rfl (flt hc12).2.2.2 (by decide) (by decide) k) ?_
  refine Go.of (T' := s₁) (f' := (mkF m 24 #[sI 0, sI (Int32.ofNat mm), sI (Int32.ofNat n), .val fm] [(.int (0 : Int32))])) (fun _ k => XS.iloadN X0.here hx rfl (hb hby d_14_23) rfl k) ?_
  exact goRetI (Q := Pu h0 (fun v => v = some (.int 0))) X0 hx (t := .int) hret hlk rfl (by simp) (hb hby d_14_24) K (by decide) (by decide) e0 (⟨rfl, rfl, rfl⟩)
theorem ef_rm_cboS (m : MethodId) (x0 : Int32) (x1 : Int32) (x2 : Int32)  : entryFrame m #[(.int x0), (.int x1), (.int x2)] 3 = mkF m 0 #[.val (.int x0), .val (.int x1), .val (.int x2)] [] := by first | (simp [entryFrame, mkF, argsToLocals, Value.category]; done) | rfl
theorem d_15_0 : decode jdk_42_method_157_code 0 = .ok (.iload_n 0, 1) := by decide +kernel
theorem d_15_1 : decode jdk_42_method_157_code 1 = .ok (.iload_n 1, 1) := by decide +kernel
theorem d_15_2 : decode jdk_42_method_157_code 2 = .ok (.iload_n 2, 1) := by decide +kernel
theorem d_15_3 : decode jdk_42_method_157_code 3 = .ok (.getstatic 1053, 3) := by decide +kernel
theorem d_15_6 : decode jdk_42_method_157_code 6 = .ok (.invokestatic 1065, 3) := by decide +kernel
theorem pd__IIILjava_util_function_BiFunction__I : parseMethodDescriptor "(IIILjava/util/function/BiFunction;)I" = some ⟨[.int, .int, .int, (.object "java/util/function/BiFunction")], some .int⟩ := by decide +kernel
theorem d_15_9 : decode jdk_42_method_157_code 9 = .ok (.ireturn, 1) := by decide +kernel
set_option maxRecDepth 65536 in
set_option maxHeartbeats 40000000 in
theorem rm_cboS (l : Launch) (Z : State) (a0 : Array Value) (hw : ∀ d ∈ tables_1, d.before a0 Z = true) (mm n : Nat) (fm : Value) (h0 : Heap) (Z_fm : Sta Z h0 "jdk/internal/util/Preconditions" "SIOOBE_FORMATTER" "Ljava/util/function/BiFunction;" fm) (hfm : fm.isRef = true) (hm : mm ≤ n) (hn : n ≤ 4000) :
    MeetsW l Z (⟨"java/lang/String", "checkBoundsOffCount", "(III)I"⟩ : MethodName) jdk_42_method_157_code 3 (some .int) ({ frames := 1, cells := 0, slots := 0, locals := 15 } : Room) #[(.int (0 : Int32)), (.int (Int32.ofNat mm)), (.int (Int32.ofNat n))] h0 (Pu h0 (fun v => v = some (.int 0))) := by
  refine MeetsW.of (plainFor_of_name pn_java_lang_String) ?_
  intro p e s m below meth c s₁ P hx hby hml hZ hown hnm hret hlk X0 e0 K
  have M0 : Mv h0 h0 [] [] := Mv.refl _ _
  refine Go.cast (ef_rm_cboS m (0 : Int32) (Int32.ofNat mm) (Int32.ofNat n) ) ?_
  refine Go.of (T' := s₁) (f' := (mkF m 1 #[sI 0, sI (Int32.ofNat mm), sI (Int32.ofNat n)] [(.int (0 : Int32))])) (fun _ k => XS.iloadN X0.here hx rfl (hb hby d_15_0) rfl k) ?_
  refine Go.of (T' := s₁) (f' := (mkF m 2 #[sI 0, sI (Int32.ofNat mm), sI (Int32.ofNat n)] [(.int (Int32.ofNat mm)), (.int (0 : Int32))])) (fun _ k => XS.iloadN X0.here hx rfl (hb hby d_15_1) rfl k) ?_
  refine Go.of (T' := s₁) (f' := (mkF m 3 #[sI 0, sI (Int32.ofNat mm), sI (Int32.ofNat n)] [(.int (Int32.ofNat n)), (.int (Int32.ofNat mm)), (.int (0 : Int32))])) (fun _ k => XS.iloadN X0.here hx rfl (hb hby d_15_2) rfl k) ?_
  obtain ⟨T1, X1, e1, st1⟩ := getS2 X0 hx hZ hown (host := "") (Or.inl (hw _ (List.mem_of_getElem? (i := 101) rfl))) Via.refl e0 Z_fm (g := (mkF m 3 #[sI 0, sI (Int32.ofNat mm), sI (Int32.ofNat n)] [(.int (Int32.ofNat n)), (.int (Int32.ofNat mm)), (.int (0 : Int32))])) rfl (hb hby d_15_3)
  refine Go.of (T' := T1) (f' := (mkF m 6 #[sI 0, sI (Int32.ofNat mm), sI (Int32.ofNat n)] [fm, (.int (Int32.ofNat n)), (.int (Int32.ofNat mm)), (.int (0 : Int32))])) st1 ?_
  refine goS X1 hx hZ hown (hw _ (List.mem_of_getElem? (i := 173) rfl)) (hw _ (List.mem_of_getElem? (i := 174) rfl)) (hw _ (List.mem_of_getElem? (i := 102) rfl)) (hw _ (List.mem_of_getElem? (i := 175) rfl)) (by decide) (C := 0) (S := 0) ((rm_cfis l Z a0 hw mm n fm h0 hfm hm hn).bk (W := 0) hZ (hw _ (List.mem_of_getElem? (i := 175) rfl)) (hw _ (List.mem_of_getElem? (i := 102) rfl)) (by decide) (by decide)) e1 (argsL := [(.int (0 : Int32)), (.int (Int32.ofNat mm)), (.int (Int32.ofNat n)), fm]) (rest := []) (by rw [hml]; rfl) (lenOf pd__IIILjava_util_function_BiFunction__I rfl) rfl rfl (hb hby d_15_6) (Nat.le_of_eq rfl) (by decide) (by decide) ?_
  intro v2 T2 L2 X2 hQ2
  obtain ⟨nq2, e2, rfl⟩ := hQ2
  replace X2 := standNil X2 nq2
  show Go p e below P T2 (mkF m 9 #[sI 0, sI (Int32.ofNat mm), sI (Int32.ofNat n)] [(.int (0 : Int32))])
  exact goRetI (Q := Pu h0 (fun v => v = some (.int 0))) X2 hx (t := .int) hret hlk rfl (by simp) (hb hby d_15_9) K (by decide) (by decide) e2 (⟨rfl, rfl, rfl⟩)
theorem ef_rm_cboU (m : MethodId) (x0 : Int32) (x1 : Int32) (x2 : Addr)  : entryFrame m #[(.int x0), (.int x1), (.ref x2)] 3 = mkF m 0 #[.val (.int x0), .val (.int x1), .val (.ref x2)] [] := by first | (simp [entryFrame, mkF, argsToLocals, Value.category]; done) | rfl
theorem d_16_0 : decode jdk_52_method_94_code 0 = .ok (.iload_n 0, 1) := by decide +kernel
theorem d_16_1 : decode jdk_52_method_94_code 1 = .ok (.iload_n 1, 1) := by decide +kernel
theorem d_16_2 : decode jdk_52_method_94_code 2 = .ok (.aload_n 2, 1) := by decide +kernel
theorem d_16_3 : decode jdk_52_method_94_code 3 = .ok (.invokestatic 48, 3) := by decide +kernel
theorem pd___B_I : parseMethodDescriptor "([B)I" = some ⟨[(.array .byte)], some .int⟩ := by decide +kernel
theorem d_16_6 : decode jdk_52_method_94_code 6 = .ok (.invokestatic 419, 3) := by decide +kernel
theorem pd__III_I : parseMethodDescriptor "(III)I" = some ⟨[.int, .int, .int], some .int⟩ := by decide +kernel
theorem d_16_9 : decode jdk_52_method_94_code 9 = .ok (.pop, 1) := by decide +kernel
theorem d_16_10 : decode jdk_52_method_94_code 10 = .ok (.return_, 1) := by decide +kernel
set_option maxRecDepth 65536 in
set_option maxHeartbeats 40000000 in
theorem rm_cboU (l : Launch) (Z : State) (a0 : Array Value) (hw : ∀ d ∈ tables_1, d.before a0 Z = true) (a1 : Addr) (ka : ClassId) (cs : List Int32) (mm : Nat) (fm : Value) (h0 : Heap) (V_a1 : Arv Z h0 a1 ka .byte (Int32.ofNat (2 * cs.length)) (StrChars.Road.wideBytes cs) (.int (0 : Int32))) (hle8 : cs.length ≤ 8) (hp1 : 1 ≤ cs.length) (hbr : ∀ c ∈ cs, ¬ c < 0 ∧ ¬ (65535 : Int32) < c) (hm : mm ≤ cs.length) (Z_fm : Sta Z h0 "jdk/internal/util/Preconditions" "SIOOBE_FORMATTER" "Ljava/util/function/BiFunction;" fm) (hfm : fm.isRef = true) :
    MeetsW l Z (⟨"java/lang/StringUTF16", "checkBoundsOffCount", "(II[B)V"⟩ : MethodName) jdk_52_method_94_code 3 none ({ frames := 2, cells := 0, slots := 0, locals := 29 } : Room) #[(.int (0 : Int32)), (.int (Int32.ofNat mm)), (.ref a1)] h0 (Pu h0 (fun v => v = none)) := by
  refine MeetsW.of (plainFor_of_name pn_java_lang_StringUTF16) ?_
  intro p e s m below meth c s₁ P hx hby hml hZ hown hnm hret hlk X0 e0 K
  have M0 : Mv h0 h0 [] [] := Mv.refl _ _
  refine Go.cast (ef_rm_cboU m (0 : Int32) (Int32.ofNat mm) a1 ) ?_
  have hl : cs.length ≤ 4000 := by omega
  refine Go.of (T' := s₁) (f' := (mkF m 1 #[sI 0, sI (Int32.ofNat mm), sR a1] [(.int (0 : Int32))])) (fun _ k => XS.iloadN X0.here hx rfl (hb hby d_16_0) rfl k) ?_
  refine Go.of (T' := s₁) (f' := (mkF m 2 #[sI 0, sI (Int32.ofNat mm), sR a1] [(.int (Int32.ofNat mm)), (.int (0 : Int32))])) (fun _ k => XS.iloadN X0.here hx rfl (hb hby d_16_1) rfl k) ?_
  refine Go.of (T' := s₁) (f' := (mkF m 3 #[sI 0, sI (Int32.ofNat mm), sR a1] [(.ref a1), (.int (Int32.ofNat mm)), (.int (0 : Int32))])) (fun _ k => XS.aloadN X0.here hx rfl (hb hby d_16_2) rfl rfl k) ?_
  refine goS X0 hx hZ hown (hw _ (List.mem_of_getElem? (i := 167) rfl)) (hw _ (List.mem_of_getElem? (i := 168) rfl)) (hw _ (List.mem_of_getElem? (i := 24) rfl)) (hw _ (List.mem_of_getElem? (i := 169) rfl)) (by decide) (C := 0) (S := 0) ((rm_len16 l Z a0 hw a1 ka cs h0 V_a1 hl).bk (W := 2) hZ (hw _ (List.mem_of_getElem? (i := 169) rfl)) (hw _ (List.mem_of_getElem? (i := 24) rfl)) (by decide) (by decide)) e0 (argsL := [(.ref a1)]) (rest := [(.int (Int32.ofNat mm)), (.int (0 : Int32))]) (by rw [hml]; rfl) (lenOf pd___B_I rfl) rfl rfl (hb hby d_16_3) (Nat.le_of_eq rfl) (by decide) (by decide) ?_
  intro v1 T1 L1 X1 hQ1
  obtain ⟨nq1, e1, rfl⟩ := hQ1
  replace X1 := standNil X1 nq1
  show Go p e below P T1 (mkF m 6 #[sI 0, sI (Int32.ofNat mm), sR a1] [(.int (Int32.ofNat cs.length)), (.int (Int32.ofNat mm)), (.int (0 : Int32))])
  refine goS X1 hx hZ hown (hw _ (List.mem_of_getElem? (i := 170) rfl)) (hw _ (List.mem_of_getElem? (i := 171) rfl)) (hw _ (List.mem_of_getElem? (i := 10) rfl)) (hw _ (List.mem_of_getElem? (i := 172) rfl)) (by decide) (C := 0) (S := 0) ((rm_cboS l Z a0 hw mm cs.length fm h0 Z_fm hfm hm hl).bk (W := 0) hZ (hw _ (List.mem_of_getElem? (i := 172) rfl)) (hw _ (List.mem_of_getElem? (i := 10) rfl)) (by decide) (by decide)) e1 (argsL := [(.int (0 : Int32)), (.int (Int32.ofNat mm)), (.int (Int32.ofNat cs.length))]) (rest := []) (by rw [hml]; rfl) (lenOf pd__III_I rfl) rfl rfl (hb hby d_16_6) (Nat.le_of_eq rfl) (by decide) (by decide) ?_
  intro v2 T2 L2 X2 hQ2
  obtain ⟨nq2, e2, rfl⟩ := hQ2
  replace X2 := standNil X2 nq2
  show Go p e below P T2 (mkF m 9 #[sI 0, sI (Int32.ofNat mm), sR a1] [(.int (0 : Int32))])
  refine Go.of (T' := T2) (f' := (mkF m 10 #[sI 0, sI (Int32.ofNat mm), sR a1] [])) (fun _ k => XS.pop X2.here hx rfl (hb hby d_16_9) rfl rfl k) ?_
  exact goRet0 (Q := Pu h0 (fun v => v = none)) X2 hx hret hlk (hb hby d_16_10) K (by decide) (by decide) e2 (⟨rfl, rfl, rfl⟩)
theorem ef_rm_gch (m : MethodId) (x0 : Addr) (x1 : Int32) (x2 : Int32) (x3 : Addr) (x4 : Int32)  : entryFrame m #[(.ref x0), (.int x1), (.int x2), (.ref x3), (.int x4)] 6 = mkF m 0 #[.val (.ref x0), .val (.int x1), .val (.int x2), .val (.ref x3), .val (.int x4), .unset] [] := by first | (simp [entryFrame, mkF, argsToLocals, Value.category]; done) | rfl
theorem d_17_0 : decode jdk_52_method_26_code 0 = .ok (.iload_n 1, 1) := by decide +kernel
theorem d_17_1 : decode jdk_52_method_26_code 1 = .ok (.iload_n 2, 1) := by decide +kernel
theorem d_17_2 : decode jdk_52_method_26_code 2 = .ok (.if_icmp .ge 11, 3) := by decide +kernel
theorem d_17_5 : decode jdk_52_method_26_code 5 = .ok (.iload_n 1, 1) := by decide +kernel
theorem d_17_6 : decode jdk_52_method_26_code 6 = .ok (.iload_n 2, 1) := by decide +kernel
theorem d_17_7 : decode jdk_52_method_26_code 7 = .ok (.iload_n 1, 1) := by decide +kernel
theorem d_17_8 : decode jdk_52_method_26_code 8 = .ok (.isub, 1) := by decide +kernel
theorem d_17_9 : decode jdk_52_method_26_code 9 = .ok (.aload_n 0, 1) := by decide +kernel
theorem d_17_10 : decode jdk_52_method_26_code 10 = .ok (.invokestatic 173, 3) := by decide +kernel
theorem pd__II_B_V : parseMethodDescriptor "(II[B)V" = some ⟨[.int, .int, (.array .byte)], none⟩ := by decide +kernel
theorem d_17_13 : decode jdk_52_method_26_code 13 = .ok (.iload_n 1, 1) := by decide +kernel
theorem d_17_14 : decode jdk_52_method_26_code 14 = .ok (.istore 5, 2) := by decide +kernel
theorem d_17_16 : decode jdk_52_method_26_code 16 = .ok (.iload 5, 2) := by decide +kernel
theorem d_17_18 : decode jdk_52_method_26_code 18 = .ok (.iload_n 2, 1) := by decide +kernel
theorem d_17_19 : decode jdk_52_method_26_code 19 = .ok (.if_icmp .ge 22, 3) := by decide +kernel
theorem d_17_41 : decode jdk_52_method_26_code 41 = .ok (.return_, 1) := by decide +kernel
theorem d_17_22 : decode jdk_52_method_26_code 22 = .ok (.aload_n 3, 1) := by decide +kernel
theorem d_17_23 : decode jdk_52_method_26_code 23 = .ok (.iload 4, 2) := by decide +kernel
theorem d_17_25 : decode jdk_52_method_26_code 25 = .ok (.iinc 4 1, 3) := by decide +kernel
theorem d_17_28 : decode jdk_52_method_26_code 28 = .ok (.aload_n 0, 1) := by decide +kernel
theorem d_17_29 : decode jdk_52_method_26_code 29 = .ok (.iload 5, 2) := by decide +kernel
theorem d_17_31 : decode jdk_52_method_26_code 31 = .ok (.invokestatic 71, 3) := by decide +kernel
theorem d_17_34 : decode jdk_52_method_26_code 34 = .ok (.castore, 1) := by decide +kernel
theorem d_17_35 : decode jdk_52_method_26_code 35 = .ok (.iinc 5 1, 3) := by decide +kernel
theorem d_17_38 : decode jdk_52_method_26_code 38 = .ok (.goto (-22), 3) := by decide +kernel
set_option maxRecDepth 65536 in
set_option maxHeartbeats 40000000 in
theorem rm_gch (l : Launch) (Z : State) (a0 : Array Value) (hw : ∀ d ∈ tables_1, d.before a0 Z = true) (a1 a2 : Addr) (ka kb : ClassId) (cs : List Int32) (vs : List Value) (fm : Value) (h0 : Heap) (V_a1 : Arv Z h0 a1 ka .byte (Int32.ofNat (2 * cs.length)) (StrChars.Road.wideBytes cs) (.int (0 : Int32))) (hle8 : cs.length ≤ 8) (hp1 : 1 ≤ cs.length) (hbr : ∀ c ∈ cs, ¬ c < 0 ∧ ¬ (65535 : Int32) < c) (V_a2 : Arv Z h0 a2 kb .char (Int32.ofNat cs.length) vs (.int (0 : Int32))) (hv : vs.length = cs.length) (hne : a1 ≠ a2) (Z_ad : Sta Z h0 "java/lang/StringUTF16" "$assertionsDisabled" "Z" (.int (1 : Int32))) (Z_hs : Sta Z h0 "java/lang/StringUTF16" "HI_BYTE_SHIFT" "I" (.int (0 : Int32))) (Z_ls : Sta Z h0 "java/lang/StringUTF16" "LO_BYTE_SHIFT" "I" (.int (8 : Int32))) (Z_fm : Sta Z h0 "jdk/internal/util/Preconditions" "SIOOBE_FORMATTER" "Ljava/util/function/BiFunction;" fm) (hfm : fm.isRef = true) :
    MeetsW l Z (⟨"java/lang/StringUTF16", "getChars", "([BII[CI)V"⟩ : MethodName) jdk_52_method_26_code 6 none ({ frames := 3, cells := 0, slots := 0, locals := 43 } : Room) #[(.ref a1), (.int (0 : Int32)), (.int (Int32.ofNat cs.length)), (.ref a2), (.int (0 : Int32))] h0 (fun v h L => v = none ∧ Mv h0 h [a2] L ∧ Arv Z h a2 kb .char (Int32.ofNat cs.length) (cs.map Value.int) (.int (0 : Int32))) := by
  refine MeetsW.of (plainFor_of_name pn_java_lang_StringUTF16) ?_
  intro p e s m below meth c s₁ P hx hby hml hZ hown hnm hret hlk X0 e0 K
  have M0 : Mv h0 h0 [a2] [] := Mv.refl _ _
  refine Go.cast (ef_rm_gch m a1 (0 : Int32) (Int32.ofNat cs.length) a2 (0 : Int32) ) ?_
  have hl : cs.length ≤ 4000 := by omega
  refine Go.of (T' := s₁) (f' := (mkF m 1 #[sR a1, sI 0, sI (Int32.ofNat cs.length), sR a2, sI 0, .unset] [(.int (0 : Int32))])) (fun _ k => XS.iloadN X0.here hx rfl (hb hby d_17_0) rfl k) ?_
  refine Go.of (T' := s₁) (f' := (mkF m 2 #[sR a1, sI 0, sI (Int32.ofNat cs.length), sR a2, sI 0, .unset] [(.int (Int32.ofNat cs.length)), (.int (0 : Int32))])) (fun _ k => XS.iloadN X0.here hx rfl (hb hby d_17_1) rfl k) ?_
  have hc2 : (0 : Int32) < (Int32.ofNat cs.length) := (ltN (i := 0) (by omega) (by omega)).mpr hp1
  refine Go.of (T' := s₁) (f' := (mkF m 5 #[sR a1, sI 0, sI (Int32.ofNat cs.length), sR a2, sI 0, .unset] [])) (fun _ k => XS.icmpNo X0.here hx rfl (hb hby d_17_2) rfl (tlt hc2).2.1 k) ?_
  refine Go.of (T' := s₁) (f' := (mkF m 6 #[sR a1, sI 0, sI (Int32.ofNat cs.length), sR a2, sI 0, .unset] [(.int (0 : Int32))])) (fun _ k => XS.iloadN X0.here hx rfl (hb hby d_17_5) rfl k) ?_
  refine Go.of (T' := s₁) (f' := (mkF m 7 #[sR a1, sI 0, sI (Int32.ofNat cs.length), sR a2, sI 0, .unset] [(.int (Int32.ofNat cs.length)), (.int (0 : Int32))])) (fun _ k => XS.iloadN X0.here hx rfl (hb hby d_17_6) rfl k) ?_
  refine Go.of (T' := s₁) (f' := (mkF m 8 #[sR a1, sI 0, sI (Int32.ofNat cs.length), sR a2, sI 0, .unset] [(.int (0 : Int32)), (.int (Int32.ofNat cs.length)), (.int (0 : Int32))])) (fun _ k => XS.iloadN X0.here hx rfl (hb hby d_17_7) rfl k) ?_
  refine Go.of (T' := s₁) (f' := (mkF m 9 #[sR a1, sI 0, sI (Int32.ofNat cs.length), sR a2, sI 0, .unset] [(.int ((Int32.ofNat cs.length) - (0 : Int32))), (.int (0 : Int32))])) (fun _ k => XS.isub X0.here hx rfl (hb hby d_17_8) rfl k) ?_
  rw [Int32.sub_zero]
  show Go p e below P s₁ (mkF m 9 #[sR a1, sI 0, sI (Int32.ofNat cs.length), sR a2, sI 0, .unset] [(.int (Int32.ofNat cs.length)), (.int (0 : Int32))])
  refine Go.of (T' := s₁) (f' := (mkF m 10 #[sR a1, sI 0, sI (Int32.ofNat cs.length), sR a2, sI 0, .unset] [(.ref a1), (.int (Int32.ofNat cs.length)), (.int (0 : Int32))])) (fun _ k => XS.aloadN X0.here hx rfl (hb hby d_17_9) rfl rfl k) ?_
  refine goS X0 hx hZ hown (hw _ (List.mem_of_getElem? (i := 164) rfl)) (hw _ (List.mem_of_getElem? (i := 165) rfl)) (hw _ (List.mem_of_getElem? (i := 24) rfl)) (hw _ (List.mem_of_getElem? (i := 166) rfl)) (by decide) (C := 0) (S := 0) ((rm_cboU l Z a0 hw a1 ka cs (cs.length) fm h0 V_a1 hle8 hp1 hbr (by omega) Z_fm hfm).bk (W := 0) hZ (hw _ (List.mem_of_getElem? (i := 166) rfl)) (hw _ (List.mem_of_getElem? (i := 24) rfl)) (by decide) (by decide)) e0 (argsL := [(.int (0 : Int32)), (.int (Int32.ofNat cs.length)), (.ref a1)]) (rest := []) (by rw [hml]; rfl) (lenOf pd__II_B_V rfl) rfl rfl (hb hby d_17_10) (Nat.le_of_eq rfl) (by decide) (by decide) ?_
  intro v1 T1 L1 X1 hQ1
  obtain ⟨nq1, e1, rfl⟩ := hQ1
  replace X1 := standNil X1 nq1
  show Go p e below P T1 (mkF m 13 #[sR a1, sI 0, sI (Int32.ofNat cs.length), sR a2, sI 0, .unset] [])
  refine Go.of (T' := T1) (f' := (mkF m 14 #[sR a1, sI 0, sI (Int32.ofNat cs.length), sR a2, sI 0, .unset] [(.int (0 : Int32))])) (fun _ k => XS.iloadN X1.here hx rfl (hb hby d_17_13) rfl k) ?_
  refine Go.of (T' := T1) (f' := (mkF m 16 #[sR a1, sI 0, sI (Int32.ofNat cs.length), sR a2, sI 0, sI 0] [])) (fun _ k => XS.istore X1.here hx rfl (hb hby d_17_14) rfl (l' := #[sR a1, sI 0, sI (Int32.ofNat cs.length), sR a2, sI 0, sI 0]) rfl k) ?_
  show Go p e below P T1 (mkF m 16 #[sR a1, sI 0, sI (Int32.ofNat cs.length), sR a2, sI (Int32.ofNat 0), sI (Int32.ofNat 0)] [])
  have J : ∀ (n : Nat) (i : Nat) (vs : List Value) (Tj : State) (hj : Heap) (Lj : List Loc), cs.length ≤ i + n → i ≤ cs.length → (WC vs cs i) → Stand p l e ({ frames := 3, cells := 0, slots := 0, locals := 43 } : Room) s m #[(.ref a1), (.int (0 : Int32)), (.int (Int32.ofNat cs.length)), (.ref a2), (.int (0 : Int32))] below meth c Tj Lj 0 0 → Tj.heap = hj → Mv h0 hj [a2] Lj → Arv Z hj a1 ka (.byte) (Int32.ofNat (2 * cs.length)) (StrChars.Road.wideBytes cs) (.int (0 : Int32)) → Arv Z hj a2 kb (.char) (Int32.ofNat cs.length) vs (.int (0 : Int32)) → Sta Z hj "java/lang/StringUTF16" "$assertionsDisabled" "Z" (.int (1 : Int32)) → Sta Z hj "java/lang/StringUTF16" "HI_BYTE_SHIFT" "I" (.int (0 : Int32)) → Sta Z hj "java/lang/StringUTF16" "LO_BYTE_SHIFT" "I" (.int (8 : Int32)) → Go p e below P Tj (mkF m 16 #[sR a1, sI 0, sI (Int32.ofNat cs.length), sR a2, sI (Int32.ofNat i), sI (Int32.ofNat i)] []) := by
    intro n
    induction n with
    | zero =>
      intro i vs Tj hj Lj hle hi1 hwc Xj ej Mj V_a1 V_a2 Z_ad Z_hs Z_ls
      refine Go.of (T' := Tj) (f' := (mkF m 18 #[sR a1, sI 0, sI (Int32.ofNat cs.length), sR a2, sI (Int32.ofNat i), sI (Int32.ofNat i)] [(.int (Int32.ofNat i))])) (fun _ k => XS.iload Xj.here hx rfl (hb hby d_17_16) rfl k) ?_
      refine Go.of (T' := Tj) (f' := (mkF m 19 #[sR a1, sI 0, sI (Int32.ofNat cs.length), sR a2, sI (Int32.ofNat i), sI (Int32.ofNat i)] [(.int (Int32.ofNat cs.length)), (.int (Int32.ofNat i))])) (fun _ k => XS.iloadN Xj.here hx rfl (hb hby d_17_18) rfl k) ?_
      have hc19 : ¬ ((Int32.ofNat i) < (Int32.ofNat cs.length)) := fun q => by have q := (ltN (by omega) (by omega)).mp q; omega
      refine Go.of (T' := Tj) (f' := (mkF m 41 #[sR a1, sI 0, sI (Int32.ofNat cs.length), sR a2, sI (Int32.ofNat i), sI (Int32.ofNat i)] [])) (fun _ k => XS.icmpYes Xj.here hx rfl (pc0 := 19) (pc' := 41) rfl (hb hby d_17_19) rfl (flt hc19).2.1 (by decide) (by decide) k) ?_
      exact goRet0 (Q := fun v h L => v = none ∧ Mv h0 h [a2] L ∧ Arv Z h a2 kb .char (Int32.ofNat cs.length) (cs.map Value.int) (.int (0 : Int32))) Xj hx hret hlk (hb hby d_17_41) K (by decide) (by decide) ej (⟨rfl, Mj, (wcEnd hwc (by first | exact Nat.le_of_not_lt fun q => hc19 ((ltN (by omega) (by omega)).mpr q) | omega)) ▸ V_a2⟩)
    | succ n ih =>
      intro i vs Tj hj Lj hle hi1 hwc Xj ej Mj V_a1 V_a2 Z_ad Z_hs Z_ls
      refine Go.of (T' := Tj) (f' := (mkF m 18 #[sR a1, sI 0, sI (Int32.ofNat cs.length), sR a2, sI (Int32.ofNat i), sI (Int32.ofNat i)] [(.int (Int32.ofNat i))])) (fun _ k => XS.iload Xj.here hx rfl (hb hby d_17_16) rfl k) ?_
      refine Go.of (T' := Tj) (f' := (mkF m 19 #[sR a1, sI 0, sI (Int32.ofNat cs.length), sR a2, sI (Int32.ofNat i), sI (Int32.ofNat i)] [(.int (Int32.ofNat cs.length)), (.int (Int32.ofNat i))])) (fun _ k => XS.iloadN Xj.here hx rfl (hb hby d_17_18) rfl k) ?_
      by_cases hc19 : (Int32.ofNat i) < (Int32.ofNat cs.length)
      ·
        refine Go.of (T' := Tj) (f' := (mkF m 22 #[sR a1, sI 0, sI (Int32.ofNat cs.length), sR a2, sI (Int32.ofNat i), sI (Int32.ofNat i)] [])) (fun _ k => XS.icmpNo Xj.here hx rfl (hb hby d_17_19) rfl (tlt hc19).2.1 k) ?_
        have hi : i < cs.length := (ltN (by omega) (by omega)).mp hc19
        refine Go.of (T' := Tj) (f' := (mkF m 23 #[sR a1, sI 0, sI (Int32.ofNat cs.length), sR a2, sI (Int32.ofNat i), sI (Int32.ofNat i)] [(.ref a2)])) (fun _ k => XS.aloadN Xj.here hx rfl (hb hby d_17_22) rfl rfl k) ?_
        refine Go.of (T' := Tj) (f' := (mkF m 25 #[sR a1, sI 0, sI (Int32.ofNat cs.length), sR a2, sI (Int32.ofNat i), sI (Int32.ofNat i)] [(.int (Int32.ofNat i)), (.ref a2)])) (fun _ k => XS.iload Xj.here hx rfl (hb hby d_17_23) rfl k) ?_
        refine Go.of (T' := Tj) (f' := (mkF m 28 #[sR a1, sI 0, sI (Int32.ofNat cs.length), sR a2, sI ((Int32.ofNat i) + (1 : Int32)), sI (Int32.ofNat i)] [(.int (Int32.ofNat i)), (.ref a2)])) (fun _ k => XS.iinc Xj.here hx rfl (hb hby d_17_25) rfl (l' := #[sR a1, sI 0, sI (Int32.ofNat cs.length), sR a2, sI ((Int32.ofNat i) + (1 : Int32)), sI (Int32.ofNat i)]) rfl k) ?_
        refine Go.of (T' := Tj) (f' := (mkF m 29 #[sR a1, sI 0, sI (Int32.ofNat cs.length), sR a2, sI ((Int32.ofNat i) + (1 : Int32)), sI (Int32.ofNat i)] [(.ref a1), (.int (Int32.ofNat i)), (.ref a2)])) (fun _ k => XS.aloadN Xj.here hx rfl (hb hby d_17_28) rfl rfl k) ?_
        refine Go.of (T' := Tj) (f' := (mkF m 31 #[sR a1, sI 0, sI (Int32.ofNat cs.length), sR a2, sI ((Int32.ofNat i) + (1 : Int32)), sI (Int32.ofNat i)] [(.int (Int32.ofNat i)), (.ref a1), (.int (Int32.ofNat i)), (.ref a2)])) (fun _ k => XS.iload Xj.here hx rfl (hb hby d_17_29) rfl k) ?_
        refine goS Xj hx hZ hown (hw _ (List.mem_of_getElem? (i := 155) rfl)) (hw _ (List.mem_of_getElem? (i := 156) rfl)) (hw _ (List.mem_of_getElem? (i := 24) rfl)) (hw _ (List.mem_of_getElem? (i := 157) rfl)) (by decide) (C := 0) (S := 0) ((rm_getChar l Z a0 hw a1 ka cs i hj V_a1 hl hi hbr Z_ad Z_hs Z_ls).bk (W := 2) hZ (hw _ (List.mem_of_getElem? (i := 157) rfl)) (hw _ (List.mem_of_getElem? (i := 24) rfl)) (by decide) (by decide)) ej (argsL := [(.ref a1), (.int (Int32.ofNat i))]) (rest := [(.int (Int32.ofNat i)), (.ref a2)]) (by rw [hml]; rfl) (lenOf pd___BI_C rfl) rfl rfl (hb hby d_17_31) (Nat.le_of_eq rfl) (by decide) (by decide) ?_
        intro v2 T2 L2 X2 hQ2
        obtain ⟨nq2, e2, rfl⟩ := hQ2
        replace X2 := standNil X2 nq2
        show Go p e below P T2 (mkF m 34 #[sR a1, sI 0, sI (Int32.ofNat cs.length), sR a2, sI ((Int32.ofNat i) + (1 : Int32)), sI (Int32.ofNat i)] [(.int (cs.getD i 0)), (.int (Int32.ofNat i)), (.ref a2)])
        obtain ⟨cl3, Ar3, cq3, Sz3, Nn3, Hs3, Gs3⟩ := id V_a2
        have hin3 : ¬ ((Int32.ofNat i) < 0 ∨ cl3.slots.size ≤ ((Int32.ofNat i)).toNatClampNeg) := by rw [inbS Sz3 (m := cs.length) (nat32 (by omega))]; exact ⟨nneg (by omega), by rw [nat32 (by omega)]; omega⟩
        obtain ⟨T3, h3, X3, e3, W3, st3⟩ := stC X2 hx hZ e2 Ar3 (j := (Int32.ofNat i)) hin3 (g := (mkF m 34 #[sR a1, sI 0, sI (Int32.ofNat cs.length), sR a2, sI ((Int32.ofNat i) + (1 : Int32)), sI (Int32.ofNat i)] [(.int (cs.getD i 0)), (.int (Int32.ofNat i)), (.ref a2)])) rfl rfl (hb hby d_17_34)
        have fq3 : fits .char (.int (nar .char (cs.getD i 0))) = true := fits_nar_char _
        rw [show nar .char (cs.getD i 0) = (cs.getD i 0) from nar_rng (memD hbr hi)] at W3 fq3
        have V3 := Arv.set Ar3 cq3 Sz3 Nn3 Hs3 Gs3 fq3 W3 (i) (nat32 (by omega)) (by have := hwc.1; omega)
        have V_a2_o := V_a2
        have K3 := Keep.of_wr W3
        have M3 := Mj.wr W3 (Or.inl (List.mem_of_getElem? (i := 0) rfl))
        replace V_a1 := V_a1.keep K3 (ninS hne nin0)
        replace Z_ad := StaKeep Z_ad K3 (allS (staArv V_a2_o) all0)
        replace Z_hs := StaKeep Z_hs K3 (allS (staArv V_a2_o) all0)
        replace Z_ls := StaKeep Z_ls K3 (allS (staArv V_a2_o) all0)
        replace V_a2 := V3
        refine Go.of (T' := T3) (f' := (mkF m 35 #[sR a1, sI 0, sI (Int32.ofNat cs.length), sR a2, sI ((Int32.ofNat i) + (1 : Int32)), sI (Int32.ofNat i)] [])) st3 ?_
        refine Go.of (T' := T3) (f' := (mkF m 38 #[sR a1, sI 0, sI (Int32.ofNat cs.length), sR a2, sI ((Int32.ofNat i) + (1 : Int32)), sI ((Int32.ofNat i) + (1 : Int32))] [])) (fun _ k => XS.iinc X3.here hx rfl (hb hby d_17_35) rfl (l' := #[sR a1, sI 0, sI (Int32.ofNat cs.length), sR a2, sI ((Int32.ofNat i) + (1 : Int32)), sI ((Int32.ofNat i) + (1 : Int32))]) rfl k) ?_
        refine Go.of (T' := T3) (f' := (mkF m 16 #[sR a1, sI 0, sI (Int32.ofNat cs.length), sR a2, sI ((Int32.ofNat i) + (1 : Int32)), sI ((Int32.ofNat i) + (1 : Int32))] [])) (fun _ k => XS.goto X3.here hx rfl (pc0 := 38) (pc' := 16) rfl (hb hby d_17_38) (by decide) (by decide) k) ?_
        rw [show (Int32.ofNat i) + (1 : Int32) = Int32.ofNat (i + 1) from (Int32.ofNat_add _ _).symm]
        exact ih (i + 1) _ T3 h3 _ (by omega) hi (wcStep hwc hi) (standUp X3 (by decide) (by decide)) e3 M3 V_a1 V_a2 Z_ad Z_hs Z_ls
      ·
        refine Go.of (T' := Tj) (f' := (mkF m 41 #[sR a1, sI 0, sI (Int32.ofNat cs.length), sR a2, sI (Int32.ofNat i), sI (Int32.ofNat i)] [])) (fun _ k => XS.icmpYes Xj.here hx rfl (pc0 := 19) (pc' := 41) rfl (hb hby d_17_19) rfl (flt hc19).2.1 (by decide) (by decide) k) ?_
        exact goRet0 (Q := fun v h L => v = none ∧ Mv h0 h [a2] L ∧ Arv Z h a2 kb .char (Int32.ofNat cs.length) (cs.map Value.int) (.int (0 : Int32))) Xj hx hret hlk (hb hby d_17_41) K (by decide) (by decide) ej (⟨rfl, Mj, (wcEnd hwc (by first | exact Nat.le_of_not_lt fun q => hc19 ((ltN (by omega) (by omega)).mpr q) | omega)) ▸ V_a2⟩)
  exact J cs.length 0 _ T1 h0 _ (by omega) (by omega) (wc0 cs _ hv) (standUp X1 (by decide) (by decide)) e1 M0 V_a1 V_a2 Z_ad Z_hs Z_ls
theorem ef_rm_tcU (m : MethodId) (x0 : Addr)  : entryFrame m #[(.ref x0)] 2 = mkF m 0 #[.val (.ref x0), .unset] [] := by first | (simp [entryFrame, mkF, argsToLocals, Value.category]; done) | rfl
theorem d_18_0 : decode jdk_52_method_13_code 0 = .ok (.aload_n 0, 1) := by decide +kernel
theorem d_18_1 : decode jdk_52_method_13_code 1 = .ok (.arraylength, 1) := by decide +kernel
theorem d_18_2 : decode jdk_52_method_13_code 2 = .ok (.iconst 1, 1) := by decide +kernel
theorem d_18_3 : decode jdk_52_method_13_code 3 = .ok (.ishr, 1) := by decide +kernel
theorem d_18_4 : decode jdk_52_method_13_code 4 = .ok (.newarray .char, 2) := by decide +kernel
theorem d_18_6 : decode jdk_52_method_13_code 6 = .ok (.astore_n 1, 1) := by decide +kernel
theorem d_18_7 : decode jdk_52_method_13_code 7 = .ok (.aload_n 0, 1) := by decide +kernel
theorem d_18_8 : decode jdk_52_method_13_code 8 = .ok (.iconst 0, 1) := by decide +kernel
theorem d_18_9 : decode jdk_52_method_13_code 9 = .ok (.aload_n 1, 1) := by decide +kernel
theorem d_18_10 : decode jdk_52_method_13_code 10 = .ok (.arraylength, 1) := by decide +kernel
theorem d_18_11 : decode jdk_52_method_13_code 11 = .ok (.aload_n 1, 1) := by decide +kernel
theorem d_18_12 : decode jdk_52_method_13_code 12 = .ok (.iconst 0, 1) := by decide +kernel
theorem d_18_13 : decode jdk_52_method_13_code 13 = .ok (.invokestatic 103, 3) := by decide +kernel
theorem pd___BII_CI_V : parseMethodDescriptor "([BII[CI)V" = some ⟨[(.array .byte), .int, .int, (.array .char), .int], none⟩ := by decide +kernel
theorem d_18_16 : decode jdk_52_method_13_code 16 = .ok (.aload_n 1, 1) := by decide +kernel
theorem d_18_17 : decode jdk_52_method_13_code 17 = .ok (.areturn, 1) := by decide +kernel
set_option maxRecDepth 65536 in
set_option maxHeartbeats 40000000 in
theorem rm_tcU (l : Launch) (Z : State) (a0 : Array Value) (hw : ∀ d ∈ tables_1, d.before a0 Z = true) (a1 : Addr) (ka : ClassId) (cs : List Int32) (fm : Value) (h0 : Heap) (V_a1 : Arv Z h0 a1 ka .byte (Int32.ofNat (2 * cs.length)) (StrChars.Road.wideBytes cs) (.int (0 : Int32))) (hle8 : cs.length ≤ 8) (hp1 : 1 ≤ cs.length) (hbr : ∀ c ∈ cs, ¬ c < 0 ∧ ¬ (65535 : Int32) < c) (Z_ad : Sta Z h0 "java/lang/StringUTF16" "$assertionsDisabled" "Z" (.int (1 : Int32))) (Z_hs : Sta Z h0 "java/lang/StringUTF16" "HI_BYTE_SHIFT" "I" (.int (0 : Int32))) (Z_ls : Sta Z h0 "java/lang/StringUTF16" "LO_BYTE_SHIFT" "I" (.int (8 : Int32))) (Z_fm : Sta Z h0 "jdk/internal/util/Preconditions" "SIOOBE_FORMATTER" "Ljava/util/function/BiFunction;" fm) (hfm : fm.isRef = true) :
    MeetsW l Z (⟨"java/lang/StringUTF16", "toChars", "([B)[C"⟩ : MethodName) jdk_52_method_13_code 2 (some (.array .char)) ({ frames := 4, cells := 1, slots := 8, locals := 60 } : Room) #[(.ref a1)] h0 (fun v h L => Mv h0 h [] L ∧ ∃ (b : Addr) (k : ClassId), v = some (.ref b) ∧ h0.size ≤ b ∧ Arv Z h b k .char (Int32.ofNat cs.length) (cs.map Value.int) (.int (0 : Int32))) := by
  refine MeetsW.of (plainFor_of_name pn_java_lang_StringUTF16) ?_
  intro p e s m below meth c s₁ P hx hby hml hZ hown hnm hret hlk X0 e0 K
  have M0 : Mv h0 h0 [] [] := Mv.refl _ _
  refine Go.cast (ef_rm_tcU m a1 ) ?_
  refine Go.of (T' := s₁) (f' := (mkF m 1 #[sR a1, .unset] [(.ref a1)])) (fun _ k => XS.aloadN X0.here hx rfl (hb hby d_18_0) rfl rfl k) ?_
  obtain ⟨cl1, Ar1, -, Sz1, Nn1, -, -⟩ := id V_a1
  refine Go.of (T' := s₁) (f' := (mkF m 2 #[sR a1, .unset] [(.int (Int32.ofNat (2 * cs.length)))])) (fun _ k => X0.arraylength hx (by rw [e0]; exact Ar1.1) (State.isArrayOf_alike hZ.alike Ar1.2.1) (g := (mkF m 1 #[sR a1, .unset] [(.ref a1)])) rfl rfl (hb hby d_18_1) _ (by rw [len_of Sz1 Nn1]; exact k)) ?_
  refine Go.of (T' := s₁) (f' := (mkF m 3 #[sR a1, .unset] [(.int (1 : Int32)), (.int (Int32.ofNat (2 * cs.length)))])) (fun _ k => XS.iconst X0.here hx rfl (hb hby d_18_2) k) ?_
  refine Go.of (T' := s₁) (f' := (mkF m 4 #[sR a1, .unset] [(.int ((Int32.ofNat (2 * cs.length)) >>> ((1 : Int32) &&& 31)))])) (fun _ k => XS.ishr X0.here hx rfl (hb hby d_18_3) rfl k) ?_
  rw [sr1 (by omega)]
  show Go p e below P s₁ (mkF m 4 #[sR a1, .unset] [(.int (Int32.ofNat cs.length))])
  obtain ⟨T2, h2, k2, X2, e2, E2, A2, st2⟩ := newP X0 hx hZ (hw _ (List.mem_of_getElem? (i := 4) rfl)) e0 (g := (mkF m 4 #[sR a1, .unset] [(.int (Int32.ofNat cs.length))])) rfl (hb hby d_18_4) rfl (nneg (by omega)) (cap := 8) (by rw [nat32 (by omega)]; omega) (by decide) (by decide) (by decide)
  obtain ⟨b2, g2⟩ : ∃ z, z = h0.size := ⟨_, rfl⟩
  rw [← g2] at A2 st2
  have ne_a1_b2 : a1 ≠ b2 := Nat.ne_of_lt (Nat.lt_of_lt_of_le V_a1.lt (Nat.le_of_eq g2.symm))
  have fr_b2 : h0.size ≤ b2 := Nat.le_trans M0.le (Nat.le_of_eq g2.symm)
  have K2 := keepE E2
  have M2 := M0.ext E2
  replace V_a1 := V_a1.keep K2 nin0
  replace Z_ad := StaKeep Z_ad K2 all0
  replace Z_hs := StaKeep Z_hs K2 all0
  replace Z_ls := StaKeep Z_ls K2 all0
  replace Z_fm := StaKeep Z_fm K2 all0
  have V_b2 : Arv Z h2 b2 k2 .char (Int32.ofNat cs.length) [] (.int (0 : Int32)) := Arv.new A2 (nneg (by omega))
  refine Go.of (T' := T2) (f' := (mkF m 6 #[sR a1, .unset] [(.ref b2)])) st2 ?_
  refine Go.of (T' := T2) (f' := (mkF m 7 #[sR a1, sR b2] [])) (fun _ k => XS.astoreN X2.here hx rfl (hb hby d_18_6) rfl rfl (l' := #[sR a1, sR b2]) rfl k) ?_
  refine Go.of (T' := T2) (f' := (mkF m 8 #[sR a1, sR b2] [(.ref a1)])) (fun _ k => XS.aloadN X2.here hx rfl (hb hby d_18_7) rfl rfl k) ?_
  refine Go.of (T' := T2) (f' := (mkF m 9 #[sR a1, sR b2] [(.int (0 : Int32)), (.ref a1)])) (fun _ k => XS.iconst X2.here hx rfl (hb hby d_18_8) k) ?_
  refine Go.of (T' := T2) (f' := (mkF m 10 #[sR a1, sR b2] [(.ref b2), (.int (0 : Int32)), (.ref a1)])) (fun _ k => XS.aloadN X2.here hx rfl (hb hby d_18_9) rfl rfl k) ?_
  obtain ⟨cl3, Ar3, -, Sz3, Nn3, -, -⟩ := id V_b2
  refine Go.of (T' := T2) (f' := (mkF m 11 #[sR a1, sR b2] [(.int (Int32.ofNat cs.length)), (.int (0 : Int32)), (.ref a1)])) (fun _ k => X2.arraylength hx (by rw [e2]; exact Ar3.1) (State.isArrayOf_alike hZ.alike Ar3.2.1) (g := (mkF m 10 #[sR a1, sR b2] [(.ref b2), (.int (0 : Int32)), (.ref a1)])) rfl rfl (hb hby d_18_10) _ (by rw [len_of Sz3 Nn3]; exact k)) ?_
  refine Go.of (T' := T2) (f' := (mkF m 12 #[sR a1, sR b2] [(.ref b2), (.int (Int32.ofNat cs.length)), (.int (0 : Int32)), (.ref a1)])) (fun _ k => XS.aloadN X2.here hx rfl (hb hby d_18_11) rfl rfl k) ?_
  refine Go.of (T' := T2) (f' := (mkF m 13 #[sR a1, sR b2] [(.int (0 : Int32)), (.ref b2), (.int (Int32.ofNat cs.length)), (.int (0 : Int32)), (.ref a1)])) (fun _ k => XS.iconst X2.here hx rfl (hb hby d_18_12) k) ?_
  refine goS X2 hx hZ hown (hw _ (List.mem_of_getElem? (i := 161) rfl)) (hw _ (List.mem_of_getElem? (i := 162) rfl)) (hw _ (List.mem_of_getElem? (i := 24) rfl)) (hw _ (List.mem_of_getElem? (i := 163) rfl)) (by decide) (C := 0) (S := 0) ((rm_gch l Z a0 hw a1 b2 ka k2 cs _ fm h2 V_a1 hle8 hp1 hbr (V_b2.pad (pad_rep [] _ cs.length)) (by simp) ne_a1_b2 Z_ad Z_hs Z_ls Z_fm hfm).bk (W := 0) hZ (hw _ (List.mem_of_getElem? (i := 163) rfl)) (hw _ (List.mem_of_getElem? (i := 24) rfl)) (by decide) (by decide)) e2 (argsL := [(.ref a1), (.int (0 : Int32)), (.int (Int32.ofNat cs.length)), (.ref b2), (.int (0 : Int32))]) (rest := []) (by rw [hml]; rfl) (lenOf pd___BII_CI_V rfl) rfl rfl (hb hby d_18_13) (Nat.le_of_eq rfl) (by decide) (by decide) ?_
  intro v4 T4 L4 X4 hQ4
  obtain ⟨h4, e4⟩ : ∃ z, T4.heap = z := ⟨_, rfl⟩
  rw [e4] at hQ4
  have V_b2_o := V_b2
  obtain ⟨rfl, Mc4, Vc4⟩ := hQ4
  have M4 := M2.app Mc4 (allS (Or.inr fr_b2) all0)
  replace V_a1 := V_a1.keep Mc4.1 (ninS ne_a1_b2 nin0)
  replace Z_ad := StaKeep Z_ad Mc4.1 (allS (staArv V_b2_o) all0)
  replace Z_hs := StaKeep Z_hs Mc4.1 (allS (staArv V_b2_o) all0)
  replace Z_ls := StaKeep Z_ls Mc4.1 (allS (staArv V_b2_o) all0)
  replace Z_fm := StaKeep Z_fm Mc4.1 (allS (staArv V_b2_o) all0)
  replace V_b2 := Vc4
  show Go p e below P T4 (mkF m 16 #[sR a1, sR b2] [])
  refine Go.of (T' := T4) (f' := (mkF m 17 #[sR a1, sR b2] [(.ref b2)])) (fun _ k => XS.aloadN X4.here hx rfl (hb hby d_18_16) rfl rfl k) ?_
  exact goRetR (Q := fun v h L => Mv h0 h [] L ∧ ∃ (b : Addr) (k : ClassId), v = some (.ref b) ∧ h0.size ≤ b ∧ Arv Z h b k .char (Int32.ofNat cs.length) (cs.map Value.int) (.int (0 : Int32))) X4 hx hret rfl hlk rfl rfl (hb hby d_18_17) K (by decide) (by decide) e4 (⟨M4, b2, _, rfl, fr_b2, V_b2⟩)
theorem ef_rm_isL0 (m : MethodId) (x0 : Addr)  : entryFrame m #[(.ref x0)] 1 = mkF m 0 #[.val (.ref x0)] [] := by first | (simp [entryFrame, mkF, argsToLocals, Value.category]; done) | rfl
theorem d_2_13 : decode jdk_42_method_154_code 13 = .ok (.iconst 1, 1) := by decide +kernel
theorem d_2_14 : decode jdk_42_method_154_code 14 = .ok (.goto 4, 3) := by decide +kernel
set_option maxRecDepth 65536 in
set_option maxHeartbeats 40000000 in
theorem rm_isL0 (l : Launch) (Z : State) (a0 : Array Value) (hw : ∀ d ∈ tables_1, d.before a0 Z = true) (a1 : Addr) (zc : Int32) (h0 : Heap) (F_coder : Fld Z h0 a1 "java/lang/String" "coder" "B" (.int (0 : Int32))) (Z_cs : Sta Z h0 "java/lang/String" "COMPACT_STRINGS" "Z" (.int zc)) (hz : ¬ zc = 0) :
    MeetsW l Z (⟨"java/lang/String", "isLatin1", "()Z"⟩ : MethodName) jdk_42_method_154_code 1 (some .boolean) ({ frames := 0, cells := 0, slots := 0, locals := 0 } : Room) #[(.ref a1)] h0 (Pu h0 (fun v => v = some (.int 1))) := by
  refine MeetsW.of (plainFor_of_name pn_java_lang_String) ?_
  intro p e s m below meth c s₁ P hx hby hml hZ hown hnm hret hlk X0 e0 K
  have M0 : Mv h0 h0 [] [] := Mv.refl _ _
  refine Go.cast (ef_rm_isL0 m a1 ) ?_
  obtain ⟨T1, X1, e1, st1⟩ := getS2 X0 hx hZ hown (host := "") (Or.inl (hw _ (List.mem_of_getElem? (i := 21) rfl))) Via.refl e0 Z_cs (g := (mkF m 0 #[sR a1] [])) rfl (hb hby d_2_0)
  refine Go.of (T' := T1) (f' := (mkF m 3 #[sR a1] [(.int zc)])) st1 ?_
  have hc3 : ¬ (zc = (0 : Int32)) := hz
  refine Go.of (T' := T1) (f' := (mkF m 6 #[sR a1] [])) (fun _ k => XS.ifNo X1.here hx rfl (hb hby d_2_3) rfl ((if0 _ _).trans (feq hc3).1) k) ?_
  refine Go.of (T' := T1) (f' := (mkF m 7 #[sR a1] [(.ref a1)])) (fun _ k => XS.aloadN X1.here hx rfl (hb hby d_2_6) rfl rfl k) ?_
  obtain ⟨T2, X2, e2, st2⟩ := getF X1 hx hZ hown (host := "") (Or.inl (hw _ (List.mem_of_getElem? (i := 33) rfl))) Via.refl e1 F_coder (g := (mkF m 7 #[sR a1] [(.ref a1)])) rfl rfl (hb hby d_2_7)
  refine Go.of (T' := T2) (f' := (mkF m 10 #[sR a1] [(.int (0 : Int32))])) st2 ?_
  refine Go.of (T' := T2) (f' := (mkF m 13 #[sR a1] [])) (fun _ k => XS.ifNo X2.here hx rfl (hb hby d_2_10) rfl (by decide) k) ?_
  refine Go.of (T' := T2) (f' := (mkF m 14 #[sR a1] [(.int (1 : Int32))])) (fun _ k => XS.iconst X2.here hx rfl (hb hby d_2_13) k) ?_
  refine Go.of (T' := T2) (f' := (mkF m 18 #[sR a1] [(.int (1 : Int32))])) (fun _ k => XS.goto X2.here hx rfl (pc0 := 14) (pc' := 18) rfl (hb hby d_2_14) (by decide) (by decide) k) ?_
  exact goRetI (Q := Pu h0 (fun v => v = some (.int 1))) X2 hx (t := .boolean) hret hlk rfl (by simp) (hb hby d_2_18) K (by decide) (by decide) e2 (⟨rfl, rfl, rfl⟩)
theorem ef_rm_tca0 (m : MethodId) (x0 : Addr)  : entryFrame m #[(.ref x0)] 1 = mkF m 0 #[.val (.ref x0)] [] := by first | (simp [entryFrame, mkF, argsToLocals, Value.category]; done) | rfl
theorem d_19_0 : decode jdk_42_method_129_code 0 = .ok (.aload_n 0, 1) := by decide +kernel
theorem d_19_1 : decode jdk_42_method_129_code 1 = .ok (.invokevirtual 492, 3) := by decide +kernel
theorem pd___Z : parseMethodDescriptor "()Z" = some ⟨[], some .boolean⟩ := by decide +kernel
theorem d_19_4 : decode jdk_42_method_129_code 4 = .ok (.ifCond .eq 13, 3) := by decide +kernel
theorem d_19_7 : decode jdk_42_method_129_code 7 = .ok (.aload_n 0, 1) := by decide +kernel
theorem d_19_8 : decode jdk_42_method_129_code 8 = .ok (.getfield 9, 3) := by decide +kernel
theorem d_19_11 : decode jdk_42_method_129_code 11 = .ok (.invokestatic 299, 3) := by decide +kernel
theorem pd___B__C : parseMethodDescriptor "([B)[C" = some ⟨[(.array .byte)], some (.array .char)⟩ := by decide +kernel
theorem d_19_14 : decode jdk_42_method_129_code 14 = .ok (.goto 10, 3) := by decide +kernel
theorem d_19_24 : decode jdk_42_method_129_code 24 = .ok (.areturn, 1) := by decide +kernel
set_option maxRecDepth 65536 in
set_option maxHeartbeats 40000000 in
theorem rm_tca0 (l : Launch) (Z : State) (a0 : Array Value) (hw : ∀ d ∈ tables_1, d.before a0 Z = true) (a0_ a1 : Addr) (ka : ClassId) (cs : List Int32) (zc : Int32) (fm : Value) (h0 : Heap) (E_a0 : Exa Z h0 a0_ "java/lang/String") (F_value : Fld Z h0 a0_ "java/lang/String" "value" "[B" (.ref a1)) (F_coder : Fld Z h0 a0_ "java/lang/String" "coder" "B" (.int (0 : Int32))) (V_a1 : Arv Z h0 a1 ka .byte (Int32.ofNat cs.length) (cs.map fun c => Value.int (StrChars.lo8 c)) (.int (0 : Int32))) (hle8 : cs.length ≤ 8) (hbr : ∀ c ∈ cs, ¬ c < 0 ∧ ¬ (65535 : Int32) < c) (hla : ∀ c ∈ cs, ¬ (255 : Int32) < c) (Z_ad : Sta Z h0 "java/lang/StringUTF16" "$assertionsDisabled" "Z" (.int (1 : Int32))) (Z_hs : Sta Z h0 "java/lang/StringUTF16" "HI_BYTE_SHIFT" "I" (.int (0 : Int32))) (Z_ls : Sta Z h0 "java/lang/StringUTF16" "LO_BYTE_SHIFT" "I" (.int (8 : Int32))) (Z_fm : Sta Z h0 "jdk/internal/util/Preconditions" "SIOOBE_FORMATTER" "Ljava/util/function/BiFunction;" fm) (hfm : fm.isRef = true) (Z_cs : Sta Z h0 "java/lang/String" "COMPACT_STRINGS" "Z" (.int zc)) (hz : ¬ zc = 0) :
    MeetsW l Z (⟨"java/lang/String", "toCharArray", "()[C"⟩ : MethodName) jdk_42_method_129_code 1 (some (.array .char)) ({ frames := 2, cells := 1, slots := 8, locals := 30 } : Room) #[(.ref a0_)] h0 (fun v h L => Mv h0 h [] L ∧ ∃ (b : Addr) (k : ClassId), v = some (.ref b) ∧ h0.size ≤ b ∧ Arv Z h b k .char (Int32.ofNat cs.length) (cs.map Value.int) (.int (0 : Int32))) := by
  refine MeetsW.of (plainFor_of_name pn_java_lang_String) ?_
  intro p e s m below meth c s₁ P hx hby hml hZ hown hnm hret hlk X0 e0 K
  have M0 : Mv h0 h0 [] [] := Mv.refl _ _
  refine Go.cast (ef_rm_tca0 m a0_ ) ?_
  refine Go.of (T' := s₁) (f' := (mkF m 1 #[sR a0_] [(.ref a0_)])) (fun _ k => XS.aloadN X0.here hx rfl (hb hby d_19_0) rfl rfl k) ?_
  refine goV X0 hx hZ (y := (⟨"java/lang/String", "isLatin1", "()Z"⟩ : MethodName)) (z := (⟨"java/lang/String", "isLatin1", "()Z"⟩ : MethodName)) hown (hw _ (List.mem_of_getElem? (i := 51) rfl)) (hw _ (List.mem_of_getElem? (i := 52) rfl)) (notFace_of_selects (args := #[]) (mvT hZ (hw _ (List.mem_of_getElem? (i := 54) rfl)))) (hw _ (List.mem_of_getElem? (i := 54) rfl)) (hw _ (List.mem_of_getElem? (i := 53) rfl)) (by decide) (C := 0) (S := 0) ((rm_isL0 l Z a0 hw a0_ zc h0 F_coder Z_cs hz).bk (W := 0) hZ (hw _ (List.mem_of_getElem? (i := 55) rfl)) (hw _ (List.mem_of_getElem? (i := 10) rfl)) (by decide) (by decide)) e0 E_a0 (argsL := []) (rest := []) (by rw [hml]; rfl) (lenOf pd___Z rfl) rfl rfl (hb hby d_19_1) (Nat.le_of_eq rfl) (by decide) (by decide) ?_
  intro v1 T1 L1 X1 hQ1
  obtain ⟨nq1, e1, rfl⟩ := hQ1
  replace X1 := standNil X1 nq1
  show Go p e below P T1 (mkF m 4 #[sR a0_] [(.int (1 : Int32))])
  refine Go.of (T' := T1) (f' := (mkF m 7 #[sR a0_] [])) (fun _ k => XS.ifNo X1.here hx rfl (hb hby d_19_4) rfl (by decide) k) ?_
  refine Go.of (T' := T1) (f' := (mkF m 8 #[sR a0_] [(.ref a0_)])) (fun _ k => XS.aloadN X1.here hx rfl (hb hby d_19_7) rfl rfl k) ?_
  obtain ⟨T2, X2, e2, st2⟩ := getF X1 hx hZ hown (host := "") (Or.inl (hw _ (List.mem_of_getElem? (i := 35) rfl))) Via.refl e1 F_value (g := (mkF m 8 #[sR a0_] [(.ref a0_)])) rfl rfl (hb hby d_19_8)
  refine Go.of (T' := T2) (f' := (mkF m 11 #[sR a0_] [(.ref a1)])) st2 ?_
  refine goS X2 hx hZ hown (hw _ (List.mem_of_getElem? (i := 56) rfl)) (hw _ (List.mem_of_getElem? (i := 57) rfl)) (hw _ (List.mem_of_getElem? (i := 58) rfl)) (hw _ (List.mem_of_getElem? (i := 59) rfl)) (by decide) (C := 1) (S := 8) ((rm_tcL l Z a0 hw a1 ka cs h0 V_a1 hle8 hbr hla).bk (W := 0) hZ (hw _ (List.mem_of_getElem? (i := 59) rfl)) (hw _ (List.mem_of_getElem? (i := 58) rfl)) (by decide) (by decide)) e2 (argsL := [(.ref a1)]) (rest := []) (by rw [hml]; rfl) (lenOf pd___B__C rfl) rfl rfl (hb hby d_19_11) (Nat.le_of_eq rfl) (by decide) (by decide) ?_
  intro v3 T3 L3 X3 hQ3
  obtain ⟨h3, e3⟩ : ∃ z, T3.heap = z := ⟨_, rfl⟩
  rw [e3] at hQ3
  obtain ⟨Mc3, b3, k3, rfl, le3, V_b3⟩ := hQ3
  have ne_a0__b3 : a0_ ≠ b3 := Nat.ne_of_lt (Nat.lt_of_lt_of_le E_a0.lt le3)
  have ne_a1_b3 : a1 ≠ b3 := Nat.ne_of_lt (Nat.lt_of_lt_of_le V_a1.lt le3)
  have fr_b3 : h0.size ≤ b3 := Nat.le_trans M0.le le3
  have M3 := M0.app0 Mc3
  replace E_a0 := E_a0.keep Mc3.1
  replace F_value := F_value.keep Mc3.1 nin0
  replace F_coder := F_coder.keep Mc3.1 nin0
  replace V_a1 := V_a1.keep Mc3.1 nin0
  replace Z_ad := StaKeep Z_ad Mc3.1 all0
  replace Z_hs := StaKeep Z_hs Mc3.1 all0
  replace Z_ls := StaKeep Z_ls Mc3.1 all0
  replace Z_fm := StaKeep Z_fm Mc3.1 all0
  replace Z_cs := StaKeep Z_cs Mc3.1 all0
  show Go p e below P T3 (mkF m 14 #[sR a0_] [(.ref b3)])
  refine Go.of (T' := T3) (f' := (mkF m 24 #[sR a0_] [(.ref b3)])) (fun _ k => XS.goto X3.here hx rfl (pc0 := 14) (pc' := 24) rfl (hb hby d_19_14) (by decide) (by decide) k) ?_
  exact goRetR (Q := fun v h L => Mv h0 h [] L ∧ ∃ (b : Addr) (k : ClassId), v = some (.ref b) ∧ h0.size ≤ b ∧ Arv Z h b k .char (Int32.ofNat cs.length) (cs.map Value.int) (.int (0 : Int32))) X3 hx hret rfl hlk rfl rfl (hb hby d_19_24) K (by decide) (by decide) e3 (⟨M3, b3, _, rfl, fr_b3, V_b3⟩)
theorem ef_rm_tca1 (m : MethodId) (x0 : Addr)  : entryFrame m #[(.ref x0)] 1 = mkF m 0 #[.val (.ref x0)] [] := by first | (simp [entryFrame, mkF, argsToLocals, Value.category]; done) | rfl
theorem d_19_17 : decode jdk_42_method_129_code 17 = .ok (.aload_n 0, 1) := by decide +kernel
theorem d_19_18 : decode jdk_42_method_129_code 18 = .ok (.getfield 9, 3) := by decide +kernel
theorem d_19_21 : decode jdk_42_method_129_code 21 = .ok (.invokestatic 303, 3) := by decide +kernel
set_option maxRecDepth 65536 in
set_option maxHeartbeats 40000000 in
theorem rm_tca1 (l : Launch) (Z : State) (a0 : Array Value) (hw : ∀ d ∈ tables_1, d.before a0 Z = true) (a0_ a1 : Addr) (ka : ClassId) (cs : List Int32) (zc : Int32) (fm : Value) (h0 : Heap) (E_a0 : Exa Z h0 a0_ "java/lang/String") (F_value : Fld Z h0 a0_ "java/lang/String" "value" "[B" (.ref a1)) (F_coder : Fld Z h0 a0_ "java/lang/String" "coder" "B" (.int (1 : Int32))) (V_a1 : Arv Z h0 a1 ka .byte (Int32.ofNat (2 * cs.length)) (StrChars.Road.wideBytes cs) (.int (0 : Int32))) (hle8 : cs.length ≤ 8) (hp1 : 1 ≤ cs.length) (hbr : ∀ c ∈ cs, ¬ c < 0 ∧ ¬ (65535 : Int32) < c) (Z_ad : Sta Z h0 "java/lang/StringUTF16" "$assertionsDisabled" "Z" (.int (1 : Int32))) (Z_hs : Sta Z h0 "java/lang/StringUTF16" "HI_BYTE_SHIFT" "I" (.int (0 : Int32))) (Z_ls : Sta Z h0 "java/lang/StringUTF16" "LO_BYTE_SHIFT" "I" (.int (8 : Int32))) (Z_fm : Sta Z h0 "jdk/internal/util/Preconditions" "SIOOBE_FORMATTER" "Ljava/util/function/BiFunction;" fm) (hfm : fm.isRef = true) (Z_cs : Sta Z h0 "java/lang/String" "COMPACT_STRINGS" "Z" (.int zc)) (hz : ¬ zc = 0) :
    MeetsW l Z (⟨"java/lang/String", "toCharArray", "()[C"⟩ : MethodName) jdk_42_method_129_code 1 (some (.array .char)) ({ frames := 5, cells := 1, slots := 8, locals := 73 } : Room) #[(.ref a0_)] h0 (fun v h L => Mv h0 h [] L ∧ ∃ (b : Addr) (k : ClassId), v = some (.ref b) ∧ h0.size ≤ b ∧ Arv Z h b k .char (Int32.ofNat cs.length) (cs.map Value.int) (.int (0 : Int32))) := by
  refine MeetsW.of (plainFor_of_name pn_java_lang_String) ?_
  intro p e s m below meth c s₁ P hx hby hml hZ hown hnm hret hlk X0 e0 K
  have M0 : Mv h0 h0 [] [] := Mv.refl _ _
  refine Go.cast (ef_rm_tca1 m a0_ ) ?_
  refine Go.of (T' := s₁) (f' := (mkF m 1 #[sR a0_] [(.ref a0_)])) (fun _ k => XS.aloadN X0.here hx rfl (hb hby d_19_0) rfl rfl k) ?_
  refine goV X0 hx hZ (y := (⟨"java/lang/String", "isLatin1", "()Z"⟩ : MethodName)) (z := (⟨"java/lang/String", "isLatin1", "()Z"⟩ : MethodName)) hown (hw _ (List.mem_of_getElem? (i := 51) rfl)) (hw _ (List.mem_of_getElem? (i := 52) rfl)) (notFace_of_selects (args := #[]) (mvT hZ (hw _ (List.mem_of_getElem? (i := 54) rfl)))) (hw _ (List.mem_of_getElem? (i := 54) rfl)) (hw _ (List.mem_of_getElem? (i := 53) rfl)) (by decide) (C := 0) (S := 0) ((rm_isL l Z a0 hw a0_ zc h0 F_coder Z_cs hz).bk (W := 0) hZ (hw _ (List.mem_of_getElem? (i := 55) rfl)) (hw _ (List.mem_of_getElem? (i := 10) rfl)) (by decide) (by decide)) e0 E_a0 (argsL := []) (rest := []) (by rw [hml]; rfl) (lenOf pd___Z rfl) rfl rfl (hb hby d_19_1) (Nat.le_of_eq rfl) (by decide) (by decide) ?_
  intro v1 T1 L1 X1 hQ1
  obtain ⟨nq1, e1, rfl⟩ := hQ1
  replace X1 := standNil X1 nq1
  show Go p e below P T1 (mkF m 4 #[sR a0_] [(.int (0 : Int32))])
  refine Go.of (T' := T1) (f' := (mkF m 17 #[sR a0_] [])) (fun _ k => XS.ifYes X1.here hx rfl (pc0 := 4) (pc' := 17) rfl (hb hby d_19_4) rfl (by decide) (by decide) (by decide) k) ?_
  refine Go.of (T' := T1) (f' := (mkF m 18 #[sR a0_] [(.ref a0_)])) (fun _ k => XS.aloadN X1.here hx rfl (hb hby d_19_17) rfl rfl k) ?_
  obtain ⟨T2, X2, e2, st2⟩ := getF X1 hx hZ hown (host := "") (Or.inl (hw _ (List.mem_of_getElem? (i := 35) rfl))) Via.refl e1 F_value (g := (mkF m 18 #[sR a0_] [(.ref a0_)])) rfl rfl (hb hby d_19_18)
  refine Go.of (T' := T2) (f' := (mkF m 21 #[sR a0_] [(.ref a1)])) st2 ?_
  refine goS X2 hx hZ hown (hw _ (List.mem_of_getElem? (i := 158) rfl)) (hw _ (List.mem_of_getElem? (i := 159) rfl)) (hw _ (List.mem_of_getElem? (i := 24) rfl)) (hw _ (List.mem_of_getElem? (i := 160) rfl)) (by decide) (C := 1) (S := 8) ((rm_tcU l Z a0 hw a1 ka cs fm h0 V_a1 hle8 hp1 hbr Z_ad Z_hs Z_ls Z_fm hfm).bk (W := 0) hZ (hw _ (List.mem_of_getElem? (i := 160) rfl)) (hw _ (List.mem_of_getElem? (i := 24) rfl)) (by decide) (by decide)) e2 (argsL := [(.ref a1)]) (rest := []) (by rw [hml]; rfl) (lenOf pd___B__C rfl) rfl rfl (hb hby d_19_21) (Nat.le_of_eq rfl) (by decide) (by decide) ?_
  intro v3 T3 L3 X3 hQ3
  obtain ⟨h3, e3⟩ : ∃ z, T3.heap = z := ⟨_, rfl⟩
  rw [e3] at hQ3
  obtain ⟨Mc3, b3, k3, rfl, le3, V_b3⟩ := hQ3
  have ne_a0__b3 : a0_ ≠ b3 := Nat.ne_of_lt (Nat.lt_of_lt_of_le E_a0.lt le3)
  have ne_a1_b3 : a1 ≠ b3 := Nat.ne_of_lt (Nat.lt_of_lt_of_le V_a1.lt le3)
  have fr_b3 : h0.size ≤ b3 := Nat.le_trans M0.le le3
  have M3 := M0.app0 Mc3
  replace E_a0 := E_a0.keep Mc3.1
  replace F_value := F_value.keep Mc3.1 nin0
  replace F_coder := F_coder.keep Mc3.1 nin0
  replace V_a1 := V_a1.keep Mc3.1 nin0
  replace Z_ad := StaKeep Z_ad Mc3.1 all0
  replace Z_hs := StaKeep Z_hs Mc3.1 all0
  replace Z_ls := StaKeep Z_ls Mc3.1 all0
  replace Z_fm := StaKeep Z_fm Mc3.1 all0
  replace Z_cs := StaKeep Z_cs Mc3.1 all0
  show Go p e below P T3 (mkF m 24 #[sR a0_] [(.ref b3)])
  exact goRetR (Q := fun v h L => Mv h0 h [] L ∧ ∃ (b : Addr) (k : ClassId), v = some (.ref b) ∧ h0.size ≤ b ∧ Arv Z h b k .char (Int32.ofNat cs.length) (cs.map Value.int) (.int (0 : Int32))) X3 hx hret rfl hlk rfl rfl (hb hby d_19_24) K (by decide) (by decide) e3 (⟨M3, b3, _, rfl, fr_b3, V_b3⟩)
theorem tcaAny {p : Program} {l : Launch} {e : Env} {R : Room} {s : State} {args : Array Value} {below : List Frame} {W : Nat} {Z : State} {a0 : Array Value} {h0 : Heap} (hw : ∀ d ∈ tables_1, d.before a0 Z = true) (hZ : Z.Warmed39 s.vm) {x t : Addr} {cs : List Int32} {zc : Int32} {fm : Value} (F : Str Z h0 x t cs) (hle8 : cs.length ≤ 8) (Z_ad : Sta Z h0 "java/lang/StringUTF16" "$assertionsDisabled" "Z" (.int (1 : Int32))) (Z_hs : Sta Z h0 "java/lang/StringUTF16" "HI_BYTE_SHIFT" "I" (.int (0 : Int32))) (Z_ls : Sta Z h0 "java/lang/StringUTF16" "LO_BYTE_SHIFT" "I" (.int (8 : Int32))) (Z_fm : Sta Z h0 "jdk/internal/util/Preconditions" "SIOOBE_FORMATTER" "Ljava/util/function/BiFunction;" fm) (hfm : fm.isRef = true) (Z_cs : Sta Z h0 "java/lang/String" "COMPACT_STRINGS" "Z" (.int zc)) (hz : ¬ zc = 0) (hfr : 6 ≤ R.frames) (hlo : W + 85 ≤ R.locals) :
    BK l R p e below s args (⟨"java/lang/String", "toCharArray", "()[C"⟩ : MethodName) W #[.ref x] h0 1 8 (fun v h L => Mv h0 h [] L ∧ ∃ (b : Addr) (k : ClassId), v = some (.ref b) ∧ h0.size ≤ b ∧ Arv Z h b k .char (Int32.ofNat cs.length) (cs.map Value.int) (.int (0 : Int32))) := by
  obtain ⟨kb, cd, N, vs, E, V, C, A, g1, g2, g3⟩ := id F
  rcases g1 with ⟨rfl, rfl, rfl, q⟩ | ⟨rfl, rfl, rfl, q⟩
  · exact (rm_tca0 l Z a0 hw x t kb cs zc fm h0 E V C A hle8 g2 q Z_ad Z_hs Z_ls Z_fm hfm Z_cs hz).bk (W := W) hZ (hw _ (List.mem_of_getElem? (i := 50) rfl)) (hw _ (List.mem_of_getElem? (i := 10) rfl)) (by show 3 ≤ _; omega) (by show W + 12 + 30 ≤ _; omega)
  · exact (rm_tca1 l Z a0 hw x t kb cs zc fm h0 E V C A hle8 (by obtain ⟨c, hc, -⟩ := q; exact List.length_pos_of_mem hc) g2 Z_ad Z_hs Z_ls Z_fm hfm Z_cs hz).bk (W := W) hZ (hw _ (List.mem_of_getElem? (i := 50) rfl)) (hw _ (List.mem_of_getElem? (i := 10) rfl)) (by show 6 ≤ _; omega) (by show W + 12 + 73 ≤ _; omega)
theorem pn_com_example_rezeptkern_rezeptkern_JsonCursor : plainName "com/example/rezeptkern/rezeptkern/JsonCursor" = true := by first | (simp [plainName, overriddenIn]; done) | decide +kernel
theorem ef_rm_cur (m : MethodId) (x0 : Addr) (x1 : Addr) (x2 : Addr)  : entryFrame m #[(.ref x0), (.ref x1), (.ref x2)] 3 = mkF m 0 #[.val (.ref x0), .val (.ref x1), .val (.ref x2)] [] := by first | (simp [entryFrame, mkF, argsToLocals, Value.category]; done) | rfl
theorem d_20_0 : decode prog_33_method_1_code 0 = .ok (.aload_n 0, 1) := by decide +kernel
theorem d_20_1 : decode prog_33_method_1_code 1 = .ok (.invokespecial 1, 3) := by decide +kernel
theorem d_20_4 : decode prog_33_method_1_code 4 = .ok (.aload_n 0, 1) := by decide +kernel
theorem d_20_5 : decode prog_33_method_1_code 5 = .ok (.aload_n 1, 1) := by decide +kernel
theorem d_20_6 : decode prog_33_method_1_code 6 = .ok (.putfield 7, 3) := by decide +kernel
theorem d_20_9 : decode prog_33_method_1_code 9 = .ok (.aload_n 0, 1) := by decide +kernel
theorem d_20_10 : decode prog_33_method_1_code 10 = .ok (.aload_n 1, 1) := by decide +kernel
theorem d_20_11 : decode prog_33_method_1_code 11 = .ok (.invokevirtual 13, 3) := by decide +kernel
theorem pd____C : parseMethodDescriptor "()[C" = some ⟨[], some (.array .char)⟩ := by decide +kernel
theorem d_20_14 : decode prog_33_method_1_code 14 = .ok (.putfield 19, 3) := by decide +kernel
theorem d_20_17 : decode prog_33_method_1_code 17 = .ok (.aload_n 0, 1) := by decide +kernel
theorem d_20_18 : decode prog_33_method_1_code 18 = .ok (.aload_n 2, 1) := by decide +kernel
theorem d_20_19 : decode prog_33_method_1_code 19 = .ok (.putfield 23, 3) := by decide +kernel
theorem d_20_22 : decode prog_33_method_1_code 22 = .ok (.return_, 1) := by decide +kernel
set_option maxRecDepth 65536 in
set_option maxHeartbeats 40000000 in
theorem rm_cur (l : Launch) (Z : State) (a0 : Array Value) (hw : ∀ d ∈ tables_1, d.before a0 Z = true) (a1 a2 a3 t2 : Addr) (cs : List Int32) (zc : Int32) (fm : Value) (h0 : Heap) (E_a1 : Exa Z h0 a1 "com/example/rezeptkern/rezeptkern/JsonCursor") (F_text : Fld Z h0 a1 "com/example/rezeptkern/rezeptkern/JsonCursor" "text" "Ljava/lang/String;" .null) (F_chars : Fld Z h0 a1 "com/example/rezeptkern/rezeptkern/JsonCursor" "chars" "[C" .null) (F_name : Fld Z h0 a1 "com/example/rezeptkern/rezeptkern/JsonCursor" "name" "Ljava/lang/String;" .null) (F_position : Fld Z h0 a1 "com/example/rezeptkern/rezeptkern/JsonCursor" "position" "I" (.int (0 : Int32))) (S_a2 : Str Z h0 a2 t2 cs) (hle8 : cs.length ≤ 8) (Z_ad : Sta Z h0 "java/lang/StringUTF16" "$assertionsDisabled" "Z" (.int (1 : Int32))) (Z_hs : Sta Z h0 "java/lang/StringUTF16" "HI_BYTE_SHIFT" "I" (.int (0 : Int32))) (Z_ls : Sta Z h0 "java/lang/StringUTF16" "LO_BYTE_SHIFT" "I" (.int (8 : Int32))) (Z_fm : Sta Z h0 "jdk/internal/util/Preconditions" "SIOOBE_FORMATTER" "Ljava/util/function/BiFunction;" fm) (hfm : fm.isRef = true) (Z_cs : Sta Z h0 "java/lang/String" "COMPACT_STRINGS" "Z" (.int zc)) (hz : ¬ zc = 0) :
    MeetsW l Z (⟨"com/example/rezeptkern/rezeptkern/JsonCursor", "<init>", "(Ljava/lang/String;Ljava/lang/String;)V"⟩ : MethodName) prog_33_method_1_code 3 none ({ frames := 6, cells := 1, slots := 8, locals := 86 } : Room) #[(.ref a1), (.ref a2), (.ref a3)] h0 (fun v h L => v = none ∧ Mv h0 h [a1] L ∧ ∃ (b : Addr) (kb : ClassId), h0.size ≤ b ∧ Exa Z h a1 "com/example/rezeptkern/rezeptkern/JsonCursor" ∧ Fld Z h a1 "com/example/rezeptkern/rezeptkern/JsonCursor" "text" "Ljava/lang/String;" (.ref a2) ∧ Fld Z h a1 "com/example/rezeptkern/rezeptkern/JsonCursor" "chars" "[C" (.ref b) ∧ Fld Z h a1 "com/example/rezeptkern/rezeptkern/JsonCursor" "position" "I" (.int (Int32.ofNat 0)) ∧ Arv Z h b kb (.char) (Int32.ofNat cs.length) (cs.map Value.int) (.int (0 : Int32))) := by
  refine MeetsW.of (plainFor_of_name pn_com_example_rezeptkern_rezeptkern_JsonCursor) ?_
  intro p e s m below meth c s₁ P hx hby hml hZ hown hnm hret hlk X0 e0 K
  have M0 : Mv h0 h0 [a1] [] := Mv.refl _ _
  refine Go.cast (ef_rm_cur m a1 a2 a3 ) ?_
  have ne_a2_a1 := strA_ne S_a2 E_a1 (by decide)
  have ne_t2_a1 := strT_ne S_a2 E_a1 (hw _ (List.mem_of_getElem? (i := 6) rfl))
  refine Go.of (T' := s₁) (f' := (mkF m 1 #[sR a1, sR a2, sR a3] [(.ref a1)])) (fun _ k => XS.aloadN X0.here hx rfl (hb hby d_20_0) rfl rfl k) ?_
  obtain ⟨T1, X1, e1, st1⟩ := initO X0 hx hZ hown (hw _ (List.mem_of_getElem? (i := 43) rfl)) (hw _ (List.mem_of_getElem? (i := 19) rfl)) (hw _ (List.mem_of_getElem? (i := 20) rfl)) e0 (g := (mkF m 1 #[sR a1, sR a2, sR a3] [(.ref a1)])) rfl (by rw [hml]; rfl) rfl (hb hby d_20_1) (by decide) (W := 0) (by show 2 * 0 + _ ≤ _; exact Nat.le_of_eq rfl) (by decide)
  refine Go.of (T' := T1) (f' := (mkF m 4 #[sR a1, sR a2, sR a3] [])) st1 ?_
  refine Go.of (T' := T1) (f' := (mkF m 5 #[sR a1, sR a2, sR a3] [(.ref a1)])) (fun _ k => XS.aloadN X1.here hx rfl (hb hby d_20_4) rfl rfl k) ?_
  refine Go.of (T' := T1) (f' := (mkF m 6 #[sR a1, sR a2, sR a3] [(.ref a2), (.ref a1)])) (fun _ k => XS.aloadN X1.here hx rfl (hb hby d_20_5) rfl rfl k) ?_
  obtain ⟨T2, h2, X2, e2, W2, st2⟩ := putF X1 hx hZ hown (host := "") (Or.inl (hw _ (List.mem_of_getElem? (i := 44) rfl))) Via.refl e1 F_text E_a1 (Or.inr ⟨(hw _ (List.mem_of_getElem? (i := 45) rfl)), rfl, hnm⟩) (hw _ (List.mem_of_getElem? (i := 6) rfl)) (ty := (.object "java/lang/String")) (by decide) rfl rfl (g := (mkF m 6 #[sR a1, sR a2, sR a3] [(.ref a2), (.ref a1)])) rfl rfl (hb hby d_20_6)
  have E_a1_o := E_a1
  have K2 := Keep.of_wr W2
  have M2 := M0.wr W2 (Or.inl (List.mem_of_getElem? (i := 0) rfl))
  replace F_text := F_text.same W2
  replace F_chars := F_chars.other W2 (Or.inr (slot_ne (Or.inr (hw _ (List.mem_of_getElem? (i := 64) rfl))) (Or.inr (hw _ (List.mem_of_getElem? (i := 45) rfl))) (by decide) (t := (.array .char)) (t' := (.object "java/lang/String")) (by decide) (by decide)))
  replace F_name := F_name.other W2 (Or.inr (slot_ne (Or.inr (hw _ (List.mem_of_getElem? (i := 66) rfl))) (Or.inr (hw _ (List.mem_of_getElem? (i := 45) rfl))) (by decide) (t := (.object "java/lang/String")) (t' := (.object "java/lang/String")) (by decide) (by decide)))
  replace F_position := F_position.other W2 (Or.inr (slot_ne (Or.inl (hw _ (List.mem_of_getElem? (i := 77) rfl))) (Or.inr (hw _ (List.mem_of_getElem? (i := 45) rfl))) (by decide) (t := .int) (t' := (.object "java/lang/String")) (by decide) (by decide)))
  replace E_a1 := E_a1.keep K2
  replace S_a2 := S_a2.keep K2 (ninS ne_a2_a1 nin0) (ninS ne_t2_a1 nin0)
  replace Z_ad := StaKeep Z_ad K2 (allS (staExa E_a1_o) all0)
  replace Z_hs := StaKeep Z_hs K2 (allS (staExa E_a1_o) all0)
  replace Z_ls := StaKeep Z_ls K2 (allS (staExa E_a1_o) all0)
  replace Z_fm := StaKeep Z_fm K2 (allS (staExa E_a1_o) all0)
  replace Z_cs := StaKeep Z_cs K2 (allS (staExa E_a1_o) all0)
  refine Go.of (T' := T2) (f' := (mkF m 9 #[sR a1, sR a2, sR a3] [])) st2 ?_
  refine Go.of (T' := T2) (f' := (mkF m 10 #[sR a1, sR a2, sR a3] [(.ref a1)])) (fun _ k => XS.aloadN X2.here hx rfl (hb hby d_20_9) rfl rfl k) ?_
  refine Go.of (T' := T2) (f' := (mkF m 11 #[sR a1, sR a2, sR a3] [(.ref a2), (.ref a1)])) (fun _ k => XS.aloadN X2.here hx rfl (hb hby d_20_10) rfl rfl k) ?_
  refine goV X2 hx hZ (y := (⟨"java/lang/String", "toCharArray", "()[C"⟩ : MethodName)) (z := (⟨"java/lang/String", "toCharArray", "()[C"⟩ : MethodName)) hown (hw _ (List.mem_of_getElem? (i := 46) rfl)) (hw _ (List.mem_of_getElem? (i := 47) rfl)) (notFace_of_selects (args := #[]) (mvT hZ (hw _ (List.mem_of_getElem? (i := 49) rfl)))) (hw _ (List.mem_of_getElem? (i := 49) rfl)) (hw _ (List.mem_of_getElem? (i := 48) rfl)) (by decide) (C := 1) (S := 8) (tcaAny (W := 1) hw hZ S_a2 hle8 Z_ad Z_hs Z_ls Z_fm hfm Z_cs hz (by decide) (by decide)) e2 S_a2.exa (argsL := []) (rest := [(.ref a1)]) (by rw [hml]; rfl) (lenOf pd____C rfl) rfl rfl (hb hby d_20_11) (Nat.le_of_eq rfl) (by decide) (by decide) ?_
  intro v3 T3 L3 X3 hQ3
  obtain ⟨h3, e3⟩ : ∃ z, T3.heap = z := ⟨_, rfl⟩
  rw [e3] at hQ3
  obtain ⟨Mc3, b3, k3, rfl, le3, V_b3⟩ := hQ3
  have ne_a1_b3 : a1 ≠ b3 := Nat.ne_of_lt (Nat.lt_of_lt_of_le E_a1.lt le3)
  have ne_a2_b3 : a2 ≠ b3 := Nat.ne_of_lt (Nat.lt_of_lt_of_le S_a2.lt1 le3)
  have ne_t2_b3 : t2 ≠ b3 := Nat.ne_of_lt (Nat.lt_of_lt_of_le S_a2.lt2 le3)
  have fr_b3 : h0.size ≤ b3 := Nat.le_trans M2.le le3
  have M3 := M2.app0 Mc3
  replace E_a1 := E_a1.keep Mc3.1
  replace F_text := F_text.keep Mc3.1 nin0
  replace F_chars := F_chars.keep Mc3.1 nin0
  replace F_name := F_name.keep Mc3.1 nin0
  replace F_position := F_position.keep Mc3.1 nin0
  replace S_a2 := S_a2.keep Mc3.1 nin0 nin0
  replace Z_ad := StaKeep Z_ad Mc3.1 all0
  replace Z_hs := StaKeep Z_hs Mc3.1 all0
  replace Z_ls := StaKeep Z_ls Mc3.1 all0
  replace Z_fm := StaKeep Z_fm Mc3.1 all0
  replace Z_cs := StaKeep Z_cs Mc3.1 all0
  show Go p e below P T3 (mkF m 14 #[sR a1, sR a2, sR a3] [(.ref b3), (.ref a1)])
  obtain ⟨T4, h4, X4, e4, W4, st4⟩ := putF X3 hx hZ hown (host := "") (Or.inl (hw _ (List.mem_of_getElem? (i := 63) rfl))) Via.refl e3 F_chars E_a1 (Or.inr ⟨(hw _ (List.mem_of_getElem? (i := 64) rfl)), rfl, hnm⟩) (hw _ (List.mem_of_getElem? (i := 6) rfl)) (ty := (.array .char)) (by decide) rfl rfl (g := (mkF m 14 #[sR a1, sR a2, sR a3] [(.ref b3), (.ref a1)])) rfl rfl (hb hby d_20_14)
  have E_a1_o := E_a1
  have K4 := Keep.of_wr W4
  have M4 := M3.wr W4 (Or.inl (List.mem_of_getElem? (i := 0) rfl))
  replace F_text := F_text.other W4 (Or.inr (slot_ne (Or.inr (hw _ (List.mem_of_getElem? (i := 45) rfl))) (Or.inr (hw _ (List.mem_of_getElem? (i := 64) rfl))) (by decide) (t := (.object "java/lang/String")) (t' := (.array .char)) (by decide) (by decide)))
  replace F_chars := F_chars.same W4
  replace F_name := F_name.other W4 (Or.inr (slot_ne (Or.inr (hw _ (List.mem_of_getElem? (i := 66) rfl))) (Or.inr (hw _ (List.mem_of_getElem? (i := 64) rfl))) (by decide) (t := (.object "java/lang/String")) (t' := (.array .char)) (by decide) (by decide)))
  replace F_position := F_position.other W4 (Or.inr (slot_ne (Or.inl (hw _ (List.mem_of_getElem? (i := 77) rfl))) (Or.inr (hw _ (List.mem_of_getElem? (i := 64) rfl))) (by decide) (t := .int) (t' := (.array .char)) (by decide) (by decide)))
  replace E_a1 := E_a1.keep K4
  replace S_a2 := S_a2.keep K4 (ninS ne_a2_a1 nin0) (ninS ne_t2_a1 nin0)
  replace Z_ad := StaKeep Z_ad K4 (allS (staExa E_a1_o) all0)
  replace Z_hs := StaKeep Z_hs K4 (allS (staExa E_a1_o) all0)
  replace Z_ls := StaKeep Z_ls K4 (allS (staExa E_a1_o) all0)
  replace Z_fm := StaKeep Z_fm K4 (allS (staExa E_a1_o) all0)
  replace Z_cs := StaKeep Z_cs K4 (allS (staExa E_a1_o) all0)
  replace V_b3 := V_b3.keep K4 (ninS (Ne.symm ne_a1_b3) nin0)
  refine Go.of (T' := T4) (f' := (mkF m 17 #[sR a1, sR a2, sR a3] [])) st4 ?_
  refine Go.of (T' := T4) (f' := (mkF m 18 #[sR a1, sR a2, sR a3] [(.ref a1)])) (fun _ k => XS.aloadN X4.here hx rfl (hb hby d_20_17) rfl rfl k) ?_
  refine Go.of (T' := T4) (f' := (mkF m 19 #[sR a1, sR a2, sR a3] [(.ref a3), (.ref a1)])) (fun _ k => XS.aloadN X4.here hx rfl (hb hby d_20_18) rfl rfl k) ?_
  obtain ⟨T5, h5, X5, e5, W5, st5⟩ := putF X4 hx hZ hown (host := "") (Or.inl (hw _ (List.mem_of_getElem? (i := 65) rfl))) Via.refl e4 F_name E_a1 (Or.inr ⟨(hw _ (List.mem_of_getElem? (i := 66) rfl)), rfl, hnm⟩) (hw _ (List.mem_of_getElem? (i := 6) rfl)) (ty := (.object "java/lang/String")) (by decide) rfl rfl (g := (mkF m 19 #[sR a1, sR a2, sR a3] [(.ref a3), (.ref a1)])) rfl rfl (hb hby d_20_19)
  have E_a1_o := E_a1
  have K5 := Keep.of_wr W5
  have M5 := M4.wr W5 (Or.inl (List.mem_of_getElem? (i := 0) rfl))
  replace F_text := F_text.other W5 (Or.inr (slot_ne (Or.inr (hw _ (List.mem_of_getElem? (i := 45) rfl))) (Or.inr (hw _ (List.mem_of_getElem? (i := 66) rfl))) (by decide) (t := (.object "java/lang/String")) (t' := (.object "java/lang/String")) (by decide) (by decide)))
  replace F_chars := F_chars.other W5 (Or.inr (slot_ne (Or.inr (hw _ (List.mem_of_getElem? (i := 64) rfl))) (Or.inr (hw _ (List.mem_of_getElem? (i := 66) rfl))) (by decide) (t := (.array .char)) (t' := (.object "java/lang/String")) (by decide) (by decide)))
  replace F_name := F_name.same W5
  replace F_position := F_position.other W5 (Or.inr (slot_ne (Or.inl (hw _ (List.mem_of_getElem? (i := 77) rfl))) (Or.inr (hw _ (List.mem_of_getElem? (i := 66) rfl))) (by decide) (t := .int) (t' := (.object "java/lang/String")) (by decide) (by decide)))
  replace E_a1 := E_a1.keep K5
  replace S_a2 := S_a2.keep K5 (ninS ne_a2_a1 nin0) (ninS ne_t2_a1 nin0)
  replace Z_ad := StaKeep Z_ad K5 (allS (staExa E_a1_o) all0)
  replace Z_hs := StaKeep Z_hs K5 (allS (staExa E_a1_o) all0)
  replace Z_ls := StaKeep Z_ls K5 (allS (staExa E_a1_o) all0)
  replace Z_fm := StaKeep Z_fm K5 (allS (staExa E_a1_o) all0)
  replace Z_cs := StaKeep Z_cs K5 (allS (staExa E_a1_o) all0)
  replace V_b3 := V_b3.keep K5 (ninS (Ne.symm ne_a1_b3) nin0)
  refine Go.of (T' := T5) (f' := (mkF m 22 #[sR a1, sR a2, sR a3] [])) st5 ?_
  exact goRet0 (Q := fun v h L => v = none ∧ Mv h0 h [a1] L ∧ ∃ (b : Addr) (kb : ClassId), h0.size ≤ b ∧ Exa Z h a1 "com/example/rezeptkern/rezeptkern/JsonCursor" ∧ Fld Z h a1 "com/example/rezeptkern/rezeptkern/JsonCursor" "text" "Ljava/lang/String;" (.ref a2) ∧ Fld Z h a1 "com/example/rezeptkern/rezeptkern/JsonCursor" "chars" "[C" (.ref b) ∧ Fld Z h a1 "com/example/rezeptkern/rezeptkern/JsonCursor" "position" "I" (.int (Int32.ofNat 0)) ∧ Arv Z h b kb (.char) (Int32.ofNat cs.length) (cs.map Value.int) (.int (0 : Int32))) X5 hx hret hlk (hb hby d_20_22) K (by decide) (by decide) e5 (⟨rfl, M5, b3, _, fr_b3, E_a1, F_text, F_chars, F_position, V_b3⟩)
theorem ef_rm_skw (m : MethodId) (x0 : Addr)  : entryFrame m #[(.ref x0)] 2 = mkF m 0 #[.val (.ref x0), .unset] [] := by first | (simp [entryFrame, mkF, argsToLocals, Value.category]; done) | rfl
theorem d_21_0 : decode prog_33_method_15_code 0 = .ok (.aload_n 0, 1) := by decide +kernel
theorem d_21_1 : decode prog_33_method_15_code 1 = .ok (.getfield 41, 3) := by decide +kernel
theorem d_21_4 : decode prog_33_method_15_code 4 = .ok (.aload_n 0, 1) := by decide +kernel
theorem d_21_5 : decode prog_33_method_15_code 5 = .ok (.getfield 19, 3) := by decide +kernel
theorem d_21_8 : decode prog_33_method_15_code 8 = .ok (.arraylength, 1) := by decide +kernel
theorem d_21_9 : decode prog_33_method_15_code 9 = .ok (.if_icmp .ge 51, 3) := by decide +kernel
theorem d_21_60 : decode prog_33_method_15_code 60 = .ok (.return_, 1) := by decide +kernel
theorem d_21_12 : decode prog_33_method_15_code 12 = .ok (.aload_n 0, 1) := by decide +kernel
theorem d_21_13 : decode prog_33_method_15_code 13 = .ok (.getfield 19, 3) := by decide +kernel
theorem d_21_16 : decode prog_33_method_15_code 16 = .ok (.aload_n 0, 1) := by decide +kernel
theorem d_21_17 : decode prog_33_method_15_code 17 = .ok (.getfield 41, 3) := by decide +kernel
theorem d_21_20 : decode prog_33_method_15_code 20 = .ok (.caload, 1) := by decide +kernel
theorem d_21_21 : decode prog_33_method_15_code 21 = .ok (.istore_n 1, 1) := by decide +kernel
theorem d_21_22 : decode prog_33_method_15_code 22 = .ok (.iload_n 1, 1) := by decide +kernel
theorem d_21_23 : decode prog_33_method_15_code 23 = .ok (.bipush 32, 2) := by decide +kernel
theorem d_21_25 : decode prog_33_method_15_code 25 = .ok (.if_icmp .eq 22, 3) := by decide +kernel
theorem d_21_47 : decode prog_33_method_15_code 47 = .ok (.aload_n 0, 1) := by decide +kernel
theorem d_21_48 : decode prog_33_method_15_code 48 = .ok (.dup, 1) := by decide +kernel
theorem d_21_49 : decode prog_33_method_15_code 49 = .ok (.getfield 41, 3) := by decide +kernel
theorem d_21_52 : decode prog_33_method_15_code 52 = .ok (.iconst 1, 1) := by decide +kernel
theorem d_21_53 : decode prog_33_method_15_code 53 = .ok (.iadd, 1) := by decide +kernel
theorem d_21_54 : decode prog_33_method_15_code 54 = .ok (.putfield 41, 3) := by decide +kernel
theorem d_21_57 : decode prog_33_method_15_code 57 = .ok (.goto (-57), 3) := by decide +kernel
theorem d_21_28 : decode prog_33_method_15_code 28 = .ok (.iload_n 1, 1) := by decide +kernel
theorem d_21_29 : decode prog_33_method_15_code 29 = .ok (.bipush 9, 2) := by decide +kernel
theorem d_21_31 : decode prog_33_method_15_code 31 = .ok (.if_icmp .eq 16, 3) := by decide +kernel
theorem d_21_34 : decode prog_33_method_15_code 34 = .ok (.iload_n 1, 1) := by decide +kernel
theorem d_21_35 : decode prog_33_method_15_code 35 = .ok (.bipush 10, 2) := by decide +kernel
theorem d_21_37 : decode prog_33_method_15_code 37 = .ok (.if_icmp .eq 10, 3) := by decide +kernel
theorem d_21_40 : decode prog_33_method_15_code 40 = .ok (.iload_n 1, 1) := by decide +kernel
theorem d_21_41 : decode prog_33_method_15_code 41 = .ok (.bipush 13, 2) := by decide +kernel
theorem d_21_43 : decode prog_33_method_15_code 43 = .ok (.if_icmp .eq 4, 3) := by decide +kernel
theorem d_21_46 : decode prog_33_method_15_code 46 = .ok (.return_, 1) := by decide +kernel
set_option maxRecDepth 65536 in
set_option maxHeartbeats 40000000 in
theorem rm_skw (l : Launch) (Z : State) (a0 : Array Value) (hw : ∀ d ∈ tables_1, d.before a0 Z = true) (a1 tx b : Addr) (kb : ClassId) (cs : List Int32) (i0 j : Nat) (h0 : Heap) (E_a1 : Exa Z h0 a1 "com/example/rezeptkern/rezeptkern/JsonCursor") (F_text : Fld Z h0 a1 "com/example/rezeptkern/rezeptkern/JsonCursor" "text" "Ljava/lang/String;" (.ref tx)) (F_chars : Fld Z h0 a1 "com/example/rezeptkern/rezeptkern/JsonCursor" "chars" "[C" (.ref b)) (F_position : Fld Z h0 a1 "com/example/rezeptkern/rezeptkern/JsonCursor" "position" "I" (.int (Int32.ofNat i0))) (V_b : Arv Z h0 b kb (.char) (Int32.ofNat cs.length) (cs.map Value.int) (.int (0 : Int32))) (hle8 : cs.length ≤ 8) (hi0 : i0 ≤ cs.length) (hjq : i0 + fst (cs.drop i0) = j) :
    MeetsW l Z (⟨"com/example/rezeptkern/rezeptkern/JsonCursor", "skipWhitespace", "()V"⟩ : MethodName) prog_33_method_15_code 2 none ({ frames := 0, cells := 0, slots := 0, locals := 0 } : Room) #[(.ref a1)] h0 (fun v h L => v = none ∧ Mv h0 h [a1] L ∧ Exa Z h a1 "com/example/rezeptkern/rezeptkern/JsonCursor" ∧ Fld Z h a1 "com/example/rezeptkern/rezeptkern/JsonCursor" "text" "Ljava/lang/String;" (.ref tx) ∧ Fld Z h a1 "com/example/rezeptkern/rezeptkern/JsonCursor" "chars" "[C" (.ref b) ∧ Fld Z h a1 "com/example/rezeptkern/rezeptkern/JsonCursor" "position" "I" (.int (Int32.ofNat j)) ∧ Arv Z h b kb (.char) (Int32.ofNat cs.length) (cs.map Value.int) (.int (0 : Int32))) := by
  refine MeetsW.of (plainFor_of_name pn_com_example_rezeptkern_rezeptkern_JsonCursor) ?_
  intro p e s m below meth c s₁ P hx hby hml hZ hown hnm hret hlk X0 e0 K
  have M0 : Mv h0 h0 [a1] [] := Mv.refl _ _
  refine Go.cast (ef_rm_skw m a1 ) ?_
  have ne_b_a1 : b ≠ a1 := Ne.symm (Exa.neArv E_a1 V_b (hw _ (List.mem_of_getElem? (i := 6) rfl)))
  have J : ∀ (n : Nat) (i : Nat) (cj : Int32) (Tj : State) (hj : Heap) (Lj : List Loc), cs.length ≤ i + n → i ≤ cs.length → (i + fst (cs.drop i) = j) → Stand p l e ({ frames := 0, cells := 0, slots := 0, locals := 0 } : Room) s m #[(.ref a1)] below meth c Tj Lj 0 0 → Tj.heap = hj → Mv h0 hj [a1] Lj → Exa Z hj a1 "com/example/rezeptkern/rezeptkern/JsonCursor" → Fld Z hj a1 "com/example/rezeptkern/rezeptkern/JsonCursor" "text" "Ljava/lang/String;" (.ref tx) → Fld Z hj a1 "com/example/rezeptkern/rezeptkern/JsonCursor" "chars" "[C" (.ref b) → Fld Z hj a1 "com/example/rezeptkern/rezeptkern/JsonCursor" "position" "I" (.int (Int32.ofNat i)) → Arv Z hj b kb (.char) (Int32.ofNat cs.length) (cs.map Value.int) (.int (0 : Int32)) → Go p e below P Tj (mkF m 0 #[sR a1, sI cj] []) := by
    intro n
    induction n with
    | zero =>
      intro i cj Tj hj Lj hle hi1 hjq Xj ej Mj E_a1 F_text F_chars F_position V_b
      refine Go.of (T' := Tj) (f' := (mkF m 1 #[sR a1, sI cj] [(.ref a1)])) (fun _ k => XS.aloadN Xj.here hx rfl (hb hby d_21_0) rfl rfl k) ?_
      obtain ⟨T1, X1, e1, st1⟩ := getF Xj hx hZ hown (host := "") (Or.inl (hw _ (List.mem_of_getElem? (i := 76) rfl))) Via.refl ej F_position (g := (mkF m 1 #[sR a1, sI cj] [(.ref a1)])) rfl rfl (hb hby d_21_1)
      refine Go.of (T' := T1) (f' := (mkF m 4 #[sR a1, sI cj] [(.int (Int32.ofNat i))])) st1 ?_
      refine Go.of (T' := T1) (f' := (mkF m 5 #[sR a1, sI cj] [(.ref a1), (.int (Int32.ofNat i))])) (fun _ k => XS.aloadN X1.here hx rfl (hb hby d_21_4) rfl rfl k) ?_
      obtain ⟨T2, X2, e2, st2⟩ := getF X1 hx hZ hown (host := "") (Or.inl (hw _ (List.mem_of_getElem? (i := 63) rfl))) Via.refl e1 F_chars (g := (mkF m 5 #[sR a1, sI cj] [(.ref a1), (.int (Int32.ofNat i))])) rfl rfl (hb hby d_21_5)
      refine Go.of (T' := T2) (f' := (mkF m 8 #[sR a1, sI cj] [(.ref b), (.int (Int32.ofNat i))])) st2 ?_
      obtain ⟨cl3, Ar3, -, Sz3, Nn3, -, -⟩ := id V_b
      refine Go.of (T' := T2) (f' := (mkF m 9 #[sR a1, sI cj] [(.int (Int32.ofNat cs.length)), (.int (Int32.ofNat i))])) (fun _ k => X2.arraylength hx (by rw [e2]; exact Ar3.1) (State.isArrayOf_alike hZ.alike Ar3.2.1) (g := (mkF m 8 #[sR a1, sI cj] [(.ref b), (.int (Int32.ofNat i))])) rfl rfl (hb hby d_21_8) _ (by rw [len_of Sz3 Nn3]; exact k)) ?_
      have hc9 : ¬ ((Int32.ofNat i) < (Int32.ofNat cs.length)) := fun q => by have q := (ltN (by omega) (by omega)).mp q; omega
      refine Go.of (T' := T2) (f' := (mkF m 60 #[sR a1, sI cj] [])) (fun _ k => XS.icmpYes X2.here hx rfl (pc0 := 9) (pc' := 60) rfl (hb hby d_21_9) rfl (flt hc9).2.1 (by decide) (by decide) k) ?_
      exact goRet0 (Q := fun v h L => v = none ∧ Mv h0 h [a1] L ∧ Exa Z h a1 "com/example/rezeptkern/rezeptkern/JsonCursor" ∧ Fld Z h a1 "com/example/rezeptkern/rezeptkern/JsonCursor" "text" "Ljava/lang/String;" (.ref tx) ∧ Fld Z h a1 "com/example/rezeptkern/rezeptkern/JsonCursor" "chars" "[C" (.ref b) ∧ Fld Z h a1 "com/example/rezeptkern/rezeptkern/JsonCursor" "position" "I" (.int (Int32.ofNat j)) ∧ Arv Z h b kb (.char) (Int32.ofNat cs.length) (cs.map Value.int) (.int (0 : Int32))) X2 hx hret hlk (hb hby d_21_60) K (by decide) (by decide) e2 (by
          have e0 := fstNil (cs := cs) (i := i) (by first | exact Nat.le_of_not_lt fun q => hc9 ((ltN (by omega) (by omega)).mpr q) | omega)
          have e1 : i = j := by omega
          rw [e1] at F_position
          exact ⟨rfl, Mj, E_a1, F_text, F_chars, F_position, V_b⟩)
    | succ n ih =>
      intro i cj Tj hj Lj hle hi1 hjq Xj ej Mj E_a1 F_text F_chars F_position V_b
      refine Go.of (T' := Tj) (f' := (mkF m 1 #[sR a1, sI cj] [(.ref a1)])) (fun _ k => XS.aloadN Xj.here hx rfl (hb hby d_21_0) rfl rfl k) ?_
      obtain ⟨T4, X4, e4, st4⟩ := getF Xj hx hZ hown (host := "") (Or.inl (hw _ (List.mem_of_getElem? (i := 76) rfl))) Via.refl ej F_position (g := (mkF m 1 #[sR a1, sI cj] [(.ref a1)])) rfl rfl (hb hby d_21_1)
      refine Go.of (T' := T4) (f' := (mkF m 4 #[sR a1, sI cj] [(.int (Int32.ofNat i))])) st4 ?_
      refine Go.of (T' := T4) (f' := (mkF m 5 #[sR a1, sI cj] [(.ref a1), (.int (Int32.ofNat i))])) (fun _ k => XS.aloadN X4.here hx rfl (hb hby d_21_4) rfl rfl k) ?_
      obtain ⟨T5, X5, e5, st5⟩ := getF X4 hx hZ hown (host := "") (Or.inl (hw _ (List.mem_of_getElem? (i := 63) rfl))) Via.refl e4 F_chars (g := (mkF m 5 #[sR a1, sI cj] [(.ref a1), (.int (Int32.ofNat i))])) rfl rfl (hb hby d_21_5)
      refine Go.of (T' := T5) (f' := (mkF m 8 #[sR a1, sI cj] [(.ref b), (.int (Int32.ofNat i))])) st5 ?_
      obtain ⟨cl6, Ar6, -, Sz6, Nn6, -, -⟩ := id V_b
      refine Go.of (T' := T5) (f' := (mkF m 9 #[sR a1, sI cj] [(.int (Int32.ofNat cs.length)), (.int (Int32.ofNat i))])) (fun _ k => X5.arraylength hx (by rw [e5]; exact Ar6.1) (State.isArrayOf_alike hZ.alike Ar6.2.1) (g := (mkF m 8 #[sR a1, sI cj] [(.ref b), (.int (Int32.ofNat i))])) rfl rfl (hb hby d_21_8) _ (by rw [len_of Sz6 Nn6]; exact k)) ?_
      by_cases hc9 : (Int32.ofNat i) < (Int32.ofNat cs.length)
      ·
        refine Go.of (T' := T5) (f' := (mkF m 12 #[sR a1, sI cj] [])) (fun _ k => XS.icmpNo X5.here hx rfl (hb hby d_21_9) rfl (tlt hc9).2.1 k) ?_
        have hi : i < cs.length := (ltN (by omega) (by omega)).mp hc9
        refine Go.of (T' := T5) (f' := (mkF m 13 #[sR a1, sI cj] [(.ref a1)])) (fun _ k => XS.aloadN X5.here hx rfl (hb hby d_21_12) rfl rfl k) ?_
        obtain ⟨T7, X7, e7, st7⟩ := getF X5 hx hZ hown (host := "") (Or.inl (hw _ (List.mem_of_getElem? (i := 63) rfl))) Via.refl e5 F_chars (g := (mkF m 13 #[sR a1, sI cj] [(.ref a1)])) rfl rfl (hb hby d_21_13)
        refine Go.of (T' := T7) (f' := (mkF m 16 #[sR a1, sI cj] [(.ref b)])) st7 ?_
        refine Go.of (T' := T7) (f' := (mkF m 17 #[sR a1, sI cj] [(.ref a1), (.ref b)])) (fun _ k => XS.aloadN X7.here hx rfl (hb hby d_21_16) rfl rfl k) ?_
        obtain ⟨T8, X8, e8, st8⟩ := getF X7 hx hZ hown (host := "") (Or.inl (hw _ (List.mem_of_getElem? (i := 76) rfl))) Via.refl e7 F_position (g := (mkF m 17 #[sR a1, sI cj] [(.ref a1), (.ref b)])) rfl rfl (hb hby d_21_17)
        refine Go.of (T' := T8) (f' := (mkF m 20 #[sR a1, sI cj] [(.int (Int32.ofNat i)), (.ref b)])) st8 ?_
        obtain ⟨cl9, Ar9, cq9, Sz9, Nn9, Hs9, Gs9⟩ := id V_b
        have hin9 : ¬ ((Int32.ofNat i) < 0 ∨ cl9.slots.size ≤ ((Int32.ofNat i)).toNatClampNeg) := inbN Sz9 hi (by omega)
        have hat9 : cl9.slots[((Int32.ofNat i)).toNatClampNeg]? = some (.int (cs.getD i 0)) := Has.at Hs9 hin9 (by rw [nat32 (by omega)]; exact mapGet hi)
        refine Go.of (T' := T8) (f' := (mkF m 21 #[sR a1, sI cj] [(.int (cs.getD i 0))])) (fun _ k => X8.caload hx (j := (Int32.ofNat i)) (v := (.int (cs.getD i 0))) (by rw [e8]; exact Ar9.1) (State.isArrayOf_alike hZ.alike Ar9.2.1) Ar9.2.2 hin9 hat9 (g := (mkF m 20 #[sR a1, sI cj] [(.int (Int32.ofNat i)), (.ref b)])) rfl rfl (hb hby d_21_20) _ k) ?_
        refine Go.of (T' := T8) (f' := (mkF m 22 #[sR a1, sI (cs.getD i 0)] [])) (fun _ k => XS.istoreN X8.here hx rfl (hb hby d_21_21) rfl (l' := #[sR a1, sI (cs.getD i 0)]) rfl k) ?_
        refine Go.of (T' := T8) (f' := (mkF m 23 #[sR a1, sI (cs.getD i 0)] [(.int (cs.getD i 0))])) (fun _ k => XS.iloadN X8.here hx rfl (hb hby d_21_22) rfl k) ?_
        refine Go.of (T' := T8) (f' := (mkF m 25 #[sR a1, sI (cs.getD i 0)] [(.int (32 : Int32)), (.int (cs.getD i 0))])) (fun _ k => XS.bipush X8.here hx rfl (hb hby d_21_23) k) ?_
        by_cases hc25 : (cs.getD i 0) = (32 : Int32)
        ·
          refine Go.of (T' := T8) (f' := (mkF m 47 #[sR a1, sI (cs.getD i 0)] [])) (fun _ k => XS.icmpYes X8.here hx rfl (pc0 := 25) (pc' := 47) rfl (hb hby d_21_25) rfl (teq hc25).1 (by decide) (by decide) k) ?_
          refine Go.of (T' := T8) (f' := (mkF m 48 #[sR a1, sI (cs.getD i 0)] [(.ref a1)])) (fun _ k => XS.aloadN X8.here hx rfl (hb hby d_21_47) rfl rfl k) ?_
          refine Go.of (T' := T8) (f' := (mkF m 49 #[sR a1, sI (cs.getD i 0)] [(.ref a1), (.ref a1)])) (fun _ k => XS.dup X8.here hx rfl (hb hby d_21_48) rfl rfl k) ?_
          obtain ⟨T10, X10, e10, st10⟩ := getF X8 hx hZ hown (host := "") (Or.inl (hw _ (List.mem_of_getElem? (i := 76) rfl))) Via.refl e8 F_position (g := (mkF m 49 #[sR a1, sI (cs.getD i 0)] [(.ref a1), (.ref a1)])) rfl rfl (hb hby d_21_49)
          refine Go.of (T' := T10) (f' := (mkF m 52 #[sR a1, sI (cs.getD i 0)] [(.int (Int32.ofNat i)), (.ref a1)])) st10 ?_
          refine Go.of (T' := T10) (f' := (mkF m 53 #[sR a1, sI (cs.getD i 0)] [(.int (1 : Int32)), (.int (Int32.ofNat i)), (.ref a1)])) (fun _ k => XS.iconst X10.here hx rfl (hb hby d_21_52) k) ?_
          refine Go.of (T' := T10) (f' := (mkF m 54 #[sR a1, sI (cs.getD i 0)] [(.int ((Int32.ofNat i) + (1 : Int32))), (.ref a1)])) (fun _ k => XS.iadd X10.here hx rfl (hb hby d_21_53) rfl k) ?_
          obtain ⟨T11, h11, X11, e11, W11, st11⟩ := putF X10 hx hZ hown (host := "") (Or.inl (hw _ (List.mem_of_getElem? (i := 76) rfl))) Via.refl e10 F_position E_a1 (Or.inl (hw _ (List.mem_of_getElem? (i := 77) rfl))) (hw _ (List.mem_of_getElem? (i := 6) rfl)) (ty := .int) (by decide) rfl rfl (g := (mkF m 54 #[sR a1, sI (cs.getD i 0)] [(.int ((Int32.ofNat i) + (1 : Int32))), (.ref a1)])) rfl rfl (hb hby d_21_54)
          have K11 := Keep.of_wr W11
          have M11 := Mj.wr W11 (Or.inl (List.mem_of_getElem? (i := 0) rfl))
          replace F_text := F_text.other W11 (Or.inr (slot_ne (Or.inr (hw _ (List.mem_of_getElem? (i := 45) rfl))) (Or.inl (hw _ (List.mem_of_getElem? (i := 77) rfl))) (by decide) (t := (.object "java/lang/String")) (t' := .int) (by decide) (by decide)))
          replace F_chars := F_chars.other W11 (Or.inr (slot_ne (Or.inr (hw _ (List.mem_of_getElem? (i := 64) rfl))) (Or.inl (hw _ (List.mem_of_getElem? (i := 77) rfl))) (by decide) (t := (.array .char)) (t' := .int) (by decide) (by decide)))
          replace F_position := F_position.same W11
          replace E_a1 := E_a1.keep K11
          replace V_b := V_b.keep K11 (ninS ne_b_a1 nin0)
          refine Go.of (T' := T11) (f' := (mkF m 57 #[sR a1, sI (cs.getD i 0)] [])) st11 ?_
          refine Go.of (T' := T11) (f' := (mkF m 0 #[sR a1, sI (cs.getD i 0)] [])) (fun _ k => XS.goto X11.here hx rfl (pc0 := 57) (pc' := 0) rfl (hb hby d_21_57) (by decide) (by decide) k) ?_
          rw [show (Int32.ofNat i) + (1 : Int32) = Int32.ofNat (i + 1) from (Int32.ofNat_add _ _).symm] at F_position
          have hws : Ws (cs.getD i 0) := by first | exact Or.inl hc25 | exact Or.inr (Or.inl hc31) | exact Or.inr (Or.inr (Or.inl hc37)) | exact Or.inr (Or.inr (Or.inr hc43))
          have hst := fstStep hi hws
          exact ih (i + 1) _ T11 h11 _ (by omega) hi (by omega) (standUp X11 (by decide) (by decide)) e11 M11 E_a1 F_text F_chars F_position V_b
        ·
          refine Go.of (T' := T8) (f' := (mkF m 28 #[sR a1, sI (cs.getD i 0)] [])) (fun _ k => XS.icmpNo X8.here hx rfl (hb hby d_21_25) rfl (feq hc25).1 k) ?_
          refine Go.of (T' := T8) (f' := (mkF m 29 #[sR a1, sI (cs.getD i 0)] [(.int (cs.getD i 0))])) (fun _ k => XS.iloadN X8.here hx rfl (hb hby d_21_28) rfl k) ?_
          refine Go.of (T' := T8) (f' := (mkF m 31 #[sR a1, sI (cs.getD i 0)] [(.int (9 : Int32)), (.int (cs.getD i 0))])) (fun _ k => XS.bipush X8.here hx rfl (hb hby d_21_29) k) ?_
          by_cases hc31 : (cs.getD i 0) = (9 : Int32)
          ·
            refine Go.of (T' := T8) (f' := (mkF m 47 #[sR a1, sI (cs.getD i 0)] [])) (fun _ k => XS.icmpYes X8.here hx rfl (pc0 := 31) (pc' := 47) rfl (hb hby d_21_31) rfl (teq hc31).1 (by decide) (by decide) k) ?_
            refine Go.of (T' := T8) (f' := (mkF m 48 #[sR a1, sI (cs.getD i 0)] [(.ref a1)])) (fun _ k => XS.aloadN X8.here hx rfl (hb hby d_21_47) rfl rfl k) ?_
            refine Go.of (T' := T8) (f' := (mkF m 49 #[sR a1, sI (cs.getD i 0)] [(.ref a1), (.ref a1)])) (fun _ k => XS.dup X8.here hx rfl (hb hby d_21_48) rfl rfl k) ?_
            obtain ⟨T12, X12, e12, st12⟩ := getF X8 hx hZ hown (host := "") (Or.inl (hw _ (List.mem_of_getElem? (i := 76) rfl))) Via.refl e8 F_position (g := (mkF m 49 #[sR a1, sI (cs.getD i 0)] [(.ref a1), (.ref a1)])) rfl rfl (hb hby d_21_49)
            refine Go.of (T' := T12) (f' := (mkF m 52 #[sR a1, sI (cs.getD i 0)] [(.int (Int32.ofNat i)), (.ref a1)])) st12 ?_
            refine Go.of (T' := T12) (f' := (mkF m 53 #[sR a1, sI (cs.getD i 0)] [(.int (1 : Int32)), (.int (Int32.ofNat i)), (.ref a1)])) (fun _ k => XS.iconst X12.here hx rfl (hb hby d_21_52) k) ?_
            refine Go.of (T' := T12) (f' := (mkF m 54 #[sR a1, sI (cs.getD i 0)] [(.int ((Int32.ofNat i) + (1 : Int32))), (.ref a1)])) (fun _ k => XS.iadd X12.here hx rfl (hb hby d_21_53) rfl k) ?_
            obtain ⟨T13, h13, X13, e13, W13, st13⟩ := putF X12 hx hZ hown (host := "") (Or.inl (hw _ (List.mem_of_getElem? (i := 76) rfl))) Via.refl e12 F_position E_a1 (Or.inl (hw _ (List.mem_of_getElem? (i := 77) rfl))) (hw _ (List.mem_of_getElem? (i := 6) rfl)) (ty := .int) (by decide) rfl rfl (g := (mkF m 54 #[sR a1, sI (cs.getD i 0)] [(.int ((Int32.ofNat i) + (1 : Int32))), (.ref a1)])) rfl rfl (hb hby d_21_54)
            have K13 := Keep.of_wr W13
            have M13 := Mj.wr W13 (Or.inl (List.mem_of_getElem? (i := 0) rfl))
            replace F_text := F_text.other W13 (Or.inr (slot_ne (Or.inr (hw _ (List.mem_of_getElem? (i := 45) rfl))) (Or.inl (hw _ (List.mem_of_getElem? (i := 77) rfl))) (by decide) (t := (.object "java/lang/String")) (t' := .int) (by decide) (by decide)))
            replace F_chars := F_chars.other W13 (Or.inr (slot_ne (Or.inr (hw _ (List.mem_of_getElem? (i := 64) rfl))) (Or.inl (hw _ (List.mem_of_getElem? (i := 77) rfl))) (by decide) (t := (.array .char)) (t' := .int) (by decide) (by decide)))
            replace F_position := F_position.same W13
            replace E_a1 := E_a1.keep K13
            replace V_b := V_b.keep K13 (ninS ne_b_a1 nin0)
            refine Go.of (T' := T13) (f' := (mkF m 57 #[sR a1, sI (cs.getD i 0)] [])) st13 ?_
            refine Go.of (T' := T13) (f' := (mkF m 0 #[sR a1, sI (cs.getD i 0)] [])) (fun _ k => XS.goto X13.here hx rfl (pc0 := 57) (pc' := 0) rfl (hb hby d_21_57) (by decide) (by decide) k) ?_
            rw [show (Int32.ofNat i) + (1 : Int32) = Int32.ofNat (i + 1) from (Int32.ofNat_add _ _).symm] at F_position
            have hws : Ws (cs.getD i 0) := by first | exact Or.inl hc25 | exact Or.inr (Or.inl hc31) | exact Or.inr (Or.inr (Or.inl hc37)) | exact Or.inr (Or.inr (Or.inr hc43))
            have hst := fstStep hi hws
            exact ih (i + 1) _ T13 h13 _ (by omega) hi (by omega) (standUp X13 (by decide) (by decide)) e13 M13 E_a1 F_text F_chars F_position V_b
          ·
            refine Go.of (T' := T8) (f' := (mkF m 34 #[sR a1, sI (cs.getD i 0)] [])) (fun _ k => XS.icmpNo X8.here hx rfl (hb hby d_21_31) rfl (feq hc31).1 k) ?_
            refine Go.of (T' := T8) (f' := (mkF m 35 #[sR a1, sI (cs.getD i 0)] [(.int (cs.getD i 0))])) (fun _ k => XS.iloadN X8.here hx rfl (hb hby d_21_34) rfl k) ?_
            refine Go.of (T' := T8) (f' := (mkF m 37 #[sR a1, sI (cs.getD i 0)] [(.int (10 : Int32)), (.int (cs.getD i 0))])) (fun _ k => XS.bipush X8.here hx rfl (hb hby d_21_35) k) ?_
            by_cases hc37 : (cs.getD i 0) = (10 : Int32)
            ·
              refine Go.of (T' := T8) (f' := (mkF m 47 #[sR a1, sI (cs.getD i 0)] [])) (fun _ k => XS.icmpYes X8.here hx rfl (pc0 := 37) (pc' := 47) rfl (hb hby d_21_37) rfl (teq hc37).1 (by decide) (by decide) k) ?_
              refine Go.of (T' := T8) (f' := (mkF m 48 #[sR a1, sI (cs.getD i 0)] [(.ref a1)])) (fun _ k => XS.aloadN X8.here hx rfl (hb hby d_21_47) rfl rfl k) ?_
              refine Go.of (T' := T8) (f' := (mkF m 49 #[sR a1, sI (cs.getD i 0)] [(.ref a1), (.ref a1)])) (fun _ k => XS.dup X8.here hx rfl (hb hby d_21_48) rfl rfl k) ?_
              obtain ⟨T14, X14, e14, st14⟩ := getF X8 hx hZ hown (host := "") (Or.inl (hw _ (List.mem_of_getElem? (i := 76) rfl))) Via.refl e8 F_position (g := (mkF m 49 #[sR a1, sI (cs.getD i 0)] [(.ref a1), (.ref a1)])) rfl rfl (hb hby d_21_49)
              refine Go.of (T' := T14) (f' := (mkF m 52 #[sR a1, sI (cs.getD i 0)] [(.int (Int32.ofNat i)), (.ref a1)])) st14 ?_
              refine Go.of (T' := T14) (f' := (mkF m 53 #[sR a1, sI (cs.getD i 0)] [(.int (1 : Int32)), (.int (Int32.ofNat i)), (.ref a1)])) (fun _ k => XS.iconst X14.here hx rfl (hb hby d_21_52) k) ?_
              refine Go.of (T' := T14) (f' := (mkF m 54 #[sR a1, sI (cs.getD i 0)] [(.int ((Int32.ofNat i) + (1 : Int32))), (.ref a1)])) (fun _ k => XS.iadd X14.here hx rfl (hb hby d_21_53) rfl k) ?_
              obtain ⟨T15, h15, X15, e15, W15, st15⟩ := putF X14 hx hZ hown (host := "") (Or.inl (hw _ (List.mem_of_getElem? (i := 76) rfl))) Via.refl e14 F_position E_a1 (Or.inl (hw _ (List.mem_of_getElem? (i := 77) rfl))) (hw _ (List.mem_of_getElem? (i := 6) rfl)) (ty := .int) (by decide) rfl rfl (g := (mkF m 54 #[sR a1, sI (cs.getD i 0)] [(.int ((Int32.ofNat i) + (1 : Int32))), (.ref a1)])) rfl rfl (hb hby d_21_54)
              have K15 := Keep.of_wr W15
              have M15 := Mj.wr W15 (Or.inl (List.mem_of_getElem? (i := 0) rfl))
              replace F_text := F_text.other W15 (Or.inr (slot_ne (Or.inr (hw _ (List.mem_of_getElem? (i := 45) rfl))) (Or.inl (hw _ (List.mem_of_getElem? (i := 77) rfl))) (by decide) (t := (.object "java/lang/String")) (t' := .int) (by decide) (by decide)))
              replace F_chars := F_chars.other W15 (Or.inr (slot_ne (Or.inr (hw _ (List.mem_of_getElem? (i := 64) rfl))) (Or.inl (hw _ (List.mem_of_getElem? (i := 77) rfl))) (by decide) (t := (.array .char)) (t' := .int) (by decide) (by decide)))
              replace F_position := F_position.same W15
              replace E_a1 := E_a1.keep K15
              replace V_b := V_b.keep K15 (ninS ne_b_a1 nin0)
              refine Go.of (T' := T15) (f' := (mkF m 57 #[sR a1, sI (cs.getD i 0)] [])) st15 ?_
              refine Go.of (T' := T15) (f' := (mkF m 0 #[sR a1, sI (cs.getD i 0)] [])) (fun _ k => XS.goto X15.here hx rfl (pc0 := 57) (pc' := 0) rfl (hb hby d_21_57) (by decide) (by decide) k) ?_
              rw [show (Int32.ofNat i) + (1 : Int32) = Int32.ofNat (i + 1) from (Int32.ofNat_add _ _).symm] at F_position
              have hws : Ws (cs.getD i 0) := by first | exact Or.inl hc25 | exact Or.inr (Or.inl hc31) | exact Or.inr (Or.inr (Or.inl hc37)) | exact Or.inr (Or.inr (Or.inr hc43))
              have hst := fstStep hi hws
              exact ih (i + 1) _ T15 h15 _ (by omega) hi (by omega) (standUp X15 (by decide) (by decide)) e15 M15 E_a1 F_text F_chars F_position V_b
            ·
              refine Go.of (T' := T8) (f' := (mkF m 40 #[sR a1, sI (cs.getD i 0)] [])) (fun _ k => XS.icmpNo X8.here hx rfl (hb hby d_21_37) rfl (feq hc37).1 k) ?_
              refine Go.of (T' := T8) (f' := (mkF m 41 #[sR a1, sI (cs.getD i 0)] [(.int (cs.getD i 0))])) (fun _ k => XS.iloadN X8.here hx rfl (hb hby d_21_40) rfl k) ?_
              refine Go.of (T' := T8) (f' := (mkF m 43 #[sR a1, sI (cs.getD i 0)] [(.int (13 : Int32)), (.int (cs.getD i 0))])) (fun _ k => XS.bipush X8.here hx rfl (hb hby d_21_41) k) ?_
              by_cases hc43 : (cs.getD i 0) = (13 : Int32)
              ·
                refine Go.of (T' := T8) (f' := (mkF m 47 #[sR a1, sI (cs.getD i 0)] [])) (fun _ k => XS.icmpYes X8.here hx rfl (pc0 := 43) (pc' := 47) rfl (hb hby d_21_43) rfl (teq hc43).1 (by decide) (by decide) k) ?_
                refine Go.of (T' := T8) (f' := (mkF m 48 #[sR a1, sI (cs.getD i 0)] [(.ref a1)])) (fun _ k => XS.aloadN X8.here hx rfl (hb hby d_21_47) rfl rfl k) ?_
                refine Go.of (T' := T8) (f' := (mkF m 49 #[sR a1, sI (cs.getD i 0)] [(.ref a1), (.ref a1)])) (fun _ k => XS.dup X8.here hx rfl (hb hby d_21_48) rfl rfl k) ?_
                obtain ⟨T16, X16, e16, st16⟩ := getF X8 hx hZ hown (host := "") (Or.inl (hw _ (List.mem_of_getElem? (i := 76) rfl))) Via.refl e8 F_position (g := (mkF m 49 #[sR a1, sI (cs.getD i 0)] [(.ref a1), (.ref a1)])) rfl rfl (hb hby d_21_49)
                refine Go.of (T' := T16) (f' := (mkF m 52 #[sR a1, sI (cs.getD i 0)] [(.int (Int32.ofNat i)), (.ref a1)])) st16 ?_
                refine Go.of (T' := T16) (f' := (mkF m 53 #[sR a1, sI (cs.getD i 0)] [(.int (1 : Int32)), (.int (Int32.ofNat i)), (.ref a1)])) (fun _ k => XS.iconst X16.here hx rfl (hb hby d_21_52) k) ?_
                refine Go.of (T' := T16) (f' := (mkF m 54 #[sR a1, sI (cs.getD i 0)] [(.int ((Int32.ofNat i) + (1 : Int32))), (.ref a1)])) (fun _ k => XS.iadd X16.here hx rfl (hb hby d_21_53) rfl k) ?_
                obtain ⟨T17, h17, X17, e17, W17, st17⟩ := putF X16 hx hZ hown (host := "") (Or.inl (hw _ (List.mem_of_getElem? (i := 76) rfl))) Via.refl e16 F_position E_a1 (Or.inl (hw _ (List.mem_of_getElem? (i := 77) rfl))) (hw _ (List.mem_of_getElem? (i := 6) rfl)) (ty := .int) (by decide) rfl rfl (g := (mkF m 54 #[sR a1, sI (cs.getD i 0)] [(.int ((Int32.ofNat i) + (1 : Int32))), (.ref a1)])) rfl rfl (hb hby d_21_54)
                have K17 := Keep.of_wr W17
                have M17 := Mj.wr W17 (Or.inl (List.mem_of_getElem? (i := 0) rfl))
                replace F_text := F_text.other W17 (Or.inr (slot_ne (Or.inr (hw _ (List.mem_of_getElem? (i := 45) rfl))) (Or.inl (hw _ (List.mem_of_getElem? (i := 77) rfl))) (by decide) (t := (.object "java/lang/String")) (t' := .int) (by decide) (by decide)))
                replace F_chars := F_chars.other W17 (Or.inr (slot_ne (Or.inr (hw _ (List.mem_of_getElem? (i := 64) rfl))) (Or.inl (hw _ (List.mem_of_getElem? (i := 77) rfl))) (by decide) (t := (.array .char)) (t' := .int) (by decide) (by decide)))
                replace F_position := F_position.same W17
                replace E_a1 := E_a1.keep K17
                replace V_b := V_b.keep K17 (ninS ne_b_a1 nin0)
                refine Go.of (T' := T17) (f' := (mkF m 57 #[sR a1, sI (cs.getD i 0)] [])) st17 ?_
                refine Go.of (T' := T17) (f' := (mkF m 0 #[sR a1, sI (cs.getD i 0)] [])) (fun _ k => XS.goto X17.here hx rfl (pc0 := 57) (pc' := 0) rfl (hb hby d_21_57) (by decide) (by decide) k) ?_
                rw [show (Int32.ofNat i) + (1 : Int32) = Int32.ofNat (i + 1) from (Int32.ofNat_add _ _).symm] at F_position
                have hws : Ws (cs.getD i 0) := by first | exact Or.inl hc25 | exact Or.inr (Or.inl hc31) | exact Or.inr (Or.inr (Or.inl hc37)) | exact Or.inr (Or.inr (Or.inr hc43))
                have hst := fstStep hi hws
                exact ih (i + 1) _ T17 h17 _ (by omega) hi (by omega) (standUp X17 (by decide) (by decide)) e17 M17 E_a1 F_text F_chars F_position V_b
              ·
                refine Go.of (T' := T8) (f' := (mkF m 46 #[sR a1, sI (cs.getD i 0)] [])) (fun _ k => XS.icmpNo X8.here hx rfl (hb hby d_21_43) rfl (feq hc43).1 k) ?_
                exact goRet0 (Q := fun v h L => v = none ∧ Mv h0 h [a1] L ∧ Exa Z h a1 "com/example/rezeptkern/rezeptkern/JsonCursor" ∧ Fld Z h a1 "com/example/rezeptkern/rezeptkern/JsonCursor" "text" "Ljava/lang/String;" (.ref tx) ∧ Fld Z h a1 "com/example/rezeptkern/rezeptkern/JsonCursor" "chars" "[C" (.ref b) ∧ Fld Z h a1 "com/example/rezeptkern/rezeptkern/JsonCursor" "position" "I" (.int (Int32.ofNat j)) ∧ Arv Z h b kb (.char) (Int32.ofNat cs.length) (cs.map Value.int) (.int (0 : Int32))) X8 hx hret hlk (hb hby d_21_46) K (by decide) (by decide) e8 (by
                    have e0 := fstStop hi (fun q => by rcases q with q | q | q | q; exact hc25 q; exact hc31 q; exact hc37 q; exact hc43 q)
                    have e1 : i = j := by omega
                    rw [e1] at F_position
                    exact ⟨rfl, Mj, E_a1, F_text, F_chars, F_position, V_b⟩)
      ·
        refine Go.of (T' := T5) (f' := (mkF m 60 #[sR a1, sI cj] [])) (fun _ k => XS.icmpYes X5.here hx rfl (pc0 := 9) (pc' := 60) rfl (hb hby d_21_9) rfl (flt hc9).2.1 (by decide) (by decide) k) ?_
        exact goRet0 (Q := fun v h L => v = none ∧ Mv h0 h [a1] L ∧ Exa Z h a1 "com/example/rezeptkern/rezeptkern/JsonCursor" ∧ Fld Z h a1 "com/example/rezeptkern/rezeptkern/JsonCursor" "text" "Ljava/lang/String;" (.ref tx) ∧ Fld Z h a1 "com/example/rezeptkern/rezeptkern/JsonCursor" "chars" "[C" (.ref b) ∧ Fld Z h a1 "com/example/rezeptkern/rezeptkern/JsonCursor" "position" "I" (.int (Int32.ofNat j)) ∧ Arv Z h b kb (.char) (Int32.ofNat cs.length) (cs.map Value.int) (.int (0 : Int32))) X5 hx hret hlk (hb hby d_21_60) K (by decide) (by decide) e5 (by
            have e0 := fstNil (cs := cs) (i := i) (by first | exact Nat.le_of_not_lt fun q => hc9 ((ltN (by omega) (by omega)).mpr q) | omega)
            have e1 : i = j := by omega
            rw [e1] at F_position
            exact ⟨rfl, Mj, E_a1, F_text, F_chars, F_position, V_b⟩)
  refine Go.of (T' := s₁) (f' := (mkF m 1 #[sR a1, .unset] [(.ref a1)])) (fun _ k => XS.aloadN X0.here hx rfl (hb hby d_21_0) rfl rfl k) ?_
  obtain ⟨T18, X18, e18, st18⟩ := getF X0 hx hZ hown (host := "") (Or.inl (hw _ (List.mem_of_getElem? (i := 76) rfl))) Via.refl e0 F_position (g := (mkF m 1 #[sR a1, .unset] [(.ref a1)])) rfl rfl (hb hby d_21_1)
  refine Go.of (T' := T18) (f' := (mkF m 4 #[sR a1, .unset] [(.int (Int32.ofNat i0))])) st18 ?_
  refine Go.of (T' := T18) (f' := (mkF m 5 #[sR a1, .unset] [(.ref a1), (.int (Int32.ofNat i0))])) (fun _ k => XS.aloadN X18.here hx rfl (hb hby d_21_4) rfl rfl k) ?_
  obtain ⟨T19, X19, e19, st19⟩ := getF X18 hx hZ hown (host := "") (Or.inl (hw _ (List.mem_of_getElem? (i := 63) rfl))) Via.refl e18 F_chars (g := (mkF m 5 #[sR a1, .unset] [(.ref a1), (.int (Int32.ofNat i0))])) rfl rfl (hb hby d_21_5)
  refine Go.of (T' := T19) (f' := (mkF m 8 #[sR a1, .unset] [(.ref b), (.int (Int32.ofNat i0))])) st19 ?_
  obtain ⟨cl20, Ar20, -, Sz20, Nn20, -, -⟩ := id V_b
  refine Go.of (T' := T19) (f' := (mkF m 9 #[sR a1, .unset] [(.int (Int32.ofNat cs.length)), (.int (Int32.ofNat i0))])) (fun _ k => X19.arraylength hx (by rw [e19]; exact Ar20.1) (State.isArrayOf_alike hZ.alike Ar20.2.1) (g := (mkF m 8 #[sR a1, .unset] [(.ref b), (.int (Int32.ofNat i0))])) rfl rfl (hb hby d_21_8) _ (by rw [len_of Sz20 Nn20]; exact k)) ?_
  by_cases hc9 : (Int32.ofNat i0) < (Int32.ofNat cs.length)
  ·
    refine Go.of (T' := T19) (f' := (mkF m 12 #[sR a1, .unset] [])) (fun _ k => XS.icmpNo X19.here hx rfl (hb hby d_21_9) rfl (tlt hc9).2.1 k) ?_
    have hi : i0 < cs.length := (ltN (by omega) (by omega)).mp hc9
    refine Go.of (T' := T19) (f' := (mkF m 13 #[sR a1, .unset] [(.ref a1)])) (fun _ k => XS.aloadN X19.here hx rfl (hb hby d_21_12) rfl rfl k) ?_
    obtain ⟨T21, X21, e21, st21⟩ := getF X19 hx hZ hown (host := "") (Or.inl (hw _ (List.mem_of_getElem? (i := 63) rfl))) Via.refl e19 F_chars (g := (mkF m 13 #[sR a1, .unset] [(.ref a1)])) rfl rfl (hb hby d_21_13)
    refine Go.of (T' := T21) (f' := (mkF m 16 #[sR a1, .unset] [(.ref b)])) st21 ?_
    refine Go.of (T' := T21) (f' := (mkF m 17 #[sR a1, .unset] [(.ref a1), (.ref b)])) (fun _ k => XS.aloadN X21.here hx rfl (hb hby d_21_16) rfl rfl k) ?_
    obtain ⟨T22, X22, e22, st22⟩ := getF X21 hx hZ hown (host := "") (Or.inl (hw _ (List.mem_of_getElem? (i := 76) rfl))) Via.refl e21 F_position (g := (mkF m 17 #[sR a1, .unset] [(.ref a1), (.ref b)])) rfl rfl (hb hby d_21_17)
    refine Go.of (T' := T22) (f' := (mkF m 20 #[sR a1, .unset] [(.int (Int32.ofNat i0)), (.ref b)])) st22 ?_
    obtain ⟨cl23, Ar23, cq23, Sz23, Nn23, Hs23, Gs23⟩ := id V_b
    have hin23 : ¬ ((Int32.ofNat i0) < 0 ∨ cl23.slots.size ≤ ((Int32.ofNat i0)).toNatClampNeg) := inbN Sz23 hi (by omega)
    have hat23 : cl23.slots[((Int32.ofNat i0)).toNatClampNeg]? = some (.int (cs.getD i0 0)) := Has.at Hs23 hin23 (by rw [nat32 (by omega)]; exact mapGet hi)
    refine Go.of (T' := T22) (f' := (mkF m 21 #[sR a1, .unset] [(.int (cs.getD i0 0))])) (fun _ k => X22.caload hx (j := (Int32.ofNat i0)) (v := (.int (cs.getD i0 0))) (by rw [e22]; exact Ar23.1) (State.isArrayOf_alike hZ.alike Ar23.2.1) Ar23.2.2 hin23 hat23 (g := (mkF m 20 #[sR a1, .unset] [(.int (Int32.ofNat i0)), (.ref b)])) rfl rfl (hb hby d_21_20) _ k) ?_
    refine Go.of (T' := T22) (f' := (mkF m 22 #[sR a1, sI (cs.getD i0 0)] [])) (fun _ k => XS.istoreN X22.here hx rfl (hb hby d_21_21) rfl (l' := #[sR a1, sI (cs.getD i0 0)]) rfl k) ?_
    refine Go.of (T' := T22) (f' := (mkF m 23 #[sR a1, sI (cs.getD i0 0)] [(.int (cs.getD i0 0))])) (fun _ k => XS.iloadN X22.here hx rfl (hb hby d_21_22) rfl k) ?_
    refine Go.of (T' := T22) (f' := (mkF m 25 #[sR a1, sI (cs.getD i0 0)] [(.int (32 : Int32)), (.int (cs.getD i0 0))])) (fun _ k => XS.bipush X22.here hx rfl (hb hby d_21_23) k) ?_
    by_cases hc25 : (cs.getD i0 0) = (32 : Int32)
    ·
      refine Go.of (T' := T22) (f' := (mkF m 47 #[sR a1, sI (cs.getD i0 0)] [])) (fun _ k => XS.icmpYes X22.here hx rfl (pc0 := 25) (pc' := 47) rfl (hb hby d_21_25) rfl (teq hc25).1 (by decide) (by decide) k) ?_
      refine Go.of (T' := T22) (f' := (mkF m 48 #[sR a1, sI (cs.getD i0 0)] [(.ref a1)])) (fun _ k => XS.aloadN X22.here hx rfl (hb hby d_21_47) rfl rfl k) ?_
      refine Go.of (T' := T22) (f' := (mkF m 49 #[sR a1, sI (cs.getD i0 0)] [(.ref a1), (.ref a1)])) (fun _ k => XS.dup X22.here hx rfl (hb hby d_21_48) rfl rfl k) ?_
      obtain ⟨T24, X24, e24, st24⟩ := getF X22 hx hZ hown (host := "") (Or.inl (hw _ (List.mem_of_getElem? (i := 76) rfl))) Via.refl e22 F_position (g := (mkF m 49 #[sR a1, sI (cs.getD i0 0)] [(.ref a1), (.ref a1)])) rfl rfl (hb hby d_21_49)
      refine Go.of (T' := T24) (f' := (mkF m 52 #[sR a1, sI (cs.getD i0 0)] [(.int (Int32.ofNat i0)), (.ref a1)])) st24 ?_
      refine Go.of (T' := T24) (f' := (mkF m 53 #[sR a1, sI (cs.getD i0 0)] [(.int (1 : Int32)), (.int (Int32.ofNat i0)), (.ref a1)])) (fun _ k => XS.iconst X24.here hx rfl (hb hby d_21_52) k) ?_
      refine Go.of (T' := T24) (f' := (mkF m 54 #[sR a1, sI (cs.getD i0 0)] [(.int ((Int32.ofNat i0) + (1 : Int32))), (.ref a1)])) (fun _ k => XS.iadd X24.here hx rfl (hb hby d_21_53) rfl k) ?_
      obtain ⟨T25, h25, X25, e25, W25, st25⟩ := putF X24 hx hZ hown (host := "") (Or.inl (hw _ (List.mem_of_getElem? (i := 76) rfl))) Via.refl e24 F_position E_a1 (Or.inl (hw _ (List.mem_of_getElem? (i := 77) rfl))) (hw _ (List.mem_of_getElem? (i := 6) rfl)) (ty := .int) (by decide) rfl rfl (g := (mkF m 54 #[sR a1, sI (cs.getD i0 0)] [(.int ((Int32.ofNat i0) + (1 : Int32))), (.ref a1)])) rfl rfl (hb hby d_21_54)
      have K25 := Keep.of_wr W25
      have M25 := M0.wr W25 (Or.inl (List.mem_of_getElem? (i := 0) rfl))
      replace F_text := F_text.other W25 (Or.inr (slot_ne (Or.inr (hw _ (List.mem_of_getElem? (i := 45) rfl))) (Or.inl (hw _ (List.mem_of_getElem? (i := 77) rfl))) (by decide) (t := (.object "java/lang/String")) (t' := .int) (by decide) (by decide)))
      replace F_chars := F_chars.other W25 (Or.inr (slot_ne (Or.inr (hw _ (List.mem_of_getElem? (i := 64) rfl))) (Or.inl (hw _ (List.mem_of_getElem? (i := 77) rfl))) (by decide) (t := (.array .char)) (t' := .int) (by decide) (by decide)))
      replace F_position := F_position.same W25
      replace E_a1 := E_a1.keep K25
      replace V_b := V_b.keep K25 (ninS ne_b_a1 nin0)
      refine Go.of (T' := T25) (f' := (mkF m 57 #[sR a1, sI (cs.getD i0 0)] [])) st25 ?_
      refine Go.of (T' := T25) (f' := (mkF m 0 #[sR a1, sI (cs.getD i0 0)] [])) (fun _ k => XS.goto X25.here hx rfl (pc0 := 57) (pc' := 0) rfl (hb hby d_21_57) (by decide) (by decide) k) ?_
      rw [show (Int32.ofNat i0) + (1 : Int32) = Int32.ofNat (i0 + 1) from (Int32.ofNat_add _ _).symm] at F_position
      have hws : Ws (cs.getD i0 0) := by first | exact Or.inl hc25 | exact Or.inr (Or.inl hc31) | exact Or.inr (Or.inr (Or.inl hc37)) | exact Or.inr (Or.inr (Or.inr hc43))
      have hst := fstStep hi hws
      exact J cs.length (i0 + 1) _ T25 h25 _ (by omega) hi (by omega) (standUp X25 (by decide) (by decide)) e25 M25 E_a1 F_text F_chars F_position V_b
    ·
      refine Go.of (T' := T22) (f' := (mkF m 28 #[sR a1, sI (cs.getD i0 0)] [])) (fun _ k => XS.icmpNo X22.here hx rfl (hb hby d_21_25) rfl (feq hc25).1 k) ?_
      refine Go.of (T' := T22) (f' := (mkF m 29 #[sR a1, sI (cs.getD i0 0)] [(.int (cs.getD i0 0))])) (fun _ k => XS.iloadN X22.here hx rfl (hb hby d_21_28) rfl k) ?_
      refine Go.of (T' := T22) (f' := (mkF m 31 #[sR a1, sI (cs.getD i0 0)] [(.int (9 : Int32)), (.int (cs.getD i0 0))])) (fun _ k => XS.bipush X22.here hx rfl (hb hby d_21_29) k) ?_
      by_cases hc31 : (cs.getD i0 0) = (9 : Int32)
      ·
        refine Go.of (T' := T22) (f' := (mkF m 47 #[sR a1, sI (cs.getD i0 0)] [])) (fun _ k => XS.icmpYes X22.here hx rfl (pc0 := 31) (pc' := 47) rfl (hb hby d_21_31) rfl (teq hc31).1 (by decide) (by decide) k) ?_
        refine Go.of (T' := T22) (f' := (mkF m 48 #[sR a1, sI (cs.getD i0 0)] [(.ref a1)])) (fun _ k => XS.aloadN X22.here hx rfl (hb hby d_21_47) rfl rfl k) ?_
        refine Go.of (T' := T22) (f' := (mkF m 49 #[sR a1, sI (cs.getD i0 0)] [(.ref a1), (.ref a1)])) (fun _ k => XS.dup X22.here hx rfl (hb hby d_21_48) rfl rfl k) ?_
        obtain ⟨T26, X26, e26, st26⟩ := getF X22 hx hZ hown (host := "") (Or.inl (hw _ (List.mem_of_getElem? (i := 76) rfl))) Via.refl e22 F_position (g := (mkF m 49 #[sR a1, sI (cs.getD i0 0)] [(.ref a1), (.ref a1)])) rfl rfl (hb hby d_21_49)
        refine Go.of (T' := T26) (f' := (mkF m 52 #[sR a1, sI (cs.getD i0 0)] [(.int (Int32.ofNat i0)), (.ref a1)])) st26 ?_
        refine Go.of (T' := T26) (f' := (mkF m 53 #[sR a1, sI (cs.getD i0 0)] [(.int (1 : Int32)), (.int (Int32.ofNat i0)), (.ref a1)])) (fun _ k => XS.iconst X26.here hx rfl (hb hby d_21_52) k) ?_
        refine Go.of (T' := T26) (f' := (mkF m 54 #[sR a1, sI (cs.getD i0 0)] [(.int ((Int32.ofNat i0) + (1 : Int32))), (.ref a1)])) (fun _ k => XS.iadd X26.here hx rfl (hb hby d_21_53) rfl k) ?_
        obtain ⟨T27, h27, X27, e27, W27, st27⟩ := putF X26 hx hZ hown (host := "") (Or.inl (hw _ (List.mem_of_getElem? (i := 76) rfl))) Via.refl e26 F_position E_a1 (Or.inl (hw _ (List.mem_of_getElem? (i := 77) rfl))) (hw _ (List.mem_of_getElem? (i := 6) rfl)) (ty := .int) (by decide) rfl rfl (g := (mkF m 54 #[sR a1, sI (cs.getD i0 0)] [(.int ((Int32.ofNat i0) + (1 : Int32))), (.ref a1)])) rfl rfl (hb hby d_21_54)
        have K27 := Keep.of_wr W27
        have M27 := M0.wr W27 (Or.inl (List.mem_of_getElem? (i := 0) rfl))
        replace F_text := F_text.other W27 (Or.inr (slot_ne (Or.inr (hw _ (List.mem_of_getElem? (i := 45) rfl))) (Or.inl (hw _ (List.mem_of_getElem? (i := 77) rfl))) (by decide) (t := (.object "java/lang/String")) (t' := .int) (by decide) (by decide)))
        replace F_chars := F_chars.other W27 (Or.inr (slot_ne (Or.inr (hw _ (List.mem_of_getElem? (i := 64) rfl))) (Or.inl (hw _ (List.mem_of_getElem? (i := 77) rfl))) (by decide) (t := (.array .char)) (t' := .int) (by decide) (by decide)))
        replace F_position := F_position.same W27
        replace E_a1 := E_a1.keep K27
        replace V_b := V_b.keep K27 (ninS ne_b_a1 nin0)
        refine Go.of (T' := T27) (f' := (mkF m 57 #[sR a1, sI (cs.getD i0 0)] [])) st27 ?_
        refine Go.of (T' := T27) (f' := (mkF m 0 #[sR a1, sI (cs.getD i0 0)] [])) (fun _ k => XS.goto X27.here hx rfl (pc0 := 57) (pc' := 0) rfl (hb hby d_21_57) (by decide) (by decide) k) ?_
        rw [show (Int32.ofNat i0) + (1 : Int32) = Int32.ofNat (i0 + 1) from (Int32.ofNat_add _ _).symm] at F_position
        have hws : Ws (cs.getD i0 0) := by first | exact Or.inl hc25 | exact Or.inr (Or.inl hc31) | exact Or.inr (Or.inr (Or.inl hc37)) | exact Or.inr (Or.inr (Or.inr hc43))
        have hst := fstStep hi hws
        exact J cs.length (i0 + 1) _ T27 h27 _ (by omega) hi (by omega) (standUp X27 (by decide) (by decide)) e27 M27 E_a1 F_text F_chars F_position V_b
      ·
        refine Go.of (T' := T22) (f' := (mkF m 34 #[sR a1, sI (cs.getD i0 0)] [])) (fun _ k => XS.icmpNo X22.here hx rfl (hb hby d_21_31) rfl (feq hc31).1 k) ?_
        refine Go.of (T' := T22) (f' := (mkF m 35 #[sR a1, sI (cs.getD i0 0)] [(.int (cs.getD i0 0))])) (fun _ k => XS.iloadN X22.here hx rfl (hb hby d_21_34) rfl k) ?_
        refine Go.of (T' := T22) (f' := (mkF m 37 #[sR a1, sI (cs.getD i0 0)] [(.int (10 : Int32)), (.int (cs.getD i0 0))])) (fun _ k => XS.bipush X22.here hx rfl (hb hby d_21_35) k) ?_
        by_cases hc37 : (cs.getD i0 0) = (10 : Int32)
        ·
          refine Go.of (T' := T22) (f' := (mkF m 47 #[sR a1, sI (cs.getD i0 0)] [])) (fun _ k => XS.icmpYes X22.here hx rfl (pc0 := 37) (pc' := 47) rfl (hb hby d_21_37) rfl (teq hc37).1 (by decide) (by decide) k) ?_
          refine Go.of (T' := T22) (f' := (mkF m 48 #[sR a1, sI (cs.getD i0 0)] [(.ref a1)])) (fun _ k => XS.aloadN X22.here hx rfl (hb hby d_21_47) rfl rfl k) ?_
          refine Go.of (T' := T22) (f' := (mkF m 49 #[sR a1, sI (cs.getD i0 0)] [(.ref a1), (.ref a1)])) (fun _ k => XS.dup X22.here hx rfl (hb hby d_21_48) rfl rfl k) ?_
          obtain ⟨T28, X28, e28, st28⟩ := getF X22 hx hZ hown (host := "") (Or.inl (hw _ (List.mem_of_getElem? (i := 76) rfl))) Via.refl e22 F_position (g := (mkF m 49 #[sR a1, sI (cs.getD i0 0)] [(.ref a1), (.ref a1)])) rfl rfl (hb hby d_21_49)
          refine Go.of (T' := T28) (f' := (mkF m 52 #[sR a1, sI (cs.getD i0 0)] [(.int (Int32.ofNat i0)), (.ref a1)])) st28 ?_
          refine Go.of (T' := T28) (f' := (mkF m 53 #[sR a1, sI (cs.getD i0 0)] [(.int (1 : Int32)), (.int (Int32.ofNat i0)), (.ref a1)])) (fun _ k => XS.iconst X28.here hx rfl (hb hby d_21_52) k) ?_
          refine Go.of (T' := T28) (f' := (mkF m 54 #[sR a1, sI (cs.getD i0 0)] [(.int ((Int32.ofNat i0) + (1 : Int32))), (.ref a1)])) (fun _ k => XS.iadd X28.here hx rfl (hb hby d_21_53) rfl k) ?_
          obtain ⟨T29, h29, X29, e29, W29, st29⟩ := putF X28 hx hZ hown (host := "") (Or.inl (hw _ (List.mem_of_getElem? (i := 76) rfl))) Via.refl e28 F_position E_a1 (Or.inl (hw _ (List.mem_of_getElem? (i := 77) rfl))) (hw _ (List.mem_of_getElem? (i := 6) rfl)) (ty := .int) (by decide) rfl rfl (g := (mkF m 54 #[sR a1, sI (cs.getD i0 0)] [(.int ((Int32.ofNat i0) + (1 : Int32))), (.ref a1)])) rfl rfl (hb hby d_21_54)
          have K29 := Keep.of_wr W29
          have M29 := M0.wr W29 (Or.inl (List.mem_of_getElem? (i := 0) rfl))
          replace F_text := F_text.other W29 (Or.inr (slot_ne (Or.inr (hw _ (List.mem_of_getElem? (i := 45) rfl))) (Or.inl (hw _ (List.mem_of_getElem? (i := 77) rfl))) (by decide) (t := (.object "java/lang/String")) (t' := .int) (by decide) (by decide)))
          replace F_chars := F_chars.other W29 (Or.inr (slot_ne (Or.inr (hw _ (List.mem_of_getElem? (i := 64) rfl))) (Or.inl (hw _ (List.mem_of_getElem? (i := 77) rfl))) (by decide) (t := (.array .char)) (t' := .int) (by decide) (by decide)))
          replace F_position := F_position.same W29
          replace E_a1 := E_a1.keep K29
          replace V_b := V_b.keep K29 (ninS ne_b_a1 nin0)
          refine Go.of (T' := T29) (f' := (mkF m 57 #[sR a1, sI (cs.getD i0 0)] [])) st29 ?_
          refine Go.of (T' := T29) (f' := (mkF m 0 #[sR a1, sI (cs.getD i0 0)] [])) (fun _ k => XS.goto X29.here hx rfl (pc0 := 57) (pc' := 0) rfl (hb hby d_21_57) (by decide) (by decide) k) ?_
          rw [show (Int32.ofNat i0) + (1 : Int32) = Int32.ofNat (i0 + 1) from (Int32.ofNat_add _ _).symm] at F_position
          have hws : Ws (cs.getD i0 0) := by first | exact Or.inl hc25 | exact Or.inr (Or.inl hc31) | exact Or.inr (Or.inr (Or.inl hc37)) | exact Or.inr (Or.inr (Or.inr hc43))
          have hst := fstStep hi hws
          exact J cs.length (i0 + 1) _ T29 h29 _ (by omega) hi (by omega) (standUp X29 (by decide) (by decide)) e29 M29 E_a1 F_text F_chars F_position V_b
        ·
          refine Go.of (T' := T22) (f' := (mkF m 40 #[sR a1, sI (cs.getD i0 0)] [])) (fun _ k => XS.icmpNo X22.here hx rfl (hb hby d_21_37) rfl (feq hc37).1 k) ?_
          refine Go.of (T' := T22) (f' := (mkF m 41 #[sR a1, sI (cs.getD i0 0)] [(.int (cs.getD i0 0))])) (fun _ k => XS.iloadN X22.here hx rfl (hb hby d_21_40) rfl k) ?_
          refine Go.of (T' := T22) (f' := (mkF m 43 #[sR a1, sI (cs.getD i0 0)] [(.int (13 : Int32)), (.int (cs.getD i0 0))])) (fun _ k => XS.bipush X22.here hx rfl (hb hby d_21_41) k) ?_
          by_cases hc43 : (cs.getD i0 0) = (13 : Int32)
          ·
            refine Go.of (T' := T22) (f' := (mkF m 47 #[sR a1, sI (cs.getD i0 0)] [])) (fun _ k => XS.icmpYes X22.here hx rfl (pc0 := 43) (pc' := 47) rfl (hb hby d_21_43) rfl (teq hc43).1 (by decide) (by decide) k) ?_
            refine Go.of (T' := T22) (f' := (mkF m 48 #[sR a1, sI (cs.getD i0 0)] [(.ref a1)])) (fun _ k => XS.aloadN X22.here hx rfl (hb hby d_21_47) rfl rfl k) ?_
            refine Go.of (T' := T22) (f' := (mkF m 49 #[sR a1, sI (cs.getD i0 0)] [(.ref a1), (.ref a1)])) (fun _ k => XS.dup X22.here hx rfl (hb hby d_21_48) rfl rfl k) ?_
            obtain ⟨T30, X30, e30, st30⟩ := getF X22 hx hZ hown (host := "") (Or.inl (hw _ (List.mem_of_getElem? (i := 76) rfl))) Via.refl e22 F_position (g := (mkF m 49 #[sR a1, sI (cs.getD i0 0)] [(.ref a1), (.ref a1)])) rfl rfl (hb hby d_21_49)
            refine Go.of (T' := T30) (f' := (mkF m 52 #[sR a1, sI (cs.getD i0 0)] [(.int (Int32.ofNat i0)), (.ref a1)])) st30 ?_
            refine Go.of (T' := T30) (f' := (mkF m 53 #[sR a1, sI (cs.getD i0 0)] [(.int (1 : Int32)), (.int (Int32.ofNat i0)), (.ref a1)])) (fun _ k => XS.iconst X30.here hx rfl (hb hby d_21_52) k) ?_
            refine Go.of (T' := T30) (f' := (mkF m 54 #[sR a1, sI (cs.getD i0 0)] [(.int ((Int32.ofNat i0) + (1 : Int32))), (.ref a1)])) (fun _ k => XS.iadd X30.here hx rfl (hb hby d_21_53) rfl k) ?_
            obtain ⟨T31, h31, X31, e31, W31, st31⟩ := putF X30 hx hZ hown (host := "") (Or.inl (hw _ (List.mem_of_getElem? (i := 76) rfl))) Via.refl e30 F_position E_a1 (Or.inl (hw _ (List.mem_of_getElem? (i := 77) rfl))) (hw _ (List.mem_of_getElem? (i := 6) rfl)) (ty := .int) (by decide) rfl rfl (g := (mkF m 54 #[sR a1, sI (cs.getD i0 0)] [(.int ((Int32.ofNat i0) + (1 : Int32))), (.ref a1)])) rfl rfl (hb hby d_21_54)
            have K31 := Keep.of_wr W31
            have M31 := M0.wr W31 (Or.inl (List.mem_of_getElem? (i := 0) rfl))
            replace F_text := F_text.other W31 (Or.inr (slot_ne (Or.inr (hw _ (List.mem_of_getElem? (i := 45) rfl))) (Or.inl (hw _ (List.mem_of_getElem? (i := 77) rfl))) (by decide) (t := (.object "java/lang/String")) (t' := .int) (by decide) (by decide)))
            replace F_chars := F_chars.other W31 (Or.inr (slot_ne (Or.inr (hw _ (List.mem_of_getElem? (i := 64) rfl))) (Or.inl (hw _ (List.mem_of_getElem? (i := 77) rfl))) (by decide) (t := (.array .char)) (t' := .int) (by decide) (by decide)))
            replace F_position := F_position.same W31
            replace E_a1 := E_a1.keep K31
            replace V_b := V_b.keep K31 (ninS ne_b_a1 nin0)
            refine Go.of (T' := T31) (f' := (mkF m 57 #[sR a1, sI (cs.getD i0 0)] [])) st31 ?_
            refine Go.of (T' := T31) (f' := (mkF m 0 #[sR a1, sI (cs.getD i0 0)] [])) (fun _ k => XS.goto X31.here hx rfl (pc0 := 57) (pc' := 0) rfl (hb hby d_21_57) (by decide) (by decide) k) ?_
            rw [show (Int32.ofNat i0) + (1 : Int32) = Int32.ofNat (i0 + 1) from (Int32.ofNat_add _ _).symm] at F_position
            have hws : Ws (cs.getD i0 0) := by first | exact Or.inl hc25 | exact Or.inr (Or.inl hc31) | exact Or.inr (Or.inr (Or.inl hc37)) | exact Or.inr (Or.inr (Or.inr hc43))
            have hst := fstStep hi hws
            exact J cs.length (i0 + 1) _ T31 h31 _ (by omega) hi (by omega) (standUp X31 (by decide) (by decide)) e31 M31 E_a1 F_text F_chars F_position V_b
          ·
            refine Go.of (T' := T22) (f' := (mkF m 46 #[sR a1, sI (cs.getD i0 0)] [])) (fun _ k => XS.icmpNo X22.here hx rfl (hb hby d_21_43) rfl (feq hc43).1 k) ?_
            exact goRet0 (Q := fun v h L => v = none ∧ Mv h0 h [a1] L ∧ Exa Z h a1 "com/example/rezeptkern/rezeptkern/JsonCursor" ∧ Fld Z h a1 "com/example/rezeptkern/rezeptkern/JsonCursor" "text" "Ljava/lang/String;" (.ref tx) ∧ Fld Z h a1 "com/example/rezeptkern/rezeptkern/JsonCursor" "chars" "[C" (.ref b) ∧ Fld Z h a1 "com/example/rezeptkern/rezeptkern/JsonCursor" "position" "I" (.int (Int32.ofNat j)) ∧ Arv Z h b kb (.char) (Int32.ofNat cs.length) (cs.map Value.int) (.int (0 : Int32))) X22 hx hret hlk (hb hby d_21_46) K (by decide) (by decide) e22 (by
                have e0 := fstStop hi (fun q => by rcases q with q | q | q | q; exact hc25 q; exact hc31 q; exact hc37 q; exact hc43 q)
                have e1 : i0 = j := by omega
                rw [e1] at F_position
                exact ⟨rfl, M0, E_a1, F_text, F_chars, F_position, V_b⟩)
  ·
    refine Go.of (T' := T19) (f' := (mkF m 60 #[sR a1, .unset] [])) (fun _ k => XS.icmpYes X19.here hx rfl (pc0 := 9) (pc' := 60) rfl (hb hby d_21_9) rfl (flt hc9).2.1 (by decide) (by decide) k) ?_
    exact goRet0 (Q := fun v h L => v = none ∧ Mv h0 h [a1] L ∧ Exa Z h a1 "com/example/rezeptkern/rezeptkern/JsonCursor" ∧ Fld Z h a1 "com/example/rezeptkern/rezeptkern/JsonCursor" "text" "Ljava/lang/String;" (.ref tx) ∧ Fld Z h a1 "com/example/rezeptkern/rezeptkern/JsonCursor" "chars" "[C" (.ref b) ∧ Fld Z h a1 "com/example/rezeptkern/rezeptkern/JsonCursor" "position" "I" (.int (Int32.ofNat j)) ∧ Arv Z h b kb (.char) (Int32.ofNat cs.length) (cs.map Value.int) (.int (0 : Int32))) X19 hx hret hlk (hb hby d_21_60) K (by decide) (by decide) e19 (by
        have e0 := fstNil (cs := cs) (i := i0) (by first | exact Nat.le_of_not_lt fun q => hc9 ((ltN (by omega) (by omega)).mpr q) | omega)
        have e1 : i0 = j := by omega
        rw [e1] at F_position
        exact ⟨rfl, M0, E_a1, F_text, F_chars, F_position, V_b⟩)
theorem Mv.cp {h0 h h' : Heap} {ws : List Addr} {L L' : List Loc} {b : Addr} (M : Mv h0 h ws L) (K : Keep h h' [b]) (ge : h0.size ≤ b) (F : Fr h0.size L') : Mv h0 h' ws L' := ⟨M.1.trans K (fun x hx => Or.inr (by cases List.mem_singleton.mp hx; exact ge)), fun y hy => Or.inr (F y hy)⟩
theorem cpEq {vs vd : List Value} {q : Nat} {dv : Value} (hq : q ≤ 4000) (hv : q ≤ vs.length) (hd : vd.length = q) : vd.take (0 : Int32).toNatClampNeg ++ ((List.range (Int32.ofNat q).toNatClampNeg).map fun i => vs.getD ((0 : Int32).toNatClampNeg + i) dv) ++ vd.drop ((0 : Int32).toNatClampNeg + (Int32.ofNat q).toNatClampNeg) = vs.take q := by
  have e0 : (0 : Int32).toNatClampNeg = 0 := rfl
  rw [nat32 (by omega), e0, List.take_zero, List.drop_eq_nil_of_le (by omega), List.nil_append, List.append_nil]
  apply List.ext_getElem?
  intro i
  by_cases h : i < q
  · rw [List.getElem?_take_of_lt h]; simp [h, List.getD_eq_getElem?_getD, show i < vs.length by omega]
  · rw [List.getElem?_eq_none (by simp; omega), List.getElem?_eq_none (by simp; omega)]
theorem wbTake : ∀ (mm : Nat) (cs : List Int32), (StrChars.Road.wideBytes cs).take (2 * mm) = StrChars.Road.wideBytes (cs.take mm)
  | 0, cs => by simp [StrChars.Road.wideBytes]
  | mm + 1, [] => by simp [StrChars.Road.wideBytes]
  | mm + 1, c :: cs => by
    have e : 2 * (mm + 1) = 2 * mm + 1 + 1 := by omega
    have ih := wbTake mm cs
    rw [e]; simp [StrChars.Road.wideBytes, ih]
theorem strL {Z : State} {h : Heap} {a t : Addr} {k : ClassId} {ds : List Int32} (hl : ds.length ≤ 4000) (hbr : ∀ c ∈ ds, ¬ c < 0 ∧ ¬ (65535 : Int32) < c) (hla : ∀ c ∈ ds, ¬ (255 : Int32) < c) (E : Exa Z h a "java/lang/String") (V : Fld Z h a "java/lang/String" "value" "[B" (.ref t)) (C : Fld Z h a "java/lang/String" "coder" "B" (.int (0 : Int32))) (A : Arv Z h t k .byte (Int32.ofNat ds.length) (ds.map fun c => Value.int (StrChars.lo8 c)) (.int (0 : Int32))) : Str Z h a t ds := ⟨k, 0, _, _, E, V, C, A, Or.inl ⟨rfl, rfl, rfl, hla⟩, hbr, hl⟩
theorem mtk {cs : List Int32} {mm : Nat} {P : Int32 → Prop} (h : ∀ c ∈ cs, P c) : ∀ c ∈ List.take mm cs, P c := fun c hc => h c (List.mem_of_mem_take hc)
theorem ltk {cs : List Int32} {mm : Nat} (h : mm ≤ cs.length) : (List.take mm cs).length = mm := by rw [List.length_take]; omega
def WL (vs : List Value) (cs : List Int32) (mm i : Nat) : Prop := vs.length = mm ∧ ∀ j, j < i → vs[j]? = some (.int (StrChars.lo8 (cs.getD j 0))) ∧ ¬ (255 : Int32) < cs.getD j 0
theorem wl0 {vs : List Value} (cs : List Int32) {mm : Nat} (h : vs.length = mm) : WL vs cs mm 0 := ⟨h, fun j hj => absurd hj (Nat.not_lt_zero _)⟩
theorem wlStep {vs : List Value} {cs : List Int32} {mm i : Nat} (h : WL vs cs mm i) (hi : i < mm) (q : ¬ (255 : Int32) < cs.getD i 0) : WL (vs.set i (.int (StrChars.lo8 (cs.getD i 0)))) cs mm (i + 1) := by
  obtain ⟨h1, h2⟩ := h
  refine ⟨by simp [h1], fun j hj => ?_⟩
  by_cases r : j = i
  · subst r; rw [List.getElem?_set_self (by omega)]; exact ⟨rfl, q⟩
  · rw [List.getElem?_set_ne (by omega)]; exact h2 j (by omega)
theorem wlEnd {vs : List Value} {cs : List Int32} {mm i : Nat} (h : WL vs cs mm i) (hi : mm ≤ i) (hm : mm ≤ cs.length) : vs = ((List.take mm cs).map fun c => Value.int (StrChars.lo8 c)) := by
  obtain ⟨h1, h2⟩ := h
  apply List.ext_getElem?
  intro k
  by_cases hk : k < mm
  · rw [(h2 k (by omega)).1, getDe (by omega)]; simp [List.getElem?_take, hk, show k < cs.length by omega]
  · rw [List.getElem?_eq_none (by omega), List.getElem?_eq_none (by simp; omega)]
theorem wlLat {vs : List Value} {cs : List Int32} {mm i : Nat} (h : WL vs cs mm i) (hi : mm ≤ i) (hm : mm ≤ cs.length) : ∀ c ∈ List.take mm cs, ¬ (255 : Int32) < c := fun c hc => by
  obtain ⟨j, hj, rfl⟩ := List.getElem_of_mem hc
  rw [ltk hm] at hj
  have := (h.2 j (by omega)).2
  rw [getDe (by omega)] at this
  simpa using this
theorem cfa0 (n : Nat) : (((Int32.ofNat n - Int32.ofNat n).toUInt32 >>> ((31 : Int32) &&& 31).toUInt32).toInt32).toInt8.toInt32 = 0 := by rw [Int32.sub_self]; decide
theorem pn_java_util_Arrays : plainName "java/util/Arrays" = true := by first | (simp [plainName, overriddenIn]; done) | decide +kernel
theorem ef_rm_ckl (m : MethodId) (x0 : Int32) (x1 : Int32)  : entryFrame m #[(.int x0), (.int x1)] 2 = mkF m 0 #[.val (.int x0), .val (.int x1)] [] := by first | (simp [entryFrame, mkF, argsToLocals, Value.category]; done) | rfl
theorem d_22_0 : decode jdk_65_method_131_code 0 = .ok (.iload_n 1, 1) := by decide +kernel
theorem d_22_1 : decode jdk_65_method_131_code 1 = .ok (.iload_n 0, 1) := by decide +kernel
theorem d_22_2 : decode jdk_65_method_131_code 2 = .ok (.if_icmp .ge 35, 3) := by decide +kernel
theorem d_22_37 : decode jdk_65_method_131_code 37 = .ok (.return_, 1) := by decide +kernel
set_option maxRecDepth 65536 in
set_option maxHeartbeats 40000000 in
theorem rm_ckl (l : Launch) (Z : State) (a0 : Array Value) (hw : ∀ d ∈ tables_1, d.before a0 Z = true) (q : Nat) (h0 : Heap) (hq : q ≤ 4000) :
    MeetsW l Z (⟨"java/util/Arrays", "checkLength", "(II)V"⟩ : MethodName) jdk_65_method_131_code 2 none ({ frames := 0, cells := 0, slots := 0, locals := 0 } : Room) #[(.int (0 : Int32)), (.int (Int32.ofNat q))] h0 (Pu h0 (fun v => v = none)) := by
  refine MeetsW.of (plainFor_of_name pn_java_util_Arrays) ?_
  intro p e s m below meth c s₁ P hx hby hml hZ hown hnm hret hlk X0 e0 K
  have M0 : Mv h0 h0 [] [] := Mv.refl _ _
  refine Go.cast (ef_rm_ckl m (0 : Int32) (Int32.ofNat q) ) ?_
  refine Go.of (T' := s₁) (f' := (mkF m 1 #[sI 0, sI (Int32.ofNat q)] [(.int (Int32.ofNat q))])) (fun _ k => XS.iloadN X0.here hx rfl (hb hby d_22_0) rfl k) ?_
  refine Go.of (T' := s₁) (f' := (mkF m 2 #[sI 0, sI (Int32.ofNat q)] [(.int (0 : Int32)), (.int (Int32.ofNat q))])) (fun _ k => XS.iloadN X0.here hx rfl (hb hby d_22_1) rfl k) ?_
  have hc2 : ¬ ((Int32.ofNat q) < (0 : Int32)) := nneg (by omega)
  refine Go.of (T' := s₁) (f' := (mkF m 37 #[sI 0, sI (Int32.ofNat q)] [])) (fun _ k => XS.icmpYes X0.here hx rfl (pc0 := 2) (pc' := 37) rfl (hb hby d_22_2) rfl (flt hc2).2.1 (by decide) (by decide) k) ?_
  exact goRet0 (Q := Pu h0 (fun v => v = none)) X0 hx hret hlk (hb hby d_22_37) K (by decide) (by decide) e0 (⟨rfl, rfl, rfl⟩)
theorem ef_rm_min (m : MethodId) (x0 : Int32) (x1 : Int32)  : entryFrame m #[(.int x0), (.int x1)] 2 = mkF m 0 #[.val (.int x0), .val (.int x1)] [] := by first | (simp [entryFrame, mkF, argsToLocals, Value.category]; done) | rfl
theorem d_23_0 : decode jdk_29_method_69_code 0 = .ok (.iload_n 0, 1) := by decide +kernel
theorem d_23_1 : decode jdk_29_method_69_code 1 = .ok (.iload_n 1, 1) := by decide +kernel
theorem d_23_2 : decode jdk_29_method_69_code 2 = .ok (.if_icmp .gt 7, 3) := by decide +kernel
theorem d_23_9 : decode jdk_29_method_69_code 9 = .ok (.iload_n 1, 1) := by decide +kernel
theorem d_23_10 : decode jdk_29_method_69_code 10 = .ok (.ireturn, 1) := by decide +kernel
set_option maxRecDepth 65536 in
set_option maxHeartbeats 40000000 in
theorem rm_min (l : Launch) (Z : State) (a0 : Array Value) (hw : ∀ d ∈ tables_1, d.before a0 Z = true) (N q : Nat) (h0 : Heap) (hq : q < N) (hN : N ≤ 4000) :
    MeetsW l Z (⟨"java/lang/Math", "min", "(II)I"⟩ : MethodName) jdk_29_method_69_code 2 (some .int) ({ frames := 0, cells := 0, slots := 0, locals := 0 } : Room) #[(.int (Int32.ofNat N)), (.int (Int32.ofNat q))] h0 (Pu h0 (fun v => v = some (.int (Int32.ofNat q)))) := by
  refine MeetsW.of (Jvm.Free.JP.mathPlain rfl (by decide +kernel)) ?_
  intro p e s m below meth c s₁ P hx hby hml hZ hown hnm hret hlk X0 e0 K
  have M0 : Mv h0 h0 [] [] := Mv.refl _ _
  refine Go.cast (ef_rm_min m (Int32.ofNat N) (Int32.ofNat q) ) ?_
  refine Go.of (T' := s₁) (f' := (mkF m 1 #[sI (Int32.ofNat N), sI (Int32.ofNat q)] [(.int (Int32.ofNat N))])) (fun _ k => XS.iloadN X0.here hx rfl (hb hby d_23_0) rfl k) ?_
  refine Go.of (T' := s₁) (f' := (mkF m 2 #[sI (Int32.ofNat N), sI (Int32.ofNat q)] [(.int (Int32.ofNat q)), (.int (Int32.ofNat N))])) (fun _ k => XS.iloadN X0.here hx rfl (hb hby d_23_1) rfl k) ?_
  have hc2 : (Int32.ofNat q) < (Int32.ofNat N) := (ltN (by omega) (by omega)).mpr hq
  refine Go.of (T' := s₁) (f' := (mkF m 9 #[sI (Int32.ofNat N), sI (Int32.ofNat q)] [])) (fun _ k => XS.icmpYes X0.here hx rfl (pc0 := 2) (pc' := 9) rfl (hb hby d_23_2) rfl (tlt hc2).2.2.1 (by decide) (by decide) k) ?_
  refine Go.of (T' := s₁) (f' := (mkF m 10 #[sI (Int32.ofNat N), sI (Int32.ofNat q)] [(.int (Int32.ofNat q))])) (fun _ k => XS.iloadN X0.here hx rfl (hb hby d_23_9) rfl k) ?_
  exact goRetI (Q := Pu h0 (fun v => v = some (.int (Int32.ofNat q)))) X0 hx (t := .int) hret hlk rfl (by simp) (hb hby d_23_10) K (by decide) (by decide) e0 (⟨rfl, rfl, rfl⟩)
theorem ef_rm_corb (m : MethodId) (x0 : Addr) (x1 : Int32) (x2 : Int32)  : entryFrame m #[(.ref x0), (.int x1), (.int x2)] 5 = mkF m 0 #[.val (.ref x0), .val (.int x1), .val (.int x2), .unset, .unset] [] := by first | (simp [entryFrame, mkF, argsToLocals, Value.category]; done) | rfl
theorem d_24_0 : decode jdk_65_method_133_code 0 = .ok (.iload_n 1, 1) := by decide +kernel
theorem d_24_1 : decode jdk_65_method_133_code 1 = .ok (.iload_n 2, 1) := by decide +kernel
theorem d_24_2 : decode jdk_65_method_133_code 2 = .ok (.invokestatic 343, 3) := by decide +kernel
theorem pd__II_V : parseMethodDescriptor "(II)V" = some ⟨[.int, .int], none⟩ := by decide +kernel
theorem d_24_5 : decode jdk_65_method_133_code 5 = .ok (.iload_n 2, 1) := by decide +kernel
theorem d_24_6 : decode jdk_65_method_133_code 6 = .ok (.iload_n 1, 1) := by decide +kernel
theorem d_24_7 : decode jdk_65_method_133_code 7 = .ok (.isub, 1) := by decide +kernel
theorem d_24_8 : decode jdk_65_method_133_code 8 = .ok (.istore_n 3, 1) := by decide +kernel
theorem d_24_9 : decode jdk_65_method_133_code 9 = .ok (.iload_n 3, 1) := by decide +kernel
theorem d_24_10 : decode jdk_65_method_133_code 10 = .ok (.newarray .byte, 2) := by decide +kernel
theorem d_24_12 : decode jdk_65_method_133_code 12 = .ok (.astore 4, 2) := by decide +kernel
theorem d_24_14 : decode jdk_65_method_133_code 14 = .ok (.aload_n 0, 1) := by decide +kernel
theorem d_24_15 : decode jdk_65_method_133_code 15 = .ok (.iload_n 1, 1) := by decide +kernel
theorem d_24_16 : decode jdk_65_method_133_code 16 = .ok (.aload 4, 2) := by decide +kernel
theorem d_24_18 : decode jdk_65_method_133_code 18 = .ok (.iconst 0, 1) := by decide +kernel
theorem d_24_19 : decode jdk_65_method_133_code 19 = .ok (.aload_n 0, 1) := by decide +kernel
theorem d_24_20 : decode jdk_65_method_133_code 20 = .ok (.arraylength, 1) := by decide +kernel
theorem d_24_21 : decode jdk_65_method_133_code 21 = .ok (.iload_n 1, 1) := by decide +kernel
theorem d_24_22 : decode jdk_65_method_133_code 22 = .ok (.isub, 1) := by decide +kernel
theorem d_24_23 : decode jdk_65_method_133_code 23 = .ok (.iload_n 3, 1) := by decide +kernel
theorem d_24_24 : decode jdk_65_method_133_code 24 = .ok (.invokestatic 304, 3) := by decide +kernel
theorem pd__II_I : parseMethodDescriptor "(II)I" = some ⟨[.int, .int], some .int⟩ := by decide +kernel
theorem d_24_27 : decode jdk_65_method_133_code 27 = .ok (.invokestatic 150, 3) := by decide +kernel
theorem d_24_30 : decode jdk_65_method_133_code 30 = .ok (.aload 4, 2) := by decide +kernel
theorem d_24_32 : decode jdk_65_method_133_code 32 = .ok (.areturn, 1) := by decide +kernel
set_option maxRecDepth 65536 in
set_option maxHeartbeats 40000000 in
theorem rm_corb (l : Launch) (Z : State) (a0 : Array Value) (hw : ∀ d ∈ tables_1, d.before a0 Z = true) (a1 : Addr) (ka : ClassId) (N q : Nat) (vs : List Value) (h0 : Heap) (V_a1 : Arv Z h0 a1 ka .byte (Int32.ofNat N) vs (.int (0 : Int32))) (hq : q < N) (hN : N ≤ 16) (hv : vs.length = N) :
    MeetsW l Z (⟨"java/util/Arrays", "copyOfRangeByte", "([BII)[B"⟩ : MethodName) jdk_65_method_133_code 5 (some (.array .byte)) ({ frames := 1, cells := 1, slots := 16, locals := 40 } : Room) #[(.ref a1), (.int (0 : Int32)), (.int (Int32.ofNat q))] h0 (fun v h L => Mv h0 h [] L ∧ ∃ (b : Addr) (k : ClassId), v = some (.ref b) ∧ h0.size ≤ b ∧ Arv Z h b k .byte (Int32.ofNat q) (List.take q vs) (.int (0 : Int32))) := by
  refine MeetsW.of (plainFor_of_name pn_java_util_Arrays) ?_
  intro p e s m below meth c s₁ P hx hby hml hZ hown hnm hret hlk X0 e0 K
  have M0 : Mv h0 h0 [] [] := Mv.refl _ _
  refine Go.cast (ef_rm_corb m a1 (0 : Int32) (Int32.ofNat q) ) ?_
  refine Go.of (T' := s₁) (f' := (mkF m 1 #[sR a1, sI 0, sI (Int32.ofNat q), .unset, .unset] [(.int (0 : Int32))])) (fun _ k => XS.iloadN X0.here hx rfl (hb hby d_24_0) rfl k) ?_
  refine Go.of (T' := s₁) (f' := (mkF m 2 #[sR a1, sI 0, sI (Int32.ofNat q), .unset, .unset] [(.int (Int32.ofNat q)), (.int (0 : Int32))])) (fun _ k => XS.iloadN X0.here hx rfl (hb hby d_24_1) rfl k) ?_
  refine goS X0 hx hZ hown (hw _ (List.mem_of_getElem? (i := 124) rfl)) (hw _ (List.mem_of_getElem? (i := 125) rfl)) (hw _ (List.mem_of_getElem? (i := 119) rfl)) (hw _ (List.mem_of_getElem? (i := 126) rfl)) (by decide) (C := 0) (S := 0) ((rm_ckl l Z a0 hw q h0 (by omega)).bk (W := 0) hZ (hw _ (List.mem_of_getElem? (i := 126) rfl)) (hw _ (List.mem_of_getElem? (i := 119) rfl)) (by decide) (by decide)) e0 (argsL := [(.int (0 : Int32)), (.int (Int32.ofNat q))]) (rest := []) (by rw [hml]; rfl) (lenOf pd__II_V rfl) rfl rfl (hb hby d_24_2) (Nat.le_of_eq rfl) (by decide) (by decide) ?_
  intro v1 T1 L1 X1 hQ1
  obtain ⟨nq1, e1, rfl⟩ := hQ1
  replace X1 := standNil X1 nq1
  show Go p e below P T1 (mkF m 5 #[sR a1, sI 0, sI (Int32.ofNat q), .unset, .unset] [])
  refine Go.of (T' := T1) (f' := (mkF m 6 #[sR a1, sI 0, sI (Int32.ofNat q), .unset, .unset] [(.int (Int32.ofNat q))])) (fun _ k => XS.iloadN X1.here hx rfl (hb hby d_24_5) rfl k) ?_
  refine Go.of (T' := T1) (f' := (mkF m 7 #[sR a1, sI 0, sI (Int32.ofNat q), .unset, .unset] [(.int (0 : Int32)), (.int (Int32.ofNat q))])) (fun _ k => XS.iloadN X1.here hx rfl (hb hby d_24_6) rfl k) ?_
  refine Go.of (T' := T1) (f' := (mkF m 8 #[sR a1, sI 0, sI (Int32.ofNat q), .unset, .unset] [(.int ((Int32.ofNat q) - (0 : Int32)))])) (fun _ k => XS.isub X1.here hx rfl (hb hby d_24_7) rfl k) ?_
  rw [Int32.sub_zero]
  show Go p e below P T1 (mkF m 8 #[sR a1, sI 0, sI (Int32.ofNat q), .unset, .unset] [(.int (Int32.ofNat q))])
  refine Go.of (T' := T1) (f' := (mkF m 9 #[sR a1, sI 0, sI (Int32.ofNat q), sI (Int32.ofNat q), .unset] [])) (fun _ k => XS.istoreN X1.here hx rfl (hb hby d_24_8) rfl (l' := #[sR a1, sI 0, sI (Int32.ofNat q), sI (Int32.ofNat q), .unset]) rfl k) ?_
  refine Go.of (T' := T1) (f' := (mkF m 10 #[sR a1, sI 0, sI (Int32.ofNat q), sI (Int32.ofNat q), .unset] [(.int (Int32.ofNat q))])) (fun _ k => XS.iloadN X1.here hx rfl (hb hby d_24_9) rfl k) ?_
  obtain ⟨T2, h2, k2, X2, e2, E2, A2, st2⟩ := newP X1 hx hZ (hw _ (List.mem_of_getElem? (i := 26) rfl)) e1 (g := (mkF m 10 #[sR a1, sI 0, sI (Int32.ofNat q), sI (Int32.ofNat q), .unset] [(.int (Int32.ofNat q))])) rfl (hb hby d_24_10) rfl (nneg (by omega)) (cap := 16) (by rw [nat32 (by omega)]; omega) (by decide) (by decide) (by decide)
  obtain ⟨b2, g2⟩ : ∃ z, z = h0.size := ⟨_, rfl⟩
  rw [← g2] at A2 st2
  have ne_a1_b2 : a1 ≠ b2 := Nat.ne_of_lt (Nat.lt_of_lt_of_le V_a1.lt (Nat.le_of_eq g2.symm))
  have fr_b2 : h0.size ≤ b2 := Nat.le_trans M0.le (Nat.le_of_eq g2.symm)
  have K2 := keepE E2
  have M2 := M0.ext E2
  replace V_a1 := V_a1.keep K2 nin0
  have V_b2 : Arv Z h2 b2 k2 .byte (Int32.ofNat q) [] (.int (0 : Int32)) := Arv.new A2 (nneg (by omega))
  refine Go.of (T' := T2) (f' := (mkF m 12 #[sR a1, sI 0, sI (Int32.ofNat q), sI (Int32.ofNat q), .unset] [(.ref b2)])) st2 ?_
  refine Go.of (T' := T2) (f' := (mkF m 14 #[sR a1, sI 0, sI (Int32.ofNat q), sI (Int32.ofNat q), sR b2] [])) (fun _ k => XS.astore X2.here hx rfl (hb hby d_24_12) rfl rfl (l' := #[sR a1, sI 0, sI (Int32.ofNat q), sI (Int32.ofNat q), sR b2]) rfl k) ?_
  refine Go.of (T' := T2) (f' := (mkF m 15 #[sR a1, sI 0, sI (Int32.ofNat q), sI (Int32.ofNat q), sR b2] [(.ref a1)])) (fun _ k => XS.aloadN X2.here hx rfl (hb hby d_24_14) rfl rfl k) ?_
  refine Go.of (T' := T2) (f' := (mkF m 16 #[sR a1, sI 0, sI (Int32.ofNat q), sI (Int32.ofNat q), sR b2] [(.int (0 : Int32)), (.ref a1)])) (fun _ k => XS.iloadN X2.here hx rfl (hb hby d_24_15) rfl k) ?_
  refine Go.of (T' := T2) (f' := (mkF m 18 #[sR a1, sI 0, sI (Int32.ofNat q), sI (Int32.ofNat q), sR b2] [(.ref b2), (.int (0 : Int32)), (.ref a1)])) (fun _ k => XS.aload X2.here hx rfl (hb hby d_24_16) rfl rfl k) ?_
  refine Go.of (T' := T2) (f' := (mkF m 19 #[sR a1, sI 0, sI (Int32.ofNat q), sI (Int32.ofNat q), sR b2] [(.int (0 : Int32)), (.ref b2), (.int (0 : Int32)), (.ref a1)])) (fun _ k => XS.iconst X2.here hx rfl (hb hby d_24_18) k) ?_
  refine Go.of (T' := T2) (f' := (mkF m 20 #[sR a1, sI 0, sI (Int32.ofNat q), sI (Int32.ofNat q), sR b2] [(.ref a1), (.int (0 : Int32)), (.ref b2), (.int (0 : Int32)), (.ref a1)])) (fun _ k => XS.aloadN X2.here hx rfl (hb hby d_24_19) rfl rfl k) ?_
  obtain ⟨cl3, Ar3, -, Sz3, Nn3, -, -⟩ := id V_a1
  refine Go.of (T' := T2) (f' := (mkF m 21 #[sR a1, sI 0, sI (Int32.ofNat q), sI (Int32.ofNat q), sR b2] [(.int (Int32.ofNat N)), (.int (0 : Int32)), (.ref b2), (.int (0 : Int32)), (.ref a1)])) (fun _ k => X2.arraylength hx (by rw [e2]; exact Ar3.1) (State.isArrayOf_alike hZ.alike Ar3.2.1) (g := (mkF m 20 #[sR a1, sI 0, sI (Int32.ofNat q), sI (Int32.ofNat q), sR b2] [(.ref a1), (.int (0 : Int32)), (.ref b2), (.int (0 : Int32)), (.ref a1)])) rfl rfl (hb hby d_24_20) _ (by rw [len_of Sz3 Nn3]; exact k)) ?_
  refine Go.of (T' := T2) (f' := (mkF m 22 #[sR a1, sI 0, sI (Int32.ofNat q), sI (Int32.ofNat q), sR b2] [(.int (0 : Int32)), (.int (Int32.ofNat N)), (.int (0 : Int32)), (.ref b2), (.int (0 : Int32)), (.ref a1)])) (fun _ k => XS.iloadN X2.here hx rfl (hb hby d_24_21) rfl k) ?_
  refine Go.of (T' := T2) (f' := (mkF m 23 #[sR a1, sI 0, sI (Int32.ofNat q), sI (Int32.ofNat q), sR b2] [(.int ((Int32.ofNat N) - (0 : Int32))), (.int (0 : Int32)), (.ref b2), (.int (0 : Int32)), (.ref a1)])) (fun _ k => XS.isub X2.here hx rfl (hb hby d_24_22) rfl k) ?_
  rw [Int32.sub_zero]
  show Go p e below P T2 (mkF m 23 #[sR a1, sI 0, sI (Int32.ofNat q), sI (Int32.ofNat q), sR b2] [(.int (Int32.ofNat N)), (.int (0 : Int32)), (.ref b2), (.int (0 : Int32)), (.ref a1)])
  refine Go.of (T' := T2) (f' := (mkF m 24 #[sR a1, sI 0, sI (Int32.ofNat q), sI (Int32.ofNat q), sR b2] [(.int (Int32.ofNat q)), (.int (Int32.ofNat N)), (.int (0 : Int32)), (.ref b2), (.int (0 : Int32)), (.ref a1)])) (fun _ k => XS.iloadN X2.here hx rfl (hb hby d_24_23) rfl k) ?_
  refine goS X2 hx hZ hown (hw _ (List.mem_of_getElem? (i := 127) rfl)) (hw _ (List.mem_of_getElem? (i := 128) rfl)) (hw _ (List.mem_of_getElem? (i := 129) rfl)) (hw _ (List.mem_of_getElem? (i := 130) rfl)) (by decide) (C := 0) (S := 0) ((rm_min l Z a0 hw N q h2 (by omega) (by omega)).bk (W := 4) hZ (hw _ (List.mem_of_getElem? (i := 130) rfl)) (hw _ (List.mem_of_getElem? (i := 129) rfl)) (by decide) (by decide)) e2 (argsL := [(.int (Int32.ofNat N)), (.int (Int32.ofNat q))]) (rest := [(.int (0 : Int32)), (.ref b2), (.int (0 : Int32)), (.ref a1)]) (by rw [hml]; rfl) (lenOf pd__II_I rfl) rfl rfl (hb hby d_24_24) (Nat.le_of_eq rfl) (by decide) (by decide) ?_
  intro v4 T4 L4 X4 hQ4
  obtain ⟨nq4, e4, rfl⟩ := hQ4
  replace X4 := standNil X4 nq4
  show Go p e below P T4 (mkF m 27 #[sR a1, sI 0, sI (Int32.ofNat q), sI (Int32.ofNat q), sR b2] [(.int (Int32.ofNat q)), (.int (0 : Int32)), (.ref b2), (.int (0 : Int32)), (.ref a1)])
  have Vp := V_b2.pad (pad_rep [] _ q)
  obtain ⟨T5, h5, L5, X5, e5, F5, K5, Vc5, st5⟩ := cpA X4 hx hZ hown (hw _ (List.mem_of_getElem? (i := 131) rfl)) (hw _ (List.mem_of_getElem? (i := 134) rfl)) (hw _ (List.mem_of_getElem? (i := 132) rfl)) (hw _ (List.mem_of_getElem? (i := 133) rfl)) e4 V_a1 Vp (us := (List.range (Int32.ofNat q).toNatClampNeg).map fun i => vs.getD ((0 : Int32).toNatClampNeg + i) (.int (0 : Int32))) (Or.inl ⟨rfl, rfl⟩) (by decide) (by decide) (nneg (by omega)) (by rw [nat32 (by omega), nat32 (by omega)]; show 0 + _ ≤ _; omega) (by rw [nat32 (by omega)]; show 0 + _ ≤ _; omega) rfl (by rw [nat32 (by omega)]; simp) M2.fr fr_b2 (g := (mkF m 27 #[sR a1, sI 0, sI (Int32.ofNat q), sI (Int32.ofNat q), sR b2] [(.int (Int32.ofNat q)), (.int (0 : Int32)), (.ref b2), (.int (0 : Int32)), (.ref a1)])) rfl (by rw [hml]; rfl) (rest := []) rfl (hb hby d_24_27) (by decide) (W := 0) (by show 2 * 0 + 0 ≤ 0; exact Nat.le_refl _) (by decide)
  have M5 := Mv.cp M2 K5 fr_b2 F5
  replace V_a1 := V_a1.keep K5 (ninS ne_a1_b2 nin0)
  rw [cpEq (by omega) (by omega) (by simp)] at Vc5
  replace V_b2 := Vc5
  refine Go.of (T' := T5) (f' := (mkF m 30 #[sR a1, sI 0, sI (Int32.ofNat q), sI (Int32.ofNat q), sR b2] [])) st5 ?_
  refine Go.of (T' := T5) (f' := (mkF m 32 #[sR a1, sI 0, sI (Int32.ofNat q), sI (Int32.ofNat q), sR b2] [(.ref b2)])) (fun _ k => XS.aload X5.here hx rfl (hb hby d_24_30) rfl rfl k) ?_
  exact goRetR (Q := fun v h L => Mv h0 h [] L ∧ ∃ (b : Addr) (k : ClassId), v = some (.ref b) ∧ h0.size ≤ b ∧ Arv Z h b k .byte (Int32.ofNat q) (List.take q vs) (.int (0 : Int32))) X5 hx hret rfl hlk rfl rfl (hb hby d_24_32) K (by decide) (by decide) e5 (⟨M5, b2, _, rfl, fr_b2, V_b2⟩)
theorem ef_rm_cor (m : MethodId) (x0 : Addr) (x1 : Int32) (x2 : Int32)  : entryFrame m #[(.ref x0), (.int x1), (.int x2)] 3 = mkF m 0 #[.val (.ref x0), .val (.int x1), .val (.int x2)] [] := by first | (simp [entryFrame, mkF, argsToLocals, Value.category]; done) | rfl
theorem d_25_0 : decode jdk_65_method_132_code 0 = .ok (.iload_n 1, 1) := by decide +kernel
theorem d_25_1 : decode jdk_65_method_132_code 1 = .ok (.ifCond .ne 9, 3) := by decide +kernel
theorem d_25_4 : decode jdk_65_method_132_code 4 = .ok (.iload_n 2, 1) := by decide +kernel
theorem d_25_5 : decode jdk_65_method_132_code 5 = .ok (.aload_n 0, 1) := by decide +kernel
theorem d_25_6 : decode jdk_65_method_132_code 6 = .ok (.arraylength, 1) := by decide +kernel
theorem d_25_7 : decode jdk_65_method_132_code 7 = .ok (.if_icmp .eq 10, 3) := by decide +kernel
theorem d_25_10 : decode jdk_65_method_132_code 10 = .ok (.aload_n 0, 1) := by decide +kernel
theorem d_25_11 : decode jdk_65_method_132_code 11 = .ok (.iload_n 1, 1) := by decide +kernel
theorem d_25_12 : decode jdk_65_method_132_code 12 = .ok (.iload_n 2, 1) := by decide +kernel
theorem d_25_13 : decode jdk_65_method_132_code 13 = .ok (.invokestatic 339, 3) := by decide +kernel
theorem pd___BII__B : parseMethodDescriptor "([BII)[B" = some ⟨[(.array .byte), .int, .int], some (.array .byte)⟩ := by decide +kernel
theorem d_25_16 : decode jdk_65_method_132_code 16 = .ok (.areturn, 1) := by decide +kernel
set_option maxRecDepth 65536 in
set_option maxHeartbeats 40000000 in
theorem rm_cor (l : Launch) (Z : State) (a0 : Array Value) (hw : ∀ d ∈ tables_1, d.before a0 Z = true) (a1 : Addr) (ka : ClassId) (N q : Nat) (vs : List Value) (h0 : Heap) (V_a1 : Arv Z h0 a1 ka .byte (Int32.ofNat N) vs (.int (0 : Int32))) (hq : q < N) (hN : N ≤ 16) (hv : vs.length = N) :
    MeetsW l Z (⟨"java/util/Arrays", "copyOfRange", "([BII)[B"⟩ : MethodName) jdk_65_method_132_code 3 (some (.array .byte)) ({ frames := 2, cells := 1, slots := 16, locals := 56 } : Room) #[(.ref a1), (.int (0 : Int32)), (.int (Int32.ofNat q))] h0 (fun v h L => Mv h0 h [] L ∧ ∃ (b : Addr) (k : ClassId), v = some (.ref b) ∧ h0.size ≤ b ∧ Arv Z h b k .byte (Int32.ofNat q) (List.take q vs) (.int (0 : Int32))) := by
  refine MeetsW.of (plainFor_of_name pn_java_util_Arrays) ?_
  intro p e s m below meth c s₁ P hx hby hml hZ hown hnm hret hlk X0 e0 K
  have M0 : Mv h0 h0 [] [] := Mv.refl _ _
  refine Go.cast (ef_rm_cor m a1 (0 : Int32) (Int32.ofNat q) ) ?_
  refine Go.of (T' := s₁) (f' := (mkF m 1 #[sR a1, sI 0, sI (Int32.ofNat q)] [(.int (0 : Int32))])) (fun _ k => XS.iloadN X0.here hx rfl (hb hby d_25_0) rfl k) ?_
  refine Go.of (T' := s₁) (f' := (mkF m 4 #[sR a1, sI 0, sI (Int32.ofNat q)] [])) (fun _ k => XS.ifNo X0.here hx rfl (hb hby d_25_1) rfl (by decide) k) ?_
  refine Go.of (T' := s₁) (f' := (mkF m 5 #[sR a1, sI 0, sI (Int32.ofNat q)] [(.int (Int32.ofNat q))])) (fun _ k => XS.iloadN X0.here hx rfl (hb hby d_25_4) rfl k) ?_
  refine Go.of (T' := s₁) (f' := (mkF m 6 #[sR a1, sI 0, sI (Int32.ofNat q)] [(.ref a1), (.int (Int32.ofNat q))])) (fun _ k => XS.aloadN X0.here hx rfl (hb hby d_25_5) rfl rfl k) ?_
  obtain ⟨cl1, Ar1, -, Sz1, Nn1, -, -⟩ := id V_a1
  refine Go.of (T' := s₁) (f' := (mkF m 7 #[sR a1, sI 0, sI (Int32.ofNat q)] [(.int (Int32.ofNat N)), (.int (Int32.ofNat q))])) (fun _ k => X0.arraylength hx (by rw [e0]; exact Ar1.1) (State.isArrayOf_alike hZ.alike Ar1.2.1) (g := (mkF m 6 #[sR a1, sI 0, sI (Int32.ofNat q)] [(.ref a1), (.int (Int32.ofNat q))])) rfl rfl (hb hby d_25_6) _ (by rw [len_of Sz1 Nn1]; exact k)) ?_
  have hc7 : ¬ ((Int32.ofNat q) = (Int32.ofNat N)) := neN (by omega) (by omega) (by omega)
  refine Go.of (T' := s₁) (f' := (mkF m 10 #[sR a1, sI 0, sI (Int32.ofNat q)] [])) (fun _ k => XS.icmpNo X0.here hx rfl (hb hby d_25_7) rfl (feq hc7).1 k) ?_
  refine Go.of (T' := s₁) (f' := (mkF m 11 #[sR a1, sI 0, sI (Int32.ofNat q)] [(.ref a1)])) (fun _ k => XS.aloadN X0.here hx rfl (hb hby d_25_10) rfl rfl k) ?_
  refine Go.of (T' := s₁) (f' := (mkF m 12 #[sR a1, sI 0, sI (Int32.ofNat q)] [(.int (0 : Int32)), (.ref a1)])) (fun _ k => XS.iloadN X0.here hx rfl (hb hby d_25_11) rfl k) ?_
  refine Go.of (T' := s₁) (f' := (mkF m 13 #[sR a1, sI 0, sI (Int32.ofNat q)] [(.int (Int32.ofNat q)), (.int (0 : Int32)), (.ref a1)])) (fun _ k => XS.iloadN X0.here hx rfl (hb hby d_25_12) rfl k) ?_
  refine goS X0 hx hZ hown (hw _ (List.mem_of_getElem? (i := 121) rfl)) (hw _ (List.mem_of_getElem? (i := 122) rfl)) (hw _ (List.mem_of_getElem? (i := 119) rfl)) (hw _ (List.mem_of_getElem? (i := 123) rfl)) (by decide) (C := 1) (S := 16) ((rm_corb l Z a0 hw a1 ka (N) (q) vs h0 V_a1 (by omega) (by omega) hv).bk (W := 0) hZ (hw _ (List.mem_of_getElem? (i := 123) rfl)) (hw _ (List.mem_of_getElem? (i := 119) rfl)) (by decide) (by decide)) e0 (argsL := [(.ref a1), (.int (0 : Int32)), (.int (Int32.ofNat q))]) (rest := []) (by rw [hml]; rfl) (lenOf pd___BII__B rfl) rfl rfl (hb hby d_25_13) (Nat.le_of_eq rfl) (by decide) (by decide) ?_
  intro v2 T2 L2 X2 hQ2
  obtain ⟨h2, e2⟩ : ∃ z, T2.heap = z := ⟨_, rfl⟩
  rw [e2] at hQ2
  obtain ⟨Mc2, b2, k2, rfl, le2, V_b2⟩ := hQ2
  have ne_a1_b2 : a1 ≠ b2 := Nat.ne_of_lt (Nat.lt_of_lt_of_le V_a1.lt le2)
  have fr_b2 : h0.size ≤ b2 := Nat.le_trans M0.le le2
  have M2 := M0.app0 Mc2
  replace V_a1 := V_a1.keep Mc2.1 nin0
  show Go p e below P T2 (mkF m 16 #[sR a1, sI 0, sI (Int32.ofNat q)] [(.ref b2)])
  exact goRetR (Q := fun v h L => Mv h0 h [] L ∧ ∃ (b : Addr) (k : ClassId), v = some (.ref b) ∧ h0.size ≤ b ∧ Arv Z h b k .byte (Int32.ofNat q) (List.take q vs) (.int (0 : Int32))) X2 hx hret rfl hlk rfl rfl (hb hby d_25_16) K (by decide) (by decide) e2 (⟨M2, b2, _, rfl, fr_b2, V_b2⟩)
theorem ef_rm_strB0 (m : MethodId) (x0 : Addr) (x1 : Addr) (x2 : Int32)  : entryFrame m #[(.ref x0), (.ref x1), (.int x2)] 3 = mkF m 0 #[.val (.ref x0), .val (.ref x1), .val (.int x2)] [] := by first | (simp [entryFrame, mkF, argsToLocals, Value.category]; done) | rfl
theorem d_26_0 : decode jdk_42_method_151_code 0 = .ok (.aload_n 0, 1) := by decide +kernel
theorem d_26_1 : decode jdk_42_method_151_code 1 = .ok (.invokespecial 1, 3) := by decide +kernel
theorem d_26_4 : decode jdk_42_method_151_code 4 = .ok (.aload_n 0, 1) := by decide +kernel
theorem d_26_5 : decode jdk_42_method_151_code 5 = .ok (.aload_n 1, 1) := by decide +kernel
theorem d_26_6 : decode jdk_42_method_151_code 6 = .ok (.putfield 9, 3) := by decide +kernel
theorem d_26_9 : decode jdk_42_method_151_code 9 = .ok (.aload_n 0, 1) := by decide +kernel
theorem d_26_10 : decode jdk_42_method_151_code 10 = .ok (.iload_n 2, 1) := by decide +kernel
theorem d_26_11 : decode jdk_42_method_151_code 11 = .ok (.putfield 15, 3) := by decide +kernel
theorem d_26_14 : decode jdk_42_method_151_code 14 = .ok (.return_, 1) := by decide +kernel
set_option maxRecDepth 65536 in
set_option maxHeartbeats 40000000 in
theorem rm_strB0 (l : Launch) (Z : State) (a0 : Array Value) (hw : ∀ d ∈ tables_1, d.before a0 Z = true) (a1 a2 : Addr) (v1 v2 : Value) (h0 : Heap) (E_a1 : Exa Z h0 a1 "java/lang/String") (F_value : Fld Z h0 a1 "java/lang/String" "value" "[B" v1) (F_coder : Fld Z h0 a1 "java/lang/String" "coder" "B" v2) :
    MeetsW l Z (⟨"java/lang/String", "<init>", "([BB)V"⟩ : MethodName) jdk_42_method_151_code 3 none ({ frames := 1, cells := 0, slots := 0, locals := 12 } : Room) #[(.ref a1), (.ref a2), (.int (0 : Int32))] h0 (fun v h L => v = none ∧ Mv h0 h [a1] L ∧ Exa Z h a1 "java/lang/String" ∧ Fld Z h a1 "java/lang/String" "value" "[B" (.ref a2) ∧ Fld Z h a1 "java/lang/String" "coder" "B" (.int (0 : Int32))) := by
  refine MeetsW.of (plainFor_of_name pn_java_lang_String) ?_
  intro p e s m below meth c s₁ P hx hby hml hZ hown hnm hret hlk X0 e0 K
  have M0 : Mv h0 h0 [a1] [] := Mv.refl _ _
  refine Go.cast (ef_rm_strB0 m a1 a2 (0 : Int32) ) ?_
  refine Go.of (T' := s₁) (f' := (mkF m 1 #[sR a1, sR a2, sI 0] [(.ref a1)])) (fun _ k => XS.aloadN X0.here hx rfl (hb hby d_26_0) rfl rfl k) ?_
  obtain ⟨T1, X1, e1, st1⟩ := initO X0 hx hZ hown (hw _ (List.mem_of_getElem? (i := 18) rfl)) (hw _ (List.mem_of_getElem? (i := 19) rfl)) (hw _ (List.mem_of_getElem? (i := 20) rfl)) e0 (g := (mkF m 1 #[sR a1, sR a2, sI 0] [(.ref a1)])) rfl (by rw [hml]; rfl) rfl (hb hby d_26_1) (by decide) (W := 0) (by show 2 * 0 + _ ≤ _; exact Nat.le_of_eq rfl) (by decide)
  refine Go.of (T' := T1) (f' := (mkF m 4 #[sR a1, sR a2, sI 0] [])) st1 ?_
  refine Go.of (T' := T1) (f' := (mkF m 5 #[sR a1, sR a2, sI 0] [(.ref a1)])) (fun _ k => XS.aloadN X1.here hx rfl (hb hby d_26_4) rfl rfl k) ?_
  refine Go.of (T' := T1) (f' := (mkF m 6 #[sR a1, sR a2, sI 0] [(.ref a2), (.ref a1)])) (fun _ k => XS.aloadN X1.here hx rfl (hb hby d_26_5) rfl rfl k) ?_
  obtain ⟨T2, h2, X2, e2, W2, st2⟩ := putF X1 hx hZ hown (host := "") (Or.inl (hw _ (List.mem_of_getElem? (i := 35) rfl))) Via.refl e1 F_value E_a1 (Or.inr ⟨(hw _ (List.mem_of_getElem? (i := 36) rfl)), rfl, hnm⟩) (hw _ (List.mem_of_getElem? (i := 9) rfl)) (ty := (.array .byte)) (by decide) rfl rfl (g := (mkF m 6 #[sR a1, sR a2, sI 0] [(.ref a2), (.ref a1)])) rfl rfl (hb hby d_26_6)
  have K2 := Keep.of_wr W2
  have M2 := M0.wr W2 (Or.inl (List.mem_of_getElem? (i := 0) rfl))
  replace F_value := F_value.same W2
  replace F_coder := F_coder.other W2 (Or.inr (slot_ne (Or.inr (hw _ (List.mem_of_getElem? (i := 34) rfl))) (Or.inr (hw _ (List.mem_of_getElem? (i := 36) rfl))) (by decide) (t := .byte) (t' := (.array .byte)) (by decide) (by decide)))
  replace E_a1 := E_a1.keep K2
  refine Go.of (T' := T2) (f' := (mkF m 9 #[sR a1, sR a2, sI 0] [])) st2 ?_
  refine Go.of (T' := T2) (f' := (mkF m 10 #[sR a1, sR a2, sI 0] [(.ref a1)])) (fun _ k => XS.aloadN X2.here hx rfl (hb hby d_26_9) rfl rfl k) ?_
  refine Go.of (T' := T2) (f' := (mkF m 11 #[sR a1, sR a2, sI 0] [(.int (0 : Int32)), (.ref a1)])) (fun _ k => XS.iloadN X2.here hx rfl (hb hby d_26_10) rfl k) ?_
  obtain ⟨T3, h3, X3, e3, W3, st3⟩ := putF X2 hx hZ hown (host := "") (Or.inl (hw _ (List.mem_of_getElem? (i := 33) rfl))) Via.refl e2 F_coder E_a1 (Or.inr ⟨(hw _ (List.mem_of_getElem? (i := 34) rfl)), rfl, hnm⟩) (hw _ (List.mem_of_getElem? (i := 9) rfl)) (ty := .byte) (by decide) rfl rfl (g := (mkF m 11 #[sR a1, sR a2, sI 0] [(.int (0 : Int32)), (.ref a1)])) rfl rfl (hb hby d_26_11)
  have K3 := Keep.of_wr W3
  have M3 := M2.wr W3 (Or.inl (List.mem_of_getElem? (i := 0) rfl))
  replace F_value := F_value.other W3 (Or.inr (slot_ne (Or.inr (hw _ (List.mem_of_getElem? (i := 36) rfl))) (Or.inr (hw _ (List.mem_of_getElem? (i := 34) rfl))) (by decide) (t := (.array .byte)) (t' := .byte) (by decide) (by decide)))
  replace F_coder := F_coder.same W3
  replace E_a1 := E_a1.keep K3
  refine Go.of (T' := T3) (f' := (mkF m 14 #[sR a1, sR a2, sI 0] [])) st3 ?_
  exact goRet0 (Q := fun v h L => v = none ∧ Mv h0 h [a1] L ∧ Exa Z h a1 "java/lang/String" ∧ Fld Z h a1 "java/lang/String" "value" "[B" (.ref a2) ∧ Fld Z h a1 "java/lang/String" "coder" "B" (.int (0 : Int32))) X3 hx hret hlk (hb hby d_26_14) K (by decide) (by decide) e3 (⟨rfl, M3, E_a1, F_value, F_coder⟩)
theorem ef_rm_strB1 (m : MethodId) (x0 : Addr) (x1 : Addr) (x2 : Int32)  : entryFrame m #[(.ref x0), (.ref x1), (.int x2)] 3 = mkF m 0 #[.val (.ref x0), .val (.ref x1), .val (.int x2)] [] := by first | (simp [entryFrame, mkF, argsToLocals, Value.category]; done) | rfl
set_option maxRecDepth 65536 in
set_option maxHeartbeats 40000000 in
theorem rm_strB1 (l : Launch) (Z : State) (a0 : Array Value) (hw : ∀ d ∈ tables_1, d.before a0 Z = true) (a1 a2 : Addr) (v1 v2 : Value) (h0 : Heap) (E_a1 : Exa Z h0 a1 "java/lang/String") (F_value : Fld Z h0 a1 "java/lang/String" "value" "[B" v1) (F_coder : Fld Z h0 a1 "java/lang/String" "coder" "B" v2) :
    MeetsW l Z (⟨"java/lang/String", "<init>", "([BB)V"⟩ : MethodName) jdk_42_method_151_code 3 none ({ frames := 1, cells := 0, slots := 0, locals := 12 } : Room) #[(.ref a1), (.ref a2), (.int (1 : Int32))] h0 (fun v h L => v = none ∧ Mv h0 h [a1] L ∧ Exa Z h a1 "java/lang/String" ∧ Fld Z h a1 "java/lang/String" "value" "[B" (.ref a2) ∧ Fld Z h a1 "java/lang/String" "coder" "B" (.int (1 : Int32))) := by
  refine MeetsW.of (plainFor_of_name pn_java_lang_String) ?_
  intro p e s m below meth c s₁ P hx hby hml hZ hown hnm hret hlk X0 e0 K
  have M0 : Mv h0 h0 [a1] [] := Mv.refl _ _
  refine Go.cast (ef_rm_strB1 m a1 a2 (1 : Int32) ) ?_
  refine Go.of (T' := s₁) (f' := (mkF m 1 #[sR a1, sR a2, sI 1] [(.ref a1)])) (fun _ k => XS.aloadN X0.here hx rfl (hb hby d_26_0) rfl rfl k) ?_
  obtain ⟨T1, X1, e1, st1⟩ := initO X0 hx hZ hown (hw _ (List.mem_of_getElem? (i := 18) rfl)) (hw _ (List.mem_of_getElem? (i := 19) rfl)) (hw _ (List.mem_of_getElem? (i := 20) rfl)) e0 (g := (mkF m 1 #[sR a1, sR a2, sI 1] [(.ref a1)])) rfl (by rw [hml]; rfl) rfl (hb hby d_26_1) (by decide) (W := 0) (by show 2 * 0 + _ ≤ _; exact Nat.le_of_eq rfl) (by decide)
  refine Go.of (T' := T1) (f' := (mkF m 4 #[sR a1, sR a2, sI 1] [])) st1 ?_
  refine Go.of (T' := T1) (f' := (mkF m 5 #[sR a1, sR a2, sI 1] [(.ref a1)])) (fun _ k => XS.aloadN X1.here hx rfl (hb hby d_26_4) rfl rfl k) ?_
  refine Go.of (T' := T1) (f' := (mkF m 6 #[sR a1, sR a2, sI 1] [(.ref a2), (.ref a1)])) (fun _ k => XS.aloadN X1.here hx rfl (hb hby d_26_5) rfl rfl k) ?_
  obtain ⟨T2, h2, X2, e2, W2, st2⟩ := putF X1 hx hZ hown (host := "") (Or.inl (hw _ (List.mem_of_getElem? (i := 35) rfl))) Via.refl e1 F_value E_a1 (Or.inr ⟨(hw _ (List.mem_of_getElem? (i := 36) rfl)), rfl, hnm⟩) (hw _ (List.mem_of_getElem? (i := 9) rfl)) (ty := (.array .byte)) (by decide) rfl rfl (g := (mkF m 6 #[sR a1, sR a2, sI 1] [(.ref a2), (.ref a1)])) rfl rfl (hb hby d_26_6)
  have K2 := Keep.of_wr W2
  have M2 := M0.wr W2 (Or.inl (List.mem_of_getElem? (i := 0) rfl))
  replace F_value := F_value.same W2
  replace F_coder := F_coder.other W2 (Or.inr (slot_ne (Or.inr (hw _ (List.mem_of_getElem? (i := 34) rfl))) (Or.inr (hw _ (List.mem_of_getElem? (i := 36) rfl))) (by decide) (t := .byte) (t' := (.array .byte)) (by decide) (by decide)))
  replace E_a1 := E_a1.keep K2
  refine Go.of (T' := T2) (f' := (mkF m 9 #[sR a1, sR a2, sI 1] [])) st2 ?_
  refine Go.of (T' := T2) (f' := (mkF m 10 #[sR a1, sR a2, sI 1] [(.ref a1)])) (fun _ k => XS.aloadN X2.here hx rfl (hb hby d_26_9) rfl rfl k) ?_
  refine Go.of (T' := T2) (f' := (mkF m 11 #[sR a1, sR a2, sI 1] [(.int (1 : Int32)), (.ref a1)])) (fun _ k => XS.iloadN X2.here hx rfl (hb hby d_26_10) rfl k) ?_
  obtain ⟨T3, h3, X3, e3, W3, st3⟩ := putF X2 hx hZ hown (host := "") (Or.inl (hw _ (List.mem_of_getElem? (i := 33) rfl))) Via.refl e2 F_coder E_a1 (Or.inr ⟨(hw _ (List.mem_of_getElem? (i := 34) rfl)), rfl, hnm⟩) (hw _ (List.mem_of_getElem? (i := 9) rfl)) (ty := .byte) (by decide) rfl rfl (g := (mkF m 11 #[sR a1, sR a2, sI 1] [(.int (1 : Int32)), (.ref a1)])) rfl rfl (hb hby d_26_11)
  have K3 := Keep.of_wr W3
  have M3 := M2.wr W3 (Or.inl (List.mem_of_getElem? (i := 0) rfl))
  replace F_value := F_value.other W3 (Or.inr (slot_ne (Or.inr (hw _ (List.mem_of_getElem? (i := 36) rfl))) (Or.inr (hw _ (List.mem_of_getElem? (i := 34) rfl))) (by decide) (t := (.array .byte)) (t' := .byte) (by decide) (by decide)))
  replace F_coder := F_coder.same W3
  replace E_a1 := E_a1.keep K3
  refine Go.of (T' := T3) (f' := (mkF m 14 #[sR a1, sR a2, sI 1] [])) st3 ?_
  exact goRet0 (Q := fun v h L => v = none ∧ Mv h0 h [a1] L ∧ Exa Z h a1 "java/lang/String" ∧ Fld Z h a1 "java/lang/String" "value" "[B" (.ref a2) ∧ Fld Z h a1 "java/lang/String" "coder" "B" (.int (1 : Int32))) X3 hx hret hlk (hb hby d_26_14) K (by decide) (by decide) e3 (⟨rfl, M3, E_a1, F_value, F_coder⟩)
theorem ef_rm_cib (m : MethodId) (x0 : Addr) (x1 : Int32) (x2 : Addr) (x3 : Int32) (x4 : Int32)  : entryFrame m #[(.ref x0), (.int x1), (.ref x2), (.int x3), (.int x4)] 7 = mkF m 0 #[.val (.ref x0), .val (.int x1), .val (.ref x2), .val (.int x3), .val (.int x4), .unset, .unset] [] := by first | (simp [entryFrame, mkF, argsToLocals, Value.category]; done) | rfl
theorem d_27_0 : decode jdk_52_method_22_code 0 = .ok (.iload_n 1, 1) := by decide +kernel
theorem d_27_1 : decode jdk_52_method_22_code 1 = .ok (.iload 4, 2) := by decide +kernel
theorem d_27_3 : decode jdk_52_method_22_code 3 = .ok (.aload_n 0, 1) := by decide +kernel
theorem d_27_4 : decode jdk_52_method_22_code 4 = .ok (.invokestatic 173, 3) := by decide +kernel
theorem d_27_7 : decode jdk_52_method_22_code 7 = .ok (.iconst 0, 1) := by decide +kernel
theorem d_27_8 : decode jdk_52_method_22_code 8 = .ok (.istore 5, 2) := by decide +kernel
theorem d_27_10 : decode jdk_52_method_22_code 10 = .ok (.iload 5, 2) := by decide +kernel
theorem d_27_12 : decode jdk_52_method_22_code 12 = .ok (.iload 4, 2) := by decide +kernel
theorem d_27_14 : decode jdk_52_method_22_code 14 = .ok (.if_icmp .ge 39, 3) := by decide +kernel
theorem d_27_53 : decode jdk_52_method_22_code 53 = .ok (.iload 4, 2) := by decide +kernel
theorem d_27_55 : decode jdk_52_method_22_code 55 = .ok (.ireturn, 1) := by decide +kernel
theorem d_27_17 : decode jdk_52_method_22_code 17 = .ok (.aload_n 0, 1) := by decide +kernel
theorem d_27_18 : decode jdk_52_method_22_code 18 = .ok (.iload_n 1, 1) := by decide +kernel
theorem d_27_19 : decode jdk_52_method_22_code 19 = .ok (.invokestatic 71, 3) := by decide +kernel
theorem d_27_22 : decode jdk_52_method_22_code 22 = .ok (.istore 6, 2) := by decide +kernel
theorem d_27_24 : decode jdk_52_method_22_code 24 = .ok (.iload 6, 2) := by decide +kernel
theorem d_27_26 : decode jdk_52_method_22_code 26 = .ok (.sipush 255, 3) := by decide +kernel
theorem d_27_29 : decode jdk_52_method_22_code 29 = .ok (.if_icmp .le 6, 3) := by decide +kernel
theorem d_27_32 : decode jdk_52_method_22_code 32 = .ok (.iload 5, 2) := by decide +kernel
theorem d_27_34 : decode jdk_52_method_22_code 34 = .ok (.ireturn, 1) := by decide +kernel
theorem d_27_35 : decode jdk_52_method_22_code 35 = .ok (.aload_n 2, 1) := by decide +kernel
theorem d_27_36 : decode jdk_52_method_22_code 36 = .ok (.iload_n 3, 1) := by decide +kernel
theorem d_27_37 : decode jdk_52_method_22_code 37 = .ok (.iload 6, 2) := by decide +kernel
theorem d_27_39 : decode jdk_52_method_22_code 39 = .ok (.i2b, 1) := by decide +kernel
theorem d_27_40 : decode jdk_52_method_22_code 40 = .ok (.bastore, 1) := by decide +kernel
theorem d_27_41 : decode jdk_52_method_22_code 41 = .ok (.iinc 1 1, 3) := by decide +kernel
theorem d_27_44 : decode jdk_52_method_22_code 44 = .ok (.iinc 3 1, 3) := by decide +kernel
theorem d_27_47 : decode jdk_52_method_22_code 47 = .ok (.iinc 5 1, 3) := by decide +kernel
theorem d_27_50 : decode jdk_52_method_22_code 50 = .ok (.goto (-40), 3) := by decide +kernel
set_option maxRecDepth 65536 in
set_option maxHeartbeats 40000000 in
theorem rm_cib (l : Launch) (Z : State) (a0 : Array Value) (hw : ∀ d ∈ tables_1, d.before a0 Z = true) (a1 a2 : Addr) (ka kb : ClassId) (cs : List Int32) (mm : Nat) (vs : List Value) (fm : Value) (h0 : Heap) (V_a1 : Arv Z h0 a1 ka .byte (Int32.ofNat (2 * cs.length)) (StrChars.Road.wideBytes cs) (.int (0 : Int32))) (hle8 : cs.length ≤ 8) (hp1 : 1 ≤ cs.length) (hbr : ∀ c ∈ cs, ¬ c < 0 ∧ ¬ (65535 : Int32) < c) (hm : mm ≤ cs.length) (V_a2 : Arv Z h0 a2 kb (.byte) (Int32.ofNat mm) vs (.int (0 : Int32))) (hv : vs.length = mm) (hne : a1 ≠ a2) (Z_ad : Sta Z h0 "java/lang/StringUTF16" "$assertionsDisabled" "Z" (.int (1 : Int32))) (Z_hs : Sta Z h0 "java/lang/StringUTF16" "HI_BYTE_SHIFT" "I" (.int (0 : Int32))) (Z_ls : Sta Z h0 "java/lang/StringUTF16" "LO_BYTE_SHIFT" "I" (.int (8 : Int32))) (Z_fm : Sta Z h0 "jdk/internal/util/Preconditions" "SIOOBE_FORMATTER" "Ljava/util/function/BiFunction;" fm) (hfm : fm.isRef = true) :
    MeetsW l Z (⟨"java/lang/StringUTF16", "compress", "([BI[BII)I"⟩ : MethodName) jdk_52_method_22_code 7 (some .int) ({ frames := 3, cells := 0, slots := 0, locals := 43 } : Room) #[(.ref a1), (.int (0 : Int32)), (.ref a2), (.int (0 : Int32)), (.int (Int32.ofNat mm))] h0 (fun v h L => Mv h0 h [a2] L ∧ ((v = some (.int (Int32.ofNat mm)) ∧ (∀ c ∈ (List.take mm cs), ¬ (255 : Int32) < c) ∧ Arv Z h a2 kb .byte (Int32.ofNat mm) ((List.take mm cs).map fun c => Value.int (StrChars.lo8 c)) (.int (0 : Int32))) ∨ ∃ k : Nat, k < mm ∧ (255 : Int32) < cs.getD k 0 ∧ v = some (.int (Int32.ofNat k)))) := by
  refine MeetsW.of (plainFor_of_name pn_java_lang_StringUTF16) ?_
  intro p e s m below meth c s₁ P hx hby hml hZ hown hnm hret hlk X0 e0 K
  have M0 : Mv h0 h0 [a2] [] := Mv.refl _ _
  refine Go.cast (ef_rm_cib m a1 (0 : Int32) a2 (0 : Int32) (Int32.ofNat mm) ) ?_
  have hl : cs.length ≤ 4000 := by omega
  refine Go.of (T' := s₁) (f' := (mkF m 1 #[sR a1, sI 0, sR a2, sI 0, sI (Int32.ofNat mm), .unset, .unset] [(.int (0 : Int32))])) (fun _ k => XS.iloadN X0.here hx rfl (hb hby d_27_0) rfl k) ?_
  refine Go.of (T' := s₁) (f' := (mkF m 3 #[sR a1, sI 0, sR a2, sI 0, sI (Int32.ofNat mm), .unset, .unset] [(.int (Int32.ofNat mm)), (.int (0 : Int32))])) (fun _ k => XS.iload X0.here hx rfl (hb hby d_27_1) rfl k) ?_
  refine Go.of (T' := s₁) (f' := (mkF m 4 #[sR a1, sI 0, sR a2, sI 0, sI (Int32.ofNat mm), .unset, .unset] [(.ref a1), (.int (Int32.ofNat mm)), (.int (0 : Int32))])) (fun _ k => XS.aloadN X0.here hx rfl (hb hby d_27_3) rfl rfl k) ?_
  refine goS X0 hx hZ hown (hw _ (List.mem_of_getElem? (i := 164) rfl)) (hw _ (List.mem_of_getElem? (i := 165) rfl)) (hw _ (List.mem_of_getElem? (i := 24) rfl)) (hw _ (List.mem_of_getElem? (i := 166) rfl)) (by decide) (C := 0) (S := 0) ((rm_cboU l Z a0 hw a1 ka cs (mm) fm h0 V_a1 hle8 hp1 hbr (by omega) Z_fm hfm).bk (W := 0) hZ (hw _ (List.mem_of_getElem? (i := 166) rfl)) (hw _ (List.mem_of_getElem? (i := 24) rfl)) (by decide) (by decide)) e0 (argsL := [(.int (0 : Int32)), (.int (Int32.ofNat mm)), (.ref a1)]) (rest := []) (by rw [hml]; rfl) (lenOf pd__II_B_V rfl) rfl rfl (hb hby d_27_4) (Nat.le_of_eq rfl) (by decide) (by decide) ?_
  intro v1 T1 L1 X1 hQ1
  obtain ⟨nq1, e1, rfl⟩ := hQ1
  replace X1 := standNil X1 nq1
  show Go p e below P T1 (mkF m 7 #[sR a1, sI 0, sR a2, sI 0, sI (Int32.ofNat mm), .unset, .unset] [])
  refine Go.of (T' := T1) (f' := (mkF m 8 #[sR a1, sI 0, sR a2, sI 0, sI (Int32.ofNat mm), .unset, .unset] [(.int (0 : Int32))])) (fun _ k => XS.iconst X1.here hx rfl (hb hby d_27_7) k) ?_
  refine Go.of (T' := T1) (f' := (mkF m 10 #[sR a1, sI 0, sR a2, sI 0, sI (Int32.ofNat mm), sI 0, .unset] [])) (fun _ k => XS.istore X1.here hx rfl (hb hby d_27_8) rfl (l' := #[sR a1, sI 0, sR a2, sI 0, sI (Int32.ofNat mm), sI 0, .unset]) rfl k) ?_
  show Go p e below P T1 (mkF m 10 #[sR a1, sI (Int32.ofNat 0), sR a2, sI (Int32.ofNat 0), sI (Int32.ofNat mm), sI (Int32.ofNat 0), .unset] [])
  have J : ∀ (n : Nat) (i : Nat) (vs : List Value) (cj : Int32) (Tj : State) (hj : Heap) (Lj : List Loc), mm ≤ i + n → i ≤ mm → (WL vs cs mm i) → Stand p l e ({ frames := 3, cells := 0, slots := 0, locals := 43 } : Room) s m #[(.ref a1), (.int (0 : Int32)), (.ref a2), (.int (0 : Int32)), (.int (Int32.ofNat mm))] below meth c Tj Lj 0 0 → Tj.heap = hj → Mv h0 hj [a2] Lj → Arv Z hj a1 ka (.byte) (Int32.ofNat (2 * cs.length)) (StrChars.Road.wideBytes cs) (.int (0 : Int32)) → Arv Z hj a2 kb (.byte) (Int32.ofNat mm) vs (.int (0 : Int32)) → Sta Z hj "java/lang/StringUTF16" "$assertionsDisabled" "Z" (.int (1 : Int32)) → Sta Z hj "java/lang/StringUTF16" "HI_BYTE_SHIFT" "I" (.int (0 : Int32)) → Sta Z hj "java/lang/StringUTF16" "LO_BYTE_SHIFT" "I" (.int (8 : Int32)) → Go p e below P Tj (mkF m 10 #[sR a1, sI (Int32.ofNat i), sR a2, sI (Int32.ofNat i), sI (Int32.ofNat mm), sI (Int32.ofNat i), sI cj] []) := by
    intro n
    induction n with
    | zero =>
      intro i vs cj Tj hj Lj hle hi1 hwl Xj ej Mj V_a1 V_a2 Z_ad Z_hs Z_ls
      refine Go.of (T' := Tj) (f' := (mkF m 12 #[sR a1, sI (Int32.ofNat i), sR a2, sI (Int32.ofNat i), sI (Int32.ofNat mm), sI (Int32.ofNat i), sI cj] [(.int (Int32.ofNat i))])) (fun _ k => XS.iload Xj.here hx rfl (hb hby d_27_10) rfl k) ?_
      refine Go.of (T' := Tj) (f' := (mkF m 14 #[sR a1, sI (Int32.ofNat i), sR a2, sI (Int32.ofNat i), sI (Int32.ofNat mm), sI (Int32.ofNat i), sI cj] [(.int (Int32.ofNat mm)), (.int (Int32.ofNat i))])) (fun _ k => XS.iload Xj.here hx rfl (hb hby d_27_12) rfl k) ?_
      have hc14 : ¬ ((Int32.ofNat i) < (Int32.ofNat mm)) := fun q => by have q := (ltN (by omega) (by omega)).mp q; omega
      refine Go.of (T' := Tj) (f' := (mkF m 53 #[sR a1, sI (Int32.ofNat i), sR a2, sI (Int32.ofNat i), sI (Int32.ofNat mm), sI (Int32.ofNat i), sI cj] [])) (fun _ k => XS.icmpYes Xj.here hx rfl (pc0 := 14) (pc' := 53) rfl (hb hby d_27_14) rfl (flt hc14).2.1 (by decide) (by decide) k) ?_
      refine Go.of (T' := Tj) (f' := (mkF m 55 #[sR a1, sI (Int32.ofNat i), sR a2, sI (Int32.ofNat i), sI (Int32.ofNat mm), sI (Int32.ofNat i), sI cj] [(.int (Int32.ofNat mm))])) (fun _ k => XS.iload Xj.here hx rfl (hb hby d_27_53) rfl k) ?_
      exact goRetI (Q := fun v h L => Mv h0 h [a2] L ∧ ((v = some (.int (Int32.ofNat mm)) ∧ (∀ c ∈ (List.take mm cs), ¬ (255 : Int32) < c) ∧ Arv Z h a2 kb .byte (Int32.ofNat mm) ((List.take mm cs).map fun c => Value.int (StrChars.lo8 c)) (.int (0 : Int32))) ∨ ∃ k : Nat, k < mm ∧ (255 : Int32) < cs.getD k 0 ∧ v = some (.int (Int32.ofNat k)))) Xj hx (t := .int) hret hlk rfl (by simp) (hb hby d_27_55) K (by decide) (by decide) ej (⟨Mj, Or.inl ⟨rfl, wlLat hwl (by first | exact Nat.le_of_not_lt fun q => hc14 ((ltN (by omega) (by omega)).mpr q) | omega) hm, (wlEnd hwl (by first | exact Nat.le_of_not_lt fun q => hc14 ((ltN (by omega) (by omega)).mpr q) | omega) hm) ▸ V_a2⟩⟩)
    | succ n ih =>
      intro i vs cj Tj hj Lj hle hi1 hwl Xj ej Mj V_a1 V_a2 Z_ad Z_hs Z_ls
      refine Go.of (T' := Tj) (f' := (mkF m 12 #[sR a1, sI (Int32.ofNat i), sR a2, sI (Int32.ofNat i), sI (Int32.ofNat mm), sI (Int32.ofNat i), sI cj] [(.int (Int32.ofNat i))])) (fun _ k => XS.iload Xj.here hx rfl (hb hby d_27_10) rfl k) ?_
      refine Go.of (T' := Tj) (f' := (mkF m 14 #[sR a1, sI (Int32.ofNat i), sR a2, sI (Int32.ofNat i), sI (Int32.ofNat mm), sI (Int32.ofNat i), sI cj] [(.int (Int32.ofNat mm)), (.int (Int32.ofNat i))])) (fun _ k => XS.iload Xj.here hx rfl (hb hby d_27_12) rfl k) ?_
      by_cases hc14 : (Int32.ofNat i) < (Int32.ofNat mm)
      ·
        refine Go.of (T' := Tj) (f' := (mkF m 17 #[sR a1, sI (Int32.ofNat i), sR a2, sI (Int32.ofNat i), sI (Int32.ofNat mm), sI (Int32.ofNat i), sI cj] [])) (fun _ k => XS.icmpNo Xj.here hx rfl (hb hby d_27_14) rfl (tlt hc14).2.1 k) ?_
        have him : i < mm := (ltN (by omega) (by omega)).mp hc14
        have hi : i < cs.length := by omega
        refine Go.of (T' := Tj) (f' := (mkF m 18 #[sR a1, sI (Int32.ofNat i), sR a2, sI (Int32.ofNat i), sI (Int32.ofNat mm), sI (Int32.ofNat i), sI cj] [(.ref a1)])) (fun _ k => XS.aloadN Xj.here hx rfl (hb hby d_27_17) rfl rfl k) ?_
        refine Go.of (T' := Tj) (f' := (mkF m 19 #[sR a1, sI (Int32.ofNat i), sR a2, sI (Int32.ofNat i), sI (Int32.ofNat mm), sI (Int32.ofNat i), sI cj] [(.int (Int32.ofNat i)), (.ref a1)])) (fun _ k => XS.iloadN Xj.here hx rfl (hb hby d_27_18) rfl k) ?_
        refine goS Xj hx hZ hown (hw _ (List.mem_of_getElem? (i := 155) rfl)) (hw _ (List.mem_of_getElem? (i := 156) rfl)) (hw _ (List.mem_of_getElem? (i := 24) rfl)) (hw _ (List.mem_of_getElem? (i := 157) rfl)) (by decide) (C := 0) (S := 0) ((rm_getChar l Z a0 hw a1 ka cs i hj V_a1 hl hi hbr Z_ad Z_hs Z_ls).bk (W := 0) hZ (hw _ (List.mem_of_getElem? (i := 157) rfl)) (hw _ (List.mem_of_getElem? (i := 24) rfl)) (by decide) (by decide)) ej (argsL := [(.ref a1), (.int (Int32.ofNat i))]) (rest := []) (by rw [hml]; rfl) (lenOf pd___BI_C rfl) rfl rfl (hb hby d_27_19) (Nat.le_of_eq rfl) (by decide) (by decide) ?_
        intro v2 T2 L2 X2 hQ2
        obtain ⟨nq2, e2, rfl⟩ := hQ2
        replace X2 := standNil X2 nq2
        show Go p e below P T2 (mkF m 22 #[sR a1, sI (Int32.ofNat i), sR a2, sI (Int32.ofNat i), sI (Int32.ofNat mm), sI (Int32.ofNat i), sI cj] [(.int (cs.getD i 0))])
        refine Go.of (T' := T2) (f' := (mkF m 24 #[sR a1, sI (Int32.ofNat i), sR a2, sI (Int32.ofNat i), sI (Int32.ofNat mm), sI (Int32.ofNat i), sI (cs.getD i 0)] [])) (fun _ k => XS.istore X2.here hx rfl (hb hby d_27_22) rfl (l' := #[sR a1, sI (Int32.ofNat i), sR a2, sI (Int32.ofNat i), sI (Int32.ofNat mm), sI (Int32.ofNat i), sI (cs.getD i 0)]) rfl k) ?_
        refine Go.of (T' := T2) (f' := (mkF m 26 #[sR a1, sI (Int32.ofNat i), sR a2, sI (Int32.ofNat i), sI (Int32.ofNat mm), sI (Int32.ofNat i), sI (cs.getD i 0)] [(.int (cs.getD i 0))])) (fun _ k => XS.iload X2.here hx rfl (hb hby d_27_24) rfl k) ?_
        refine Go.of (T' := T2) (f' := (mkF m 29 #[sR a1, sI (Int32.ofNat i), sR a2, sI (Int32.ofNat i), sI (Int32.ofNat mm), sI (Int32.ofNat i), sI (cs.getD i 0)] [(.int (255 : Int32)), (.int (cs.getD i 0))])) (fun _ k => XS.sipush X2.here hx rfl (hb hby d_27_26) k) ?_
        by_cases hc29 : (255 : Int32) < (cs.getD i 0)
        ·
          refine Go.of (T' := T2) (f' := (mkF m 32 #[sR a1, sI (Int32.ofNat i), sR a2, sI (Int32.ofNat i), sI (Int32.ofNat mm), sI (Int32.ofNat i), sI (cs.getD i 0)] [])) (fun _ k => XS.icmpNo X2.here hx rfl (hb hby d_27_29) rfl (tlt hc29).2.2.2 k) ?_
          refine Go.of (T' := T2) (f' := (mkF m 34 #[sR a1, sI (Int32.ofNat i), sR a2, sI (Int32.ofNat i), sI (Int32.ofNat mm), sI (Int32.ofNat i), sI (cs.getD i 0)] [(.int (Int32.ofNat i))])) (fun _ k => XS.iload X2.here hx rfl (hb hby d_27_32) rfl k) ?_
          exact goRetI (Q := fun v h L => Mv h0 h [a2] L ∧ ((v = some (.int (Int32.ofNat mm)) ∧ (∀ c ∈ (List.take mm cs), ¬ (255 : Int32) < c) ∧ Arv Z h a2 kb .byte (Int32.ofNat mm) ((List.take mm cs).map fun c => Value.int (StrChars.lo8 c)) (.int (0 : Int32))) ∨ ∃ k : Nat, k < mm ∧ (255 : Int32) < cs.getD k 0 ∧ v = some (.int (Int32.ofNat k)))) X2 hx (t := .int) hret hlk rfl (by simp) (hb hby d_27_34) K (by decide) (by decide) e2 (⟨Mj, Or.inr ⟨i, him, hc29, rfl⟩⟩)
        ·
          refine Go.of (T' := T2) (f' := (mkF m 35 #[sR a1, sI (Int32.ofNat i), sR a2, sI (Int32.ofNat i), sI (Int32.ofNat mm), sI (Int32.ofNat i), sI (cs.getD i 0)] [])) (fun _ k => XS.icmpYes X2.here hx rfl (pc0 := 29) (pc' := 35) rfl (hb hby d_27_29) rfl (flt hc29).2.2.2 (by decide) (by decide) k) ?_
          refine Go.of (T' := T2) (f' := (mkF m 36 #[sR a1, sI (Int32.ofNat i), sR a2, sI (Int32.ofNat i), sI (Int32.ofNat mm), sI (Int32.ofNat i), sI (cs.getD i 0)] [(.ref a2)])) (fun _ k => XS.aloadN X2.here hx rfl (hb hby d_27_35) rfl rfl k) ?_
          refine Go.of (T' := T2) (f' := (mkF m 37 #[sR a1, sI (Int32.ofNat i), sR a2, sI (Int32.ofNat i), sI (Int32.ofNat mm), sI (Int32.ofNat i), sI (cs.getD i 0)] [(.int (Int32.ofNat i)), (.ref a2)])) (fun _ k => XS.iloadN X2.here hx rfl (hb hby d_27_36) rfl k) ?_
          refine Go.of (T' := T2) (f' := (mkF m 39 #[sR a1, sI (Int32.ofNat i), sR a2, sI (Int32.ofNat i), sI (Int32.ofNat mm), sI (Int32.ofNat i), sI (cs.getD i 0)] [(.int (cs.getD i 0)), (.int (Int32.ofNat i)), (.ref a2)])) (fun _ k => XS.iload X2.here hx rfl (hb hby d_27_37) rfl k) ?_
          refine Go.of (T' := T2) (f' := (mkF m 40 #[sR a1, sI (Int32.ofNat i), sR a2, sI (Int32.ofNat i), sI (Int32.ofNat mm), sI (Int32.ofNat i), sI (cs.getD i 0)] [(.int ((cs.getD i 0).toInt8.toInt32)), (.int (Int32.ofNat i)), (.ref a2)])) (fun _ k => XS.i2b X2.here hx rfl (hb hby d_27_39) rfl k) ?_
          obtain ⟨cl3, Ar3, cq3, Sz3, Nn3, Hs3, Gs3⟩ := id V_a2
          have hin3 : ¬ ((Int32.ofNat i) < 0 ∨ cl3.slots.size ≤ ((Int32.ofNat i)).toNatClampNeg) := by rw [inbS Sz3 (m := mm) (nat32 (by omega))]; exact ⟨nneg (by omega), by rw [nat32 (by omega)]; omega⟩
          obtain ⟨T3, h3, X3, e3, W3, st3⟩ := stB X2 hx hZ e2 Ar3 (j := (Int32.ofNat i)) hin3 (g := (mkF m 40 #[sR a1, sI (Int32.ofNat i), sR a2, sI (Int32.ofNat i), sI (Int32.ofNat mm), sI (Int32.ofNat i), sI (cs.getD i 0)] [(.int ((cs.getD i 0).toInt8.toInt32)), (.int (Int32.ofNat i)), (.ref a2)])) rfl rfl (hb hby d_27_40)
          have fq3 : fits .byte (.int (nar .byte ((cs.getD i 0).toInt8.toInt32))) = true := fits_nar_byte _
          rw [show nar .byte ((cs.getD i 0).toInt8.toInt32) = (StrChars.lo8 (cs.getD i 0)) from nar_b _] at W3 fq3
          have V3 := Arv.set Ar3 cq3 Sz3 Nn3 Hs3 Gs3 fq3 W3 (i) (nat32 (by omega)) (by have := hwl.1; omega)
          have V_a2_o := V_a2
          have K3 := Keep.of_wr W3
          have M3 := Mj.wr W3 (Or.inl (List.mem_of_getElem? (i := 0) rfl))
          replace V_a1 := V_a1.keep K3 (ninS hne nin0)
          replace Z_ad := StaKeep Z_ad K3 (allS (staArv V_a2_o) all0)
          replace Z_hs := StaKeep Z_hs K3 (allS (staArv V_a2_o) all0)
          replace Z_ls := StaKeep Z_ls K3 (allS (staArv V_a2_o) all0)
          replace V_a2 := V3
          refine Go.of (T' := T3) (f' := (mkF m 41 #[sR a1, sI (Int32.ofNat i), sR a2, sI (Int32.ofNat i), sI (Int32.ofNat mm), sI (Int32.ofNat i), sI (cs.getD i 0)] [])) st3 ?_
          refine Go.of (T' := T3) (f' := (mkF m 44 #[sR a1, sI ((Int32.ofNat i) + (1 : Int32)), sR a2, sI (Int32.ofNat i), sI (Int32.ofNat mm), sI (Int32.ofNat i), sI (cs.getD i 0)] [])) (fun _ k => XS.iinc X3.here hx rfl (hb hby d_27_41) rfl (l' := #[sR a1, sI ((Int32.ofNat i) + (1 : Int32)), sR a2, sI (Int32.ofNat i), sI (Int32.ofNat mm), sI (Int32.ofNat i), sI (cs.getD i 0)]) rfl k) ?_
          refine Go.of (T' := T3) (f' := (mkF m 47 #[sR a1, sI ((Int32.ofNat i) + (1 : Int32)), sR a2, sI ((Int32.ofNat i) + (1 : Int32)), sI (Int32.ofNat mm), sI (Int32.ofNat i), sI (cs.getD i 0)] [])) (fun _ k => XS.iinc X3.here hx rfl (hb hby d_27_44) rfl (l' := #[sR a1, sI ((Int32.ofNat i) + (1 : Int32)), sR a2, sI ((Int32.ofNat i) + (1 : Int32)), sI (Int32.ofNat mm), sI (Int32.ofNat i), sI (cs.getD i 0)]) rfl k) ?_
          refine Go.of (T' := T3) (f' := (mkF m 50 #[sR a1, sI ((Int32.ofNat i) + (1 : Int32)), sR a2, sI ((Int32.ofNat i) + (1 : Int32)), sI (Int32.ofNat mm), sI ((Int32.ofNat i) + (1 : Int32)), sI (cs.getD i 0)] [])) (fun _ k => XS.iinc X3.here hx rfl (hb hby d_27_47) rfl (l' := #[sR a1, sI ((Int32.ofNat i) + (1 : Int32)), sR a2, sI ((Int32.ofNat i) + (1 : Int32)), sI (Int32.ofNat mm), sI ((Int32.ofNat i) + (1 : Int32)), sI (cs.getD i 0)]) rfl k) ?_
          refine Go.of (T' := T3) (f' := (mkF m 10 #[sR a1, sI ((Int32.ofNat i) + (1 : Int32)), sR a2, sI ((Int32.ofNat i) + (1 : Int32)), sI (Int32.ofNat mm), sI ((Int32.ofNat i) + (1 : Int32)), sI (cs.getD i 0)] [])) (fun _ k => XS.goto X3.here hx rfl (pc0 := 50) (pc' := 10) rfl (hb hby d_27_50) (by decide) (by decide) k) ?_
          rw [show (Int32.ofNat i) + (1 : Int32) = Int32.ofNat (i + 1) from (Int32.ofNat_add _ _).symm]
          exact ih (i + 1) _ _ T3 h3 _ (by omega) him (wlStep hwl him hc29) (standUp X3 (by decide) (by decide)) e3 M3 V_a1 V_a2 Z_ad Z_hs Z_ls
      ·
        refine Go.of (T' := Tj) (f' := (mkF m 53 #[sR a1, sI (Int32.ofNat i), sR a2, sI (Int32.ofNat i), sI (Int32.ofNat mm), sI (Int32.ofNat i), sI cj] [])) (fun _ k => XS.icmpYes Xj.here hx rfl (pc0 := 14) (pc' := 53) rfl (hb hby d_27_14) rfl (flt hc14).2.1 (by decide) (by decide) k) ?_
        refine Go.of (T' := Tj) (f' := (mkF m 55 #[sR a1, sI (Int32.ofNat i), sR a2, sI (Int32.ofNat i), sI (Int32.ofNat mm), sI (Int32.ofNat i), sI cj] [(.int (Int32.ofNat mm))])) (fun _ k => XS.iload Xj.here hx rfl (hb hby d_27_53) rfl k) ?_
        exact goRetI (Q := fun v h L => Mv h0 h [a2] L ∧ ((v = some (.int (Int32.ofNat mm)) ∧ (∀ c ∈ (List.take mm cs), ¬ (255 : Int32) < c) ∧ Arv Z h a2 kb .byte (Int32.ofNat mm) ((List.take mm cs).map fun c => Value.int (StrChars.lo8 c)) (.int (0 : Int32))) ∨ ∃ k : Nat, k < mm ∧ (255 : Int32) < cs.getD k 0 ∧ v = some (.int (Int32.ofNat k)))) Xj hx (t := .int) hret hlk rfl (by simp) (hb hby d_27_55) K (by decide) (by decide) ej (⟨Mj, Or.inl ⟨rfl, wlLat hwl (by first | exact Nat.le_of_not_lt fun q => hc14 ((ltN (by omega) (by omega)).mpr q) | omega) hm, (wlEnd hwl (by first | exact Nat.le_of_not_lt fun q => hc14 ((ltN (by omega) (by omega)).mpr q) | omega) hm) ▸ V_a2⟩⟩)
  have hwl : WL vs cs mm 0 := wl0 cs hv
  refine Go.of (T' := T1) (f' := (mkF m 12 #[sR a1, sI (Int32.ofNat 0), sR a2, sI (Int32.ofNat 0), sI (Int32.ofNat mm), sI (Int32.ofNat 0), .unset] [(.int (Int32.ofNat 0))])) (fun _ k => XS.iload X1.here hx rfl (hb hby d_27_10) rfl k) ?_
  refine Go.of (T' := T1) (f' := (mkF m 14 #[sR a1, sI (Int32.ofNat 0), sR a2, sI (Int32.ofNat 0), sI (Int32.ofNat mm), sI (Int32.ofNat 0), .unset] [(.int (Int32.ofNat mm)), (.int (Int32.ofNat 0))])) (fun _ k => XS.iload X1.here hx rfl (hb hby d_27_12) rfl k) ?_
  by_cases hc14 : (Int32.ofNat 0) < (Int32.ofNat mm)
  ·
    refine Go.of (T' := T1) (f' := (mkF m 17 #[sR a1, sI (Int32.ofNat 0), sR a2, sI (Int32.ofNat 0), sI (Int32.ofNat mm), sI (Int32.ofNat 0), .unset] [])) (fun _ k => XS.icmpNo X1.here hx rfl (hb hby d_27_14) rfl (tlt hc14).2.1 k) ?_
    have him : 0 < mm := (ltN (by omega) (by omega)).mp hc14
    have hi : 0 < cs.length := by omega
    refine Go.of (T' := T1) (f' := (mkF m 18 #[sR a1, sI (Int32.ofNat 0), sR a2, sI (Int32.ofNat 0), sI (Int32.ofNat mm), sI (Int32.ofNat 0), .unset] [(.ref a1)])) (fun _ k => XS.aloadN X1.here hx rfl (hb hby d_27_17) rfl rfl k) ?_
    refine Go.of (T' := T1) (f' := (mkF m 19 #[sR a1, sI (Int32.ofNat 0), sR a2, sI (Int32.ofNat 0), sI (Int32.ofNat mm), sI (Int32.ofNat 0), .unset] [(.int (Int32.ofNat 0)), (.ref a1)])) (fun _ k => XS.iloadN X1.here hx rfl (hb hby d_27_18) rfl k) ?_
    refine goS X1 hx hZ hown (hw _ (List.mem_of_getElem? (i := 155) rfl)) (hw _ (List.mem_of_getElem? (i := 156) rfl)) (hw _ (List.mem_of_getElem? (i := 24) rfl)) (hw _ (List.mem_of_getElem? (i := 157) rfl)) (by decide) (C := 0) (S := 0) ((rm_getChar l Z a0 hw a1 ka cs 0 h0 V_a1 hl hi hbr Z_ad Z_hs Z_ls).bk (W := 0) hZ (hw _ (List.mem_of_getElem? (i := 157) rfl)) (hw _ (List.mem_of_getElem? (i := 24) rfl)) (by decide) (by decide)) e1 (argsL := [(.ref a1), (.int (Int32.ofNat 0))]) (rest := []) (by rw [hml]; rfl) (lenOf pd___BI_C rfl) rfl rfl (hb hby d_27_19) (Nat.le_of_eq rfl) (by decide) (by decide) ?_
    intro v4 T4 L4 X4 hQ4
    obtain ⟨nq4, e4, rfl⟩ := hQ4
    replace X4 := standNil X4 nq4
    show Go p e below P T4 (mkF m 22 #[sR a1, sI (Int32.ofNat 0), sR a2, sI (Int32.ofNat 0), sI (Int32.ofNat mm), sI (Int32.ofNat 0), .unset] [(.int (cs.getD 0 0))])
    refine Go.of (T' := T4) (f' := (mkF m 24 #[sR a1, sI (Int32.ofNat 0), sR a2, sI (Int32.ofNat 0), sI (Int32.ofNat mm), sI (Int32.ofNat 0), sI (cs.getD 0 0)] [])) (fun _ k => XS.istore X4.here hx rfl (hb hby d_27_22) rfl (l' := #[sR a1, sI (Int32.ofNat 0), sR a2, sI (Int32.ofNat 0), sI (Int32.ofNat mm), sI (Int32.ofNat 0), sI (cs.getD 0 0)]) rfl k) ?_
    refine Go.of (T' := T4) (f' := (mkF m 26 #[sR a1, sI (Int32.ofNat 0), sR a2, sI (Int32.ofNat 0), sI (Int32.ofNat mm), sI (Int32.ofNat 0), sI (cs.getD 0 0)] [(.int (cs.getD 0 0))])) (fun _ k => XS.iload X4.here hx rfl (hb hby d_27_24) rfl k) ?_
    refine Go.of (T' := T4) (f' := (mkF m 29 #[sR a1, sI (Int32.ofNat 0), sR a2, sI (Int32.ofNat 0), sI (Int32.ofNat mm), sI (Int32.ofNat 0), sI (cs.getD 0 0)] [(.int (255 : Int32)), (.int (cs.getD 0 0))])) (fun _ k => XS.sipush X4.here hx rfl (hb hby d_27_26) k) ?_
    by_cases hc29 : (255 : Int32) < (cs.getD 0 0)
    ·
      refine Go.of (T' := T4) (f' := (mkF m 32 #[sR a1, sI (Int32.ofNat 0), sR a2, sI (Int32.ofNat 0), sI (Int32.ofNat mm), sI (Int32.ofNat 0), sI (cs.getD 0 0)] [])) (fun _ k => XS.icmpNo X4.here hx rfl (hb hby d_27_29) rfl (tlt hc29).2.2.2 k) ?_
      refine Go.of (T' := T4) (f' := (mkF m 34 #[sR a1, sI (Int32.ofNat 0), sR a2, sI (Int32.ofNat 0), sI (Int32.ofNat mm), sI (Int32.ofNat 0), sI (cs.getD 0 0)] [(.int (Int32.ofNat 0))])) (fun _ k => XS.iload X4.here hx rfl (hb hby d_27_32) rfl k) ?_
      exact goRetI (Q := fun v h L => Mv h0 h [a2] L ∧ ((v = some (.int (Int32.ofNat mm)) ∧ (∀ c ∈ (List.take mm cs), ¬ (255 : Int32) < c) ∧ Arv Z h a2 kb .byte (Int32.ofNat mm) ((List.take mm cs).map fun c => Value.int (StrChars.lo8 c)) (.int (0 : Int32))) ∨ ∃ k : Nat, k < mm ∧ (255 : Int32) < cs.getD k 0 ∧ v = some (.int (Int32.ofNat k)))) X4 hx (t := .int) hret hlk rfl (by simp) (hb hby d_27_34) K (by decide) (by decide) e4 (⟨M0, Or.inr ⟨0, him, hc29, rfl⟩⟩)
    ·
      refine Go.of (T' := T4) (f' := (mkF m 35 #[sR a1, sI (Int32.ofNat 0), sR a2, sI (Int32.ofNat 0), sI (Int32.ofNat mm), sI (Int32.ofNat 0), sI (cs.getD 0 0)] [])) (fun _ k => XS.icmpYes X4.here hx rfl (pc0 := 29) (pc' := 35) rfl (hb hby d_27_29) rfl (flt hc29).2.2.2 (by decide) (by decide) k) ?_
      refine Go.of (T' := T4) (f' := (mkF m 36 #[sR a1, sI (Int32.ofNat 0), sR a2, sI (Int32.ofNat 0), sI (Int32.ofNat mm), sI (Int32.ofNat 0), sI (cs.getD 0 0)] [(.ref a2)])) (fun _ k => XS.aloadN X4.here hx rfl (hb hby d_27_35) rfl rfl k) ?_
      refine Go.of (T' := T4) (f' := (mkF m 37 #[sR a1, sI (Int32.ofNat 0), sR a2, sI (Int32.ofNat 0), sI (Int32.ofNat mm), sI (Int32.ofNat 0), sI (cs.getD 0 0)] [(.int (Int32.ofNat 0)), (.ref a2)])) (fun _ k => XS.iloadN X4.here hx rfl (hb hby d_27_36) rfl k) ?_
      refine Go.of (T' := T4) (f' := (mkF m 39 #[sR a1, sI (Int32.ofNat 0), sR a2, sI (Int32.ofNat 0), sI (Int32.ofNat mm), sI (Int32.ofNat 0), sI (cs.getD 0 0)] [(.int (cs.getD 0 0)), (.int (Int32.ofNat 0)), (.ref a2)])) (fun _ k => XS.iload X4.here hx rfl (hb hby d_27_37) rfl k) ?_
      refine Go.of (T' := T4) (f' := (mkF m 40 #[sR a1, sI (Int32.ofNat 0), sR a2, sI (Int32.ofNat 0), sI (Int32.ofNat mm), sI (Int32.ofNat 0), sI (cs.getD 0 0)] [(.int ((cs.getD 0 0).toInt8.toInt32)), (.int (Int32.ofNat 0)), (.ref a2)])) (fun _ k => XS.i2b X4.here hx rfl (hb hby d_27_39) rfl k) ?_
      obtain ⟨cl5, Ar5, cq5, Sz5, Nn5, Hs5, Gs5⟩ := id V_a2
      have hin5 : ¬ ((Int32.ofNat 0) < 0 ∨ cl5.slots.size ≤ ((Int32.ofNat 0)).toNatClampNeg) := by rw [inbS Sz5 (m := mm) (nat32 (by omega))]; exact ⟨nneg (by omega), by rw [nat32 (by omega)]; omega⟩
      obtain ⟨T5, h5, X5, e5, W5, st5⟩ := stB X4 hx hZ e4 Ar5 (j := (Int32.ofNat 0)) hin5 (g := (mkF m 40 #[sR a1, sI (Int32.ofNat 0), sR a2, sI (Int32.ofNat 0), sI (Int32.ofNat mm), sI (Int32.ofNat 0), sI (cs.getD 0 0)] [(.int ((cs.getD 0 0).toInt8.toInt32)), (.int (Int32.ofNat 0)), (.ref a2)])) rfl rfl (hb hby d_27_40)
      have fq5 : fits .byte (.int (nar .byte ((cs.getD 0 0).toInt8.toInt32))) = true := fits_nar_byte _
      rw [show nar .byte ((cs.getD 0 0).toInt8.toInt32) = (StrChars.lo8 (cs.getD 0 0)) from nar_b _] at W5 fq5
      have V5 := Arv.set Ar5 cq5 Sz5 Nn5 Hs5 Gs5 fq5 W5 (0) (nat32 (by omega)) (by have := hwl.1; omega)
      have V_a2_o := V_a2
      have K5 := Keep.of_wr W5
      have M5 := M0.wr W5 (Or.inl (List.mem_of_getElem? (i := 0) rfl))
      replace V_a1 := V_a1.keep K5 (ninS hne nin0)
      replace Z_ad := StaKeep Z_ad K5 (allS (staArv V_a2_o) all0)
      replace Z_hs := StaKeep Z_hs K5 (allS (staArv V_a2_o) all0)
      replace Z_ls := StaKeep Z_ls K5 (allS (staArv V_a2_o) all0)
      replace Z_fm := StaKeep Z_fm K5 (allS (staArv V_a2_o) all0)
      replace V_a2 := V5
      refine Go.of (T' := T5) (f' := (mkF m 41 #[sR a1, sI (Int32.ofNat 0), sR a2, sI (Int32.ofNat 0), sI (Int32.ofNat mm), sI (Int32.ofNat 0), sI (cs.getD 0 0)] [])) st5 ?_
      refine Go.of (T' := T5) (f' := (mkF m 44 #[sR a1, sI ((Int32.ofNat 0) + (1 : Int32)), sR a2, sI (Int32.ofNat 0), sI (Int32.ofNat mm), sI (Int32.ofNat 0), sI (cs.getD 0 0)] [])) (fun _ k => XS.iinc X5.here hx rfl (hb hby d_27_41) rfl (l' := #[sR a1, sI ((Int32.ofNat 0) + (1 : Int32)), sR a2, sI (Int32.ofNat 0), sI (Int32.ofNat mm), sI (Int32.ofNat 0), sI (cs.getD 0 0)]) rfl k) ?_
      refine Go.of (T' := T5) (f' := (mkF m 47 #[sR a1, sI ((Int32.ofNat 0) + (1 : Int32)), sR a2, sI ((Int32.ofNat 0) + (1 : Int32)), sI (Int32.ofNat mm), sI (Int32.ofNat 0), sI (cs.getD 0 0)] [])) (fun _ k => XS.iinc X5.here hx rfl (hb hby d_27_44) rfl (l' := #[sR a1, sI ((Int32.ofNat 0) + (1 : Int32)), sR a2, sI ((Int32.ofNat 0) + (1 : Int32)), sI (Int32.ofNat mm), sI (Int32.ofNat 0), sI (cs.getD 0 0)]) rfl k) ?_
      refine Go.of (T' := T5) (f' := (mkF m 50 #[sR a1, sI ((Int32.ofNat 0) + (1 : Int32)), sR a2, sI ((Int32.ofNat 0) + (1 : Int32)), sI (Int32.ofNat mm), sI ((Int32.ofNat 0) + (1 : Int32)), sI (cs.getD 0 0)] [])) (fun _ k => XS.iinc X5.here hx rfl (hb hby d_27_47) rfl (l' := #[sR a1, sI ((Int32.ofNat 0) + (1 : Int32)), sR a2, sI ((Int32.ofNat 0) + (1 : Int32)), sI (Int32.ofNat mm), sI ((Int32.ofNat 0) + (1 : Int32)), sI (cs.getD 0 0)]) rfl k) ?_
      refine Go.of (T' := T5) (f' := (mkF m 10 #[sR a1, sI ((Int32.ofNat 0) + (1 : Int32)), sR a2, sI ((Int32.ofNat 0) + (1 : Int32)), sI (Int32.ofNat mm), sI ((Int32.ofNat 0) + (1 : Int32)), sI (cs.getD 0 0)] [])) (fun _ k => XS.goto X5.here hx rfl (pc0 := 50) (pc' := 10) rfl (hb hby d_27_50) (by decide) (by decide) k) ?_
      rw [show (Int32.ofNat 0) + (1 : Int32) = Int32.ofNat (0 + 1) from (Int32.ofNat_add _ _).symm]
      exact J mm (0 + 1) _ _ T5 h5 _ (by omega) him (wlStep hwl him hc29) (standUp X5 (by decide) (by decide)) e5 M5 V_a1 V_a2 Z_ad Z_hs Z_ls
  ·
    refine Go.of (T' := T1) (f' := (mkF m 53 #[sR a1, sI (Int32.ofNat 0), sR a2, sI (Int32.ofNat 0), sI (Int32.ofNat mm), sI (Int32.ofNat 0), .unset] [])) (fun _ k => XS.icmpYes X1.here hx rfl (pc0 := 14) (pc' := 53) rfl (hb hby d_27_14) rfl (flt hc14).2.1 (by decide) (by decide) k) ?_
    refine Go.of (T' := T1) (f' := (mkF m 55 #[sR a1, sI (Int32.ofNat 0), sR a2, sI (Int32.ofNat 0), sI (Int32.ofNat mm), sI (Int32.ofNat 0), .unset] [(.int (Int32.ofNat mm))])) (fun _ k => XS.iload X1.here hx rfl (hb hby d_27_53) rfl k) ?_
    exact goRetI (Q := fun v h L => Mv h0 h [a2] L ∧ ((v = some (.int (Int32.ofNat mm)) ∧ (∀ c ∈ (List.take mm cs), ¬ (255 : Int32) < c) ∧ Arv Z h a2 kb .byte (Int32.ofNat mm) ((List.take mm cs).map fun c => Value.int (StrChars.lo8 c)) (.int (0 : Int32))) ∨ ∃ k : Nat, k < mm ∧ (255 : Int32) < cs.getD k 0 ∧ v = some (.int (Int32.ofNat k)))) X1 hx (t := .int) hret hlk rfl (by simp) (hb hby d_27_55) K (by decide) (by decide) e1 (⟨M0, Or.inl ⟨rfl, wlLat hwl (by first | exact Nat.le_of_not_lt fun q => hc14 ((ltN (by omega) (by omega)).mpr q) | omega) hm, (wlEnd hwl (by first | exact Nat.le_of_not_lt fun q => hc14 ((ltN (by omega) (by omega)).mpr q) | omega) hm) ▸ V_a2⟩⟩)
theorem ef_rm_cpb (m : MethodId) (x0 : Addr) (x1 : Int32) (x2 : Int32)  : entryFrame m #[(.ref x0), (.int x1), (.int x2)] 6 = mkF m 0 #[.val (.ref x0), .val (.int x1), .val (.int x2), .unset, .unset, .unset] [] := by first | (simp [entryFrame, mkF, argsToLocals, Value.category]; done) | rfl
theorem d_28_0 : decode jdk_52_method_17_code 0 = .ok (.iload_n 2, 1) := by decide +kernel
theorem d_28_1 : decode jdk_52_method_17_code 1 = .ok (.newarray .byte, 2) := by decide +kernel
theorem d_28_3 : decode jdk_52_method_17_code 3 = .ok (.astore_n 3, 1) := by decide +kernel
theorem d_28_4 : decode jdk_52_method_17_code 4 = .ok (.aload_n 0, 1) := by decide +kernel
theorem d_28_5 : decode jdk_52_method_17_code 5 = .ok (.iload_n 1, 1) := by decide +kernel
theorem d_28_6 : decode jdk_52_method_17_code 6 = .ok (.aload_n 3, 1) := by decide +kernel
theorem d_28_7 : decode jdk_52_method_17_code 7 = .ok (.iconst 0, 1) := by decide +kernel
theorem d_28_8 : decode jdk_52_method_17_code 8 = .ok (.iload_n 2, 1) := by decide +kernel
theorem d_28_9 : decode jdk_52_method_17_code 9 = .ok (.invokestatic 123, 3) := by decide +kernel
theorem pd___BI_BII_I : parseMethodDescriptor "([BI[BII)I" = some ⟨[(.array .byte), .int, (.array .byte), .int, .int], some .int⟩ := by decide +kernel
theorem d_28_12 : decode jdk_52_method_17_code 12 = .ok (.istore 4, 2) := by decide +kernel
theorem d_28_14 : decode jdk_52_method_17_code 14 = .ok (.iload 4, 2) := by decide +kernel
theorem d_28_16 : decode jdk_52_method_17_code 16 = .ok (.iload_n 2, 1) := by decide +kernel
theorem d_28_17 : decode jdk_52_method_17_code 17 = .ok (.if_icmp .eq 47, 3) := by decide +kernel
theorem d_28_64 : decode jdk_52_method_17_code 64 = .ok (.aload_n 3, 1) := by decide +kernel
theorem d_28_65 : decode jdk_52_method_17_code 65 = .ok (.areturn, 1) := by decide +kernel
theorem d_28_20 : decode jdk_52_method_17_code 20 = .ok (.aload_n 0, 1) := by decide +kernel
theorem d_28_21 : decode jdk_52_method_17_code 21 = .ok (.iload_n 1, 1) := by decide +kernel
theorem d_28_22 : decode jdk_52_method_17_code 22 = .ok (.iconst 1, 1) := by decide +kernel
theorem d_28_23 : decode jdk_52_method_17_code 23 = .ok (.ishl, 1) := by decide +kernel
theorem d_28_24 : decode jdk_52_method_17_code 24 = .ok (.iload_n 1, 1) := by decide +kernel
theorem d_28_25 : decode jdk_52_method_17_code 25 = .ok (.iload_n 2, 1) := by decide +kernel
theorem d_28_26 : decode jdk_52_method_17_code 26 = .ok (.iadd, 1) := by decide +kernel
theorem d_28_27 : decode jdk_52_method_17_code 27 = .ok (.invokestatic 11, 3) := by decide +kernel
theorem d_28_30 : decode jdk_52_method_17_code 30 = .ok (.invokestatic 126, 3) := by decide +kernel
theorem d_28_33 : decode jdk_52_method_17_code 33 = .ok (.astore 5, 2) := by decide +kernel
theorem d_28_35 : decode jdk_52_method_17_code 35 = .ok (.aload 5, 2) := by decide +kernel
theorem d_28_37 : decode jdk_52_method_17_code 37 = .ok (.iload 4, 2) := by decide +kernel
theorem d_28_39 : decode jdk_52_method_17_code 39 = .ok (.invokestatic 71, 3) := by decide +kernel
theorem d_28_42 : decode jdk_52_method_17_code 42 = .ok (.sipush 255, 3) := by decide +kernel
theorem d_28_45 : decode jdk_52_method_17_code 45 = .ok (.if_icmp .gt 16, 3) := by decide +kernel
theorem d_28_61 : decode jdk_52_method_17_code 61 = .ok (.aload 5, 2) := by decide +kernel
theorem d_28_63 : decode jdk_52_method_17_code 63 = .ok (.areturn, 1) := by decide +kernel
set_option maxRecDepth 65536 in
set_option maxHeartbeats 40000000 in
theorem rm_cpb (l : Launch) (Z : State) (a0 : Array Value) (hw : ∀ d ∈ tables_1, d.before a0 Z = true) (a1 : Addr) (ka : ClassId) (cs : List Int32) (mm : Nat) (fm : Value) (h0 : Heap) (V_a1 : Arv Z h0 a1 ka .byte (Int32.ofNat (2 * cs.length)) (StrChars.Road.wideBytes cs) (.int (0 : Int32))) (hle8 : cs.length ≤ 8) (hp1 : 1 ≤ cs.length) (hbr : ∀ c ∈ cs, ¬ c < 0 ∧ ¬ (65535 : Int32) < c) (hm : mm < cs.length) (h0m : 0 < mm) (Z_ad : Sta Z h0 "java/lang/StringUTF16" "$assertionsDisabled" "Z" (.int (1 : Int32))) (Z_hs : Sta Z h0 "java/lang/StringUTF16" "HI_BYTE_SHIFT" "I" (.int (0 : Int32))) (Z_ls : Sta Z h0 "java/lang/StringUTF16" "LO_BYTE_SHIFT" "I" (.int (8 : Int32))) (Z_fm : Sta Z h0 "jdk/internal/util/Preconditions" "SIOOBE_FORMATTER" "Ljava/util/function/BiFunction;" fm) (hfm : fm.isRef = true) :
    MeetsW l Z (⟨"java/lang/StringUTF16", "compress", "([BII)[B"⟩ : MethodName) jdk_52_method_17_code 6 (some (.array .byte)) ({ frames := 4, cells := 2, slots := 24, locals := 70 } : Room) #[(.ref a1), (.int (0 : Int32)), (.int (Int32.ofNat mm))] h0 (fun v h L => Mv h0 h [] L ∧ ∃ (b : Addr) (k : ClassId), v = some (.ref b) ∧ h0.size ≤ b ∧ (((∀ c ∈ (List.take mm cs), ¬ (255 : Int32) < c) ∧ Arv Z h b k .byte (Int32.ofNat mm) ((List.take mm cs).map fun c => Value.int (StrChars.lo8 c)) (.int (0 : Int32))) ∨ ((∃ c ∈ (List.take mm cs), (255 : Int32) < c) ∧ Arv Z h b k .byte (Int32.ofNat (2 * mm)) (StrChars.Road.wideBytes (List.take mm cs)) (.int (0 : Int32))))) := by
  refine MeetsW.of (plainFor_of_name pn_java_lang_StringUTF16) ?_
  intro p e s m below meth c s₁ P hx hby hml hZ hown hnm hret hlk X0 e0 K
  have M0 : Mv h0 h0 [] [] := Mv.refl _ _
  refine Go.cast (ef_rm_cpb m a1 (0 : Int32) (Int32.ofNat mm) ) ?_
  have hl : cs.length ≤ 4000 := by omega
  refine Go.of (T' := s₁) (f' := (mkF m 1 #[sR a1, sI 0, sI (Int32.ofNat mm), .unset, .unset, .unset] [(.int (Int32.ofNat mm))])) (fun _ k => XS.iloadN X0.here hx rfl (hb hby d_28_0) rfl k) ?_
  obtain ⟨T1, h1, k1, X1, e1, E1, A1, st1⟩ := newP X0 hx hZ (hw _ (List.mem_of_getElem? (i := 26) rfl)) e0 (g := (mkF m 1 #[sR a1, sI 0, sI (Int32.ofNat mm), .unset, .unset, .unset] [(.int (Int32.ofNat mm))])) rfl (hb hby d_28_1) rfl (nneg (by omega)) (cap := 8) (by rw [nat32 (by omega)]; omega) (by decide) (by decide) (by decide)
  obtain ⟨b1, g1⟩ : ∃ z, z = h0.size := ⟨_, rfl⟩
  rw [← g1] at A1 st1
  have ne_a1_b1 : a1 ≠ b1 := Nat.ne_of_lt (Nat.lt_of_lt_of_le V_a1.lt (Nat.le_of_eq g1.symm))
  have fr_b1 : h0.size ≤ b1 := Nat.le_trans M0.le (Nat.le_of_eq g1.symm)
  have K1 := keepE E1
  have M1 := M0.ext E1
  replace V_a1 := V_a1.keep K1 nin0
  replace Z_ad := StaKeep Z_ad K1 all0
  replace Z_hs := StaKeep Z_hs K1 all0
  replace Z_ls := StaKeep Z_ls K1 all0
  replace Z_fm := StaKeep Z_fm K1 all0
  have V_b1 : Arv Z h1 b1 k1 .byte (Int32.ofNat mm) [] (.int (0 : Int32)) := Arv.new A1 (nneg (by omega))
  refine Go.of (T' := T1) (f' := (mkF m 3 #[sR a1, sI 0, sI (Int32.ofNat mm), .unset, .unset, .unset] [(.ref b1)])) st1 ?_
  refine Go.of (T' := T1) (f' := (mkF m 4 #[sR a1, sI 0, sI (Int32.ofNat mm), sR b1, .unset, .unset] [])) (fun _ k => XS.astoreN X1.here hx rfl (hb hby d_28_3) rfl rfl (l' := #[sR a1, sI 0, sI (Int32.ofNat mm), sR b1, .unset, .unset]) rfl k) ?_
  refine Go.of (T' := T1) (f' := (mkF m 5 #[sR a1, sI 0, sI (Int32.ofNat mm), sR b1, .unset, .unset] [(.ref a1)])) (fun _ k => XS.aloadN X1.here hx rfl (hb hby d_28_4) rfl rfl k) ?_
  refine Go.of (T' := T1) (f' := (mkF m 6 #[sR a1, sI 0, sI (Int32.ofNat mm), sR b1, .unset, .unset] [(.int (0 : Int32)), (.ref a1)])) (fun _ k => XS.iloadN X1.here hx rfl (hb hby d_28_5) rfl k) ?_
  refine Go.of (T' := T1) (f' := (mkF m 7 #[sR a1, sI 0, sI (Int32.ofNat mm), sR b1, .unset, .unset] [(.ref b1), (.int (0 : Int32)), (.ref a1)])) (fun _ k => XS.aloadN X1.here hx rfl (hb hby d_28_6) rfl rfl k) ?_
  refine Go.of (T' := T1) (f' := (mkF m 8 #[sR a1, sI 0, sI (Int32.ofNat mm), sR b1, .unset, .unset] [(.int (0 : Int32)), (.ref b1), (.int (0 : Int32)), (.ref a1)])) (fun _ k => XS.iconst X1.here hx rfl (hb hby d_28_7) k) ?_
  refine Go.of (T' := T1) (f' := (mkF m 9 #[sR a1, sI 0, sI (Int32.ofNat mm), sR b1, .unset, .unset] [(.int (Int32.ofNat mm)), (.int (0 : Int32)), (.ref b1), (.int (0 : Int32)), (.ref a1)])) (fun _ k => XS.iloadN X1.here hx rfl (hb hby d_28_8) rfl k) ?_
  refine goS X1 hx hZ hown (hw _ (List.mem_of_getElem? (i := 185) rfl)) (hw _ (List.mem_of_getElem? (i := 186) rfl)) (hw _ (List.mem_of_getElem? (i := 24) rfl)) (hw _ (List.mem_of_getElem? (i := 187) rfl)) (by decide) (C := 0) (S := 0) ((rm_cib l Z a0 hw a1 b1 ka k1 cs mm _ fm h1 V_a1 hle8 hp1 hbr (by omega) (V_b1.pad (pad_rep [] _ mm)) (by simp) ne_a1_b1 Z_ad Z_hs Z_ls Z_fm hfm).bk (W := 0) hZ (hw _ (List.mem_of_getElem? (i := 187) rfl)) (hw _ (List.mem_of_getElem? (i := 24) rfl)) (by decide) (by decide)) e1 (argsL := [(.ref a1), (.int (0 : Int32)), (.ref b1), (.int (0 : Int32)), (.int (Int32.ofNat mm))]) (rest := []) (by rw [hml]; rfl) (lenOf pd___BI_BII_I rfl) rfl rfl (hb hby d_28_9) (Nat.le_of_eq rfl) (by decide) (by decide) ?_
  intro v2 T2 L2 X2 hQ2
  obtain ⟨h2, e2⟩ : ∃ z, T2.heap = z := ⟨_, rfl⟩
  rw [e2] at hQ2
  have V_b1_o := V_b1
  obtain ⟨Mc2, hQ2⟩ := hQ2
  have M2 := M1.app Mc2 (allS (Or.inr fr_b1) all0)
  replace V_a1 := V_a1.keep Mc2.1 (ninS ne_a1_b1 nin0)
  replace Z_ad := StaKeep Z_ad Mc2.1 (allS (staArv V_b1_o) all0)
  replace Z_hs := StaKeep Z_hs Mc2.1 (allS (staArv V_b1_o) all0)
  replace Z_ls := StaKeep Z_ls Mc2.1 (allS (staArv V_b1_o) all0)
  replace Z_fm := StaKeep Z_fm Mc2.1 (allS (staArv V_b1_o) all0)
  rcases hQ2 with ⟨rfl, hlat, Vc2⟩ | ⟨kk, hkk, hgt, rfl⟩
  ·
    replace V_b1 := Vc2
    show Go p e below P T2 (mkF m 12 #[sR a1, sI 0, sI (Int32.ofNat mm), sR b1, .unset, .unset] [(.int (Int32.ofNat mm))])
    refine Go.of (T' := T2) (f' := (mkF m 14 #[sR a1, sI 0, sI (Int32.ofNat mm), sR b1, sI (Int32.ofNat mm), .unset] [])) (fun _ k => XS.istore X2.here hx rfl (hb hby d_28_12) rfl (l' := #[sR a1, sI 0, sI (Int32.ofNat mm), sR b1, sI (Int32.ofNat mm), .unset]) rfl k) ?_
    refine Go.of (T' := T2) (f' := (mkF m 16 #[sR a1, sI 0, sI (Int32.ofNat mm), sR b1, sI (Int32.ofNat mm), .unset] [(.int (Int32.ofNat mm))])) (fun _ k => XS.iload X2.here hx rfl (hb hby d_28_14) rfl k) ?_
    refine Go.of (T' := T2) (f' := (mkF m 17 #[sR a1, sI 0, sI (Int32.ofNat mm), sR b1, sI (Int32.ofNat mm), .unset] [(.int (Int32.ofNat mm)), (.int (Int32.ofNat mm))])) (fun _ k => XS.iloadN X2.here hx rfl (hb hby d_28_16) rfl k) ?_
    refine Go.of (T' := T2) (f' := (mkF m 64 #[sR a1, sI 0, sI (Int32.ofNat mm), sR b1, sI (Int32.ofNat mm), .unset] [])) (fun _ k => XS.icmpYes X2.here hx rfl (pc0 := 17) (pc' := 64) rfl (hb hby d_28_17) rfl ((teq (rfl : (Int32.ofNat mm) = (Int32.ofNat mm))).1) (by decide) (by decide) k) ?_
    refine Go.of (T' := T2) (f' := (mkF m 65 #[sR a1, sI 0, sI (Int32.ofNat mm), sR b1, sI (Int32.ofNat mm), .unset] [(.ref b1)])) (fun _ k => XS.aloadN X2.here hx rfl (hb hby d_28_64) rfl rfl k) ?_
    exact goRetR (Q := fun v h L => Mv h0 h [] L ∧ ∃ (b : Addr) (k : ClassId), v = some (.ref b) ∧ h0.size ≤ b ∧ (((∀ c ∈ (List.take mm cs), ¬ (255 : Int32) < c) ∧ Arv Z h b k .byte (Int32.ofNat mm) ((List.take mm cs).map fun c => Value.int (StrChars.lo8 c)) (.int (0 : Int32))) ∨ ((∃ c ∈ (List.take mm cs), (255 : Int32) < c) ∧ Arv Z h b k .byte (Int32.ofNat (2 * mm)) (StrChars.Road.wideBytes (List.take mm cs)) (.int (0 : Int32))))) X2 hx hret rfl hlk rfl rfl (hb hby d_28_65) K (by decide) (by decide) e2 (⟨M2, b1, _, rfl, fr_b1, Or.inl ⟨hlat, V_b1⟩⟩)
  ·
    show Go p e below P T2 (mkF m 12 #[sR a1, sI 0, sI (Int32.ofNat mm), sR b1, .unset, .unset] [(.int (Int32.ofNat kk))])
    refine Go.of (T' := T2) (f' := (mkF m 14 #[sR a1, sI 0, sI (Int32.ofNat mm), sR b1, sI (Int32.ofNat kk), .unset] [])) (fun _ k => XS.istore X2.here hx rfl (hb hby d_28_12) rfl (l' := #[sR a1, sI 0, sI (Int32.ofNat mm), sR b1, sI (Int32.ofNat kk), .unset]) rfl k) ?_
    refine Go.of (T' := T2) (f' := (mkF m 16 #[sR a1, sI 0, sI (Int32.ofNat mm), sR b1, sI (Int32.ofNat kk), .unset] [(.int (Int32.ofNat kk))])) (fun _ k => XS.iload X2.here hx rfl (hb hby d_28_14) rfl k) ?_
    refine Go.of (T' := T2) (f' := (mkF m 17 #[sR a1, sI 0, sI (Int32.ofNat mm), sR b1, sI (Int32.ofNat kk), .unset] [(.int (Int32.ofNat mm)), (.int (Int32.ofNat kk))])) (fun _ k => XS.iloadN X2.here hx rfl (hb hby d_28_16) rfl k) ?_
    have hc17 : ¬ ((Int32.ofNat kk) = (Int32.ofNat mm)) := neN (by omega) (by omega) (by omega)
    refine Go.of (T' := T2) (f' := (mkF m 20 #[sR a1, sI 0, sI (Int32.ofNat mm), sR b1, sI (Int32.ofNat kk), .unset] [])) (fun _ k => XS.icmpNo X2.here hx rfl (hb hby d_28_17) rfl (feq hc17).1 k) ?_
    refine Go.of (T' := T2) (f' := (mkF m 21 #[sR a1, sI 0, sI (Int32.ofNat mm), sR b1, sI (Int32.ofNat kk), .unset] [(.ref a1)])) (fun _ k => XS.aloadN X2.here hx rfl (hb hby d_28_20) rfl rfl k) ?_
    refine Go.of (T' := T2) (f' := (mkF m 22 #[sR a1, sI 0, sI (Int32.ofNat mm), sR b1, sI (Int32.ofNat kk), .unset] [(.int (0 : Int32)), (.ref a1)])) (fun _ k => XS.iloadN X2.here hx rfl (hb hby d_28_21) rfl k) ?_
    refine Go.of (T' := T2) (f' := (mkF m 23 #[sR a1, sI 0, sI (Int32.ofNat mm), sR b1, sI (Int32.ofNat kk), .unset] [(.int (1 : Int32)), (.int (0 : Int32)), (.ref a1)])) (fun _ k => XS.iconst X2.here hx rfl (hb hby d_28_22) k) ?_
    refine Go.of (T' := T2) (f' := (mkF m 24 #[sR a1, sI 0, sI (Int32.ofNat mm), sR b1, sI (Int32.ofNat kk), .unset] [(.int ((0 : Int32) <<< ((1 : Int32) &&& 31))), (.ref a1)])) (fun _ k => XS.ishl X2.here hx rfl (hb hby d_28_23) rfl k) ?_
    rw [show ((0 : Int32) <<< ((1 : Int32) &&& 31)) = (0 : Int32) from by decide]
    show Go p e below P T2 (mkF m 24 #[sR a1, sI 0, sI (Int32.ofNat mm), sR b1, sI (Int32.ofNat kk), .unset] [(.int (0 : Int32)), (.ref a1)])
    refine Go.of (T' := T2) (f' := (mkF m 25 #[sR a1, sI 0, sI (Int32.ofNat mm), sR b1, sI (Int32.ofNat kk), .unset] [(.int (0 : Int32)), (.int (0 : Int32)), (.ref a1)])) (fun _ k => XS.iloadN X2.here hx rfl (hb hby d_28_24) rfl k) ?_
    refine Go.of (T' := T2) (f' := (mkF m 26 #[sR a1, sI 0, sI (Int32.ofNat mm), sR b1, sI (Int32.ofNat kk), .unset] [(.int (Int32.ofNat mm)), (.int (0 : Int32)), (.int (0 : Int32)), (.ref a1)])) (fun _ k => XS.iloadN X2.here hx rfl (hb hby d_28_25) rfl k) ?_
    refine Go.of (T' := T2) (f' := (mkF m 27 #[sR a1, sI 0, sI (Int32.ofNat mm), sR b1, sI (Int32.ofNat kk), .unset] [(.int ((0 : Int32) + (Int32.ofNat mm))), (.int (0 : Int32)), (.ref a1)])) (fun _ k => XS.iadd X2.here hx rfl (hb hby d_28_26) rfl k) ?_
    rw [Int32.zero_add]
    show Go p e below P T2 (mkF m 27 #[sR a1, sI 0, sI (Int32.ofNat mm), sR b1, sI (Int32.ofNat kk), .unset] [(.int (Int32.ofNat mm)), (.int (0 : Int32)), (.ref a1)])
    refine goS X2 hx hZ hown (hw _ (List.mem_of_getElem? (i := 145) rfl)) (hw _ (List.mem_of_getElem? (i := 146) rfl)) (hw _ (List.mem_of_getElem? (i := 24) rfl)) (hw _ (List.mem_of_getElem? (i := 147) rfl)) (by decide) (C := 0) (S := 0) ((rm_nbl l Z a0 hw mm h2 (by omega)).bk (W := 2) hZ (hw _ (List.mem_of_getElem? (i := 147) rfl)) (hw _ (List.mem_of_getElem? (i := 24) rfl)) (by decide) (by decide)) e2 (argsL := [(.int (Int32.ofNat mm))]) (rest := [(.int (0 : Int32)), (.ref a1)]) (by rw [hml]; rfl) (lenOf pd__I_I rfl) rfl rfl (hb hby d_28_27) (Nat.le_of_eq rfl) (by decide) (by decide) ?_
    intro v3 T3 L3 X3 hQ3
    obtain ⟨nq3, e3, rfl⟩ := hQ3
    replace X3 := standNil X3 nq3
    show Go p e below P T3 (mkF m 30 #[sR a1, sI 0, sI (Int32.ofNat mm), sR b1, sI (Int32.ofNat kk), .unset] [(.int (Int32.ofNat (2 * mm))), (.int (0 : Int32)), (.ref a1)])
    refine goS X3 hx hZ hown (hw _ (List.mem_of_getElem? (i := 191) rfl)) (hw _ (List.mem_of_getElem? (i := 118) rfl)) (hw _ (List.mem_of_getElem? (i := 119) rfl)) (hw _ (List.mem_of_getElem? (i := 120) rfl)) (by decide) (C := 1) (S := 16) ((rm_cor l Z a0 hw a1 ka ((2 * cs.length)) ((2 * mm)) (StrChars.Road.wideBytes cs) h2 V_a1 (by omega) (by omega) (wbLen _)).bk (W := 0) hZ (hw _ (List.mem_of_getElem? (i := 120) rfl)) (hw _ (List.mem_of_getElem? (i := 119) rfl)) (by decide) (by decide)) e3 (argsL := [(.ref a1), (.int (0 : Int32)), (.int (Int32.ofNat (2 * mm)))]) (rest := []) (by rw [hml]; rfl) (lenOf pd___BII__B rfl) rfl rfl (hb hby d_28_30) (Nat.le_of_eq rfl) (by decide) (by decide) ?_
    intro v4 T4 L4 X4 hQ4
    obtain ⟨h4, e4⟩ : ∃ z, T4.heap = z := ⟨_, rfl⟩
    rw [e4] at hQ4
    obtain ⟨Mc4, b4, k4, rfl, le4, V_b4⟩ := hQ4
    have ne_a1_b4 : a1 ≠ b4 := Nat.ne_of_lt (Nat.lt_of_lt_of_le V_a1.lt le4)
    have fr_b4 : h0.size ≤ b4 := Nat.le_trans M2.le le4
    have M4 := M2.app0 Mc4
    replace V_a1 := V_a1.keep Mc4.1 nin0
    replace Z_ad := StaKeep Z_ad Mc4.1 all0
    replace Z_hs := StaKeep Z_hs Mc4.1 all0
    replace Z_ls := StaKeep Z_ls Mc4.1 all0
    replace Z_fm := StaKeep Z_fm Mc4.1 all0
    show Go p e below P T4 (mkF m 33 #[sR a1, sI 0, sI (Int32.ofNat mm), sR b1, sI (Int32.ofNat kk), .unset] [(.ref b4)])
    rw [wbTake] at V_b4
    refine Go.of (T' := T4) (f' := (mkF m 35 #[sR a1, sI 0, sI (Int32.ofNat mm), sR b1, sI (Int32.ofNat kk), sR b4] [])) (fun _ k => XS.astore X4.here hx rfl (hb hby d_28_33) rfl rfl (l' := #[sR a1, sI 0, sI (Int32.ofNat mm), sR b1, sI (Int32.ofNat kk), sR b4]) rfl k) ?_
    refine Go.of (T' := T4) (f' := (mkF m 37 #[sR a1, sI 0, sI (Int32.ofNat mm), sR b1, sI (Int32.ofNat kk), sR b4] [(.ref b4)])) (fun _ k => XS.aload X4.here hx rfl (hb hby d_28_35) rfl rfl k) ?_
    refine Go.of (T' := T4) (f' := (mkF m 39 #[sR a1, sI 0, sI (Int32.ofNat mm), sR b1, sI (Int32.ofNat kk), sR b4] [(.int (Int32.ofNat kk)), (.ref b4)])) (fun _ k => XS.iload X4.here hx rfl (hb hby d_28_37) rfl k) ?_
    refine goS X4 hx hZ hown (hw _ (List.mem_of_getElem? (i := 155) rfl)) (hw _ (List.mem_of_getElem? (i := 156) rfl)) (hw _ (List.mem_of_getElem? (i := 24) rfl)) (hw _ (List.mem_of_getElem? (i := 157) rfl)) (by decide) (C := 0) (S := 0) ((rm_getChar l Z a0 hw b4 k4 (List.take mm cs) kk h4 (by rw [ltk (by omega)]; exact V_b4) (by rw [ltk (by omega)]; omega) (by rw [ltk (by omega)]; omega) (mtk hbr) Z_ad Z_hs Z_ls).bk (W := 0) hZ (hw _ (List.mem_of_getElem? (i := 157) rfl)) (hw _ (List.mem_of_getElem? (i := 24) rfl)) (by decide) (by decide)) e4 (argsL := [(.ref b4), (.int (Int32.ofNat kk))]) (rest := []) (by rw [hml]; rfl) (lenOf pd___BI_C rfl) rfl rfl (hb hby d_28_39) (Nat.le_of_eq rfl) (by decide) (by decide) ?_
    intro v5 T5 L5 X5 hQ5
    obtain ⟨nq5, e5, rfl⟩ := hQ5
    replace X5 := standNil X5 nq5
    show Go p e below P T5 (mkF m 42 #[sR a1, sI 0, sI (Int32.ofNat mm), sR b1, sI (Int32.ofNat kk), sR b4] [(.int ((List.take mm cs).getD kk 0))])
    refine Go.of (T' := T5) (f' := (mkF m 45 #[sR a1, sI 0, sI (Int32.ofNat mm), sR b1, sI (Int32.ofNat kk), sR b4] [(.int (255 : Int32)), (.int ((List.take mm cs).getD kk 0))])) (fun _ k => XS.sipush X5.here hx rfl (hb hby d_28_42) k) ?_
    have hc45 : (255 : Int32) < ((List.take mm cs).getD kk 0) := by rw [gtk hkk]; exact hgt
    refine Go.of (T' := T5) (f' := (mkF m 61 #[sR a1, sI 0, sI (Int32.ofNat mm), sR b1, sI (Int32.ofNat kk), sR b4] [])) (fun _ k => XS.icmpYes X5.here hx rfl (pc0 := 45) (pc' := 61) rfl (hb hby d_28_45) rfl (tlt hc45).2.2.1 (by decide) (by decide) k) ?_
    refine Go.of (T' := T5) (f' := (mkF m 63 #[sR a1, sI 0, sI (Int32.ofNat mm), sR b1, sI (Int32.ofNat kk), sR b4] [(.ref b4)])) (fun _ k => XS.aload X5.here hx rfl (hb hby d_28_61) rfl rfl k) ?_
    exact goRetR (Q := fun v h L => Mv h0 h [] L ∧ ∃ (b : Addr) (k : ClassId), v = some (.ref b) ∧ h0.size ≤ b ∧ (((∀ c ∈ (List.take mm cs), ¬ (255 : Int32) < c) ∧ Arv Z h b k .byte (Int32.ofNat mm) ((List.take mm cs).map fun c => Value.int (StrChars.lo8 c)) (.int (0 : Int32))) ∨ ((∃ c ∈ (List.take mm cs), (255 : Int32) < c) ∧ Arv Z h b k .byte (Int32.ofNat (2 * mm)) (StrChars.Road.wideBytes (List.take mm cs)) (.int (0 : Int32))))) X5 hx hret rfl hlk rfl rfl (hb hby d_28_63) K (by decide) (by decide) e5 (⟨M4, b4, _, rfl, fr_b4, Or.inr ⟨⟨_, List.getElem_mem (l := (List.take mm cs)) (n := kk) (by rw [ltk (by omega)]; omega), by rw [← getDe, gtk hkk]; exact hgt⟩, V_b4⟩⟩)
theorem ef_rm_cfa0 (m : MethodId) (x0 : Addr) (x1 : Int32)  : entryFrame m #[(.ref x0), (.int x1)] 2 = mkF m 0 #[.val (.ref x0), .val (.int x1)] [] := by first | (simp [entryFrame, mkF, argsToLocals, Value.category]; done) | rfl
set_option maxRecDepth 65536 in
set_option maxHeartbeats 40000000 in
theorem rm_cfa0 (l : Launch) (Z : State) (a0 : Array Value) (hw : ∀ d ∈ tables_1, d.before a0 Z = true) (a1 : Addr) (ka : ClassId) (n : Nat) (vs : List Value) (h0 : Heap) (V_a1 : Arv Z h0 a1 ka .byte (Int32.ofNat n) vs (.int (0 : Int32))) :
    MeetsW l Z (⟨"java/lang/StringUTF16", "coderFromArrayLen", "([BI)B"⟩ : MethodName) jdk_52_method_15_code 2 (some .byte) ({ frames := 0, cells := 0, slots := 0, locals := 0 } : Room) #[(.ref a1), (.int (Int32.ofNat n))] h0 (Pu h0 (fun v => v = some (.int 0))) := by
  refine MeetsW.of (plainFor_of_name pn_java_lang_StringUTF16) ?_
  intro p e s m below meth c s₁ P hx hby hml hZ hown hnm hret hlk X0 e0 K
  have M0 : Mv h0 h0 [] [] := Mv.refl _ _
  refine Go.cast (ef_rm_cfa0 m a1 (Int32.ofNat n) ) ?_
  refine Go.of (T' := s₁) (f' := (mkF m 1 #[sR a1, sI (Int32.ofNat n)] [(.int (Int32.ofNat n))])) (fun _ k => XS.iloadN X0.here hx rfl (hb hby d_9_0) rfl k) ?_
  refine Go.of (T' := s₁) (f' := (mkF m 2 #[sR a1, sI (Int32.ofNat n)] [(.ref a1), (.int (Int32.ofNat n))])) (fun _ k => XS.aloadN X0.here hx rfl (hb hby d_9_1) rfl rfl k) ?_
  obtain ⟨cl1, Ar1, -, Sz1, Nn1, -, -⟩ := id V_a1
  refine Go.of (T' := s₁) (f' := (mkF m 3 #[sR a1, sI (Int32.ofNat n)] [(.int (Int32.ofNat n)), (.int (Int32.ofNat n))])) (fun _ k => X0.arraylength hx (by rw [e0]; exact Ar1.1) (State.isArrayOf_alike hZ.alike Ar1.2.1) (g := (mkF m 2 #[sR a1, sI (Int32.ofNat n)] [(.ref a1), (.int (Int32.ofNat n))])) rfl rfl (hb hby d_9_2) _ (by rw [len_of Sz1 Nn1]; exact k)) ?_
  refine Go.of (T' := s₁) (f' := (mkF m 4 #[sR a1, sI (Int32.ofNat n)] [(.int ((Int32.ofNat n) - (Int32.ofNat n)))])) (fun _ k => XS.isub X0.here hx rfl (hb hby d_9_3) rfl k) ?_
  refine Go.of (T' := s₁) (f' := (mkF m 6 #[sR a1, sI (Int32.ofNat n)] [(.int (31 : Int32)), (.int ((Int32.ofNat n) - (Int32.ofNat n)))])) (fun _ k => XS.bipush X0.here hx rfl (hb hby d_9_4) k) ?_
  refine Go.of (T' := s₁) (f' := (mkF m 7 #[sR a1, sI (Int32.ofNat n)] [(.int ((((Int32.ofNat n) - (Int32.ofNat n)).toUInt32 >>> ((31 : Int32) &&& 31).toUInt32).toInt32))])) (fun _ k => XS.iushr X0.here hx rfl (hb hby d_9_6) rfl k) ?_
  refine Go.of (T' := s₁) (f' := (mkF m 8 #[sR a1, sI (Int32.ofNat n)] [(.int (((((Int32.ofNat n) - (Int32.ofNat n)).toUInt32 >>> ((31 : Int32) &&& 31).toUInt32).toInt32).toInt8.toInt32))])) (fun _ k => XS.i2b X0.here hx rfl (hb hby d_9_7) rfl k) ?_
  exact goRetI (Q := Pu h0 (fun v => v = some (.int 0))) X0 hx (t := .byte) hret hlk (by rw [cfa0]; rfl) (by simp) (hb hby d_9_8) K (by decide) (by decide) e0 (⟨rfl, rfl, congrArg (fun z => some (Value.int z)) (cfa0 n)⟩)
theorem ef_rm_nwL (m : MethodId) (x0 : Addr) (x1 : Int32) (x2 : Int32)  : entryFrame m #[(.ref x0), (.int x1), (.int x2)] 3 = mkF m 0 #[.val (.ref x0), .val (.int x1), .val (.int x2)] [] := by first | (simp [entryFrame, mkF, argsToLocals, Value.category]; done) | rfl
theorem d_29_0 : decode jdk_43_method_47_code 0 = .ok (.iload_n 2, 1) := by decide +kernel
theorem d_29_1 : decode jdk_43_method_47_code 1 = .ok (.ifCond .ne 6, 3) := by decide +kernel
theorem d_29_4 : decode jdk_43_method_47_code 4 = .ok (.ldc 151, 2) := by decide +kernel
theorem d_29_6 : decode jdk_43_method_47_code 6 = .ok (.areturn, 1) := by decide +kernel
theorem d_29_7 : decode jdk_43_method_47_code 7 = .ok (.new 1, 3) := by decide +kernel
theorem d_29_10 : decode jdk_43_method_47_code 10 = .ok (.dup, 1) := by decide +kernel
theorem d_29_11 : decode jdk_43_method_47_code 11 = .ok (.aload_n 0, 1) := by decide +kernel
theorem d_29_12 : decode jdk_43_method_47_code 12 = .ok (.iload_n 1, 1) := by decide +kernel
theorem d_29_13 : decode jdk_43_method_47_code 13 = .ok (.iload_n 1, 1) := by decide +kernel
theorem d_29_14 : decode jdk_43_method_47_code 14 = .ok (.iload_n 2, 1) := by decide +kernel
theorem d_29_15 : decode jdk_43_method_47_code 15 = .ok (.iadd, 1) := by decide +kernel
theorem d_29_16 : decode jdk_43_method_47_code 16 = .ok (.invokestatic 232, 3) := by decide +kernel
theorem d_29_19 : decode jdk_43_method_47_code 19 = .ok (.iconst 0, 1) := by decide +kernel
theorem d_29_20 : decode jdk_43_method_47_code 20 = .ok (.invokespecial 112, 3) := by decide +kernel
theorem pd___BB_V : parseMethodDescriptor "([BB)V" = some ⟨[(.array .byte), .byte], none⟩ := by decide +kernel
theorem d_29_23 : decode jdk_43_method_47_code 23 = .ok (.areturn, 1) := by decide +kernel
set_option maxRecDepth 65536 in
set_option maxHeartbeats 40000000 in
theorem rm_nwL (l : Launch) (Z : State) (a0 : Array Value) (hw : ∀ d ∈ tables_1, d.before a0 Z = true) (a1 : Addr) (ka : ClassId) (cs : List Int32) (mm : Nat) (h0 : Heap) (V_a1 : Arv Z h0 a1 ka .byte (Int32.ofNat cs.length) (cs.map fun c => Value.int (StrChars.lo8 c)) (.int (0 : Int32))) (hle8 : cs.length ≤ 8) (hbr : ∀ c ∈ cs, ¬ c < 0 ∧ ¬ (65535 : Int32) < c) (hla : ∀ c ∈ cs, ¬ (255 : Int32) < c) (hm : mm < cs.length) :
    MeetsH l Z consts_1 (⟨"java/lang/StringLatin1", "newString", "([BII)Ljava/lang/String;"⟩ : MethodName) jdk_43_method_47_code 3 (some (.object "java/lang/String")) ({ frames := 3, cells := 2, slots := 20, locals := 72 } : Room) #[(.ref a1), (.int (0 : Int32)), (.int (Int32.ofNat mm))] h0 (fun v h L => Mv h0 h [] L ∧ ∃ a t : Addr, v = some (.ref a) ∧ Str Z h a t (List.take mm cs)) := by
  refine MeetsH.of (plainFor_of_name pn_java_lang_StringLatin1) ?_
  intro p e s m below meth c s₁ P hx hby hml hZ hown hnm hret hlk X0 e0 hS RH K
  have hk : h0.size ≤ h0.size := Nat.le_refl _
  replace hZ : Z.Warmed39 (s.setVm s.vm).vm := hZ
  replace hown : (s.setVm s.vm).vm.findClass "java/lang/StringLatin1" = some m.cls := hown
  have M0 : Mv h0 h0 [] [] := Mv.refl _ _
  refine Go.cast (ef_rm_nwL m a1 (0 : Int32) (Int32.ofNat mm) ) ?_
  refine Go.of (T' := s₁) (f' := (mkF m 1 #[sR a1, sI 0, sI (Int32.ofNat mm)] [(.int (Int32.ofNat mm))])) (fun _ k => XS.iloadN X0.here hx rfl (hb hby d_29_0) rfl k) ?_
  by_cases hc1 : (Int32.ofNat mm) = (0 : Int32)
  ·
    refine Go.of (T' := s₁) (f' := (mkF m 4 #[sR a1, sI 0, sI (Int32.ofNat mm)] [])) (fun _ k => XS.ifNo X0.here hx rfl (hb hby d_29_1) rfl ((if0 _ _).trans (teq hc1).2) k) ?_
    obtain ⟨sa1, T1, h1, k1, sb1, kb1, X1, e1, E1, hS1, hk1, hZ1, hown1, E_sa1, F_cd1, F_vl1, V_sb1, -, -, A1, -, hne1, st1⟩ := ldcCH X0 hx hZ hown (hw _ (List.mem_of_getElem? (i := 138) rfl)) (hw_sA hw) e0 hS hk (hEL_1 hw) (by decide) RH.1 (vs := []) (z := (0 : Int32)) ⟨by decide, by decide⟩ (by decide) (by decide) (g := (mkF m 4 #[sR a1, sI 0, sI (Int32.ofNat mm)] [])) rfl (hb hby d_29_4) (n := 0) (by decide) (by decide) (by decide) (by decide)
    have K1 := keepE E1
    have M1 := M0.ext E1
    clear hS hk
    replace RH := RH.trans A1
    replace V_a1 := V_a1.keep K1 nin0
    have hS := hS1
    have hk := hk1
    replace hZ := hZ1
    replace hown := hown1
    refine Go.of (T' := T1) (f' := (mkF m 6 #[sR a1, sI 0, sI (Int32.ofNat mm)] [(.ref sa1)])) st1 ?_
    exact goRetRH (Q := fun v h L => Mv h0 h [] L ∧ ∃ a t : Addr, v = some (.ref a) ∧ Str Z h a t (List.take mm cs)) X1 hx hZ hS hk (hEL_1 hw) RH hret rfl hlk rfl rfl (hb hby d_29_6) K (by decide) (by decide) e1 (⟨M1, sa1, sb1, rfl, by rw [show mm = 0 from ofk (j := 0) (by omega) (by omega) hc1, List.take_zero]; exact str0 E_sa1 F_vl1 F_cd1 V_sb1⟩)
  ·
    refine Go.of (T' := s₁) (f' := (mkF m 7 #[sR a1, sI 0, sI (Int32.ofNat mm)] [])) (fun _ k => XS.ifYes X0.here hx rfl (pc0 := 1) (pc' := 7) rfl (hb hby d_29_1) rfl ((if0 _ _).trans (feq hc1).2) (by decide) (by decide) k) ?_
    obtain ⟨T2, h2, X2, e2, E2, A2, D2, -, st2⟩ := newO X0 hx hZ hown (hw _ (List.mem_of_getElem? (i := 116) rfl)) (hw _ (List.mem_of_getElem? (i := 9) rfl)) (hw _ (List.mem_of_getElem? (i := 10) rfl)) e0 (g := (mkF m 7 #[sR a1, sI 0, sI (Int32.ofNat mm)] [])) rfl (hb hby d_29_7) (by decide) (by decide)
    obtain ⟨b2, g2⟩ : ∃ z, z = h0.size := ⟨_, rfl⟩
    rw [← g2] at A2 D2 st2
    have ne_a1_b2 : a1 ≠ b2 := Nat.ne_of_lt (Nat.lt_of_lt_of_le V_a1.lt (Nat.le_of_eq g2.symm))
    have fr_b2 : h0.size ≤ b2 := Nat.le_trans M0.le (Nat.le_of_eq g2.symm)
    have Sf_b2 := Safe.new (Z := Z) (EL := consts_1) (vm := s.vm) (Nat.le_of_eq g2.symm)
    have K2 := keepE E2
    have M2 := M0.ext E2
    replace hk := Nat.le_trans hk (K2).1
    have hs3 := CHr.keep (K2) sf0 RH.1
    replace Sf_b2 := Safe.keep (K2) sf0 RH.1 Sf_b2
    replace RH := RH.trans hs3
    replace V_a1 := V_a1.keep K2 nin0
    have E_b2 := A2
    have F_coder_b2 : Fld Z h2 b2 "java/lang/String" "coder" "B" (.int (0 : Int32)) := D2 (Or.inr (hw _ (List.mem_of_getElem? (i := 34) rfl))) (ty := .byte) (by decide)
    have F_value_b2 : Fld Z h2 b2 "java/lang/String" "value" "[B" .null := D2 (Or.inr (hw _ (List.mem_of_getElem? (i := 36) rfl))) (ty := (.array .byte)) (by decide)
    refine Go.of (T' := T2) (f' := (mkF m 10 #[sR a1, sI 0, sI (Int32.ofNat mm)] [(.ref b2)])) st2 ?_
    refine Go.of (T' := T2) (f' := (mkF m 11 #[sR a1, sI 0, sI (Int32.ofNat mm)] [(.ref b2), (.ref b2)])) (fun _ k => XS.dup X2.here hx rfl (hb hby d_29_10) rfl rfl k) ?_
    refine Go.of (T' := T2) (f' := (mkF m 12 #[sR a1, sI 0, sI (Int32.ofNat mm)] [(.ref a1), (.ref b2), (.ref b2)])) (fun _ k => XS.aloadN X2.here hx rfl (hb hby d_29_11) rfl rfl k) ?_
    refine Go.of (T' := T2) (f' := (mkF m 13 #[sR a1, sI 0, sI (Int32.ofNat mm)] [(.int (0 : Int32)), (.ref a1), (.ref b2), (.ref b2)])) (fun _ k => XS.iloadN X2.here hx rfl (hb hby d_29_12) rfl k) ?_
    refine Go.of (T' := T2) (f' := (mkF m 14 #[sR a1, sI 0, sI (Int32.ofNat mm)] [(.int (0 : Int32)), (.int (0 : Int32)), (.ref a1), (.ref b2), (.ref b2)])) (fun _ k => XS.iloadN X2.here hx rfl (hb hby d_29_13) rfl k) ?_
    refine Go.of (T' := T2) (f' := (mkF m 15 #[sR a1, sI 0, sI (Int32.ofNat mm)] [(.int (Int32.ofNat mm)), (.int (0 : Int32)), (.int (0 : Int32)), (.ref a1), (.ref b2), (.ref b2)])) (fun _ k => XS.iloadN X2.here hx rfl (hb hby d_29_14) rfl k) ?_
    refine Go.of (T' := T2) (f' := (mkF m 16 #[sR a1, sI 0, sI (Int32.ofNat mm)] [(.int ((0 : Int32) + (Int32.ofNat mm))), (.int (0 : Int32)), (.ref a1), (.ref b2), (.ref b2)])) (fun _ k => XS.iadd X2.here hx rfl (hb hby d_29_15) rfl k) ?_
    rw [Int32.zero_add]
    show Go p e below P T2 (mkF m 16 #[sR a1, sI 0, sI (Int32.ofNat mm)] [(.int (Int32.ofNat mm)), (.int (0 : Int32)), (.ref a1), (.ref b2), (.ref b2)])
    refine goS X2 hx hZ hown (hw _ (List.mem_of_getElem? (i := 117) rfl)) (hw _ (List.mem_of_getElem? (i := 118) rfl)) (hw _ (List.mem_of_getElem? (i := 119) rfl)) (hw _ (List.mem_of_getElem? (i := 120) rfl)) (by decide) (C := 1) (S := 16) ((rm_cor l Z a0 hw a1 ka (cs.length) (mm) (cs.map fun c => Value.int (StrChars.lo8 c)) h2 V_a1 (by omega) (by omega) (by simp)).bk (W := 2) hZ (hw _ (List.mem_of_getElem? (i := 120) rfl)) (hw _ (List.mem_of_getElem? (i := 119) rfl)) (by decide) (by decide)) e2 (argsL := [(.ref a1), (.int (0 : Int32)), (.int (Int32.ofNat mm))]) (rest := [(.ref b2), (.ref b2)]) (by rw [hml]; rfl) (lenOf pd___BII__B rfl) rfl rfl (hb hby d_29_16) (Nat.le_of_eq rfl) (by decide) (by decide) ?_
    intro v4 T4 L4 X4 hQ4
    obtain ⟨h4, e4⟩ : ∃ z, T4.heap = z := ⟨_, rfl⟩
    rw [e4] at hQ4
    obtain ⟨Mc4, b4, k4, rfl, le4, V_b4⟩ := hQ4
    have ne_a1_b4 : a1 ≠ b4 := Nat.ne_of_lt (Nat.lt_of_lt_of_le V_a1.lt le4)
    have ne_b2_b4 : b2 ≠ b4 := Nat.ne_of_lt (Nat.lt_of_lt_of_le E_b2.lt le4)
    have fr_b4 : h0.size ≤ b4 := Nat.le_trans M2.le le4
    have Sf_b4 := Safe.new (Z := Z) (EL := consts_1) (vm := s.vm) le4
    have M4 := M2.app0 Mc4
    replace hk := Nat.le_trans hk (Mc4.1).1
    have hs5 := CHr.keep (Mc4.1) sf0 RH.1
    replace Sf_b2 := Safe.keep (Mc4.1) sf0 RH.1 Sf_b2
    replace Sf_b4 := Safe.keep (Mc4.1) sf0 RH.1 Sf_b4
    replace RH := RH.trans hs5
    replace V_a1 := V_a1.keep Mc4.1 nin0
    replace E_b2 := E_b2.keep Mc4.1
    replace F_coder_b2 := F_coder_b2.keep Mc4.1 nin0
    replace F_value_b2 := F_value_b2.keep Mc4.1 nin0
    show Go p e below P T4 (mkF m 19 #[sR a1, sI 0, sI (Int32.ofNat mm)] [(.ref b4), (.ref b2), (.ref b2)])
    rw [← List.map_take] at V_b4
    refine Go.of (T' := T4) (f' := (mkF m 20 #[sR a1, sI 0, sI (Int32.ofNat mm)] [(.int (0 : Int32)), (.ref b4), (.ref b2), (.ref b2)])) (fun _ k => XS.iconst X4.here hx rfl (hb hby d_29_19) k) ?_
    refine goI X4 hx hZ rfl hown (hw _ (List.mem_of_getElem? (i := 135) rfl)) (hw _ (List.mem_of_getElem? (i := 136) rfl)) (hw _ (List.mem_of_getElem? (i := 137) rfl)) (by decide) (C := 0) (S := 0) ((rm_strB0 l Z a0 hw b2 b4 .null (.int (0 : Int32)) h4 E_b2 F_value_b2 F_coder_b2).bk (W := 1) hZ (hw _ (List.mem_of_getElem? (i := 137) rfl)) (hw _ (List.mem_of_getElem? (i := 10) rfl)) (by decide) (by decide)) e4 (argsL := [(.ref b4), (.int (0 : Int32))]) (rest := [(.ref b2)]) (by rw [hml]; rfl) (lenOf pd___BB_V rfl) rfl rfl (hb hby d_29_20) (Nat.le_of_eq rfl) (by decide) (by decide) ?_
    intro v6 T6 L6 X6 hQ6
    obtain ⟨h6, e6⟩ : ∃ z, T6.heap = z := ⟨_, rfl⟩
    rw [e6] at hQ6
    obtain ⟨rfl, Mc6, Ec6, Fc6, Gc6⟩ := hQ6
    have M6 := M4.app Mc6 (allS (Or.inr fr_b2) all0)
    replace hk := Nat.le_trans hk (Mc6.1).1
    have hq7 : ∀ x ∈ ([b2] : List Addr), Safe Z consts_1 s.vm h4 x := (sfS Sf_b2 sf0)
    have hs7 := CHr.keep (Mc6.1) hq7 RH.1
    replace Sf_b2 := Safe.keep (Mc6.1) hq7 RH.1 Sf_b2
    replace Sf_b4 := Safe.keep (Mc6.1) hq7 RH.1 Sf_b4
    replace RH := RH.trans hs7
    replace V_a1 := V_a1.keep Mc6.1 (ninS ne_a1_b2 nin0)
    replace V_b4 := V_b4.keep Mc6.1 (ninS (Ne.symm ne_b2_b4) nin0)
    replace E_b2 := Ec6
    have F_value_b2 := Fc6
    have F_coder_b2 := Gc6
    show Go p e below P T6 (mkF m 23 #[sR a1, sI 0, sI (Int32.ofNat mm)] [(.ref b2)])
    exact goRetRH (Q := fun v h L => Mv h0 h [] L ∧ ∃ a t : Addr, v = some (.ref a) ∧ Str Z h a t (List.take mm cs)) X6 hx hZ hS hk (hEL_1 hw) RH hret rfl hlk rfl rfl (hb hby d_29_23) K (by decide) (by decide) e6 (⟨M6, b2, b4, rfl, strL (ds := (List.take mm cs)) (by rw [ltk (by omega)]; omega) (mtk hbr) (mtk hla) E_b2 F_value_b2 F_coder_b2 (by rw [ltk (by omega)]; exact V_b4)⟩)
theorem ef_rm_nwU (m : MethodId) (x0 : Addr) (x1 : Int32) (x2 : Int32)  : entryFrame m #[(.ref x0), (.int x1), (.int x2)] 5 = mkF m 0 #[.val (.ref x0), .val (.int x1), .val (.int x2), .unset, .unset] [] := by first | (simp [entryFrame, mkF, argsToLocals, Value.category]; done) | rfl
theorem d_30_0 : decode jdk_52_method_69_code 0 = .ok (.iload_n 2, 1) := by decide +kernel
theorem d_30_1 : decode jdk_52_method_69_code 1 = .ok (.ifCond .ne 7, 3) := by decide +kernel
theorem d_30_4 : decode jdk_52_method_69_code 4 = .ok (.ldc_w 295, 3) := by decide +kernel
theorem d_30_7 : decode jdk_52_method_69_code 7 = .ok (.areturn, 1) := by decide +kernel
theorem d_30_8 : decode jdk_52_method_69_code 8 = .ok (.getstatic 251, 3) := by decide +kernel
theorem d_30_11 : decode jdk_52_method_69_code 11 = .ok (.ifCond .eq 28, 3) := by decide +kernel
theorem d_30_14 : decode jdk_52_method_69_code 14 = .ok (.aload_n 0, 1) := by decide +kernel
theorem d_30_15 : decode jdk_52_method_69_code 15 = .ok (.iload_n 1, 1) := by decide +kernel
theorem d_30_16 : decode jdk_52_method_69_code 16 = .ok (.iload_n 2, 1) := by decide +kernel
theorem d_30_17 : decode jdk_52_method_69_code 17 = .ok (.invokestatic 257, 3) := by decide +kernel
theorem d_30_20 : decode jdk_52_method_69_code 20 = .ok (.astore_n 3, 1) := by decide +kernel
theorem d_30_21 : decode jdk_52_method_69_code 21 = .ok (.aload_n 3, 1) := by decide +kernel
theorem d_30_22 : decode jdk_52_method_69_code 22 = .ok (.iload_n 2, 1) := by decide +kernel
theorem d_30_23 : decode jdk_52_method_69_code 23 = .ok (.invokestatic 259, 3) := by decide +kernel
theorem d_30_26 : decode jdk_52_method_69_code 26 = .ok (.istore 4, 2) := by decide +kernel
theorem d_30_28 : decode jdk_52_method_69_code 28 = .ok (.new 3, 3) := by decide +kernel
theorem d_30_31 : decode jdk_52_method_69_code 31 = .ok (.dup, 1) := by decide +kernel
theorem d_30_32 : decode jdk_52_method_69_code 32 = .ok (.aload_n 3, 1) := by decide +kernel
theorem d_30_33 : decode jdk_52_method_69_code 33 = .ok (.iload 4, 2) := by decide +kernel
theorem d_30_35 : decode jdk_52_method_69_code 35 = .ok (.invokespecial 263, 3) := by decide +kernel
theorem d_30_38 : decode jdk_52_method_69_code 38 = .ok (.areturn, 1) := by decide +kernel
set_option maxRecDepth 65536 in
set_option maxHeartbeats 40000000 in
theorem rm_nwU (l : Launch) (Z : State) (a0 : Array Value) (hw : ∀ d ∈ tables_1, d.before a0 Z = true) (a1 : Addr) (ka : ClassId) (cs : List Int32) (mm : Nat) (zc : Int32) (fm : Value) (h0 : Heap) (V_a1 : Arv Z h0 a1 ka .byte (Int32.ofNat (2 * cs.length)) (StrChars.Road.wideBytes cs) (.int (0 : Int32))) (hle8 : cs.length ≤ 8) (hp1 : 1 ≤ cs.length) (hbr : ∀ c ∈ cs, ¬ c < 0 ∧ ¬ (65535 : Int32) < c) (hm : mm < cs.length) (Z_ad : Sta Z h0 "java/lang/StringUTF16" "$assertionsDisabled" "Z" (.int (1 : Int32))) (Z_hs : Sta Z h0 "java/lang/StringUTF16" "HI_BYTE_SHIFT" "I" (.int (0 : Int32))) (Z_ls : Sta Z h0 "java/lang/StringUTF16" "LO_BYTE_SHIFT" "I" (.int (8 : Int32))) (Z_fm : Sta Z h0 "jdk/internal/util/Preconditions" "SIOOBE_FORMATTER" "Ljava/util/function/BiFunction;" fm) (hfm : fm.isRef = true) (Z_cs : Sta Z h0 "java/lang/String" "COMPACT_STRINGS" "Z" (.int zc)) (hz : ¬ zc = 0) :
    MeetsH l Z consts_1 (⟨"java/lang/StringUTF16", "newString", "([BII)Ljava/lang/String;"⟩ : MethodName) jdk_52_method_69_code 5 (some (.object "java/lang/String")) ({ frames := 5, cells := 3, slots := 28, locals := 87 } : Room) #[(.ref a1), (.int (0 : Int32)), (.int (Int32.ofNat mm))] h0 (fun v h L => Mv h0 h [] L ∧ ∃ a t : Addr, v = some (.ref a) ∧ Str Z h a t (List.take mm cs)) := by
  refine MeetsH.of (plainFor_of_name pn_java_lang_StringUTF16) ?_
  intro p e s m below meth c s₁ P hx hby hml hZ hown hnm hret hlk X0 e0 hS RH K
  have hk : h0.size ≤ h0.size := Nat.le_refl _
  replace hZ : Z.Warmed39 (s.setVm s.vm).vm := hZ
  replace hown : (s.setVm s.vm).vm.findClass "java/lang/StringUTF16" = some m.cls := hown
  have M0 : Mv h0 h0 [] [] := Mv.refl _ _
  refine Go.cast (ef_rm_nwU m a1 (0 : Int32) (Int32.ofNat mm) ) ?_
  refine Go.of (T' := s₁) (f' := (mkF m 1 #[sR a1, sI 0, sI (Int32.ofNat mm), .unset, .unset] [(.int (Int32.ofNat mm))])) (fun _ k => XS.iloadN X0.here hx rfl (hb hby d_30_0) rfl k) ?_
  by_cases hc1 : (Int32.ofNat mm) = (0 : Int32)
  ·
    refine Go.of (T' := s₁) (f' := (mkF m 4 #[sR a1, sI 0, sI (Int32.ofNat mm), .unset, .unset] [])) (fun _ k => XS.ifNo X0.here hx rfl (hb hby d_30_1) rfl ((if0 _ _).trans (teq hc1).2) k) ?_
    obtain ⟨sa1, T1, h1, k1, sb1, kb1, X1, e1, E1, hS1, hk1, hZ1, hown1, E_sa1, F_cd1, F_vl1, V_sb1, A1, hne1, st1⟩ := ldcWE X0 hx hZ hown (hw _ (List.mem_of_getElem? (i := 179) rfl)) (hw_sA hw) e0 hS hk (hEL_1 hw) (by decide) RH.1 (g := (mkF m 4 #[sR a1, sI 0, sI (Int32.ofNat mm), .unset, .unset] [])) rfl (hb hby d_30_4) (by decide) (by decide)
    have K1 := keepE E1
    have M1 := M0.ext E1
    clear hS hk
    replace RH := RH.trans A1
    replace V_a1 := V_a1.keep K1 nin0
    replace Z_ad := StaKeep Z_ad K1 all0
    replace Z_hs := StaKeep Z_hs K1 all0
    replace Z_ls := StaKeep Z_ls K1 all0
    replace Z_fm := StaKeep Z_fm K1 all0
    replace Z_cs := StaKeep Z_cs K1 all0
    have hS := hS1
    have hk := hk1
    replace hZ := hZ1
    replace hown := hown1
    refine Go.of (T' := T1) (f' := (mkF m 7 #[sR a1, sI 0, sI (Int32.ofNat mm), .unset, .unset] [(.ref sa1)])) st1 ?_
    exact goRetRH (Q := fun v h L => Mv h0 h [] L ∧ ∃ a t : Addr, v = some (.ref a) ∧ Str Z h a t (List.take mm cs)) X1 hx hZ hS hk (hEL_1 hw) RH hret rfl hlk rfl rfl (hb hby d_30_7) K (by decide) (by decide) e1 (⟨M1, sa1, sb1, rfl, by rw [show mm = 0 from ofk (j := 0) (by omega) (by omega) hc1, List.take_zero]; exact str0 E_sa1 F_vl1 F_cd1 V_sb1⟩)
  ·
    refine Go.of (T' := s₁) (f' := (mkF m 8 #[sR a1, sI 0, sI (Int32.ofNat mm), .unset, .unset] [])) (fun _ k => XS.ifYes X0.here hx rfl (pc0 := 1) (pc' := 8) rfl (hb hby d_30_1) rfl ((if0 _ _).trans (feq hc1).2) (by decide) (by decide) k) ?_
    have h0m : 0 < mm := Nat.pos_of_ne_zero fun q => hc1 (by rw [q]; rfl)
    obtain ⟨T2, X2, e2, st2⟩ := getS2 X0 hx hZ hown (host := "") (Or.inl (hw _ (List.mem_of_getElem? (i := 181) rfl))) Via.refl e0 Z_cs (g := (mkF m 8 #[sR a1, sI 0, sI (Int32.ofNat mm), .unset, .unset] [])) rfl (hb hby d_30_8)
    refine Go.of (T' := T2) (f' := (mkF m 11 #[sR a1, sI 0, sI (Int32.ofNat mm), .unset, .unset] [(.int zc)])) st2 ?_
    have hc11 : ¬ (zc = (0 : Int32)) := hz
    refine Go.of (T' := T2) (f' := (mkF m 14 #[sR a1, sI 0, sI (Int32.ofNat mm), .unset, .unset] [])) (fun _ k => XS.ifNo X2.here hx rfl (hb hby d_30_11) rfl ((if0 _ _).trans (feq hc11).1) k) ?_
    refine Go.of (T' := T2) (f' := (mkF m 15 #[sR a1, sI 0, sI (Int32.ofNat mm), .unset, .unset] [(.ref a1)])) (fun _ k => XS.aloadN X2.here hx rfl (hb hby d_30_14) rfl rfl k) ?_
    refine Go.of (T' := T2) (f' := (mkF m 16 #[sR a1, sI 0, sI (Int32.ofNat mm), .unset, .unset] [(.int (0 : Int32)), (.ref a1)])) (fun _ k => XS.iloadN X2.here hx rfl (hb hby d_30_15) rfl k) ?_
    refine Go.of (T' := T2) (f' := (mkF m 17 #[sR a1, sI 0, sI (Int32.ofNat mm), .unset, .unset] [(.int (Int32.ofNat mm)), (.int (0 : Int32)), (.ref a1)])) (fun _ k => XS.iloadN X2.here hx rfl (hb hby d_30_16) rfl k) ?_
    refine goS X2 hx hZ hown (hw _ (List.mem_of_getElem? (i := 182) rfl)) (hw _ (List.mem_of_getElem? (i := 183) rfl)) (hw _ (List.mem_of_getElem? (i := 24) rfl)) (hw _ (List.mem_of_getElem? (i := 184) rfl)) (by decide) (C := 2) (S := 24) ((rm_cpb l Z a0 hw a1 ka cs mm fm h0 V_a1 hle8 hp1 hbr hm h0m Z_ad Z_hs Z_ls Z_fm hfm).bk (W := 0) hZ (hw _ (List.mem_of_getElem? (i := 184) rfl)) (hw _ (List.mem_of_getElem? (i := 24) rfl)) (by decide) (by decide)) e2 (argsL := [(.ref a1), (.int (0 : Int32)), (.int (Int32.ofNat mm))]) (rest := []) (by rw [hml]; rfl) (lenOf pd___BII__B rfl) rfl rfl (hb hby d_30_17) (Nat.le_of_eq rfl) (by decide) (by decide) ?_
    intro v3 T3 L3 X3 hQ3
    obtain ⟨h3, e3⟩ : ∃ z, T3.heap = z := ⟨_, rfl⟩
    rw [e3] at hQ3
    obtain ⟨Mc3, b3, k3, rfl, le3, hor3⟩ := hQ3
    have ne_a1_b3 : a1 ≠ b3 := Nat.ne_of_lt (Nat.lt_of_lt_of_le V_a1.lt le3)
    have fr_b3 : h0.size ≤ b3 := Nat.le_trans M0.le le3
    have Sf_b3 := Safe.new (Z := Z) (EL := consts_1) (vm := s.vm) le3
    have M3 := M0.app0 Mc3
    replace hk := Nat.le_trans hk (Mc3.1).1
    have hs4 := CHr.keep (Mc3.1) sf0 RH.1
    replace Sf_b3 := Safe.keep (Mc3.1) sf0 RH.1 Sf_b3
    replace RH := RH.trans hs4
    replace V_a1 := V_a1.keep Mc3.1 nin0
    replace Z_ad := StaKeep Z_ad Mc3.1 all0
    replace Z_hs := StaKeep Z_hs Mc3.1 all0
    replace Z_ls := StaKeep Z_ls Mc3.1 all0
    replace Z_fm := StaKeep Z_fm Mc3.1 all0
    replace Z_cs := StaKeep Z_cs Mc3.1 all0
    rcases hor3 with ⟨hlat, V_b3⟩ | ⟨hwd, V_b3⟩
    ·
      show Go p e below P T3 (mkF m 20 #[sR a1, sI 0, sI (Int32.ofNat mm), .unset, .unset] [(.ref b3)])
      refine Go.of (T' := T3) (f' := (mkF m 21 #[sR a1, sI 0, sI (Int32.ofNat mm), sR b3, .unset] [])) (fun _ k => XS.astoreN X3.here hx rfl (hb hby d_30_20) rfl rfl (l' := #[sR a1, sI 0, sI (Int32.ofNat mm), sR b3, .unset]) rfl k) ?_
      refine Go.of (T' := T3) (f' := (mkF m 22 #[sR a1, sI 0, sI (Int32.ofNat mm), sR b3, .unset] [(.ref b3)])) (fun _ k => XS.aloadN X3.here hx rfl (hb hby d_30_21) rfl rfl k) ?_
      refine Go.of (T' := T3) (f' := (mkF m 23 #[sR a1, sI 0, sI (Int32.ofNat mm), sR b3, .unset] [(.int (Int32.ofNat mm)), (.ref b3)])) (fun _ k => XS.iloadN X3.here hx rfl (hb hby d_30_22) rfl k) ?_
      refine goS X3 hx hZ hown (hw _ (List.mem_of_getElem? (i := 188) rfl)) (hw _ (List.mem_of_getElem? (i := 31) rfl)) (hw _ (List.mem_of_getElem? (i := 24) rfl)) (hw _ (List.mem_of_getElem? (i := 32) rfl)) (by decide) (C := 0) (S := 0) ((rm_cfa0 l Z a0 hw b3 k3 mm _ h3 V_b3).bk (W := 0) hZ (hw _ (List.mem_of_getElem? (i := 32) rfl)) (hw _ (List.mem_of_getElem? (i := 24) rfl)) (by decide) (by decide)) e3 (argsL := [(.ref b3), (.int (Int32.ofNat mm))]) (rest := []) (by rw [hml]; rfl) (lenOf pd___BI_B rfl) rfl rfl (hb hby d_30_23) (Nat.le_of_eq rfl) (by decide) (by decide) ?_
      intro v5 T5 L5 X5 hQ5
      obtain ⟨nq5, e5, rfl⟩ := hQ5
      replace X5 := standNil X5 nq5
      show Go p e below P T5 (mkF m 26 #[sR a1, sI 0, sI (Int32.ofNat mm), sR b3, .unset] [(.int (0 : Int32))])
      refine Go.of (T' := T5) (f' := (mkF m 28 #[sR a1, sI 0, sI (Int32.ofNat mm), sR b3, sI 0] [])) (fun _ k => XS.istore X5.here hx rfl (hb hby d_30_26) rfl (l' := #[sR a1, sI 0, sI (Int32.ofNat mm), sR b3, sI 0]) rfl k) ?_
      obtain ⟨T6, h6, X6, e6, E6, A6, D6, -, st6⟩ := newO X5 hx hZ hown (hw _ (List.mem_of_getElem? (i := 189) rfl)) (hw _ (List.mem_of_getElem? (i := 9) rfl)) (hw _ (List.mem_of_getElem? (i := 10) rfl)) e5 (g := (mkF m 28 #[sR a1, sI 0, sI (Int32.ofNat mm), sR b3, sI 0] [])) rfl (hb hby d_30_28) (by decide) (by decide)
      obtain ⟨b6, g6⟩ : ∃ z, z = h3.size := ⟨_, rfl⟩
      rw [← g6] at A6 D6 st6
      have ne_a1_b6 : a1 ≠ b6 := Nat.ne_of_lt (Nat.lt_of_lt_of_le V_a1.lt (Nat.le_of_eq g6.symm))
      have ne_b3_b6 : b3 ≠ b6 := Nat.ne_of_lt (Nat.lt_of_lt_of_le V_b3.lt (Nat.le_of_eq g6.symm))
      have fr_b6 : h0.size ≤ b6 := Nat.le_trans M3.le (Nat.le_of_eq g6.symm)
      have Sf_b6 := Safe.new (Z := Z) (EL := consts_1) (vm := s.vm) (Nat.le_of_eq g6.symm)
      have K6 := keepE E6
      have M6 := M3.ext E6
      replace hk := Nat.le_trans hk (K6).1
      have hs7 := CHr.keep (K6) sf0 RH.1
      replace Sf_b3 := Safe.keep (K6) sf0 RH.1 Sf_b3
      replace Sf_b6 := Safe.keep (K6) sf0 RH.1 Sf_b6
      replace RH := RH.trans hs7
      replace V_a1 := V_a1.keep K6 nin0
      replace Z_ad := StaKeep Z_ad K6 all0
      replace Z_hs := StaKeep Z_hs K6 all0
      replace Z_ls := StaKeep Z_ls K6 all0
      replace Z_fm := StaKeep Z_fm K6 all0
      replace Z_cs := StaKeep Z_cs K6 all0
      replace V_b3 := V_b3.keep K6 nin0
      have E_b6 := A6
      have F_coder_b6 : Fld Z h6 b6 "java/lang/String" "coder" "B" (.int (0 : Int32)) := D6 (Or.inr (hw _ (List.mem_of_getElem? (i := 34) rfl))) (ty := .byte) (by decide)
      have F_value_b6 : Fld Z h6 b6 "java/lang/String" "value" "[B" .null := D6 (Or.inr (hw _ (List.mem_of_getElem? (i := 36) rfl))) (ty := (.array .byte)) (by decide)
      refine Go.of (T' := T6) (f' := (mkF m 31 #[sR a1, sI 0, sI (Int32.ofNat mm), sR b3, sI 0] [(.ref b6)])) st6 ?_
      refine Go.of (T' := T6) (f' := (mkF m 32 #[sR a1, sI 0, sI (Int32.ofNat mm), sR b3, sI 0] [(.ref b6), (.ref b6)])) (fun _ k => XS.dup X6.here hx rfl (hb hby d_30_31) rfl rfl k) ?_
      refine Go.of (T' := T6) (f' := (mkF m 33 #[sR a1, sI 0, sI (Int32.ofNat mm), sR b3, sI 0] [(.ref b3), (.ref b6), (.ref b6)])) (fun _ k => XS.aloadN X6.here hx rfl (hb hby d_30_32) rfl rfl k) ?_
      refine Go.of (T' := T6) (f' := (mkF m 35 #[sR a1, sI 0, sI (Int32.ofNat mm), sR b3, sI 0] [(.int (0 : Int32)), (.ref b3), (.ref b6), (.ref b6)])) (fun _ k => XS.iload X6.here hx rfl (hb hby d_30_33) rfl k) ?_
      refine goI X6 hx hZ rfl hown (hw _ (List.mem_of_getElem? (i := 190) rfl)) (hw _ (List.mem_of_getElem? (i := 136) rfl)) (hw _ (List.mem_of_getElem? (i := 137) rfl)) (by decide) (C := 0) (S := 0) ((rm_strB0 l Z a0 hw b6 b3 .null (.int (0 : Int32)) h6 E_b6 F_value_b6 F_coder_b6).bk (W := 1) hZ (hw _ (List.mem_of_getElem? (i := 137) rfl)) (hw _ (List.mem_of_getElem? (i := 10) rfl)) (by decide) (by decide)) e6 (argsL := [(.ref b3), (.int (0 : Int32))]) (rest := [(.ref b6)]) (by rw [hml]; rfl) (lenOf pd___BB_V rfl) rfl rfl (hb hby d_30_35) (Nat.le_of_eq rfl) (by decide) (by decide) ?_
      intro v8 T8 L8 X8 hQ8
      obtain ⟨h8, e8⟩ : ∃ z, T8.heap = z := ⟨_, rfl⟩
      rw [e8] at hQ8
      have E_b6_o := E_b6
      obtain ⟨rfl, Mc8, Ec8, Fc8, Gc8⟩ := hQ8
      have M8 := M6.app Mc8 (allS (Or.inr fr_b6) all0)
      replace hk := Nat.le_trans hk (Mc8.1).1
      have hq9 : ∀ x ∈ ([b6] : List Addr), Safe Z consts_1 s.vm h6 x := (sfS Sf_b6 sf0)
      have hs9 := CHr.keep (Mc8.1) hq9 RH.1
      replace Sf_b3 := Safe.keep (Mc8.1) hq9 RH.1 Sf_b3
      replace Sf_b6 := Safe.keep (Mc8.1) hq9 RH.1 Sf_b6
      replace RH := RH.trans hs9
      replace V_a1 := V_a1.keep Mc8.1 (ninS ne_a1_b6 nin0)
      replace Z_ad := StaKeep Z_ad Mc8.1 (allS (staExa E_b6_o) all0)
      replace Z_hs := StaKeep Z_hs Mc8.1 (allS (staExa E_b6_o) all0)
      replace Z_ls := StaKeep Z_ls Mc8.1 (allS (staExa E_b6_o) all0)
      replace Z_fm := StaKeep Z_fm Mc8.1 (allS (staExa E_b6_o) all0)
      replace Z_cs := StaKeep Z_cs Mc8.1 (allS (staExa E_b6_o) all0)
      replace V_b3 := V_b3.keep Mc8.1 (ninS ne_b3_b6 nin0)
      replace E_b6 := Ec8
      have F_value_b6 := Fc8
      have F_coder_b6 := Gc8
      show Go p e below P T8 (mkF m 38 #[sR a1, sI 0, sI (Int32.ofNat mm), sR b3, sI 0] [(.ref b6)])
      exact goRetRH (Q := fun v h L => Mv h0 h [] L ∧ ∃ a t : Addr, v = some (.ref a) ∧ Str Z h a t (List.take mm cs)) X8 hx hZ hS hk (hEL_1 hw) RH hret rfl hlk rfl rfl (hb hby d_30_38) K (by decide) (by decide) e8 (⟨M8, b6, b3, rfl, strL (ds := (List.take mm cs)) (by rw [ltk (by omega)]; omega) (mtk hbr) hlat E_b6 F_value_b6 F_coder_b6 (by rw [ltk (by omega)]; exact V_b3)⟩)
    ·
      show Go p e below P T3 (mkF m 20 #[sR a1, sI 0, sI (Int32.ofNat mm), .unset, .unset] [(.ref b3)])
      refine Go.of (T' := T3) (f' := (mkF m 21 #[sR a1, sI 0, sI (Int32.ofNat mm), sR b3, .unset] [])) (fun _ k => XS.astoreN X3.here hx rfl (hb hby d_30_20) rfl rfl (l' := #[sR a1, sI 0, sI (Int32.ofNat mm), sR b3, .unset]) rfl k) ?_
      refine Go.of (T' := T3) (f' := (mkF m 22 #[sR a1, sI 0, sI (Int32.ofNat mm), sR b3, .unset] [(.ref b3)])) (fun _ k => XS.aloadN X3.here hx rfl (hb hby d_30_21) rfl rfl k) ?_
      refine Go.of (T' := T3) (f' := (mkF m 23 #[sR a1, sI 0, sI (Int32.ofNat mm), sR b3, .unset] [(.int (Int32.ofNat mm)), (.ref b3)])) (fun _ k => XS.iloadN X3.here hx rfl (hb hby d_30_22) rfl k) ?_
      refine goS X3 hx hZ hown (hw _ (List.mem_of_getElem? (i := 188) rfl)) (hw _ (List.mem_of_getElem? (i := 31) rfl)) (hw _ (List.mem_of_getElem? (i := 24) rfl)) (hw _ (List.mem_of_getElem? (i := 32) rfl)) (by decide) (C := 0) (S := 0) ((rm_cfa l Z a0 hw b3 k3 mm _ h3 V_b3 (by omega) (by omega)).bk (W := 0) hZ (hw _ (List.mem_of_getElem? (i := 32) rfl)) (hw _ (List.mem_of_getElem? (i := 24) rfl)) (by decide) (by decide)) e3 (argsL := [(.ref b3), (.int (Int32.ofNat mm))]) (rest := []) (by rw [hml]; rfl) (lenOf pd___BI_B rfl) rfl rfl (hb hby d_30_23) (Nat.le_of_eq rfl) (by decide) (by decide) ?_
      intro v10 T10 L10 X10 hQ10
      obtain ⟨nq10, e10, rfl⟩ := hQ10
      replace X10 := standNil X10 nq10
      show Go p e below P T10 (mkF m 26 #[sR a1, sI 0, sI (Int32.ofNat mm), sR b3, .unset] [(.int (1 : Int32))])
      refine Go.of (T' := T10) (f' := (mkF m 28 #[sR a1, sI 0, sI (Int32.ofNat mm), sR b3, sI 1] [])) (fun _ k => XS.istore X10.here hx rfl (hb hby d_30_26) rfl (l' := #[sR a1, sI 0, sI (Int32.ofNat mm), sR b3, sI 1]) rfl k) ?_
      obtain ⟨T11, h11, X11, e11, E11, A11, D11, -, st11⟩ := newO X10 hx hZ hown (hw _ (List.mem_of_getElem? (i := 189) rfl)) (hw _ (List.mem_of_getElem? (i := 9) rfl)) (hw _ (List.mem_of_getElem? (i := 10) rfl)) e10 (g := (mkF m 28 #[sR a1, sI 0, sI (Int32.ofNat mm), sR b3, sI 1] [])) rfl (hb hby d_30_28) (by decide) (by decide)
      obtain ⟨b11, g11⟩ : ∃ z, z = h3.size := ⟨_, rfl⟩
      rw [← g11] at A11 D11 st11
      have ne_a1_b11 : a1 ≠ b11 := Nat.ne_of_lt (Nat.lt_of_lt_of_le V_a1.lt (Nat.le_of_eq g11.symm))
      have ne_b3_b11 : b3 ≠ b11 := Nat.ne_of_lt (Nat.lt_of_lt_of_le V_b3.lt (Nat.le_of_eq g11.symm))
      have fr_b11 : h0.size ≤ b11 := Nat.le_trans M3.le (Nat.le_of_eq g11.symm)
      have Sf_b11 := Safe.new (Z := Z) (EL := consts_1) (vm := s.vm) (Nat.le_of_eq g11.symm)
      have K11 := keepE E11
      have M11 := M3.ext E11
      replace hk := Nat.le_trans hk (K11).1
      have hs12 := CHr.keep (K11) sf0 RH.1
      replace Sf_b3 := Safe.keep (K11) sf0 RH.1 Sf_b3
      replace Sf_b11 := Safe.keep (K11) sf0 RH.1 Sf_b11
      replace RH := RH.trans hs12
      replace V_a1 := V_a1.keep K11 nin0
      replace Z_ad := StaKeep Z_ad K11 all0
      replace Z_hs := StaKeep Z_hs K11 all0
      replace Z_ls := StaKeep Z_ls K11 all0
      replace Z_fm := StaKeep Z_fm K11 all0
      replace Z_cs := StaKeep Z_cs K11 all0
      replace V_b3 := V_b3.keep K11 nin0
      have E_b11 := A11
      have F_coder_b11 : Fld Z h11 b11 "java/lang/String" "coder" "B" (.int (0 : Int32)) := D11 (Or.inr (hw _ (List.mem_of_getElem? (i := 34) rfl))) (ty := .byte) (by decide)
      have F_value_b11 : Fld Z h11 b11 "java/lang/String" "value" "[B" .null := D11 (Or.inr (hw _ (List.mem_of_getElem? (i := 36) rfl))) (ty := (.array .byte)) (by decide)
      refine Go.of (T' := T11) (f' := (mkF m 31 #[sR a1, sI 0, sI (Int32.ofNat mm), sR b3, sI 1] [(.ref b11)])) st11 ?_
      refine Go.of (T' := T11) (f' := (mkF m 32 #[sR a1, sI 0, sI (Int32.ofNat mm), sR b3, sI 1] [(.ref b11), (.ref b11)])) (fun _ k => XS.dup X11.here hx rfl (hb hby d_30_31) rfl rfl k) ?_
      refine Go.of (T' := T11) (f' := (mkF m 33 #[sR a1, sI 0, sI (Int32.ofNat mm), sR b3, sI 1] [(.ref b3), (.ref b11), (.ref b11)])) (fun _ k => XS.aloadN X11.here hx rfl (hb hby d_30_32) rfl rfl k) ?_
      refine Go.of (T' := T11) (f' := (mkF m 35 #[sR a1, sI 0, sI (Int32.ofNat mm), sR b3, sI 1] [(.int (1 : Int32)), (.ref b3), (.ref b11), (.ref b11)])) (fun _ k => XS.iload X11.here hx rfl (hb hby d_30_33) rfl k) ?_
      refine goI X11 hx hZ rfl hown (hw _ (List.mem_of_getElem? (i := 190) rfl)) (hw _ (List.mem_of_getElem? (i := 136) rfl)) (hw _ (List.mem_of_getElem? (i := 137) rfl)) (by decide) (C := 0) (S := 0) ((rm_strB1 l Z a0 hw b11 b3 .null (.int (0 : Int32)) h11 E_b11 F_value_b11 F_coder_b11).bk (W := 1) hZ (hw _ (List.mem_of_getElem? (i := 137) rfl)) (hw _ (List.mem_of_getElem? (i := 10) rfl)) (by decide) (by decide)) e11 (argsL := [(.ref b3), (.int (1 : Int32))]) (rest := [(.ref b11)]) (by rw [hml]; rfl) (lenOf pd___BB_V rfl) rfl rfl (hb hby d_30_35) (Nat.le_of_eq rfl) (by decide) (by decide) ?_
      intro v13 T13 L13 X13 hQ13
      obtain ⟨h13, e13⟩ : ∃ z, T13.heap = z := ⟨_, rfl⟩
      rw [e13] at hQ13
      have E_b11_o := E_b11
      obtain ⟨rfl, Mc13, Ec13, Fc13, Gc13⟩ := hQ13
      have M13 := M11.app Mc13 (allS (Or.inr fr_b11) all0)
      replace hk := Nat.le_trans hk (Mc13.1).1
      have hq14 : ∀ x ∈ ([b11] : List Addr), Safe Z consts_1 s.vm h11 x := (sfS Sf_b11 sf0)
      have hs14 := CHr.keep (Mc13.1) hq14 RH.1
      replace Sf_b3 := Safe.keep (Mc13.1) hq14 RH.1 Sf_b3
      replace Sf_b11 := Safe.keep (Mc13.1) hq14 RH.1 Sf_b11
      replace RH := RH.trans hs14
      replace V_a1 := V_a1.keep Mc13.1 (ninS ne_a1_b11 nin0)
      replace Z_ad := StaKeep Z_ad Mc13.1 (allS (staExa E_b11_o) all0)
      replace Z_hs := StaKeep Z_hs Mc13.1 (allS (staExa E_b11_o) all0)
      replace Z_ls := StaKeep Z_ls Mc13.1 (allS (staExa E_b11_o) all0)
      replace Z_fm := StaKeep Z_fm Mc13.1 (allS (staExa E_b11_o) all0)
      replace Z_cs := StaKeep Z_cs Mc13.1 (allS (staExa E_b11_o) all0)
      replace V_b3 := V_b3.keep Mc13.1 (ninS ne_b3_b11 nin0)
      replace E_b11 := Ec13
      have F_value_b11 := Fc13
      have F_coder_b11 := Gc13
      show Go p e below P T13 (mkF m 38 #[sR a1, sI 0, sI (Int32.ofNat mm), sR b3, sI 1] [(.ref b11)])
      exact goRetRH (Q := fun v h L => Mv h0 h [] L ∧ ∃ a t : Addr, v = some (.ref a) ∧ Str Z h a t (List.take mm cs)) X13 hx hZ hS hk (hEL_1 hw) RH hret rfl hlk rfl rfl (hb hby d_30_38) K (by decide) (by decide) e13 (⟨M13, b11, b3, rfl, str16 (cs := (List.take mm cs)) (by rw [ltk (by omega)]) rfl (by rw [ltk (by omega)]; omega) (mtk hbr) hwd E_b11 F_value_b11 F_coder_b11 V_b3⟩)
theorem ef_rm_cft (m : MethodId) (x0 : Int32) (x1 : Int32) (x2 : Int32) (x3 : Value) (hx3 : x3.isRef = true) : entryFrame m #[(.int x0), (.int x1), (.int x2), x3] 4 = mkF m 0 #[.val (.int x0), .val (.int x1), .val (.int x2), .val x3] [] := by
  all_goals (rcases ref_cases hx3 with rfl | ⟨z3, rfl⟩)
  all_goals first | (simp [entryFrame, mkF, argsToLocals, Value.category]; done) | rfl
theorem d_31_0 : decode jdk_41_method_12_code 0 = .ok (.iload_n 0, 1) := by decide +kernel
theorem d_31_1 : decode jdk_41_method_12_code 1 = .ok (.ifCond .lt 13, 3) := by decide +kernel
theorem d_31_4 : decode jdk_41_method_12_code 4 = .ok (.iload_n 0, 1) := by decide +kernel
theorem d_31_5 : decode jdk_41_method_12_code 5 = .ok (.iload_n 1, 1) := by decide +kernel
theorem d_31_6 : decode jdk_41_method_12_code 6 = .ok (.if_icmp .gt 8, 3) := by decide +kernel
theorem d_31_9 : decode jdk_41_method_12_code 9 = .ok (.iload_n 1, 1) := by decide +kernel
theorem d_31_10 : decode jdk_41_method_12_code 10 = .ok (.iload_n 2, 1) := by decide +kernel
theorem d_31_11 : decode jdk_41_method_12_code 11 = .ok (.if_icmp .le 11, 3) := by decide +kernel
theorem d_31_22 : decode jdk_41_method_12_code 22 = .ok (.iload_n 0, 1) := by decide +kernel
theorem d_31_23 : decode jdk_41_method_12_code 23 = .ok (.ireturn, 1) := by decide +kernel
set_option maxRecDepth 65536 in
set_option maxHeartbeats 40000000 in
theorem rm_cft (l : Launch) (Z : State) (a0 : Array Value) (hw : ∀ d ∈ tables_1, d.before a0 Z = true) (mm n : Nat) (fm : Value) (h0 : Heap) (hfm : fm.isRef = true) (hm : mm ≤ n) (hn : n ≤ 4000) :
    MeetsW l Z (⟨"jdk/internal/util/Preconditions", "checkFromToIndex", "(IIILjava/util/function/BiFunction;)I"⟩ : MethodName) jdk_41_method_12_code 4 (some .int) ({ frames := 0, cells := 0, slots := 0, locals := 0 } : Room) #[(.int (0 : Int32)), (.int (Int32.ofNat mm)), (.int (Int32.ofNat n)), fm] h0 (Pu h0 (fun v => v = some (.int 0))) := by
  refine MeetsW.of (plainFor_of_name pn_jdk_internal_util_Preconditions) ?_
  intro p e s m below meth c s₁ P hx hby hml hZ hown hnm hret hlk X0 e0 K
  have M0 : Mv h0 h0 [] [] := Mv.refl _ _
  refine Go.cast (ef_rm_cft m (0 : Int32) (Int32.ofNat mm) (Int32.ofNat n) fm hfm) ?_
  refine Go.of (T' := s₁) (f' := (mkF m 1 #[sI 0, sI (Int32.ofNat mm), sI (Int32.ofNat n), .val fm] [(.int (0 : Int32))])) (fun _ k => XS.iloadN X0.here hx rfl (hb hby d_31_0) rfl k) ?_
  refine Go.of (T' := s₁) (f' := (mkF m 4 #[sI 0, sI (Int32.ofNat mm), sI (Int32.ofNat n), .val fm] [])) (fun _ k => XS.ifNo X0.here hx rfl (hb hby d_31_1) rfl (by decide) k) ?_
  refine Go.of (T' := s₁) (f' := (mkF m 5 #[sI 0, sI (Int32.ofNat mm), sI (Int32.ofNat n), .val fm] [(.int (0 : Int32))])) (fun _ k => XS.iloadN X0.here hx rfl (hb hby d_31_4) rfl k) ?_
  refine Go.of (T' := s₁) (f' := (mkF m 6 #[sI 0, sI (Int32.ofNat mm), sI (Int32.ofNat n), .val fm] [(.int (Int32.ofNat mm)), (.int (0 : Int32))])) (fun _ k => XS.iloadN X0.here hx rfl (hb hby d_31_5) rfl k) ?_
  have hc6 : ¬ ((Int32.ofNat mm) < (0 : Int32)) := nneg (by omega)
  refine Go.of (T' := s₁) (f' := (mkF m 9 #[sI 0, sI (Int32.ofNat mm), sI (Int32.ofNat n), .val fm] [])) (fun _ k => XS.icmpNo X0.here hx rfl (hb hby d_31_6) rfl (flt hc6).2.2.1 k) ?_
  refine Go.of (T' := s₁) (f' := (mkF m 10 #[sI 0, sI (Int32.ofNat mm), sI (Int32.ofNat n), .val fm] [(.int (Int32.ofNat mm))])) (fun _ k => XS.iloadN X0.here hx rfl (hb hby d_31_9) rfl k) ?_
  refine Go.of (T' := s₁) (f' := (mkF m 11 #[sI 0, sI (Int32.ofNat mm), sI (Int32.ofNat n), .val fm] [(.int (Int32.ofNat n)), (.int (Int32.ofNat mm))])) (fun _ k => XS.iloadN X0.here hx rfl (hb hby d_31_10) rfl k) ?_
  have hc11 : ¬ ((Int32.ofNat n) < (Int32.ofNat mm)) := fun q => by have q := (ltN (by omega) (by omega)).mp q; omega
  refine Go.of (T' := s₁) (f' := (mkF m 22 #[sI 0, sI (Int32.ofNat mm), sI (Int32.ofNat n), .val fm] [])) (fun _ k => XS.icmpYes X0.here hx rfl (pc0 := 11) (pc' := 22) rfl (hb hby d_31_11) rfl (flt hc11).2.2.2 (by decide) (by decide) k) ?_
  refine Go.of (T' := s₁) (f' := (mkF m 23 #[sI 0, sI (Int32.ofNat mm), sI (Int32.ofNat n), .val fm] [(.int (0 : Int32))])) (fun _ k => XS.iloadN X0.here hx rfl (hb hby d_31_22) rfl k) ?_
  exact goRetI (Q := Pu h0 (fun v => v = some (.int 0))) X0 hx (t := .int) hret hlk rfl (by simp) (hb hby d_31_23) K (by decide) (by decide) e0 (⟨rfl, rfl, rfl⟩)
theorem ef_rm_cbe (m : MethodId) (x0 : Int32) (x1 : Int32) (x2 : Int32)  : entryFrame m #[(.int x0), (.int x1), (.int x2)] 3 = mkF m 0 #[.val (.int x0), .val (.int x1), .val (.int x2)] [] := by first | (simp [entryFrame, mkF, argsToLocals, Value.category]; done) | rfl
theorem d_32_0 : decode jdk_42_method_158_code 0 = .ok (.iload_n 0, 1) := by decide +kernel
theorem d_32_1 : decode jdk_42_method_158_code 1 = .ok (.iload_n 1, 1) := by decide +kernel
theorem d_32_2 : decode jdk_42_method_158_code 2 = .ok (.iload_n 2, 1) := by decide +kernel
theorem d_32_3 : decode jdk_42_method_158_code 3 = .ok (.getstatic 1053, 3) := by decide +kernel
theorem d_32_6 : decode jdk_42_method_158_code 6 = .ok (.invokestatic 1062, 3) := by decide +kernel
theorem d_32_9 : decode jdk_42_method_158_code 9 = .ok (.pop, 1) := by decide +kernel
theorem d_32_10 : decode jdk_42_method_158_code 10 = .ok (.return_, 1) := by decide +kernel
set_option maxRecDepth 65536 in
set_option maxHeartbeats 40000000 in
theorem rm_cbe (l : Launch) (Z : State) (a0 : Array Value) (hw : ∀ d ∈ tables_1, d.before a0 Z = true) (mm n : Nat) (fm : Value) (h0 : Heap) (Z_fm : Sta Z h0 "jdk/internal/util/Preconditions" "SIOOBE_FORMATTER" "Ljava/util/function/BiFunction;" fm) (hfm : fm.isRef = true) (hm : mm ≤ n) (hn : n ≤ 4000) :
    MeetsW l Z (⟨"java/lang/String", "checkBoundsBeginEnd", "(III)V"⟩ : MethodName) jdk_42_method_158_code 3 none ({ frames := 1, cells := 0, slots := 0, locals := 15 } : Room) #[(.int (0 : Int32)), (.int (Int32.ofNat mm)), (.int (Int32.ofNat n))] h0 (Pu h0 (fun v => v = none)) := by
  refine MeetsW.of (plainFor_of_name pn_java_lang_String) ?_
  intro p e s m below meth c s₁ P hx hby hml hZ hown hnm hret hlk X0 e0 K
  have M0 : Mv h0 h0 [] [] := Mv.refl _ _
  refine Go.cast (ef_rm_cbe m (0 : Int32) (Int32.ofNat mm) (Int32.ofNat n) ) ?_
  refine Go.of (T' := s₁) (f' := (mkF m 1 #[sI 0, sI (Int32.ofNat mm), sI (Int32.ofNat n)] [(.int (0 : Int32))])) (fun _ k => XS.iloadN X0.here hx rfl (hb hby d_32_0) rfl k) ?_
  refine Go.of (T' := s₁) (f' := (mkF m 2 #[sI 0, sI (Int32.ofNat mm), sI (Int32.ofNat n)] [(.int (Int32.ofNat mm)), (.int (0 : Int32))])) (fun _ k => XS.iloadN X0.here hx rfl (hb hby d_32_1) rfl k) ?_
  refine Go.of (T' := s₁) (f' := (mkF m 3 #[sI 0, sI (Int32.ofNat mm), sI (Int32.ofNat n)] [(.int (Int32.ofNat n)), (.int (Int32.ofNat mm)), (.int (0 : Int32))])) (fun _ k => XS.iloadN X0.here hx rfl (hb hby d_32_2) rfl k) ?_
  obtain ⟨T1, X1, e1, st1⟩ := getS2 X0 hx hZ hown (host := "") (Or.inl (hw _ (List.mem_of_getElem? (i := 101) rfl))) Via.refl e0 Z_fm (g := (mkF m 3 #[sI 0, sI (Int32.ofNat mm), sI (Int32.ofNat n)] [(.int (Int32.ofNat n)), (.int (Int32.ofNat mm)), (.int (0 : Int32))])) rfl (hb hby d_32_3)
  refine Go.of (T' := T1) (f' := (mkF m 6 #[sI 0, sI (Int32.ofNat mm), sI (Int32.ofNat n)] [fm, (.int (Int32.ofNat n)), (.int (Int32.ofNat mm)), (.int (0 : Int32))])) st1 ?_
  refine goS X1 hx hZ hown (hw _ (List.mem_of_getElem? (i := 103) rfl)) (hw _ (List.mem_of_getElem? (i := 104) rfl)) (hw _ (List.mem_of_getElem? (i := 102) rfl)) (hw _ (List.mem_of_getElem? (i := 105) rfl)) (by decide) (C := 0) (S := 0) ((rm_cft l Z a0 hw mm n fm h0 hfm hm hn).bk (W := 0) hZ (hw _ (List.mem_of_getElem? (i := 105) rfl)) (hw _ (List.mem_of_getElem? (i := 102) rfl)) (by decide) (by decide)) e1 (argsL := [(.int (0 : Int32)), (.int (Int32.ofNat mm)), (.int (Int32.ofNat n)), fm]) (rest := []) (by rw [hml]; rfl) (lenOf pd__IIILjava_util_function_BiFunction__I rfl) rfl rfl (hb hby d_32_6) (Nat.le_of_eq rfl) (by decide) (by decide) ?_
  intro v2 T2 L2 X2 hQ2
  obtain ⟨nq2, e2, rfl⟩ := hQ2
  replace X2 := standNil X2 nq2
  show Go p e below P T2 (mkF m 9 #[sI 0, sI (Int32.ofNat mm), sI (Int32.ofNat n)] [(.int (0 : Int32))])
  refine Go.of (T' := T2) (f' := (mkF m 10 #[sI 0, sI (Int32.ofNat mm), sI (Int32.ofNat n)] [])) (fun _ k => XS.pop X2.here hx rfl (hb hby d_32_9) rfl rfl k) ?_
  exact goRet0 (Q := Pu h0 (fun v => v = none)) X2 hx hret hlk (hb hby d_32_10) K (by decide) (by decide) e2 (⟨rfl, rfl, rfl⟩)
theorem ef_rm_sub0 (m : MethodId) (x0 : Addr) (x1 : Int32) (x2 : Int32)  : entryFrame m #[(.ref x0), (.int x1), (.int x2)] 5 = mkF m 0 #[.val (.ref x0), .val (.int x1), .val (.int x2), .unset, .unset] [] := by first | (simp [entryFrame, mkF, argsToLocals, Value.category]; done) | rfl
theorem d_33_0 : decode jdk_42_method_92_code 0 = .ok (.aload_n 0, 1) := by decide +kernel
theorem d_33_1 : decode jdk_42_method_92_code 1 = .ok (.invokevirtual 505, 3) := by decide +kernel
theorem hw_wordsLen {Z : State} {a0 : Array Value} (hw : ∀ d ∈ tables_1, d.before a0 Z = true) : ∀ d ∈ StrChars.Road.wordsLen, d.before a0 Z = true := fun d hd => hw d ((by decide +kernel : ∀ d ∈ StrChars.Road.wordsLen, d ∈ tables_1) d hd)
theorem pd___I : parseMethodDescriptor "()I" = some ⟨[], some .int⟩ := by decide +kernel
theorem d_33_4 : decode jdk_42_method_92_code 4 = .ok (.istore_n 3, 1) := by decide +kernel
theorem d_33_5 : decode jdk_42_method_92_code 5 = .ok (.iload_n 1, 1) := by decide +kernel
theorem d_33_6 : decode jdk_42_method_92_code 6 = .ok (.iload_n 2, 1) := by decide +kernel
theorem d_33_7 : decode jdk_42_method_92_code 7 = .ok (.iload_n 3, 1) := by decide +kernel
theorem d_33_8 : decode jdk_42_method_92_code 8 = .ok (.invokestatic 521, 3) := by decide +kernel
theorem pd__III_V : parseMethodDescriptor "(III)V" = some ⟨[.int, .int, .int], none⟩ := by decide +kernel
theorem d_33_11 : decode jdk_42_method_92_code 11 = .ok (.iload_n 1, 1) := by decide +kernel
theorem d_33_12 : decode jdk_42_method_92_code 12 = .ok (.ifCond .ne 10, 3) := by decide +kernel
theorem d_33_15 : decode jdk_42_method_92_code 15 = .ok (.iload_n 2, 1) := by decide +kernel
theorem d_33_16 : decode jdk_42_method_92_code 16 = .ok (.iload_n 3, 1) := by decide +kernel
theorem d_33_17 : decode jdk_42_method_92_code 17 = .ok (.if_icmp .ne 5, 3) := by decide +kernel
theorem d_33_20 : decode jdk_42_method_92_code 20 = .ok (.aload_n 0, 1) := by decide +kernel
theorem d_33_21 : decode jdk_42_method_92_code 21 = .ok (.areturn, 1) := by decide +kernel
theorem d_33_22 : decode jdk_42_method_92_code 22 = .ok (.iload_n 2, 1) := by decide +kernel
theorem d_33_23 : decode jdk_42_method_92_code 23 = .ok (.iload_n 1, 1) := by decide +kernel
theorem d_33_24 : decode jdk_42_method_92_code 24 = .ok (.isub, 1) := by decide +kernel
theorem d_33_25 : decode jdk_42_method_92_code 25 = .ok (.istore 4, 2) := by decide +kernel
theorem d_33_27 : decode jdk_42_method_92_code 27 = .ok (.aload_n 0, 1) := by decide +kernel
theorem d_33_28 : decode jdk_42_method_92_code 28 = .ok (.invokevirtual 492, 3) := by decide +kernel
theorem d_33_31 : decode jdk_42_method_92_code 31 = .ok (.ifCond .eq 16, 3) := by decide +kernel
theorem d_33_34 : decode jdk_42_method_92_code 34 = .ok (.aload_n 0, 1) := by decide +kernel
theorem d_33_35 : decode jdk_42_method_92_code 35 = .ok (.getfield 9, 3) := by decide +kernel
theorem d_33_38 : decode jdk_42_method_92_code 38 = .ok (.iload_n 1, 1) := by decide +kernel
theorem d_33_39 : decode jdk_42_method_92_code 39 = .ok (.iload 4, 2) := by decide +kernel
theorem d_33_41 : decode jdk_42_method_92_code 41 = .ok (.invokestatic 685, 3) := by decide +kernel
theorem pd___BII_Ljava_lang_String_ : parseMethodDescriptor "([BII)Ljava/lang/String;" = some ⟨[(.array .byte), .int, .int], some (.object "java/lang/String")⟩ := by decide +kernel
theorem d_33_44 : decode jdk_42_method_92_code 44 = .ok (.goto 13, 3) := by decide +kernel
theorem d_33_57 : decode jdk_42_method_92_code 57 = .ok (.areturn, 1) := by decide +kernel
set_option maxRecDepth 65536 in
set_option maxHeartbeats 40000000 in
theorem rm_sub0 (l : Launch) (Z : State) (a0 : Array Value) (hw : ∀ d ∈ tables_1, d.before a0 Z = true) (a0_ a1 : Addr) (ka : ClassId) (cs : List Int32) (mm : Nat) (zc : Int32) (fm : Value) (h0 : Heap) (S_a0 : Str Z h0 a0_ a1 cs) (F_value : Fld Z h0 a0_ "java/lang/String" "value" "[B" (.ref a1)) (F_coder : Fld Z h0 a0_ "java/lang/String" "coder" "B" (.int (0 : Int32))) (V_a1 : Arv Z h0 a1 ka .byte (Int32.ofNat cs.length) (cs.map fun c => Value.int (StrChars.lo8 c)) (.int (0 : Int32))) (hle8 : cs.length ≤ 8) (hbr : ∀ c ∈ cs, ¬ c < 0 ∧ ¬ (65535 : Int32) < c) (hla : ∀ c ∈ cs, ¬ (255 : Int32) < c) (hmle : mm ≤ cs.length) (Z_ad : Sta Z h0 "java/lang/StringUTF16" "$assertionsDisabled" "Z" (.int (1 : Int32))) (Z_hs : Sta Z h0 "java/lang/StringUTF16" "HI_BYTE_SHIFT" "I" (.int (0 : Int32))) (Z_ls : Sta Z h0 "java/lang/StringUTF16" "LO_BYTE_SHIFT" "I" (.int (8 : Int32))) (Z_fm : Sta Z h0 "jdk/internal/util/Preconditions" "SIOOBE_FORMATTER" "Ljava/util/function/BiFunction;" fm) (hfm : fm.isRef = true) (Z_cs : Sta Z h0 "java/lang/String" "COMPACT_STRINGS" "Z" (.int zc)) (hz : ¬ zc = 0) :
    MeetsH l Z consts_1 (⟨"java/lang/String", "substring", "(II)Ljava/lang/String;"⟩ : MethodName) jdk_42_method_92_code 5 (some (.object "java/lang/String")) ({ frames := 7, cells := 12, slots := 80, locals := 150 } : Room) #[(.ref a0_), (.int (0 : Int32)), (.int (Int32.ofNat mm))] h0 (fun v h L => Mv h0 h [] L ∧ ∃ a t : Addr, v = some (.ref a) ∧ Str Z h a t (List.take mm cs)) := by
  refine MeetsH.of (plainFor_of_name pn_java_lang_String) ?_
  intro p e s m below meth c s₁ P hx hby hml hZ hown hnm hret hlk X0 e0 hS RH K
  have hk : h0.size ≤ h0.size := Nat.le_refl _
  replace hZ : Z.Warmed39 (s.setVm s.vm).vm := hZ
  replace hown : (s.setVm s.vm).vm.findClass "java/lang/String" = some m.cls := hown
  have M0 : Mv h0 h0 [] [] := Mv.refl _ _
  refine Go.cast (ef_rm_sub0 m a0_ (0 : Int32) (Int32.ofNat mm) ) ?_
  have hl : cs.length ≤ 4000 := by omega
  refine Go.of (T' := s₁) (f' := (mkF m 1 #[sR a0_, sI 0, sI (Int32.ofNat mm), .unset, .unset] [(.ref a0_)])) (fun _ k => XS.aloadN X0.here hx rfl (hb hby d_33_0) rfl rfl k) ?_
  refine goV X0 hx hZ (y := (⟨"java/lang/String", "length", "()I"⟩ : MethodName)) (z := (⟨"java/lang/String", "length", "()I"⟩ : MethodName)) hown (hw _ (List.mem_of_getElem? (i := 88) rfl)) (hw _ (List.mem_of_getElem? (i := 89) rfl)) (notFace_of_selects (args := #[]) (mvT hZ (hw _ (List.mem_of_getElem? (i := 91) rfl)))) (hw _ (List.mem_of_getElem? (i := 91) rfl)) (hw _ (List.mem_of_getElem? (i := 90) rfl)) (by decide) (C := 0) (S := 0) (lenStr (W := 0) hZ (hw_wordsLen hw) (hw _ (List.mem_of_getElem? (i := 9) rfl)) S_a0 Z_cs hz (by decide) (by decide)) e0 S_a0.exa (argsL := []) (rest := []) (by rw [hml]; rfl) (lenOf pd___I rfl) rfl rfl (hb hby d_33_1) (Nat.le_of_eq rfl) (by decide) (by decide) ?_
  intro v1 T1 L1 X1 hQ1
  obtain ⟨nq1, e1, rfl⟩ := hQ1
  replace X1 := standNil X1 nq1
  show Go p e below P T1 (mkF m 4 #[sR a0_, sI 0, sI (Int32.ofNat mm), .unset, .unset] [(.int (Int32.ofNat cs.length))])
  refine Go.of (T' := T1) (f' := (mkF m 5 #[sR a0_, sI 0, sI (Int32.ofNat mm), sI (Int32.ofNat cs.length), .unset] [])) (fun _ k => XS.istoreN X1.here hx rfl (hb hby d_33_4) rfl (l' := #[sR a0_, sI 0, sI (Int32.ofNat mm), sI (Int32.ofNat cs.length), .unset]) rfl k) ?_
  refine Go.of (T' := T1) (f' := (mkF m 6 #[sR a0_, sI 0, sI (Int32.ofNat mm), sI (Int32.ofNat cs.length), .unset] [(.int (0 : Int32))])) (fun _ k => XS.iloadN X1.here hx rfl (hb hby d_33_5) rfl k) ?_
  refine Go.of (T' := T1) (f' := (mkF m 7 #[sR a0_, sI 0, sI (Int32.ofNat mm), sI (Int32.ofNat cs.length), .unset] [(.int (Int32.ofNat mm)), (.int (0 : Int32))])) (fun _ k => XS.iloadN X1.here hx rfl (hb hby d_33_6) rfl k) ?_
  refine Go.of (T' := T1) (f' := (mkF m 8 #[sR a0_, sI 0, sI (Int32.ofNat mm), sI (Int32.ofNat cs.length), .unset] [(.int (Int32.ofNat cs.length)), (.int (Int32.ofNat mm)), (.int (0 : Int32))])) (fun _ k => XS.iloadN X1.here hx rfl (hb hby d_33_7) rfl k) ?_
  refine goS X1 hx hZ hown (hw _ (List.mem_of_getElem? (i := 98) rfl)) (hw _ (List.mem_of_getElem? (i := 99) rfl)) (hw _ (List.mem_of_getElem? (i := 10) rfl)) (hw _ (List.mem_of_getElem? (i := 100) rfl)) (by decide) (C := 0) (S := 0) ((rm_cbe l Z a0 hw mm cs.length fm h0 Z_fm hfm hmle hl).bk (W := 0) hZ (hw _ (List.mem_of_getElem? (i := 100) rfl)) (hw _ (List.mem_of_getElem? (i := 10) rfl)) (by decide) (by decide)) e1 (argsL := [(.int (0 : Int32)), (.int (Int32.ofNat mm)), (.int (Int32.ofNat cs.length))]) (rest := []) (by rw [hml]; rfl) (lenOf pd__III_V rfl) rfl rfl (hb hby d_33_8) (Nat.le_of_eq rfl) (by decide) (by decide) ?_
  intro v2 T2 L2 X2 hQ2
  obtain ⟨nq2, e2, rfl⟩ := hQ2
  replace X2 := standNil X2 nq2
  show Go p e below P T2 (mkF m 11 #[sR a0_, sI 0, sI (Int32.ofNat mm), sI (Int32.ofNat cs.length), .unset] [])
  refine Go.of (T' := T2) (f' := (mkF m 12 #[sR a0_, sI 0, sI (Int32.ofNat mm), sI (Int32.ofNat cs.length), .unset] [(.int (0 : Int32))])) (fun _ k => XS.iloadN X2.here hx rfl (hb hby d_33_11) rfl k) ?_
  refine Go.of (T' := T2) (f' := (mkF m 15 #[sR a0_, sI 0, sI (Int32.ofNat mm), sI (Int32.ofNat cs.length), .unset] [])) (fun _ k => XS.ifNo X2.here hx rfl (hb hby d_33_12) rfl (by decide) k) ?_
  refine Go.of (T' := T2) (f' := (mkF m 16 #[sR a0_, sI 0, sI (Int32.ofNat mm), sI (Int32.ofNat cs.length), .unset] [(.int (Int32.ofNat mm))])) (fun _ k => XS.iloadN X2.here hx rfl (hb hby d_33_15) rfl k) ?_
  refine Go.of (T' := T2) (f' := (mkF m 17 #[sR a0_, sI 0, sI (Int32.ofNat mm), sI (Int32.ofNat cs.length), .unset] [(.int (Int32.ofNat cs.length)), (.int (Int32.ofNat mm))])) (fun _ k => XS.iloadN X2.here hx rfl (hb hby d_33_16) rfl k) ?_
  by_cases hc17 : (Int32.ofNat mm) = (Int32.ofNat cs.length)
  ·
    refine Go.of (T' := T2) (f' := (mkF m 20 #[sR a0_, sI 0, sI (Int32.ofNat mm), sI (Int32.ofNat cs.length), .unset] [])) (fun _ k => XS.icmpNo X2.here hx rfl (hb hby d_33_17) rfl (teq hc17).2 k) ?_
    refine Go.of (T' := T2) (f' := (mkF m 21 #[sR a0_, sI 0, sI (Int32.ofNat mm), sI (Int32.ofNat cs.length), .unset] [(.ref a0_)])) (fun _ k => XS.aloadN X2.here hx rfl (hb hby d_33_20) rfl rfl k) ?_
    exact goRetRH (Q := fun v h L => Mv h0 h [] L ∧ ∃ a t : Addr, v = some (.ref a) ∧ Str Z h a t (List.take mm cs)) X2 hx hZ hS hk (hEL_1 hw) RH hret rfl hlk rfl rfl (hb hby d_33_21) K (by decide) (by decide) e2 (⟨M0, a0_, a1, rfl, by rw [show mm = cs.length from ofk (by omega) (by omega) hc17, List.take_length]; exact S_a0⟩)
  ·
    refine Go.of (T' := T2) (f' := (mkF m 22 #[sR a0_, sI 0, sI (Int32.ofNat mm), sI (Int32.ofNat cs.length), .unset] [])) (fun _ k => XS.icmpYes X2.here hx rfl (pc0 := 17) (pc' := 22) rfl (hb hby d_33_17) rfl (feq hc17).2 (by decide) (by decide) k) ?_
    have hm : mm < cs.length := Nat.lt_of_le_of_ne hmle fun q => hc17 (by rw [q])
    refine Go.of (T' := T2) (f' := (mkF m 23 #[sR a0_, sI 0, sI (Int32.ofNat mm), sI (Int32.ofNat cs.length), .unset] [(.int (Int32.ofNat mm))])) (fun _ k => XS.iloadN X2.here hx rfl (hb hby d_33_22) rfl k) ?_
    refine Go.of (T' := T2) (f' := (mkF m 24 #[sR a0_, sI 0, sI (Int32.ofNat mm), sI (Int32.ofNat cs.length), .unset] [(.int (0 : Int32)), (.int (Int32.ofNat mm))])) (fun _ k => XS.iloadN X2.here hx rfl (hb hby d_33_23) rfl k) ?_
    refine Go.of (T' := T2) (f' := (mkF m 25 #[sR a0_, sI 0, sI (Int32.ofNat mm), sI (Int32.ofNat cs.length), .unset] [(.int ((Int32.ofNat mm) - (0 : Int32)))])) (fun _ k => XS.isub X2.here hx rfl (hb hby d_33_24) rfl k) ?_
    rw [Int32.sub_zero]
    show Go p e below P T2 (mkF m 25 #[sR a0_, sI 0, sI (Int32.ofNat mm), sI (Int32.ofNat cs.length), .unset] [(.int (Int32.ofNat mm))])
    refine Go.of (T' := T2) (f' := (mkF m 27 #[sR a0_, sI 0, sI (Int32.ofNat mm), sI (Int32.ofNat cs.length), sI (Int32.ofNat mm)] [])) (fun _ k => XS.istore X2.here hx rfl (hb hby d_33_25) rfl (l' := #[sR a0_, sI 0, sI (Int32.ofNat mm), sI (Int32.ofNat cs.length), sI (Int32.ofNat mm)]) rfl k) ?_
    refine Go.of (T' := T2) (f' := (mkF m 28 #[sR a0_, sI 0, sI (Int32.ofNat mm), sI (Int32.ofNat cs.length), sI (Int32.ofNat mm)] [(.ref a0_)])) (fun _ k => XS.aloadN X2.here hx rfl (hb hby d_33_27) rfl rfl k) ?_
    refine goV X2 hx hZ (y := (⟨"java/lang/String", "isLatin1", "()Z"⟩ : MethodName)) (z := (⟨"java/lang/String", "isLatin1", "()Z"⟩ : MethodName)) hown (hw _ (List.mem_of_getElem? (i := 51) rfl)) (hw _ (List.mem_of_getElem? (i := 52) rfl)) (notFace_of_selects (args := #[]) (mvT hZ (hw _ (List.mem_of_getElem? (i := 54) rfl)))) (hw _ (List.mem_of_getElem? (i := 54) rfl)) (hw _ (List.mem_of_getElem? (i := 53) rfl)) (by decide) (C := 0) (S := 0) ((rm_isL0 l Z a0 hw a0_ zc h0 F_coder Z_cs hz).bk (W := 0) hZ (hw _ (List.mem_of_getElem? (i := 55) rfl)) (hw _ (List.mem_of_getElem? (i := 10) rfl)) (by decide) (by decide)) e2 S_a0.exa (argsL := []) (rest := []) (by rw [hml]; rfl) (lenOf pd___Z rfl) rfl rfl (hb hby d_33_28) (Nat.le_of_eq rfl) (by decide) (by decide) ?_
    intro v3 T3 L3 X3 hQ3
    obtain ⟨nq3, e3, rfl⟩ := hQ3
    replace X3 := standNil X3 nq3
    show Go p e below P T3 (mkF m 31 #[sR a0_, sI 0, sI (Int32.ofNat mm), sI (Int32.ofNat cs.length), sI (Int32.ofNat mm)] [(.int (1 : Int32))])
    refine Go.of (T' := T3) (f' := (mkF m 34 #[sR a0_, sI 0, sI (Int32.ofNat mm), sI (Int32.ofNat cs.length), sI (Int32.ofNat mm)] [])) (fun _ k => XS.ifNo X3.here hx rfl (hb hby d_33_31) rfl (by decide) k) ?_
    refine Go.of (T' := T3) (f' := (mkF m 35 #[sR a0_, sI 0, sI (Int32.ofNat mm), sI (Int32.ofNat cs.length), sI (Int32.ofNat mm)] [(.ref a0_)])) (fun _ k => XS.aloadN X3.here hx rfl (hb hby d_33_34) rfl rfl k) ?_
    obtain ⟨T4, X4, e4, st4⟩ := getF X3 hx hZ hown (host := "") (Or.inl (hw _ (List.mem_of_getElem? (i := 35) rfl))) Via.refl e3 F_value (g := (mkF m 35 #[sR a0_, sI 0, sI (Int32.ofNat mm), sI (Int32.ofNat cs.length), sI (Int32.ofNat mm)] [(.ref a0_)])) rfl rfl (hb hby d_33_35)
    refine Go.of (T' := T4) (f' := (mkF m 38 #[sR a0_, sI 0, sI (Int32.ofNat mm), sI (Int32.ofNat cs.length), sI (Int32.ofNat mm)] [(.ref a1)])) st4 ?_
    refine Go.of (T' := T4) (f' := (mkF m 39 #[sR a0_, sI 0, sI (Int32.ofNat mm), sI (Int32.ofNat cs.length), sI (Int32.ofNat mm)] [(.int (0 : Int32)), (.ref a1)])) (fun _ k => XS.iloadN X4.here hx rfl (hb hby d_33_38) rfl k) ?_
    refine Go.of (T' := T4) (f' := (mkF m 41 #[sR a0_, sI 0, sI (Int32.ofNat mm), sI (Int32.ofNat cs.length), sI (Int32.ofNat mm)] [(.int (Int32.ofNat mm)), (.int (0 : Int32)), (.ref a1)])) (fun _ k => XS.iload X4.here hx rfl (hb hby d_33_39) rfl k) ?_
    refine goSH X4 hx hZ hown (hw _ (List.mem_of_getElem? (i := 113) rfl)) (hw _ (List.mem_of_getElem? (i := 114) rfl)) (hw _ (List.mem_of_getElem? (i := 58) rfl)) (hw _ (List.mem_of_getElem? (i := 115) rfl)) (by decide) (W := 0) (C := 2) (S := 20) (rm_nwL l Z a0 hw a1 ka cs mm h0 V_a1 hle8 hbr hla hm) rfl rfl (by decide) (by decide) hS hk (hEL_1 hw) RH.1 e4 (argsL := [(.ref a1), (.int (0 : Int32)), (.int (Int32.ofNat mm))]) (rest := []) (by rw [hml]; rfl) (lenOf pd___BII_Ljava_lang_String_ rfl) rfl rfl (hb hby d_33_41) (Nat.le_of_eq rfl) (by decide) (by decide) ?_
    intro v5 T5 L5 X5 hQ5 hS5 hZ5 hown5 A5
    obtain ⟨h5, e5⟩ : ∃ z, T5.heap = z := ⟨_, rfl⟩
    rw [e5] at hQ5 hS5 A5
    obtain ⟨Mc5, a5, t5, rfl, S_a5⟩ := hQ5
    have M5 := M0.app0 Mc5
    clear hS hk
    replace RH := RH.trans A5
    replace S_a0 := S_a0.keep Mc5.1 nin0 nin0
    replace F_value := F_value.keep Mc5.1 nin0
    replace F_coder := F_coder.keep Mc5.1 nin0
    replace V_a1 := V_a1.keep Mc5.1 nin0
    replace Z_ad := StaKeep Z_ad Mc5.1 all0
    replace Z_hs := StaKeep Z_hs Mc5.1 all0
    replace Z_ls := StaKeep Z_ls Mc5.1 all0
    replace Z_fm := StaKeep Z_fm Mc5.1 all0
    replace Z_cs := StaKeep Z_cs Mc5.1 all0
    have hS := hS5
    have hk : h5.size ≤ h5.size := Nat.le_refl _
    replace hZ := hZ5
    replace hown := hown5
    show Go p e below P T5 (mkF m 44 #[sR a0_, sI 0, sI (Int32.ofNat mm), sI (Int32.ofNat cs.length), sI (Int32.ofNat mm)] [(.ref a5)])
    refine Go.of (T' := T5) (f' := (mkF m 57 #[sR a0_, sI 0, sI (Int32.ofNat mm), sI (Int32.ofNat cs.length), sI (Int32.ofNat mm)] [(.ref a5)])) (fun _ k => XS.goto X5.here hx rfl (pc0 := 44) (pc' := 57) rfl (hb hby d_33_44) (by decide) (by decide) k) ?_
    exact goRetRH (Q := fun v h L => Mv h0 h [] L ∧ ∃ a t : Addr, v = some (.ref a) ∧ Str Z h a t (List.take mm cs)) X5 hx hZ hS hk (hEL_1 hw) RH hret rfl hlk rfl rfl (hb hby d_33_57) K (by decide) (by decide) e5 (⟨M5, a5, t5, rfl, S_a5⟩)
theorem ef_rm_sub1 (m : MethodId) (x0 : Addr) (x1 : Int32) (x2 : Int32)  : entryFrame m #[(.ref x0), (.int x1), (.int x2)] 5 = mkF m 0 #[.val (.ref x0), .val (.int x1), .val (.int x2), .unset, .unset] [] := by first | (simp [entryFrame, mkF, argsToLocals, Value.category]; done) | rfl
theorem d_33_47 : decode jdk_42_method_92_code 47 = .ok (.aload_n 0, 1) := by decide +kernel
theorem d_33_48 : decode jdk_42_method_92_code 48 = .ok (.getfield 9, 3) := by decide +kernel
theorem d_33_51 : decode jdk_42_method_92_code 51 = .ok (.iload_n 1, 1) := by decide +kernel
theorem d_33_52 : decode jdk_42_method_92_code 52 = .ok (.iload 4, 2) := by decide +kernel
theorem d_33_54 : decode jdk_42_method_92_code 54 = .ok (.invokestatic 689, 3) := by decide +kernel
set_option maxRecDepth 65536 in
set_option maxHeartbeats 40000000 in
theorem rm_sub1 (l : Launch) (Z : State) (a0 : Array Value) (hw : ∀ d ∈ tables_1, d.before a0 Z = true) (a0_ a1 : Addr) (ka : ClassId) (cs : List Int32) (mm : Nat) (zc : Int32) (fm : Value) (h0 : Heap) (S_a0 : Str Z h0 a0_ a1 cs) (F_value : Fld Z h0 a0_ "java/lang/String" "value" "[B" (.ref a1)) (F_coder : Fld Z h0 a0_ "java/lang/String" "coder" "B" (.int (1 : Int32))) (V_a1 : Arv Z h0 a1 ka .byte (Int32.ofNat (2 * cs.length)) (StrChars.Road.wideBytes cs) (.int (0 : Int32))) (hle8 : cs.length ≤ 8) (hp1 : 1 ≤ cs.length) (hbr : ∀ c ∈ cs, ¬ c < 0 ∧ ¬ (65535 : Int32) < c) (hmle : mm ≤ cs.length) (Z_ad : Sta Z h0 "java/lang/StringUTF16" "$assertionsDisabled" "Z" (.int (1 : Int32))) (Z_hs : Sta Z h0 "java/lang/StringUTF16" "HI_BYTE_SHIFT" "I" (.int (0 : Int32))) (Z_ls : Sta Z h0 "java/lang/StringUTF16" "LO_BYTE_SHIFT" "I" (.int (8 : Int32))) (Z_fm : Sta Z h0 "jdk/internal/util/Preconditions" "SIOOBE_FORMATTER" "Ljava/util/function/BiFunction;" fm) (hfm : fm.isRef = true) (Z_cs : Sta Z h0 "java/lang/String" "COMPACT_STRINGS" "Z" (.int zc)) (hz : ¬ zc = 0) :
    MeetsH l Z consts_1 (⟨"java/lang/String", "substring", "(II)Ljava/lang/String;"⟩ : MethodName) jdk_42_method_92_code 5 (some (.object "java/lang/String")) ({ frames := 7, cells := 12, slots := 80, locals := 150 } : Room) #[(.ref a0_), (.int (0 : Int32)), (.int (Int32.ofNat mm))] h0 (fun v h L => Mv h0 h [] L ∧ ∃ a t : Addr, v = some (.ref a) ∧ Str Z h a t (List.take mm cs)) := by
  refine MeetsH.of (plainFor_of_name pn_java_lang_String) ?_
  intro p e s m below meth c s₁ P hx hby hml hZ hown hnm hret hlk X0 e0 hS RH K
  have hk : h0.size ≤ h0.size := Nat.le_refl _
  replace hZ : Z.Warmed39 (s.setVm s.vm).vm := hZ
  replace hown : (s.setVm s.vm).vm.findClass "java/lang/String" = some m.cls := hown
  have M0 : Mv h0 h0 [] [] := Mv.refl _ _
  refine Go.cast (ef_rm_sub1 m a0_ (0 : Int32) (Int32.ofNat mm) ) ?_
  have hl : cs.length ≤ 4000 := by omega
  refine Go.of (T' := s₁) (f' := (mkF m 1 #[sR a0_, sI 0, sI (Int32.ofNat mm), .unset, .unset] [(.ref a0_)])) (fun _ k => XS.aloadN X0.here hx rfl (hb hby d_33_0) rfl rfl k) ?_
  refine goV X0 hx hZ (y := (⟨"java/lang/String", "length", "()I"⟩ : MethodName)) (z := (⟨"java/lang/String", "length", "()I"⟩ : MethodName)) hown (hw _ (List.mem_of_getElem? (i := 88) rfl)) (hw _ (List.mem_of_getElem? (i := 89) rfl)) (notFace_of_selects (args := #[]) (mvT hZ (hw _ (List.mem_of_getElem? (i := 91) rfl)))) (hw _ (List.mem_of_getElem? (i := 91) rfl)) (hw _ (List.mem_of_getElem? (i := 90) rfl)) (by decide) (C := 0) (S := 0) (lenStr (W := 0) hZ (hw_wordsLen hw) (hw _ (List.mem_of_getElem? (i := 9) rfl)) S_a0 Z_cs hz (by decide) (by decide)) e0 S_a0.exa (argsL := []) (rest := []) (by rw [hml]; rfl) (lenOf pd___I rfl) rfl rfl (hb hby d_33_1) (Nat.le_of_eq rfl) (by decide) (by decide) ?_
  intro v1 T1 L1 X1 hQ1
  obtain ⟨nq1, e1, rfl⟩ := hQ1
  replace X1 := standNil X1 nq1
  show Go p e below P T1 (mkF m 4 #[sR a0_, sI 0, sI (Int32.ofNat mm), .unset, .unset] [(.int (Int32.ofNat cs.length))])
  refine Go.of (T' := T1) (f' := (mkF m 5 #[sR a0_, sI 0, sI (Int32.ofNat mm), sI (Int32.ofNat cs.length), .unset] [])) (fun _ k => XS.istoreN X1.here hx rfl (hb hby d_33_4) rfl (l' := #[sR a0_, sI 0, sI (Int32.ofNat mm), sI (Int32.ofNat cs.length), .unset]) rfl k) ?_
  refine Go.of (T' := T1) (f' := (mkF m 6 #[sR a0_, sI 0, sI (Int32.ofNat mm), sI (Int32.ofNat cs.length), .unset] [(.int (0 : Int32))])) (fun _ k => XS.iloadN X1.here hx rfl (hb hby d_33_5) rfl k) ?_
  refine Go.of (T' := T1) (f' := (mkF m 7 #[sR a0_, sI 0, sI (Int32.ofNat mm), sI (Int32.ofNat cs.length), .unset] [(.int (Int32.ofNat mm)), (.int (0 : Int32))])) (fun _ k => XS.iloadN X1.here hx rfl (hb hby d_33_6) rfl k) ?_
  refine Go.of (T' := T1) (f' := (mkF m 8 #[sR a0_, sI 0, sI (Int32.ofNat mm), sI (Int32.ofNat cs.length), .unset] [(.int (Int32.ofNat cs.length)), (.int (Int32.ofNat mm)), (.int (0 : Int32))])) (fun _ k => XS.iloadN X1.here hx rfl (hb hby d_33_7) rfl k) ?_
  refine goS X1 hx hZ hown (hw _ (List.mem_of_getElem? (i := 98) rfl)) (hw _ (List.mem_of_getElem? (i := 99) rfl)) (hw _ (List.mem_of_getElem? (i := 10) rfl)) (hw _ (List.mem_of_getElem? (i := 100) rfl)) (by decide) (C := 0) (S := 0) ((rm_cbe l Z a0 hw mm cs.length fm h0 Z_fm hfm hmle hl).bk (W := 0) hZ (hw _ (List.mem_of_getElem? (i := 100) rfl)) (hw _ (List.mem_of_getElem? (i := 10) rfl)) (by decide) (by decide)) e1 (argsL := [(.int (0 : Int32)), (.int (Int32.ofNat mm)), (.int (Int32.ofNat cs.length))]) (rest := []) (by rw [hml]; rfl) (lenOf pd__III_V rfl) rfl rfl (hb hby d_33_8) (Nat.le_of_eq rfl) (by decide) (by decide) ?_
  intro v2 T2 L2 X2 hQ2
  obtain ⟨nq2, e2, rfl⟩ := hQ2
  replace X2 := standNil X2 nq2
  show Go p e below P T2 (mkF m 11 #[sR a0_, sI 0, sI (Int32.ofNat mm), sI (Int32.ofNat cs.length), .unset] [])
  refine Go.of (T' := T2) (f' := (mkF m 12 #[sR a0_, sI 0, sI (Int32.ofNat mm), sI (Int32.ofNat cs.length), .unset] [(.int (0 : Int32))])) (fun _ k => XS.iloadN X2.here hx rfl (hb hby d_33_11) rfl k) ?_
  refine Go.of (T' := T2) (f' := (mkF m 15 #[sR a0_, sI 0, sI (Int32.ofNat mm), sI (Int32.ofNat cs.length), .unset] [])) (fun _ k => XS.ifNo X2.here hx rfl (hb hby d_33_12) rfl (by decide) k) ?_
  refine Go.of (T' := T2) (f' := (mkF m 16 #[sR a0_, sI 0, sI (Int32.ofNat mm), sI (Int32.ofNat cs.length), .unset] [(.int (Int32.ofNat mm))])) (fun _ k => XS.iloadN X2.here hx rfl (hb hby d_33_15) rfl k) ?_
  refine Go.of (T' := T2) (f' := (mkF m 17 #[sR a0_, sI 0, sI (Int32.ofNat mm), sI (Int32.ofNat cs.length), .unset] [(.int (Int32.ofNat cs.length)), (.int (Int32.ofNat mm))])) (fun _ k => XS.iloadN X2.here hx rfl (hb hby d_33_16) rfl k) ?_
  by_cases hc17 : (Int32.ofNat mm) = (Int32.ofNat cs.length)
  ·
    refine Go.of (T' := T2) (f' := (mkF m 20 #[sR a0_, sI 0, sI (Int32.ofNat mm), sI (Int32.ofNat cs.length), .unset] [])) (fun _ k => XS.icmpNo X2.here hx rfl (hb hby d_33_17) rfl (teq hc17).2 k) ?_
    refine Go.of (T' := T2) (f' := (mkF m 21 #[sR a0_, sI 0, sI (Int32.ofNat mm), sI (Int32.ofNat cs.length), .unset] [(.ref a0_)])) (fun _ k => XS.aloadN X2.here hx rfl (hb hby d_33_20) rfl rfl k) ?_
    exact goRetRH (Q := fun v h L => Mv h0 h [] L ∧ ∃ a t : Addr, v = some (.ref a) ∧ Str Z h a t (List.take mm cs)) X2 hx hZ hS hk (hEL_1 hw) RH hret rfl hlk rfl rfl (hb hby d_33_21) K (by decide) (by decide) e2 (⟨M0, a0_, a1, rfl, by rw [show mm = cs.length from ofk (by omega) (by omega) hc17, List.take_length]; exact S_a0⟩)
  ·
    refine Go.of (T' := T2) (f' := (mkF m 22 #[sR a0_, sI 0, sI (Int32.ofNat mm), sI (Int32.ofNat cs.length), .unset] [])) (fun _ k => XS.icmpYes X2.here hx rfl (pc0 := 17) (pc' := 22) rfl (hb hby d_33_17) rfl (feq hc17).2 (by decide) (by decide) k) ?_
    have hm : mm < cs.length := Nat.lt_of_le_of_ne hmle fun q => hc17 (by rw [q])
    refine Go.of (T' := T2) (f' := (mkF m 23 #[sR a0_, sI 0, sI (Int32.ofNat mm), sI (Int32.ofNat cs.length), .unset] [(.int (Int32.ofNat mm))])) (fun _ k => XS.iloadN X2.here hx rfl (hb hby d_33_22) rfl k) ?_
    refine Go.of (T' := T2) (f' := (mkF m 24 #[sR a0_, sI 0, sI (Int32.ofNat mm), sI (Int32.ofNat cs.length), .unset] [(.int (0 : Int32)), (.int (Int32.ofNat mm))])) (fun _ k => XS.iloadN X2.here hx rfl (hb hby d_33_23) rfl k) ?_
    refine Go.of (T' := T2) (f' := (mkF m 25 #[sR a0_, sI 0, sI (Int32.ofNat mm), sI (Int32.ofNat cs.length), .unset] [(.int ((Int32.ofNat mm) - (0 : Int32)))])) (fun _ k => XS.isub X2.here hx rfl (hb hby d_33_24) rfl k) ?_
    rw [Int32.sub_zero]
    show Go p e below P T2 (mkF m 25 #[sR a0_, sI 0, sI (Int32.ofNat mm), sI (Int32.ofNat cs.length), .unset] [(.int (Int32.ofNat mm))])
    refine Go.of (T' := T2) (f' := (mkF m 27 #[sR a0_, sI 0, sI (Int32.ofNat mm), sI (Int32.ofNat cs.length), sI (Int32.ofNat mm)] [])) (fun _ k => XS.istore X2.here hx rfl (hb hby d_33_25) rfl (l' := #[sR a0_, sI 0, sI (Int32.ofNat mm), sI (Int32.ofNat cs.length), sI (Int32.ofNat mm)]) rfl k) ?_
    refine Go.of (T' := T2) (f' := (mkF m 28 #[sR a0_, sI 0, sI (Int32.ofNat mm), sI (Int32.ofNat cs.length), sI (Int32.ofNat mm)] [(.ref a0_)])) (fun _ k => XS.aloadN X2.here hx rfl (hb hby d_33_27) rfl rfl k) ?_
    refine goV X2 hx hZ (y := (⟨"java/lang/String", "isLatin1", "()Z"⟩ : MethodName)) (z := (⟨"java/lang/String", "isLatin1", "()Z"⟩ : MethodName)) hown (hw _ (List.mem_of_getElem? (i := 51) rfl)) (hw _ (List.mem_of_getElem? (i := 52) rfl)) (notFace_of_selects (args := #[]) (mvT hZ (hw _ (List.mem_of_getElem? (i := 54) rfl)))) (hw _ (List.mem_of_getElem? (i := 54) rfl)) (hw _ (List.mem_of_getElem? (i := 53) rfl)) (by decide) (C := 0) (S := 0) ((rm_isL l Z a0 hw a0_ zc h0 F_coder Z_cs hz).bk (W := 0) hZ (hw _ (List.mem_of_getElem? (i := 55) rfl)) (hw _ (List.mem_of_getElem? (i := 10) rfl)) (by decide) (by decide)) e2 S_a0.exa (argsL := []) (rest := []) (by rw [hml]; rfl) (lenOf pd___Z rfl) rfl rfl (hb hby d_33_28) (Nat.le_of_eq rfl) (by decide) (by decide) ?_
    intro v3 T3 L3 X3 hQ3
    obtain ⟨nq3, e3, rfl⟩ := hQ3
    replace X3 := standNil X3 nq3
    show Go p e below P T3 (mkF m 31 #[sR a0_, sI 0, sI (Int32.ofNat mm), sI (Int32.ofNat cs.length), sI (Int32.ofNat mm)] [(.int (0 : Int32))])
    refine Go.of (T' := T3) (f' := (mkF m 47 #[sR a0_, sI 0, sI (Int32.ofNat mm), sI (Int32.ofNat cs.length), sI (Int32.ofNat mm)] [])) (fun _ k => XS.ifYes X3.here hx rfl (pc0 := 31) (pc' := 47) rfl (hb hby d_33_31) rfl (by decide) (by decide) (by decide) k) ?_
    refine Go.of (T' := T3) (f' := (mkF m 48 #[sR a0_, sI 0, sI (Int32.ofNat mm), sI (Int32.ofNat cs.length), sI (Int32.ofNat mm)] [(.ref a0_)])) (fun _ k => XS.aloadN X3.here hx rfl (hb hby d_33_47) rfl rfl k) ?_
    obtain ⟨T4, X4, e4, st4⟩ := getF X3 hx hZ hown (host := "") (Or.inl (hw _ (List.mem_of_getElem? (i := 35) rfl))) Via.refl e3 F_value (g := (mkF m 48 #[sR a0_, sI 0, sI (Int32.ofNat mm), sI (Int32.ofNat cs.length), sI (Int32.ofNat mm)] [(.ref a0_)])) rfl rfl (hb hby d_33_48)
    refine Go.of (T' := T4) (f' := (mkF m 51 #[sR a0_, sI 0, sI (Int32.ofNat mm), sI (Int32.ofNat cs.length), sI (Int32.ofNat mm)] [(.ref a1)])) st4 ?_
    refine Go.of (T' := T4) (f' := (mkF m 52 #[sR a0_, sI 0, sI (Int32.ofNat mm), sI (Int32.ofNat cs.length), sI (Int32.ofNat mm)] [(.int (0 : Int32)), (.ref a1)])) (fun _ k => XS.iloadN X4.here hx rfl (hb hby d_33_51) rfl k) ?_
    refine Go.of (T' := T4) (f' := (mkF m 54 #[sR a0_, sI 0, sI (Int32.ofNat mm), sI (Int32.ofNat cs.length), sI (Int32.ofNat mm)] [(.int (Int32.ofNat mm)), (.int (0 : Int32)), (.ref a1)])) (fun _ k => XS.iload X4.here hx rfl (hb hby d_33_52) rfl k) ?_
    refine goSH X4 hx hZ hown (hw _ (List.mem_of_getElem? (i := 176) rfl)) (hw _ (List.mem_of_getElem? (i := 177) rfl)) (hw _ (List.mem_of_getElem? (i := 24) rfl)) (hw _ (List.mem_of_getElem? (i := 178) rfl)) (by decide) (W := 0) (C := 3) (S := 28) (rm_nwU l Z a0 hw a1 ka cs mm zc fm h0 V_a1 hle8 hp1 hbr hm Z_ad Z_hs Z_ls Z_fm hfm Z_cs hz) rfl rfl (by decide) (by decide) hS hk (hEL_1 hw) RH.1 e4 (argsL := [(.ref a1), (.int (0 : Int32)), (.int (Int32.ofNat mm))]) (rest := []) (by rw [hml]; rfl) (lenOf pd___BII_Ljava_lang_String_ rfl) rfl rfl (hb hby d_33_54) (Nat.le_of_eq rfl) (by decide) (by decide) ?_
    intro v5 T5 L5 X5 hQ5 hS5 hZ5 hown5 A5
    obtain ⟨h5, e5⟩ : ∃ z, T5.heap = z := ⟨_, rfl⟩
    rw [e5] at hQ5 hS5 A5
    obtain ⟨Mc5, a5, t5, rfl, S_a5⟩ := hQ5
    have M5 := M0.app0 Mc5
    clear hS hk
    replace RH := RH.trans A5
    replace S_a0 := S_a0.keep Mc5.1 nin0 nin0
    replace F_value := F_value.keep Mc5.1 nin0
    replace F_coder := F_coder.keep Mc5.1 nin0
    replace V_a1 := V_a1.keep Mc5.1 nin0
    replace Z_ad := StaKeep Z_ad Mc5.1 all0
    replace Z_hs := StaKeep Z_hs Mc5.1 all0
    replace Z_ls := StaKeep Z_ls Mc5.1 all0
    replace Z_fm := StaKeep Z_fm Mc5.1 all0
    replace Z_cs := StaKeep Z_cs Mc5.1 all0
    have hS := hS5
    have hk : h5.size ≤ h5.size := Nat.le_refl _
    replace hZ := hZ5
    replace hown := hown5
    show Go p e below P T5 (mkF m 57 #[sR a0_, sI 0, sI (Int32.ofNat mm), sI (Int32.ofNat cs.length), sI (Int32.ofNat mm)] [(.ref a5)])
    exact goRetRH (Q := fun v h L => Mv h0 h [] L ∧ ∃ a t : Addr, v = some (.ref a) ∧ Str Z h a t (List.take mm cs)) X5 hx hZ hS hk (hEL_1 hw) RH hret rfl hlk rfl rfl (hb hby d_33_57) K (by decide) (by decide) e5 (⟨M5, a5, t5, rfl, S_a5⟩)
theorem subAny (l : Launch) (Z : State) (a0 : Array Value) (hw : ∀ d ∈ tables_1, d.before a0 Z = true) (x t : Addr) (cs : List Int32) (mm : Nat) (zc : Int32) (fm : Value) (h0 : Heap) (F : Str Z h0 x t cs) (hle8 : cs.length ≤ 8) (hmle : mm ≤ cs.length) (Z_ad : Sta Z h0 "java/lang/StringUTF16" "$assertionsDisabled" "Z" (.int (1 : Int32))) (Z_hs : Sta Z h0 "java/lang/StringUTF16" "HI_BYTE_SHIFT" "I" (.int (0 : Int32))) (Z_ls : Sta Z h0 "java/lang/StringUTF16" "LO_BYTE_SHIFT" "I" (.int (8 : Int32))) (Z_fm : Sta Z h0 "jdk/internal/util/Preconditions" "SIOOBE_FORMATTER" "Ljava/util/function/BiFunction;" fm) (hfm : fm.isRef = true) (Z_cs : Sta Z h0 "java/lang/String" "COMPACT_STRINGS" "Z" (.int zc)) (hz : ¬ zc = 0) :
    MeetsH l Z consts_1 (⟨"java/lang/String", "substring", "(II)Ljava/lang/String;"⟩ : MethodName) jdk_42_method_92_code 5 (some (.object "java/lang/String")) ({ frames := 7, cells := 12, slots := 80, locals := 150 } : Room) #[.ref x, .int (0 : Int32), .int (Int32.ofNat mm)] h0 (fun v h L => Mv h0 h [] L ∧ ∃ a t : Addr, v = some (.ref a) ∧ Str Z h a t (List.take mm cs)) := by
  obtain ⟨kb, cd, N, vs, E, V, C, A, g1, g2, g3⟩ := id F
  rcases g1 with ⟨rfl, rfl, rfl, q⟩ | ⟨rfl, rfl, rfl, q⟩
  · exact rm_sub0 l Z a0 hw x t kb cs mm zc fm h0 F V C A hle8 g2 q hmle Z_ad Z_hs Z_ls Z_fm hfm Z_cs hz
  · exact rm_sub1 l Z a0 hw x t kb cs mm zc fm h0 F V C A hle8 (by obtain ⟨c, hc, -⟩ := q; exact List.length_pos_of_mem hc) g2 hmle Z_ad Z_hs Z_ls Z_fm hfm Z_cs hz
theorem ef_rm_since (m : MethodId) (x0 : Addr) (x1 : Int32)  : entryFrame m #[(.ref x0), (.int x1)] 2 = mkF m 0 #[.val (.ref x0), .val (.int x1)] [] := by first | (simp [entryFrame, mkF, argsToLocals, Value.category]; done) | rfl
theorem d_34_0 : decode prog_33_method_13_code 0 = .ok (.aload_n 0, 1) := by decide +kernel
theorem d_34_1 : decode prog_33_method_13_code 1 = .ok (.getfield 7, 3) := by decide +kernel
theorem d_34_4 : decode prog_33_method_13_code 4 = .ok (.iload_n 1, 1) := by decide +kernel
theorem d_34_5 : decode prog_33_method_13_code 5 = .ok (.aload_n 0, 1) := by decide +kernel
theorem d_34_6 : decode prog_33_method_13_code 6 = .ok (.getfield 41, 3) := by decide +kernel
theorem d_34_9 : decode prog_33_method_13_code 9 = .ok (.invokevirtual 69, 3) := by decide +kernel
theorem pd__II_Ljava_lang_String_ : parseMethodDescriptor "(II)Ljava/lang/String;" = some ⟨[.int, .int], some (.object "java/lang/String")⟩ := by decide +kernel
theorem d_34_12 : decode prog_33_method_13_code 12 = .ok (.areturn, 1) := by decide +kernel
set_option maxRecDepth 65536 in
set_option maxHeartbeats 40000000 in
theorem rm_since (l : Launch) (Z : State) (a0 : Array Value) (hw : ∀ d ∈ tables_1, d.before a0 Z = true) (a1 tx tt b : Addr) (kb : ClassId) (cs : List Int32) (mm : Nat) (zc : Int32) (fm : Value) (h0 : Heap) (E_a1 : Exa Z h0 a1 "com/example/rezeptkern/rezeptkern/JsonCursor") (F_text : Fld Z h0 a1 "com/example/rezeptkern/rezeptkern/JsonCursor" "text" "Ljava/lang/String;" (.ref tx)) (F_chars : Fld Z h0 a1 "com/example/rezeptkern/rezeptkern/JsonCursor" "chars" "[C" (.ref b)) (F_position : Fld Z h0 a1 "com/example/rezeptkern/rezeptkern/JsonCursor" "position" "I" (.int (Int32.ofNat mm))) (V_b : Arv Z h0 b kb (.char) (Int32.ofNat cs.length) (cs.map Value.int) (.int (0 : Int32))) (S_tx : Str Z h0 tx tt cs) (hle8 : cs.length ≤ 8) (hmle : mm ≤ cs.length) (Z_ad : Sta Z h0 "java/lang/StringUTF16" "$assertionsDisabled" "Z" (.int (1 : Int32))) (Z_hs : Sta Z h0 "java/lang/StringUTF16" "HI_BYTE_SHIFT" "I" (.int (0 : Int32))) (Z_ls : Sta Z h0 "java/lang/StringUTF16" "LO_BYTE_SHIFT" "I" (.int (8 : Int32))) (Z_fm : Sta Z h0 "jdk/internal/util/Preconditions" "SIOOBE_FORMATTER" "Ljava/util/function/BiFunction;" fm) (hfm : fm.isRef = true) (Z_cs : Sta Z h0 "java/lang/String" "COMPACT_STRINGS" "Z" (.int zc)) (hz : ¬ zc = 0) :
    MeetsH l Z consts_1 (⟨"com/example/rezeptkern/rezeptkern/JsonCursor", "since", "(I)Ljava/lang/String;"⟩ : MethodName) prog_33_method_13_code 2 (some (.object "java/lang/String")) ({ frames := 8, cells := 12, slots := 80, locals := 166 } : Room) #[(.ref a1), (.int (0 : Int32))] h0 (fun v h L => Mv h0 h [] L ∧ ∃ a t : Addr, v = some (.ref a) ∧ Str Z h a t (List.take mm cs)) := by
  refine MeetsH.of (plainFor_of_name pn_com_example_rezeptkern_rezeptkern_JsonCursor) ?_
  intro p e s m below meth c s₁ P hx hby hml hZ hown hnm hret hlk X0 e0 hS RH K
  have hk : h0.size ≤ h0.size := Nat.le_refl _
  replace hZ : Z.Warmed39 (s.setVm s.vm).vm := hZ
  replace hown : (s.setVm s.vm).vm.findClass "com/example/rezeptkern/rezeptkern/JsonCursor" = some m.cls := hown
  have M0 : Mv h0 h0 [] [] := Mv.refl _ _
  refine Go.cast (ef_rm_since m a1 (0 : Int32) ) ?_
  have ne_b_a1 : b ≠ a1 := Ne.symm (Exa.neArv E_a1 V_b (hw _ (List.mem_of_getElem? (i := 6) rfl)))
  refine Go.of (T' := s₁) (f' := (mkF m 1 #[sR a1, sI 0] [(.ref a1)])) (fun _ k => XS.aloadN X0.here hx rfl (hb hby d_34_0) rfl rfl k) ?_
  obtain ⟨T1, X1, e1, st1⟩ := getF X0 hx hZ hown (host := "") (Or.inl (hw _ (List.mem_of_getElem? (i := 44) rfl))) Via.refl e0 F_text (g := (mkF m 1 #[sR a1, sI 0] [(.ref a1)])) rfl rfl (hb hby d_34_1)
  refine Go.of (T' := T1) (f' := (mkF m 4 #[sR a1, sI 0] [(.ref tx)])) st1 ?_
  refine Go.of (T' := T1) (f' := (mkF m 5 #[sR a1, sI 0] [(.int (0 : Int32)), (.ref tx)])) (fun _ k => XS.iloadN X1.here hx rfl (hb hby d_34_4) rfl k) ?_
  refine Go.of (T' := T1) (f' := (mkF m 6 #[sR a1, sI 0] [(.ref a1), (.int (0 : Int32)), (.ref tx)])) (fun _ k => XS.aloadN X1.here hx rfl (hb hby d_34_5) rfl rfl k) ?_
  obtain ⟨T2, X2, e2, st2⟩ := getF X1 hx hZ hown (host := "") (Or.inl (hw _ (List.mem_of_getElem? (i := 76) rfl))) Via.refl e1 F_position (g := (mkF m 6 #[sR a1, sI 0] [(.ref a1), (.int (0 : Int32)), (.ref tx)])) rfl rfl (hb hby d_34_6)
  refine Go.of (T' := T2) (f' := (mkF m 9 #[sR a1, sI 0] [(.int (Int32.ofNat mm)), (.int (0 : Int32)), (.ref tx)])) st2 ?_
  refine goVH X2 hx hZ (y := (⟨"java/lang/String", "substring", "(II)Ljava/lang/String;"⟩ : MethodName)) (z := (⟨"java/lang/String", "substring", "(II)Ljava/lang/String;"⟩ : MethodName)) hown (hw _ (List.mem_of_getElem? (i := 83) rfl)) (hw _ (List.mem_of_getElem? (i := 84) rfl)) (notFace_of_selects (args := #[]) (mvT hZ (hw _ (List.mem_of_getElem? (i := 86) rfl)))) (hw _ (List.mem_of_getElem? (i := 86) rfl)) (hw _ (List.mem_of_getElem? (i := 85) rfl)) (hw _ (List.mem_of_getElem? (i := 10) rfl)) (hw _ (List.mem_of_getElem? (i := 87) rfl)) (by decide) (W := 0) (C := 12) (S := 80) (subAny l Z a0 hw tx tt cs mm zc fm h0 S_tx hle8 hmle Z_ad Z_hs Z_ls Z_fm hfm Z_cs hz) rfl rfl (by decide) (by decide) hS hk (hEL_1 hw) RH.1 e2 S_tx.exa (argsL := [(.int (0 : Int32)), (.int (Int32.ofNat mm))]) (rest := []) (by rw [hml]; rfl) (lenOf pd__II_Ljava_lang_String_ rfl) rfl rfl (hb hby d_34_9) (Nat.le_of_eq rfl) (by decide) (by decide) ?_
  intro v3 T3 L3 X3 hQ3 hS3 hZ3 hown3 A3
  obtain ⟨h3, e3⟩ : ∃ z, T3.heap = z := ⟨_, rfl⟩
  rw [e3] at hQ3 hS3 A3
  obtain ⟨Mc3, a3, t3, rfl, S_a3⟩ := hQ3
  have M3 := M0.app0 Mc3
  clear hS hk
  replace RH := RH.trans A3
  replace E_a1 := E_a1.keep Mc3.1
  replace F_text := F_text.keep Mc3.1 nin0
  replace F_chars := F_chars.keep Mc3.1 nin0
  replace F_position := F_position.keep Mc3.1 nin0
  replace V_b := V_b.keep Mc3.1 nin0
  replace S_tx := S_tx.keep Mc3.1 nin0 nin0
  replace Z_ad := StaKeep Z_ad Mc3.1 all0
  replace Z_hs := StaKeep Z_hs Mc3.1 all0
  replace Z_ls := StaKeep Z_ls Mc3.1 all0
  replace Z_fm := StaKeep Z_fm Mc3.1 all0
  replace Z_cs := StaKeep Z_cs Mc3.1 all0
  have hS := hS3
  have hk : h3.size ≤ h3.size := Nat.le_refl _
  replace hZ := hZ3
  replace hown := hown3
  show Go p e below P T3 (mkF m 12 #[sR a1, sI 0] [(.ref a3)])
  exact goRetRH (Q := fun v h L => Mv h0 h [] L ∧ ∃ a t : Addr, v = some (.ref a) ∧ Str Z h a t (List.take mm cs)) X3 hx hZ hS hk (hEL_1 hw) RH hret rfl hlk rfl rfl (hb hby d_34_12) K (by decide) (by decide) e3 (⟨M3, a3, t3, rfl, S_a3⟩)
def nxt (cs : List Int32) (j : Nat) (c : Int32) : Nat := if j < cs.length ∧ cs.getD j 0 = c then j + 1 else j
theorem nxt_t {cs : List Int32} {j : Nat} {c : Int32} (h : j < cs.length ∧ cs.getD j 0 = c) : nxt cs j c = j + 1 := if_pos h
theorem nxt_f {cs : List Int32} {j : Nat} {c : Int32} (h : ¬ (j < cs.length ∧ cs.getD j 0 = c)) : nxt cs j c = j := if_neg h
theorem nxt_le {cs : List Int32} {j : Nat} {c : Int32} (h : j ≤ cs.length) : nxt cs j c ≤ cs.length := by unfold nxt; split <;> omega
theorem ef_rm_skip (m : MethodId) (x0 : Addr) (x1 : Int32)  : entryFrame m #[(.ref x0), (.int x1)] 2 = mkF m 0 #[.val (.ref x0), .val (.int x1)] [] := by first | (simp [entryFrame, mkF, argsToLocals, Value.category]; done) | rfl
theorem d_35_0 : decode prog_33_method_3_code 0 = .ok (.aload_n 0, 1) := by decide +kernel
theorem d_35_1 : decode prog_33_method_3_code 1 = .ok (.invokevirtual 38, 3) := by decide +kernel
theorem pd___V : parseMethodDescriptor "()V" = some ⟨[], none⟩ := by decide +kernel
theorem d_35_4 : decode prog_33_method_3_code 4 = .ok (.aload_n 0, 1) := by decide +kernel
theorem d_35_5 : decode prog_33_method_3_code 5 = .ok (.getfield 41, 3) := by decide +kernel
theorem d_35_8 : decode prog_33_method_3_code 8 = .ok (.aload_n 0, 1) := by decide +kernel
theorem d_35_9 : decode prog_33_method_3_code 9 = .ok (.getfield 19, 3) := by decide +kernel
theorem d_35_12 : decode prog_33_method_3_code 12 = .ok (.arraylength, 1) := by decide +kernel
theorem d_35_13 : decode prog_33_method_3_code 13 = .ok (.if_icmp .ge 28, 3) := by decide +kernel
theorem d_35_16 : decode prog_33_method_3_code 16 = .ok (.aload_n 0, 1) := by decide +kernel
theorem d_35_17 : decode prog_33_method_3_code 17 = .ok (.getfield 19, 3) := by decide +kernel
theorem d_35_20 : decode prog_33_method_3_code 20 = .ok (.aload_n 0, 1) := by decide +kernel
theorem d_35_21 : decode prog_33_method_3_code 21 = .ok (.getfield 41, 3) := by decide +kernel
theorem d_35_24 : decode prog_33_method_3_code 24 = .ok (.caload, 1) := by decide +kernel
theorem d_35_25 : decode prog_33_method_3_code 25 = .ok (.iload_n 1, 1) := by decide +kernel
theorem d_35_26 : decode prog_33_method_3_code 26 = .ok (.if_icmp .ne 15, 3) := by decide +kernel
theorem d_35_29 : decode prog_33_method_3_code 29 = .ok (.aload_n 0, 1) := by decide +kernel
theorem d_35_30 : decode prog_33_method_3_code 30 = .ok (.dup, 1) := by decide +kernel
theorem d_35_31 : decode prog_33_method_3_code 31 = .ok (.getfield 41, 3) := by decide +kernel
theorem d_35_34 : decode prog_33_method_3_code 34 = .ok (.iconst 1, 1) := by decide +kernel
theorem d_35_35 : decode prog_33_method_3_code 35 = .ok (.iadd, 1) := by decide +kernel
theorem d_35_36 : decode prog_33_method_3_code 36 = .ok (.putfield 41, 3) := by decide +kernel
theorem d_35_39 : decode prog_33_method_3_code 39 = .ok (.iconst 1, 1) := by decide +kernel
theorem d_35_40 : decode prog_33_method_3_code 40 = .ok (.ireturn, 1) := by decide +kernel
theorem d_35_41 : decode prog_33_method_3_code 41 = .ok (.iconst 0, 1) := by decide +kernel
theorem d_35_42 : decode prog_33_method_3_code 42 = .ok (.ireturn, 1) := by decide +kernel
set_option maxRecDepth 65536 in
set_option maxHeartbeats 40000000 in
theorem rm_skip (l : Launch) (Z : State) (a0 : Array Value) (hw : ∀ d ∈ tables_1, d.before a0 Z = true) (a1 tx b : Addr) (kb : ClassId) (cs : List Int32) (i0 j : Nat) (p2 : Int32) (h0 : Heap) (E_a1 : Exa Z h0 a1 "com/example/rezeptkern/rezeptkern/JsonCursor") (F_text : Fld Z h0 a1 "com/example/rezeptkern/rezeptkern/JsonCursor" "text" "Ljava/lang/String;" (.ref tx)) (F_chars : Fld Z h0 a1 "com/example/rezeptkern/rezeptkern/JsonCursor" "chars" "[C" (.ref b)) (F_position : Fld Z h0 a1 "com/example/rezeptkern/rezeptkern/JsonCursor" "position" "I" (.int (Int32.ofNat i0))) (V_b : Arv Z h0 b kb (.char) (Int32.ofNat cs.length) (cs.map Value.int) (.int (0 : Int32))) (hle8 : cs.length ≤ 8) (hi0 : i0 ≤ cs.length) (hjq : i0 + fst (cs.drop i0) = j) :
    MeetsW l Z (⟨"com/example/rezeptkern/rezeptkern/JsonCursor", "skip", "(C)Z"⟩ : MethodName) prog_33_method_3_code 2 (some .boolean) ({ frames := 1, cells := 0, slots := 0, locals := 13 } : Room) #[(.ref a1), (.int p2)] h0 (fun v h L => v = some (.int (bi (j < cs.length ∧ cs.getD j 0 = p2))) ∧ Mv h0 h [a1] L ∧ Exa Z h a1 "com/example/rezeptkern/rezeptkern/JsonCursor" ∧ Fld Z h a1 "com/example/rezeptkern/rezeptkern/JsonCursor" "text" "Ljava/lang/String;" (.ref tx) ∧ Fld Z h a1 "com/example/rezeptkern/rezeptkern/JsonCursor" "chars" "[C" (.ref b) ∧ Fld Z h a1 "com/example/rezeptkern/rezeptkern/JsonCursor" "position" "I" (.int (Int32.ofNat (nxt cs j p2))) ∧ Arv Z h b kb (.char) (Int32.ofNat cs.length) (cs.map Value.int) (.int (0 : Int32))) := by
  refine MeetsW.of (plainFor_of_name pn_com_example_rezeptkern_rezeptkern_JsonCursor) ?_
  intro p e s m below meth c s₁ P hx hby hml hZ hown hnm hret hlk X0 e0 K
  have M0 : Mv h0 h0 [a1] [] := Mv.refl _ _
  refine Go.cast (ef_rm_skip m a1 p2 ) ?_
  have ne_b_a1 : b ≠ a1 := Ne.symm (Exa.neArv E_a1 V_b (hw _ (List.mem_of_getElem? (i := 6) rfl)))
  have hjl := fst_le (cs.drop i0)
  rw [List.length_drop] at hjl
  refine Go.of (T' := s₁) (f' := (mkF m 1 #[sR a1, sI p2] [(.ref a1)])) (fun _ k => XS.aloadN X0.here hx rfl (hb hby d_35_0) rfl rfl k) ?_
  refine goP X0 hx hZ hown (hw _ (List.mem_of_getElem? (i := 72) rfl)) (hw _ (List.mem_of_getElem? (i := 73) rfl)) (hw _ (List.mem_of_getElem? (i := 74) rfl)) (hw _ (List.mem_of_getElem? (i := 75) rfl)) (hw _ (List.mem_of_getElem? (i := 6) rfl)) (by decide) (C := 0) (S := 0) ((rm_skw l Z a0 hw a1 tx b kb cs (i0) j h0 E_a1 F_text F_chars F_position V_b hle8 (by omega) hjq).bk (W := 0) hZ (hw _ (List.mem_of_getElem? (i := 75) rfl)) (hw _ (List.mem_of_getElem? (i := 7) rfl)) (by decide) (by decide)) e0 E_a1 (argsL := []) (rest := []) (by rw [hml]; rfl) (lenOf pd___V rfl) rfl rfl (hb hby d_35_1) (Nat.le_of_eq rfl) (by decide) (by decide) ?_
  intro v1 T1 L1 X1 hQ1
  obtain ⟨h1, e1⟩ : ∃ z, T1.heap = z := ⟨_, rfl⟩
  rw [e1] at hQ1
  obtain ⟨rfl, Mc1, Nc1_0, Nc1_1, Nc1_2, Nc1_3, Nc1_4⟩ := hQ1
  have M1 := M0.app Mc1 (allS (Or.inl (List.mem_of_getElem? (i := 0) rfl)) all0)
  replace E_a1 := Nc1_0
  replace F_text := Nc1_1
  replace F_chars := Nc1_2
  replace F_position := Nc1_3
  replace V_b := Nc1_4
  show Go p e below P T1 (mkF m 4 #[sR a1, sI p2] [])
  refine Go.of (T' := T1) (f' := (mkF m 5 #[sR a1, sI p2] [(.ref a1)])) (fun _ k => XS.aloadN X1.here hx rfl (hb hby d_35_4) rfl rfl k) ?_
  obtain ⟨T2, X2, e2, st2⟩ := getF X1 hx hZ hown (host := "") (Or.inl (hw _ (List.mem_of_getElem? (i := 76) rfl))) Via.refl e1 F_position (g := (mkF m 5 #[sR a1, sI p2] [(.ref a1)])) rfl rfl (hb hby d_35_5)
  refine Go.of (T' := T2) (f' := (mkF m 8 #[sR a1, sI p2] [(.int (Int32.ofNat j))])) st2 ?_
  refine Go.of (T' := T2) (f' := (mkF m 9 #[sR a1, sI p2] [(.ref a1), (.int (Int32.ofNat j))])) (fun _ k => XS.aloadN X2.here hx rfl (hb hby d_35_8) rfl rfl k) ?_
  obtain ⟨T3, X3, e3, st3⟩ := getF X2 hx hZ hown (host := "") (Or.inl (hw _ (List.mem_of_getElem? (i := 63) rfl))) Via.refl e2 F_chars (g := (mkF m 9 #[sR a1, sI p2] [(.ref a1), (.int (Int32.ofNat j))])) rfl rfl (hb hby d_35_9)
  refine Go.of (T' := T3) (f' := (mkF m 12 #[sR a1, sI p2] [(.ref b), (.int (Int32.ofNat j))])) st3 ?_
  obtain ⟨cl4, Ar4, -, Sz4, Nn4, -, -⟩ := id V_b
  refine Go.of (T' := T3) (f' := (mkF m 13 #[sR a1, sI p2] [(.int (Int32.ofNat cs.length)), (.int (Int32.ofNat j))])) (fun _ k => X3.arraylength hx (by rw [e3]; exact Ar4.1) (State.isArrayOf_alike hZ.alike Ar4.2.1) (g := (mkF m 12 #[sR a1, sI p2] [(.ref b), (.int (Int32.ofNat j))])) rfl rfl (hb hby d_35_12) _ (by rw [len_of Sz4 Nn4]; exact k)) ?_
  by_cases hc13 : (Int32.ofNat j) < (Int32.ofNat cs.length)
  ·
    refine Go.of (T' := T3) (f' := (mkF m 16 #[sR a1, sI p2] [])) (fun _ k => XS.icmpNo X3.here hx rfl (hb hby d_35_13) rfl (tlt hc13).2.1 k) ?_
    have hi : j < cs.length := (ltN (by omega) (by omega)).mp hc13
    refine Go.of (T' := T3) (f' := (mkF m 17 #[sR a1, sI p2] [(.ref a1)])) (fun _ k => XS.aloadN X3.here hx rfl (hb hby d_35_16) rfl rfl k) ?_
    obtain ⟨T5, X5, e5, st5⟩ := getF X3 hx hZ hown (host := "") (Or.inl (hw _ (List.mem_of_getElem? (i := 63) rfl))) Via.refl e3 F_chars (g := (mkF m 17 #[sR a1, sI p2] [(.ref a1)])) rfl rfl (hb hby d_35_17)
    refine Go.of (T' := T5) (f' := (mkF m 20 #[sR a1, sI p2] [(.ref b)])) st5 ?_
    refine Go.of (T' := T5) (f' := (mkF m 21 #[sR a1, sI p2] [(.ref a1), (.ref b)])) (fun _ k => XS.aloadN X5.here hx rfl (hb hby d_35_20) rfl rfl k) ?_
    obtain ⟨T6, X6, e6, st6⟩ := getF X5 hx hZ hown (host := "") (Or.inl (hw _ (List.mem_of_getElem? (i := 76) rfl))) Via.refl e5 F_position (g := (mkF m 21 #[sR a1, sI p2] [(.ref a1), (.ref b)])) rfl rfl (hb hby d_35_21)
    refine Go.of (T' := T6) (f' := (mkF m 24 #[sR a1, sI p2] [(.int (Int32.ofNat j)), (.ref b)])) st6 ?_
    obtain ⟨cl7, Ar7, cq7, Sz7, Nn7, Hs7, Gs7⟩ := id V_b
    have hin7 : ¬ ((Int32.ofNat j) < 0 ∨ cl7.slots.size ≤ ((Int32.ofNat j)).toNatClampNeg) := inbN Sz7 hi (by omega)
    have hat7 : cl7.slots[((Int32.ofNat j)).toNatClampNeg]? = some (.int (cs.getD j 0)) := Has.at Hs7 hin7 (by rw [nat32 (by omega)]; exact mapGet hi)
    refine Go.of (T' := T6) (f' := (mkF m 25 #[sR a1, sI p2] [(.int (cs.getD j 0))])) (fun _ k => X6.caload hx (j := (Int32.ofNat j)) (v := (.int (cs.getD j 0))) (by rw [e6]; exact Ar7.1) (State.isArrayOf_alike hZ.alike Ar7.2.1) Ar7.2.2 hin7 hat7 (g := (mkF m 24 #[sR a1, sI p2] [(.int (Int32.ofNat j)), (.ref b)])) rfl rfl (hb hby d_35_24) _ k) ?_
    refine Go.of (T' := T6) (f' := (mkF m 26 #[sR a1, sI p2] [(.int p2), (.int (cs.getD j 0))])) (fun _ k => XS.iloadN X6.here hx rfl (hb hby d_35_25) rfl k) ?_
    by_cases hc26 : (cs.getD j 0) = p2
    ·
      refine Go.of (T' := T6) (f' := (mkF m 29 #[sR a1, sI p2] [])) (fun _ k => XS.icmpNo X6.here hx rfl (hb hby d_35_26) rfl (teq hc26).2 k) ?_
      refine Go.of (T' := T6) (f' := (mkF m 30 #[sR a1, sI p2] [(.ref a1)])) (fun _ k => XS.aloadN X6.here hx rfl (hb hby d_35_29) rfl rfl k) ?_
      refine Go.of (T' := T6) (f' := (mkF m 31 #[sR a1, sI p2] [(.ref a1), (.ref a1)])) (fun _ k => XS.dup X6.here hx rfl (hb hby d_35_30) rfl rfl k) ?_
      obtain ⟨T8, X8, e8, st8⟩ := getF X6 hx hZ hown (host := "") (Or.inl (hw _ (List.mem_of_getElem? (i := 76) rfl))) Via.refl e6 F_position (g := (mkF m 31 #[sR a1, sI p2] [(.ref a1), (.ref a1)])) rfl rfl (hb hby d_35_31)
      refine Go.of (T' := T8) (f' := (mkF m 34 #[sR a1, sI p2] [(.int (Int32.ofNat j)), (.ref a1)])) st8 ?_
      refine Go.of (T' := T8) (f' := (mkF m 35 #[sR a1, sI p2] [(.int (1 : Int32)), (.int (Int32.ofNat j)), (.ref a1)])) (fun _ k => XS.iconst X8.here hx rfl (hb hby d_35_34) k) ?_
      refine Go.of (T' := T8) (f' := (mkF m 36 #[sR a1, sI p2] [(.int ((Int32.ofNat j) + (1 : Int32))), (.ref a1)])) (fun _ k => XS.iadd X8.here hx rfl (hb hby d_35_35) rfl k) ?_
      obtain ⟨T9, h9, X9, e9, W9, st9⟩ := putF X8 hx hZ hown (host := "") (Or.inl (hw _ (List.mem_of_getElem? (i := 76) rfl))) Via.refl e8 F_position E_a1 (Or.inl (hw _ (List.mem_of_getElem? (i := 77) rfl))) (hw _ (List.mem_of_getElem? (i := 6) rfl)) (ty := .int) (by decide) rfl rfl (g := (mkF m 36 #[sR a1, sI p2] [(.int ((Int32.ofNat j) + (1 : Int32))), (.ref a1)])) rfl rfl (hb hby d_35_36)
      have K9 := Keep.of_wr W9
      have M9 := M1.wr W9 (Or.inl (List.mem_of_getElem? (i := 0) rfl))
      replace F_text := F_text.other W9 (Or.inr (slot_ne (Or.inr (hw _ (List.mem_of_getElem? (i := 45) rfl))) (Or.inl (hw _ (List.mem_of_getElem? (i := 77) rfl))) (by decide) (t := (.object "java/lang/String")) (t' := .int) (by decide) (by decide)))
      replace F_chars := F_chars.other W9 (Or.inr (slot_ne (Or.inr (hw _ (List.mem_of_getElem? (i := 64) rfl))) (Or.inl (hw _ (List.mem_of_getElem? (i := 77) rfl))) (by decide) (t := (.array .char)) (t' := .int) (by decide) (by decide)))
      replace F_position := F_position.same W9
      replace E_a1 := E_a1.keep K9
      replace V_b := V_b.keep K9 (ninS ne_b_a1 nin0)
      refine Go.of (T' := T9) (f' := (mkF m 39 #[sR a1, sI p2] [])) st9 ?_
      refine Go.of (T' := T9) (f' := (mkF m 40 #[sR a1, sI p2] [(.int (1 : Int32))])) (fun _ k => XS.iconst X9.here hx rfl (hb hby d_35_39) k) ?_
      exact goRetI (Q := fun v h L => v = some (.int (bi (j < cs.length ∧ cs.getD j 0 = p2))) ∧ Mv h0 h [a1] L ∧ Exa Z h a1 "com/example/rezeptkern/rezeptkern/JsonCursor" ∧ Fld Z h a1 "com/example/rezeptkern/rezeptkern/JsonCursor" "text" "Ljava/lang/String;" (.ref tx) ∧ Fld Z h a1 "com/example/rezeptkern/rezeptkern/JsonCursor" "chars" "[C" (.ref b) ∧ Fld Z h a1 "com/example/rezeptkern/rezeptkern/JsonCursor" "position" "I" (.int (Int32.ofNat (nxt cs j p2))) ∧ Arv Z h b kb (.char) (Int32.ofNat cs.length) (cs.map Value.int) (.int (0 : Int32))) X9 hx (t := .boolean) hret hlk rfl (by simp) (hb hby d_35_40) K (by decide) (by decide) e9 (by
          have hph : j < cs.length ∧ cs.getD j 0 = p2 := ⟨hi, hc26⟩
          rw [show (Int32.ofNat j) + (1 : Int32) = Int32.ofNat (nxt cs j p2) from by rw [nxt_t hph]; exact (Int32.ofNat_add _ _).symm] at F_position
          exact ⟨by rw [bi_t hph], M9, E_a1, F_text, F_chars, F_position, V_b⟩)
    ·
      refine Go.of (T' := T6) (f' := (mkF m 41 #[sR a1, sI p2] [])) (fun _ k => XS.icmpYes X6.here hx rfl (pc0 := 26) (pc' := 41) rfl (hb hby d_35_26) rfl (feq hc26).2 (by decide) (by decide) k) ?_
      refine Go.of (T' := T6) (f' := (mkF m 42 #[sR a1, sI p2] [(.int (0 : Int32))])) (fun _ k => XS.iconst X6.here hx rfl (hb hby d_35_41) k) ?_
      exact goRetI (Q := fun v h L => v = some (.int (bi (j < cs.length ∧ cs.getD j 0 = p2))) ∧ Mv h0 h [a1] L ∧ Exa Z h a1 "com/example/rezeptkern/rezeptkern/JsonCursor" ∧ Fld Z h a1 "com/example/rezeptkern/rezeptkern/JsonCursor" "text" "Ljava/lang/String;" (.ref tx) ∧ Fld Z h a1 "com/example/rezeptkern/rezeptkern/JsonCursor" "chars" "[C" (.ref b) ∧ Fld Z h a1 "com/example/rezeptkern/rezeptkern/JsonCursor" "position" "I" (.int (Int32.ofNat (nxt cs j p2))) ∧ Arv Z h b kb (.char) (Int32.ofNat cs.length) (cs.map Value.int) (.int (0 : Int32))) X6 hx (t := .boolean) hret hlk rfl (by simp) (hb hby d_35_42) K (by decide) (by decide) e6 (by
          have hph : ¬ (j < cs.length ∧ cs.getD j 0 = p2) := fun q => hc26 q.2
          rw [← nxt_f hph] at F_position
          exact ⟨by rw [bi_f hph], M1, E_a1, F_text, F_chars, F_position, V_b⟩)
  ·
    refine Go.of (T' := T3) (f' := (mkF m 41 #[sR a1, sI p2] [])) (fun _ k => XS.icmpYes X3.here hx rfl (pc0 := 13) (pc' := 41) rfl (hb hby d_35_13) rfl (flt hc13).2.1 (by decide) (by decide) k) ?_
    refine Go.of (T' := T3) (f' := (mkF m 42 #[sR a1, sI p2] [(.int (0 : Int32))])) (fun _ k => XS.iconst X3.here hx rfl (hb hby d_35_41) k) ?_
    exact goRetI (Q := fun v h L => v = some (.int (bi (j < cs.length ∧ cs.getD j 0 = p2))) ∧ Mv h0 h [a1] L ∧ Exa Z h a1 "com/example/rezeptkern/rezeptkern/JsonCursor" ∧ Fld Z h a1 "com/example/rezeptkern/rezeptkern/JsonCursor" "text" "Ljava/lang/String;" (.ref tx) ∧ Fld Z h a1 "com/example/rezeptkern/rezeptkern/JsonCursor" "chars" "[C" (.ref b) ∧ Fld Z h a1 "com/example/rezeptkern/rezeptkern/JsonCursor" "position" "I" (.int (Int32.ofNat (nxt cs j p2))) ∧ Arv Z h b kb (.char) (Int32.ofNat cs.length) (cs.map Value.int) (.int (0 : Int32))) X3 hx (t := .boolean) hret hlk rfl (by simp) (hb hby d_35_42) K (by decide) (by decide) e3 (by
        have hph : ¬ (j < cs.length ∧ cs.getD j 0 = p2) := fun q => hc13 ((ltN (by omega) (by omega)).mpr q.1)
        rw [← nxt_f hph] at F_position
        exact ⟨by rw [bi_f hph], M1, E_a1, F_text, F_chars, F_position, V_b⟩)
theorem pn_com_example_rezeptkern_rezeptkern_JsonCursorSkipPinLaw : plainName "com/example/rezeptkern/rezeptkern/JsonCursorSkipPinLaw" = true := by first | (simp [plainName, overriddenIn]; done) | decide +kernel
theorem ef_rm_draw (m : MethodId) (x0 : Int32)  : entryFrame m #[(.int x0)] 2 = mkF m 0 #[.val (.int x0), .unset] [] := by first | (simp [entryFrame, mkF, argsToLocals, Value.category]; done) | rfl
theorem d_36_0 : decode method_2_code 0 = .ok (.iload_n 0, 1) := by decide +kernel
theorem d_36_1 : decode method_2_code 1 = .ok (.bipush 7, 2) := by decide +kernel
theorem d_36_3 : decode method_2_code 3 = .ok (.iand, 1) := by decide +kernel
theorem d_36_4 : decode method_2_code 4 = .ok (.istore_n 1, 1) := by decide +kernel
theorem d_36_5 : decode method_2_code 5 = .ok (.iload_n 1, 1) := by decide +kernel
theorem d_36_6 : decode method_2_code 6 = .ok (.ifCond .ne 6, 3) := by decide +kernel
theorem d_36_9 : decode method_2_code 9 = .ok (.bipush 32, 2) := by decide +kernel
theorem d_36_11 : decode method_2_code 11 = .ok (.ireturn, 1) := by decide +kernel
theorem d_36_12 : decode method_2_code 12 = .ok (.iload_n 1, 1) := by decide +kernel
theorem d_36_13 : decode method_2_code 13 = .ok (.iconst 1, 1) := by decide +kernel
theorem d_36_14 : decode method_2_code 14 = .ok (.if_icmp .ne 6, 3) := by decide +kernel
theorem d_36_17 : decode method_2_code 17 = .ok (.bipush 9, 2) := by decide +kernel
theorem d_36_19 : decode method_2_code 19 = .ok (.ireturn, 1) := by decide +kernel
theorem d_36_20 : decode method_2_code 20 = .ok (.iload_n 1, 1) := by decide +kernel
theorem d_36_21 : decode method_2_code 21 = .ok (.iconst 2, 1) := by decide +kernel
theorem d_36_22 : decode method_2_code 22 = .ok (.if_icmp .ne 6, 3) := by decide +kernel
theorem d_36_25 : decode method_2_code 25 = .ok (.bipush 10, 2) := by decide +kernel
theorem d_36_27 : decode method_2_code 27 = .ok (.ireturn, 1) := by decide +kernel
theorem d_36_28 : decode method_2_code 28 = .ok (.iload_n 1, 1) := by decide +kernel
theorem d_36_29 : decode method_2_code 29 = .ok (.iconst 3, 1) := by decide +kernel
theorem d_36_30 : decode method_2_code 30 = .ok (.if_icmp .ne 6, 3) := by decide +kernel
theorem d_36_33 : decode method_2_code 33 = .ok (.bipush 13, 2) := by decide +kernel
theorem d_36_35 : decode method_2_code 35 = .ok (.ireturn, 1) := by decide +kernel
theorem d_36_36 : decode method_2_code 36 = .ok (.iload_n 0, 1) := by decide +kernel
theorem d_36_37 : decode method_2_code 37 = .ok (.iconst 3, 1) := by decide +kernel
theorem d_36_38 : decode method_2_code 38 = .ok (.iushr, 1) := by decide +kernel
theorem d_36_39 : decode method_2_code 39 = .ok (.i2c, 1) := by decide +kernel
theorem d_36_40 : decode method_2_code 40 = .ok (.ireturn, 1) := by decide +kernel
set_option maxRecDepth 65536 in
set_option maxHeartbeats 40000000 in
theorem rm_draw (l : Launch) (Z : State) (a0 : Array Value) (hw : ∀ d ∈ tables_1, d.before a0 Z = true) (p1 : Int32) (h0 : Heap)  :
    MeetsW l Z (⟨"com/example/rezeptkern/rezeptkern/JsonCursorSkipPinLaw", "draw", "(I)C"⟩ : MethodName) method_2_code 2 (some .char) ({ frames := 0, cells := 0, slots := 0, locals := 0 } : Room) #[(.int p1)] h0 (Pu h0 (fun v => ∃ c : Int32, v = some (.int c) ∧ ¬ c < 0 ∧ ¬ (65535 : Int32) < c)) := by
  refine MeetsW.of (plainFor_of_name pn_com_example_rezeptkern_rezeptkern_JsonCursorSkipPinLaw) ?_
  intro p e s m below meth c s₁ P hx hby hml hZ hown hnm hret hlk X0 e0 K
  have M0 : Mv h0 h0 [] [] := Mv.refl _ _
  refine Go.cast (ef_rm_draw m p1 ) ?_
  refine Go.of (T' := s₁) (f' := (mkF m 1 #[sI p1, .unset] [(.int p1)])) (fun _ k => XS.iloadN X0.here hx rfl (hb hby d_36_0) rfl k) ?_
  refine Go.of (T' := s₁) (f' := (mkF m 3 #[sI p1, .unset] [(.int (7 : Int32)), (.int p1)])) (fun _ k => XS.bipush X0.here hx rfl (hb hby d_36_1) k) ?_
  refine Go.of (T' := s₁) (f' := (mkF m 4 #[sI p1, .unset] [(.int (p1 &&& (7 : Int32)))])) (fun _ k => XS.iand X0.here hx rfl (hb hby d_36_3) rfl k) ?_
  refine Go.of (T' := s₁) (f' := (mkF m 5 #[sI p1, sI (p1 &&& (7 : Int32))] [])) (fun _ k => XS.istoreN X0.here hx rfl (hb hby d_36_4) rfl (l' := #[sI p1, sI (p1 &&& (7 : Int32))]) rfl k) ?_
  refine Go.of (T' := s₁) (f' := (mkF m 6 #[sI p1, sI (p1 &&& (7 : Int32))] [(.int (p1 &&& (7 : Int32)))])) (fun _ k => XS.iloadN X0.here hx rfl (hb hby d_36_5) rfl k) ?_
  by_cases hc6 : (p1 &&& (7 : Int32)) = (0 : Int32)
  ·
    refine Go.of (T' := s₁) (f' := (mkF m 9 #[sI p1, sI (p1 &&& (7 : Int32))] [])) (fun _ k => XS.ifNo X0.here hx rfl (hb hby d_36_6) rfl ((if0 _ _).trans (teq hc6).2) k) ?_
    refine Go.of (T' := s₁) (f' := (mkF m 11 #[sI p1, sI (p1 &&& (7 : Int32))] [(.int (32 : Int32))])) (fun _ k => XS.bipush X0.here hx rfl (hb hby d_36_9) k) ?_
    exact goRetI (Q := Pu h0 (fun v => ∃ c : Int32, v = some (.int c) ∧ ¬ c < 0 ∧ ¬ (65535 : Int32) < c)) X0 hx (t := .char) hret hlk rfl (by simp) (hb hby d_36_11) K (by decide) (by decide) e0 (⟨rfl, rfl, _, rfl, by decide⟩)
  ·
    refine Go.of (T' := s₁) (f' := (mkF m 12 #[sI p1, sI (p1 &&& (7 : Int32))] [])) (fun _ k => XS.ifYes X0.here hx rfl (pc0 := 6) (pc' := 12) rfl (hb hby d_36_6) rfl ((if0 _ _).trans (feq hc6).2) (by decide) (by decide) k) ?_
    refine Go.of (T' := s₁) (f' := (mkF m 13 #[sI p1, sI (p1 &&& (7 : Int32))] [(.int (p1 &&& (7 : Int32)))])) (fun _ k => XS.iloadN X0.here hx rfl (hb hby d_36_12) rfl k) ?_
    refine Go.of (T' := s₁) (f' := (mkF m 14 #[sI p1, sI (p1 &&& (7 : Int32))] [(.int (1 : Int32)), (.int (p1 &&& (7 : Int32)))])) (fun _ k => XS.iconst X0.here hx rfl (hb hby d_36_13) k) ?_
    by_cases hc14 : (p1 &&& (7 : Int32)) = (1 : Int32)
    ·
      refine Go.of (T' := s₁) (f' := (mkF m 17 #[sI p1, sI (p1 &&& (7 : Int32))] [])) (fun _ k => XS.icmpNo X0.here hx rfl (hb hby d_36_14) rfl (teq hc14).2 k) ?_
      refine Go.of (T' := s₁) (f' := (mkF m 19 #[sI p1, sI (p1 &&& (7 : Int32))] [(.int (9 : Int32))])) (fun _ k => XS.bipush X0.here hx rfl (hb hby d_36_17) k) ?_
      exact goRetI (Q := Pu h0 (fun v => ∃ c : Int32, v = some (.int c) ∧ ¬ c < 0 ∧ ¬ (65535 : Int32) < c)) X0 hx (t := .char) hret hlk rfl (by simp) (hb hby d_36_19) K (by decide) (by decide) e0 (⟨rfl, rfl, _, rfl, by decide⟩)
    ·
      refine Go.of (T' := s₁) (f' := (mkF m 20 #[sI p1, sI (p1 &&& (7 : Int32))] [])) (fun _ k => XS.icmpYes X0.here hx rfl (pc0 := 14) (pc' := 20) rfl (hb hby d_36_14) rfl (feq hc14).2 (by decide) (by decide) k) ?_
      refine Go.of (T' := s₁) (f' := (mkF m 21 #[sI p1, sI (p1 &&& (7 : Int32))] [(.int (p1 &&& (7 : Int32)))])) (fun _ k => XS.iloadN X0.here hx rfl (hb hby d_36_20) rfl k) ?_
      refine Go.of (T' := s₁) (f' := (mkF m 22 #[sI p1, sI (p1 &&& (7 : Int32))] [(.int (2 : Int32)), (.int (p1 &&& (7 : Int32)))])) (fun _ k => XS.iconst X0.here hx rfl (hb hby d_36_21) k) ?_
      by_cases hc22 : (p1 &&& (7 : Int32)) = (2 : Int32)
      ·
        refine Go.of (T' := s₁) (f' := (mkF m 25 #[sI p1, sI (p1 &&& (7 : Int32))] [])) (fun _ k => XS.icmpNo X0.here hx rfl (hb hby d_36_22) rfl (teq hc22).2 k) ?_
        refine Go.of (T' := s₁) (f' := (mkF m 27 #[sI p1, sI (p1 &&& (7 : Int32))] [(.int (10 : Int32))])) (fun _ k => XS.bipush X0.here hx rfl (hb hby d_36_25) k) ?_
        exact goRetI (Q := Pu h0 (fun v => ∃ c : Int32, v = some (.int c) ∧ ¬ c < 0 ∧ ¬ (65535 : Int32) < c)) X0 hx (t := .char) hret hlk rfl (by simp) (hb hby d_36_27) K (by decide) (by decide) e0 (⟨rfl, rfl, _, rfl, by decide⟩)
      ·
        refine Go.of (T' := s₁) (f' := (mkF m 28 #[sI p1, sI (p1 &&& (7 : Int32))] [])) (fun _ k => XS.icmpYes X0.here hx rfl (pc0 := 22) (pc' := 28) rfl (hb hby d_36_22) rfl (feq hc22).2 (by decide) (by decide) k) ?_
        refine Go.of (T' := s₁) (f' := (mkF m 29 #[sI p1, sI (p1 &&& (7 : Int32))] [(.int (p1 &&& (7 : Int32)))])) (fun _ k => XS.iloadN X0.here hx rfl (hb hby d_36_28) rfl k) ?_
        refine Go.of (T' := s₁) (f' := (mkF m 30 #[sI p1, sI (p1 &&& (7 : Int32))] [(.int (3 : Int32)), (.int (p1 &&& (7 : Int32)))])) (fun _ k => XS.iconst X0.here hx rfl (hb hby d_36_29) k) ?_
        by_cases hc30 : (p1 &&& (7 : Int32)) = (3 : Int32)
        ·
          refine Go.of (T' := s₁) (f' := (mkF m 33 #[sI p1, sI (p1 &&& (7 : Int32))] [])) (fun _ k => XS.icmpNo X0.here hx rfl (hb hby d_36_30) rfl (teq hc30).2 k) ?_
          refine Go.of (T' := s₁) (f' := (mkF m 35 #[sI p1, sI (p1 &&& (7 : Int32))] [(.int (13 : Int32))])) (fun _ k => XS.bipush X0.here hx rfl (hb hby d_36_33) k) ?_
          exact goRetI (Q := Pu h0 (fun v => ∃ c : Int32, v = some (.int c) ∧ ¬ c < 0 ∧ ¬ (65535 : Int32) < c)) X0 hx (t := .char) hret hlk rfl (by simp) (hb hby d_36_35) K (by decide) (by decide) e0 (⟨rfl, rfl, _, rfl, by decide⟩)
        ·
          refine Go.of (T' := s₁) (f' := (mkF m 36 #[sI p1, sI (p1 &&& (7 : Int32))] [])) (fun _ k => XS.icmpYes X0.here hx rfl (pc0 := 30) (pc' := 36) rfl (hb hby d_36_30) rfl (feq hc30).2 (by decide) (by decide) k) ?_
          refine Go.of (T' := s₁) (f' := (mkF m 37 #[sI p1, sI (p1 &&& (7 : Int32))] [(.int p1)])) (fun _ k => XS.iloadN X0.here hx rfl (hb hby d_36_36) rfl k) ?_
          refine Go.of (T' := s₁) (f' := (mkF m 38 #[sI p1, sI (p1 &&& (7 : Int32))] [(.int (3 : Int32)), (.int p1)])) (fun _ k => XS.iconst X0.here hx rfl (hb hby d_36_37) k) ?_
          refine Go.of (T' := s₁) (f' := (mkF m 39 #[sI p1, sI (p1 &&& (7 : Int32))] [(.int ((p1.toUInt32 >>> ((3 : Int32) &&& 31).toUInt32).toInt32))])) (fun _ k => XS.iushr X0.here hx rfl (hb hby d_36_38) rfl k) ?_
          refine Go.of (T' := s₁) (f' := (mkF m 40 #[sI p1, sI (p1 &&& (7 : Int32))] [(.int (((p1.toUInt32 >>> ((3 : Int32) &&& 31).toUInt32).toInt32).toUInt32.toUInt16.toUInt32.toInt32))])) (fun _ k => XS.i2c X0.here hx rfl (hb hby d_36_39) rfl k) ?_
          exact goRetI (Q := Pu h0 (fun v => ∃ c : Int32, v = some (.int c) ∧ ¬ c < 0 ∧ ¬ (65535 : Int32) < c)) X0 hx (t := .char) hret hlk (congrArg Value.int (narC _)) (by simp) (hb hby d_36_40) K (by decide) (by decide) e0 (⟨rfl, rfl, _, rfl, i2c_rng _⟩)
theorem ef_rm_ws (m : MethodId) (x0 : Int32)  : entryFrame m #[(.int x0)] 1 = mkF m 0 #[.val (.int x0)] [] := by first | (simp [entryFrame, mkF, argsToLocals, Value.category]; done) | rfl
theorem d_37_0 : decode method_3_code 0 = .ok (.iload_n 0, 1) := by decide +kernel
theorem d_37_1 : decode method_3_code 1 = .ok (.bipush 32, 2) := by decide +kernel
theorem d_37_3 : decode method_3_code 3 = .ok (.if_icmp .eq 21, 3) := by decide +kernel
theorem d_37_24 : decode method_3_code 24 = .ok (.iconst 1, 1) := by decide +kernel
theorem d_37_25 : decode method_3_code 25 = .ok (.goto 4, 3) := by decide +kernel
theorem d_37_29 : decode method_3_code 29 = .ok (.ireturn, 1) := by decide +kernel
theorem d_37_6 : decode method_3_code 6 = .ok (.iload_n 0, 1) := by decide +kernel
theorem d_37_7 : decode method_3_code 7 = .ok (.bipush 9, 2) := by decide +kernel
theorem d_37_9 : decode method_3_code 9 = .ok (.if_icmp .eq 15, 3) := by decide +kernel
theorem d_37_12 : decode method_3_code 12 = .ok (.iload_n 0, 1) := by decide +kernel
theorem d_37_13 : decode method_3_code 13 = .ok (.bipush 10, 2) := by decide +kernel
theorem d_37_15 : decode method_3_code 15 = .ok (.if_icmp .eq 9, 3) := by decide +kernel
theorem d_37_18 : decode method_3_code 18 = .ok (.iload_n 0, 1) := by decide +kernel
theorem d_37_19 : decode method_3_code 19 = .ok (.bipush 13, 2) := by decide +kernel
theorem d_37_21 : decode method_3_code 21 = .ok (.if_icmp .ne 7, 3) := by decide +kernel
theorem d_37_28 : decode method_3_code 28 = .ok (.iconst 0, 1) := by decide +kernel
set_option maxRecDepth 65536 in
set_option maxHeartbeats 40000000 in
theorem rm_ws (l : Launch) (Z : State) (a0 : Array Value) (hw : ∀ d ∈ tables_1, d.before a0 Z = true) (p1 : Int32) (h0 : Heap)  :
    MeetsW l Z (⟨"com/example/rezeptkern/rezeptkern/JsonCursorSkipPinLaw", "isWs", "(C)Z"⟩ : MethodName) method_3_code 1 (some .boolean) ({ frames := 0, cells := 0, slots := 0, locals := 0 } : Room) #[(.int p1)] h0 (Pu h0 (fun v => v = some (.int (bi (Ws p1))))) := by
  refine MeetsW.of (plainFor_of_name pn_com_example_rezeptkern_rezeptkern_JsonCursorSkipPinLaw) ?_
  intro p e s m below meth c s₁ P hx hby hml hZ hown hnm hret hlk X0 e0 K
  have M0 : Mv h0 h0 [] [] := Mv.refl _ _
  refine Go.cast (ef_rm_ws m p1 ) ?_
  refine Go.of (T' := s₁) (f' := (mkF m 1 #[sI p1] [(.int p1)])) (fun _ k => XS.iloadN X0.here hx rfl (hb hby d_37_0) rfl k) ?_
  refine Go.of (T' := s₁) (f' := (mkF m 3 #[sI p1] [(.int (32 : Int32)), (.int p1)])) (fun _ k => XS.bipush X0.here hx rfl (hb hby d_37_1) k) ?_
  by_cases hc3 : p1 = (32 : Int32)
  ·
    refine Go.of (T' := s₁) (f' := (mkF m 24 #[sI p1] [])) (fun _ k => XS.icmpYes X0.here hx rfl (pc0 := 3) (pc' := 24) rfl (hb hby d_37_3) rfl (teq hc3).1 (by decide) (by decide) k) ?_
    refine Go.of (T' := s₁) (f' := (mkF m 25 #[sI p1] [(.int (1 : Int32))])) (fun _ k => XS.iconst X0.here hx rfl (hb hby d_37_24) k) ?_
    refine Go.of (T' := s₁) (f' := (mkF m 29 #[sI p1] [(.int (1 : Int32))])) (fun _ k => XS.goto X0.here hx rfl (pc0 := 25) (pc' := 29) rfl (hb hby d_37_25) (by decide) (by decide) k) ?_
    exact goRetI (Q := Pu h0 (fun v => v = some (.int (bi (Ws p1))))) X0 hx (t := .boolean) hret hlk rfl (by simp) (hb hby d_37_29) K (by decide) (by decide) e0 (⟨rfl, rfl, by rw [bi_t (by first | exact Or.inl hc3 | exact Or.inr (Or.inl hc9) | exact Or.inr (Or.inr (Or.inl hc15)) | exact Or.inr (Or.inr (Or.inr hc21)))]⟩)
  ·
    refine Go.of (T' := s₁) (f' := (mkF m 6 #[sI p1] [])) (fun _ k => XS.icmpNo X0.here hx rfl (hb hby d_37_3) rfl (feq hc3).1 k) ?_
    refine Go.of (T' := s₁) (f' := (mkF m 7 #[sI p1] [(.int p1)])) (fun _ k => XS.iloadN X0.here hx rfl (hb hby d_37_6) rfl k) ?_
    refine Go.of (T' := s₁) (f' := (mkF m 9 #[sI p1] [(.int (9 : Int32)), (.int p1)])) (fun _ k => XS.bipush X0.here hx rfl (hb hby d_37_7) k) ?_
    by_cases hc9 : p1 = (9 : Int32)
    ·
      refine Go.of (T' := s₁) (f' := (mkF m 24 #[sI p1] [])) (fun _ k => XS.icmpYes X0.here hx rfl (pc0 := 9) (pc' := 24) rfl (hb hby d_37_9) rfl (teq hc9).1 (by decide) (by decide) k) ?_
      refine Go.of (T' := s₁) (f' := (mkF m 25 #[sI p1] [(.int (1 : Int32))])) (fun _ k => XS.iconst X0.here hx rfl (hb hby d_37_24) k) ?_
      refine Go.of (T' := s₁) (f' := (mkF m 29 #[sI p1] [(.int (1 : Int32))])) (fun _ k => XS.goto X0.here hx rfl (pc0 := 25) (pc' := 29) rfl (hb hby d_37_25) (by decide) (by decide) k) ?_
      exact goRetI (Q := Pu h0 (fun v => v = some (.int (bi (Ws p1))))) X0 hx (t := .boolean) hret hlk rfl (by simp) (hb hby d_37_29) K (by decide) (by decide) e0 (⟨rfl, rfl, by rw [bi_t (by first | exact Or.inl hc3 | exact Or.inr (Or.inl hc9) | exact Or.inr (Or.inr (Or.inl hc15)) | exact Or.inr (Or.inr (Or.inr hc21)))]⟩)
    ·
      refine Go.of (T' := s₁) (f' := (mkF m 12 #[sI p1] [])) (fun _ k => XS.icmpNo X0.here hx rfl (hb hby d_37_9) rfl (feq hc9).1 k) ?_
      refine Go.of (T' := s₁) (f' := (mkF m 13 #[sI p1] [(.int p1)])) (fun _ k => XS.iloadN X0.here hx rfl (hb hby d_37_12) rfl k) ?_
      refine Go.of (T' := s₁) (f' := (mkF m 15 #[sI p1] [(.int (10 : Int32)), (.int p1)])) (fun _ k => XS.bipush X0.here hx rfl (hb hby d_37_13) k) ?_
      by_cases hc15 : p1 = (10 : Int32)
      ·
        refine Go.of (T' := s₁) (f' := (mkF m 24 #[sI p1] [])) (fun _ k => XS.icmpYes X0.here hx rfl (pc0 := 15) (pc' := 24) rfl (hb hby d_37_15) rfl (teq hc15).1 (by decide) (by decide) k) ?_
        refine Go.of (T' := s₁) (f' := (mkF m 25 #[sI p1] [(.int (1 : Int32))])) (fun _ k => XS.iconst X0.here hx rfl (hb hby d_37_24) k) ?_
        refine Go.of (T' := s₁) (f' := (mkF m 29 #[sI p1] [(.int (1 : Int32))])) (fun _ k => XS.goto X0.here hx rfl (pc0 := 25) (pc' := 29) rfl (hb hby d_37_25) (by decide) (by decide) k) ?_
        exact goRetI (Q := Pu h0 (fun v => v = some (.int (bi (Ws p1))))) X0 hx (t := .boolean) hret hlk rfl (by simp) (hb hby d_37_29) K (by decide) (by decide) e0 (⟨rfl, rfl, by rw [bi_t (by first | exact Or.inl hc3 | exact Or.inr (Or.inl hc9) | exact Or.inr (Or.inr (Or.inl hc15)) | exact Or.inr (Or.inr (Or.inr hc21)))]⟩)
      ·
        refine Go.of (T' := s₁) (f' := (mkF m 18 #[sI p1] [])) (fun _ k => XS.icmpNo X0.here hx rfl (hb hby d_37_15) rfl (feq hc15).1 k) ?_
        refine Go.of (T' := s₁) (f' := (mkF m 19 #[sI p1] [(.int p1)])) (fun _ k => XS.iloadN X0.here hx rfl (hb hby d_37_18) rfl k) ?_
        refine Go.of (T' := s₁) (f' := (mkF m 21 #[sI p1] [(.int (13 : Int32)), (.int p1)])) (fun _ k => XS.bipush X0.here hx rfl (hb hby d_37_19) k) ?_
        by_cases hc21 : p1 = (13 : Int32)
        ·
          refine Go.of (T' := s₁) (f' := (mkF m 24 #[sI p1] [])) (fun _ k => XS.icmpNo X0.here hx rfl (hb hby d_37_21) rfl (teq hc21).2 k) ?_
          refine Go.of (T' := s₁) (f' := (mkF m 25 #[sI p1] [(.int (1 : Int32))])) (fun _ k => XS.iconst X0.here hx rfl (hb hby d_37_24) k) ?_
          refine Go.of (T' := s₁) (f' := (mkF m 29 #[sI p1] [(.int (1 : Int32))])) (fun _ k => XS.goto X0.here hx rfl (pc0 := 25) (pc' := 29) rfl (hb hby d_37_25) (by decide) (by decide) k) ?_
          exact goRetI (Q := Pu h0 (fun v => v = some (.int (bi (Ws p1))))) X0 hx (t := .boolean) hret hlk rfl (by simp) (hb hby d_37_29) K (by decide) (by decide) e0 (⟨rfl, rfl, by rw [bi_t (by first | exact Or.inl hc3 | exact Or.inr (Or.inl hc9) | exact Or.inr (Or.inr (Or.inl hc15)) | exact Or.inr (Or.inr (Or.inr hc21)))]⟩)
        ·
          refine Go.of (T' := s₁) (f' := (mkF m 28 #[sI p1] [])) (fun _ k => XS.icmpYes X0.here hx rfl (pc0 := 21) (pc' := 28) rfl (hb hby d_37_21) rfl (feq hc21).2 (by decide) (by decide) k) ?_
          refine Go.of (T' := s₁) (f' := (mkF m 29 #[sI p1] [(.int (0 : Int32))])) (fun _ k => XS.iconst X0.here hx rfl (hb hby d_37_28) k) ?_
          exact goRetI (Q := Pu h0 (fun v => v = some (.int (bi (Ws p1))))) X0 hx (t := .boolean) hret hlk rfl (by simp) (hb hby d_37_29) K (by decide) (by decide) e0 (⟨rfl, rfl, by rw [bi_f (by rintro (q | q | q | q); exact hc3 q; exact hc9 q; exact hc15 q; exact hc21 q)]⟩)
def stp (ss : List Int32) (k q : Nat) : Nat := if q < k ∧ Ws (ss.getD q 0) then q + 1 else q
theorem stp_t {ss : List Int32} {k q : Nat} (h : q < k ∧ Ws (ss.getD q 0)) : stp ss k q = q + 1 := if_pos h
theorem stp_f {ss : List Int32} {k q : Nat} (h : ¬ (q < k ∧ Ws (ss.getD q 0))) : stp ss k q = q := if_neg h
theorem stp_go {ss : List Int32} {k q : Nat} (hk : k ≤ ss.length) (hq : q ≤ k) : stp ss k q ≤ k ∧ stp ss k q + fst ((ss.take k).drop (stp ss k q)) = q + fst ((ss.take k).drop q) ∧ fst ((ss.take k).drop (stp ss k q)) = fst ((ss.take k).drop q) - 1 := by
  have hl : (ss.take k).length = k := by rw [List.length_take]; omega
  by_cases h : q < k ∧ Ws (ss.getD q 0)
  · rw [stp_t h]
    have := fstStep (cs := ss.take k) (i := q) (by omega) (by rw [gtk h.1]; exact h.2)
    omega
  · rw [stp_f h]
    have : fst ((ss.take k).drop q) = 0 := by
      by_cases hlt : q < k
      · exact fstStop (by omega) (by rw [gtk hlt]; exact fun r => h ⟨hlt, r⟩)
      · exact fstNil (by omega)
    omega
theorem stp3 {ss : List Int32} {k i : Nat} (hs : ss.length = 3) (hk : k ≤ 3) (hi : i ≤ k) : stp ss k (stp ss k (stp ss k i)) = i + fst ((ss.take k).drop i) := by
  have a := stp_go (ss := ss) (by omega) hi
  have b := stp_go (ss := ss) (by omega) a.1
  have c := stp_go (ss := ss) (by omega) b.1
  have d := fst_le ((ss.take k).drop i)
  rw [List.length_drop, List.length_take] at d
  omega
theorem ef_rm_wss (m : MethodId) (x0 : Addr) (x1 : Int32) (x2 : Int32)  : entryFrame m #[(.ref x0), (.int x1), (.int x2)] 4 = mkF m 0 #[.val (.ref x0), .val (.int x1), .val (.int x2), .unset] [] := by first | (simp [entryFrame, mkF, argsToLocals, Value.category]; done) | rfl
theorem d_38_0 : decode method_4_code 0 = .ok (.iload_n 2, 1) := by decide +kernel
theorem d_38_1 : decode method_4_code 1 = .ok (.istore_n 3, 1) := by decide +kernel
theorem d_38_2 : decode method_4_code 2 = .ok (.iload_n 3, 1) := by decide +kernel
theorem d_38_3 : decode method_4_code 3 = .ok (.iload_n 1, 1) := by decide +kernel
theorem d_38_19 : decode method_4_code 19 = .ok (.iload_n 3, 1) := by decide +kernel
theorem d_38_20 : decode method_4_code 20 = .ok (.iload_n 1, 1) := by decide +kernel
theorem d_38_36 : decode method_4_code 36 = .ok (.iload_n 3, 1) := by decide +kernel
theorem d_38_37 : decode method_4_code 37 = .ok (.iload_n 1, 1) := by decide +kernel
theorem d_38_53 : decode method_4_code 53 = .ok (.iload_n 3, 1) := by decide +kernel
theorem d_38_54 : decode method_4_code 54 = .ok (.ireturn, 1) := by decide +kernel
theorem d_38_38 : decode method_4_code 38 = .ok (.if_icmp .ge 15, 3) := by decide +kernel
theorem d_38_41 : decode method_4_code 41 = .ok (.aload_n 0, 1) := by decide +kernel
theorem d_38_42 : decode method_4_code 42 = .ok (.iload_n 3, 1) := by decide +kernel
theorem d_38_43 : decode method_4_code 43 = .ok (.caload, 1) := by decide +kernel
theorem d_38_44 : decode method_4_code 44 = .ok (.invokestatic 7, 3) := by decide +kernel
theorem pd__C_Z : parseMethodDescriptor "(C)Z" = some ⟨[.char], some .boolean⟩ := by decide +kernel
theorem d_38_47 : decode method_4_code 47 = .ok (.ifCond .eq 6, 3) := by decide +kernel
theorem d_38_50 : decode method_4_code 50 = .ok (.iinc 3 1, 3) := by decide +kernel
theorem d_38_21 : decode method_4_code 21 = .ok (.if_icmp .ge 15, 3) := by decide +kernel
theorem d_38_24 : decode method_4_code 24 = .ok (.aload_n 0, 1) := by decide +kernel
theorem d_38_25 : decode method_4_code 25 = .ok (.iload_n 3, 1) := by decide +kernel
theorem d_38_26 : decode method_4_code 26 = .ok (.caload, 1) := by decide +kernel
theorem d_38_27 : decode method_4_code 27 = .ok (.invokestatic 7, 3) := by decide +kernel
theorem d_38_30 : decode method_4_code 30 = .ok (.ifCond .eq 6, 3) := by decide +kernel
theorem d_38_33 : decode method_4_code 33 = .ok (.iinc 3 1, 3) := by decide +kernel
theorem d_38_4 : decode method_4_code 4 = .ok (.if_icmp .ge 15, 3) := by decide +kernel
theorem d_38_7 : decode method_4_code 7 = .ok (.aload_n 0, 1) := by decide +kernel
theorem d_38_8 : decode method_4_code 8 = .ok (.iload_n 3, 1) := by decide +kernel
theorem d_38_9 : decode method_4_code 9 = .ok (.caload, 1) := by decide +kernel
theorem d_38_10 : decode method_4_code 10 = .ok (.invokestatic 7, 3) := by decide +kernel
theorem d_38_13 : decode method_4_code 13 = .ok (.ifCond .eq 6, 3) := by decide +kernel
theorem d_38_16 : decode method_4_code 16 = .ok (.iinc 3 1, 3) := by decide +kernel
set_option maxRecDepth 65536 in
set_option maxHeartbeats 40000000 in
theorem rm_wss (l : Launch) (Z : State) (a0 : Array Value) (hw : ∀ d ∈ tables_1, d.before a0 Z = true) (a1 : Addr) (ka : ClassId) (ss : List Int32) (nk i : Nat) (h0 : Heap) (V_a1 : Arv Z h0 a1 ka (.char) (3 : Int32) (ss.map Value.int) (.int (0 : Int32))) (hs : ss.length = 3) (hk : nk ≤ 3) (hik : i ≤ nk) :
    MeetsW l Z (⟨"com/example/rezeptkern/rezeptkern/JsonCursorSkipPinLaw", "ws", "([CII)I"⟩ : MethodName) method_4_code 4 (some .int) ({ frames := 1, cells := 0, slots := 0, locals := 12 } : Room) #[(.ref a1), (.int (Int32.ofNat nk)), (.int (Int32.ofNat i))] h0 (Pu h0 (fun v => v = some (.int (Int32.ofNat (i + fst ((ss.take nk).drop i)))))) := by
  refine MeetsW.of (plainFor_of_name pn_com_example_rezeptkern_rezeptkern_JsonCursorSkipPinLaw) ?_
  intro p e s m below meth c s₁ P hx hby hml hZ hown hnm hret hlk X0 e0 K
  have M0 : Mv h0 h0 [] [] := Mv.refl _ _
  refine Go.cast (ef_rm_wss m a1 (Int32.ofNat nk) (Int32.ofNat i) ) ?_
  refine Go.of (T' := s₁) (f' := (mkF m 1 #[sR a1, sI (Int32.ofNat nk), sI (Int32.ofNat i), .unset] [(.int (Int32.ofNat i))])) (fun _ k => XS.iloadN X0.here hx rfl (hb hby d_38_0) rfl k) ?_
  refine Go.of (T' := s₁) (f' := (mkF m 2 #[sR a1, sI (Int32.ofNat nk), sI (Int32.ofNat i), sI (Int32.ofNat i)] [])) (fun _ k => XS.istoreN X0.here hx rfl (hb hby d_38_1) rfl (l' := #[sR a1, sI (Int32.ofNat nk), sI (Int32.ofNat i), sI (Int32.ofNat i)]) rfl k) ?_
  refine Go.of (T' := s₁) (f' := (mkF m 3 #[sR a1, sI (Int32.ofNat nk), sI (Int32.ofNat i), sI (Int32.ofNat i)] [(.int (Int32.ofNat i))])) (fun _ k => XS.iloadN X0.here hx rfl (hb hby d_38_2) rfl k) ?_
  refine Go.of (T' := s₁) (f' := (mkF m 4 #[sR a1, sI (Int32.ofNat nk), sI (Int32.ofNat i), sI (Int32.ofNat i)] [(.int (Int32.ofNat nk)), (.int (Int32.ofNat i))])) (fun _ k => XS.iloadN X0.here hx rfl (hb hby d_38_3) rfl k) ?_
  have J1 : ∀ (Tj1 : State) (rr1 : Nat), Stand p l e ({ frames := 1, cells := 0, slots := 0, locals := 12 } : Room) s m #[(.ref a1), (.int (Int32.ofNat nk)), (.int (Int32.ofNat i))] below meth c Tj1 [] 0 0 → Tj1.heap = h0 → rr1 = stp ss nk i → rr1 ≤ nk → Go p e below P Tj1 (mkF m 19 #[sR a1, sI (Int32.ofNat nk), sI (Int32.ofNat i), sI (Int32.ofNat rr1)] []) := by
    intro Tj1 rr1 Xj1 ej1 hrr1 lrr1
    refine Go.of (T' := Tj1) (f' := (mkF m 20 #[sR a1, sI (Int32.ofNat nk), sI (Int32.ofNat i), sI (Int32.ofNat rr1)] [(.int (Int32.ofNat rr1))])) (fun _ k => XS.iloadN Xj1.here hx rfl (hb hby d_38_19) rfl k) ?_
    refine Go.of (T' := Tj1) (f' := (mkF m 21 #[sR a1, sI (Int32.ofNat nk), sI (Int32.ofNat i), sI (Int32.ofNat rr1)] [(.int (Int32.ofNat nk)), (.int (Int32.ofNat rr1))])) (fun _ k => XS.iloadN Xj1.here hx rfl (hb hby d_38_20) rfl k) ?_
    have J2 : ∀ (Tj2 : State) (rr2 : Nat), Stand p l e ({ frames := 1, cells := 0, slots := 0, locals := 12 } : Room) s m #[(.ref a1), (.int (Int32.ofNat nk)), (.int (Int32.ofNat i))] below meth c Tj2 [] 0 0 → Tj2.heap = h0 → rr2 = stp ss nk rr1 → rr2 ≤ nk → Go p e below P Tj2 (mkF m 36 #[sR a1, sI (Int32.ofNat nk), sI (Int32.ofNat i), sI (Int32.ofNat rr2)] []) := by
      intro Tj2 rr2 Xj2 ej2 hrr2 lrr2
      refine Go.of (T' := Tj2) (f' := (mkF m 37 #[sR a1, sI (Int32.ofNat nk), sI (Int32.ofNat i), sI (Int32.ofNat rr2)] [(.int (Int32.ofNat rr2))])) (fun _ k => XS.iloadN Xj2.here hx rfl (hb hby d_38_36) rfl k) ?_
      refine Go.of (T' := Tj2) (f' := (mkF m 38 #[sR a1, sI (Int32.ofNat nk), sI (Int32.ofNat i), sI (Int32.ofNat rr2)] [(.int (Int32.ofNat nk)), (.int (Int32.ofNat rr2))])) (fun _ k => XS.iloadN Xj2.here hx rfl (hb hby d_38_37) rfl k) ?_
      have J3 : ∀ (Tj3 : State) (rr3 : Nat), Stand p l e ({ frames := 1, cells := 0, slots := 0, locals := 12 } : Room) s m #[(.ref a1), (.int (Int32.ofNat nk)), (.int (Int32.ofNat i))] below meth c Tj3 [] 0 0 → Tj3.heap = h0 → rr3 = stp ss nk rr2 → rr3 ≤ nk → Go p e below P Tj3 (mkF m 53 #[sR a1, sI (Int32.ofNat nk), sI (Int32.ofNat i), sI (Int32.ofNat rr3)] []) := by
        intro Tj3 rr3 Xj3 ej3 hrr3 lrr3
        refine Go.of (T' := Tj3) (f' := (mkF m 54 #[sR a1, sI (Int32.ofNat nk), sI (Int32.ofNat i), sI (Int32.ofNat rr3)] [(.int (Int32.ofNat rr3))])) (fun _ k => XS.iloadN Xj3.here hx rfl (hb hby d_38_53) rfl k) ?_
        exact goRetI (Q := Pu h0 (fun v => v = some (.int (Int32.ofNat (i + fst ((ss.take nk).drop i)))))) Xj3 hx (t := .int) hret hlk rfl (by simp) (hb hby d_38_54) K (by decide) (by decide) ej3 (⟨rfl, rfl, by rw [hrr3, hrr2, hrr1, stp3 hs hk hik]⟩)
      by_cases hc38 : (Int32.ofNat rr2) < (Int32.ofNat nk)
      ·
        refine Go.of (T' := Tj2) (f' := (mkF m 41 #[sR a1, sI (Int32.ofNat nk), sI (Int32.ofNat i), sI (Int32.ofNat rr2)] [])) (fun _ k => XS.icmpNo Xj2.here hx rfl (hb hby d_38_38) rfl (tlt hc38).2.1 k) ?_
        have hirr2 : rr2 < nk := (ltN (by omega) (by omega)).mp hc38
        refine Go.of (T' := Tj2) (f' := (mkF m 42 #[sR a1, sI (Int32.ofNat nk), sI (Int32.ofNat i), sI (Int32.ofNat rr2)] [(.ref a1)])) (fun _ k => XS.aloadN Xj2.here hx rfl (hb hby d_38_41) rfl rfl k) ?_
        refine Go.of (T' := Tj2) (f' := (mkF m 43 #[sR a1, sI (Int32.ofNat nk), sI (Int32.ofNat i), sI (Int32.ofNat rr2)] [(.int (Int32.ofNat rr2)), (.ref a1)])) (fun _ k => XS.iloadN Xj2.here hx rfl (hb hby d_38_42) rfl k) ?_
        obtain ⟨cl4, Ar4, cq4, Sz4, Nn4, Hs4, Gs4⟩ := id V_a1
        have hin4 : ¬ ((Int32.ofNat rr2) < 0 ∨ cl4.slots.size ≤ ((Int32.ofNat rr2)).toNatClampNeg) := by rw [inbS Sz4 (m := 3) rfl]; exact ⟨nneg (by omega), by rw [nat32 (by omega)]; omega⟩
        have hat4 : cl4.slots[((Int32.ofNat rr2)).toNatClampNeg]? = some (.int (ss.getD rr2 0)) := Has.at Hs4 hin4 (by rw [nat32 (by omega)]; exact mapGet (by omega))
        refine Go.of (T' := Tj2) (f' := (mkF m 44 #[sR a1, sI (Int32.ofNat nk), sI (Int32.ofNat i), sI (Int32.ofNat rr2)] [(.int (ss.getD rr2 0))])) (fun _ k => Xj2.caload hx (j := (Int32.ofNat rr2)) (v := (.int (ss.getD rr2 0))) (by rw [ej2]; exact Ar4.1) (State.isArrayOf_alike hZ.alike Ar4.2.1) Ar4.2.2 hin4 hat4 (g := (mkF m 43 #[sR a1, sI (Int32.ofNat nk), sI (Int32.ofNat i), sI (Int32.ofNat rr2)] [(.int (Int32.ofNat rr2)), (.ref a1)])) rfl rfl (hb hby d_38_43) _ k) ?_
        refine goS Xj2 hx hZ hown (hw _ (List.mem_of_getElem? (i := 110) rfl)) (hw _ (List.mem_of_getElem? (i := 111) rfl)) (hw _ (List.mem_of_getElem? (i := 2) rfl)) (hw _ (List.mem_of_getElem? (i := 112) rfl)) (by decide) (C := 0) (S := 0) ((rm_ws l Z a0 hw (ss.getD rr2 0) h0 ).bk (W := 0) hZ (hw _ (List.mem_of_getElem? (i := 112) rfl)) (hw _ (List.mem_of_getElem? (i := 2) rfl)) (by decide) (by decide)) ej2 (argsL := [(.int (ss.getD rr2 0))]) (rest := []) (by rw [hml]; rfl) (lenOf pd__C_Z rfl) rfl rfl (hb hby d_38_44) (Nat.le_of_eq rfl) (by decide) (by decide) ?_
        intro v5 T5 L5 X5 hQ5
        obtain ⟨nq5, e5, rfl⟩ := hQ5
        replace X5 := standNil X5 nq5
        show Go p e below P T5 (mkF m 47 #[sR a1, sI (Int32.ofNat nk), sI (Int32.ofNat i), sI (Int32.ofNat rr2)] [(.int (bi (Ws (ss.getD rr2 0))))])
        by_cases hc47 : Ws (ss.getD rr2 0)
        ·
          refine Go.of (T' := T5) (f' := (mkF m 50 #[sR a1, sI (Int32.ofNat nk), sI (Int32.ofNat i), sI (Int32.ofNat rr2)] [])) (fun _ k => XS.ifNo X5.here hx rfl (hb hby d_38_47) rfl ((if0 _ _).trans (feq (bi_ne hc47)).1) k) ?_
          refine Go.of (T' := T5) (f' := (mkF m 53 #[sR a1, sI (Int32.ofNat nk), sI (Int32.ofNat i), sI ((Int32.ofNat rr2) + (1 : Int32))] [])) (fun _ k => XS.iinc X5.here hx rfl (hb hby d_38_50) rfl (l' := #[sR a1, sI (Int32.ofNat nk), sI (Int32.ofNat i), sI ((Int32.ofNat rr2) + (1 : Int32))]) rfl k) ?_
          rw [show (Int32.ofNat rr2) + (1 : Int32) = Int32.ofNat (rr2 + 1) from (Int32.ofNat_add _ _).symm]
          exact J3 T5 (rr2 + 1) X5 e5 (stp_t ⟨hirr2, hc47⟩).symm hirr2
        ·
          refine Go.of (T' := T5) (f' := (mkF m 53 #[sR a1, sI (Int32.ofNat nk), sI (Int32.ofNat i), sI (Int32.ofNat rr2)] [])) (fun _ k => XS.ifYes X5.here hx rfl (pc0 := 47) (pc' := 53) rfl (hb hby d_38_47) rfl ((if0 _ _).trans (teq (bi_f hc47)).1) (by decide) (by decide) k) ?_
          exact J3 T5 rr2 X5 e5 (stp_f (fun r => hc47 r.2)).symm (by omega)
      ·
        refine Go.of (T' := Tj2) (f' := (mkF m 53 #[sR a1, sI (Int32.ofNat nk), sI (Int32.ofNat i), sI (Int32.ofNat rr2)] [])) (fun _ k => XS.icmpYes Xj2.here hx rfl (pc0 := 38) (pc' := 53) rfl (hb hby d_38_38) rfl (flt hc38).2.1 (by decide) (by decide) k) ?_
        exact J3 Tj2 rr2 Xj2 ej2 (stp_f (fun r => hc38 ((ltN (by omega) (by omega)).mpr r.1))).symm (by omega)
    by_cases hc21 : (Int32.ofNat rr1) < (Int32.ofNat nk)
    ·
      refine Go.of (T' := Tj1) (f' := (mkF m 24 #[sR a1, sI (Int32.ofNat nk), sI (Int32.ofNat i), sI (Int32.ofNat rr1)] [])) (fun _ k => XS.icmpNo Xj1.here hx rfl (hb hby d_38_21) rfl (tlt hc21).2.1 k) ?_
      have hirr1 : rr1 < nk := (ltN (by omega) (by omega)).mp hc21
      refine Go.of (T' := Tj1) (f' := (mkF m 25 #[sR a1, sI (Int32.ofNat nk), sI (Int32.ofNat i), sI (Int32.ofNat rr1)] [(.ref a1)])) (fun _ k => XS.aloadN Xj1.here hx rfl (hb hby d_38_24) rfl rfl k) ?_
      refine Go.of (T' := Tj1) (f' := (mkF m 26 #[sR a1, sI (Int32.ofNat nk), sI (Int32.ofNat i), sI (Int32.ofNat rr1)] [(.int (Int32.ofNat rr1)), (.ref a1)])) (fun _ k => XS.iloadN Xj1.here hx rfl (hb hby d_38_25) rfl k) ?_
      obtain ⟨cl6, Ar6, cq6, Sz6, Nn6, Hs6, Gs6⟩ := id V_a1
      have hin6 : ¬ ((Int32.ofNat rr1) < 0 ∨ cl6.slots.size ≤ ((Int32.ofNat rr1)).toNatClampNeg) := by rw [inbS Sz6 (m := 3) rfl]; exact ⟨nneg (by omega), by rw [nat32 (by omega)]; omega⟩
      have hat6 : cl6.slots[((Int32.ofNat rr1)).toNatClampNeg]? = some (.int (ss.getD rr1 0)) := Has.at Hs6 hin6 (by rw [nat32 (by omega)]; exact mapGet (by omega))
      refine Go.of (T' := Tj1) (f' := (mkF m 27 #[sR a1, sI (Int32.ofNat nk), sI (Int32.ofNat i), sI (Int32.ofNat rr1)] [(.int (ss.getD rr1 0))])) (fun _ k => Xj1.caload hx (j := (Int32.ofNat rr1)) (v := (.int (ss.getD rr1 0))) (by rw [ej1]; exact Ar6.1) (State.isArrayOf_alike hZ.alike Ar6.2.1) Ar6.2.2 hin6 hat6 (g := (mkF m 26 #[sR a1, sI (Int32.ofNat nk), sI (Int32.ofNat i), sI (Int32.ofNat rr1)] [(.int (Int32.ofNat rr1)), (.ref a1)])) rfl rfl (hb hby d_38_26) _ k) ?_
      refine goS Xj1 hx hZ hown (hw _ (List.mem_of_getElem? (i := 110) rfl)) (hw _ (List.mem_of_getElem? (i := 111) rfl)) (hw _ (List.mem_of_getElem? (i := 2) rfl)) (hw _ (List.mem_of_getElem? (i := 112) rfl)) (by decide) (C := 0) (S := 0) ((rm_ws l Z a0 hw (ss.getD rr1 0) h0 ).bk (W := 0) hZ (hw _ (List.mem_of_getElem? (i := 112) rfl)) (hw _ (List.mem_of_getElem? (i := 2) rfl)) (by decide) (by decide)) ej1 (argsL := [(.int (ss.getD rr1 0))]) (rest := []) (by rw [hml]; rfl) (lenOf pd__C_Z rfl) rfl rfl (hb hby d_38_27) (Nat.le_of_eq rfl) (by decide) (by decide) ?_
      intro v7 T7 L7 X7 hQ7
      obtain ⟨nq7, e7, rfl⟩ := hQ7
      replace X7 := standNil X7 nq7
      show Go p e below P T7 (mkF m 30 #[sR a1, sI (Int32.ofNat nk), sI (Int32.ofNat i), sI (Int32.ofNat rr1)] [(.int (bi (Ws (ss.getD rr1 0))))])
      by_cases hc30 : Ws (ss.getD rr1 0)
      ·
        refine Go.of (T' := T7) (f' := (mkF m 33 #[sR a1, sI (Int32.ofNat nk), sI (Int32.ofNat i), sI (Int32.ofNat rr1)] [])) (fun _ k => XS.ifNo X7.here hx rfl (hb hby d_38_30) rfl ((if0 _ _).trans (feq (bi_ne hc30)).1) k) ?_
        refine Go.of (T' := T7) (f' := (mkF m 36 #[sR a1, sI (Int32.ofNat nk), sI (Int32.ofNat i), sI ((Int32.ofNat rr1) + (1 : Int32))] [])) (fun _ k => XS.iinc X7.here hx rfl (hb hby d_38_33) rfl (l' := #[sR a1, sI (Int32.ofNat nk), sI (Int32.ofNat i), sI ((Int32.ofNat rr1) + (1 : Int32))]) rfl k) ?_
        rw [show (Int32.ofNat rr1) + (1 : Int32) = Int32.ofNat (rr1 + 1) from (Int32.ofNat_add _ _).symm]
        exact J2 T7 (rr1 + 1) X7 e7 (stp_t ⟨hirr1, hc30⟩).symm hirr1
      ·
        refine Go.of (T' := T7) (f' := (mkF m 36 #[sR a1, sI (Int32.ofNat nk), sI (Int32.ofNat i), sI (Int32.ofNat rr1)] [])) (fun _ k => XS.ifYes X7.here hx rfl (pc0 := 30) (pc' := 36) rfl (hb hby d_38_30) rfl ((if0 _ _).trans (teq (bi_f hc30)).1) (by decide) (by decide) k) ?_
        exact J2 T7 rr1 X7 e7 (stp_f (fun r => hc30 r.2)).symm (by omega)
    ·
      refine Go.of (T' := Tj1) (f' := (mkF m 36 #[sR a1, sI (Int32.ofNat nk), sI (Int32.ofNat i), sI (Int32.ofNat rr1)] [])) (fun _ k => XS.icmpYes Xj1.here hx rfl (pc0 := 21) (pc' := 36) rfl (hb hby d_38_21) rfl (flt hc21).2.1 (by decide) (by decide) k) ?_
      exact J2 Tj1 rr1 Xj1 ej1 (stp_f (fun r => hc21 ((ltN (by omega) (by omega)).mpr r.1))).symm (by omega)
  by_cases hc4 : (Int32.ofNat i) < (Int32.ofNat nk)
  ·
    refine Go.of (T' := s₁) (f' := (mkF m 7 #[sR a1, sI (Int32.ofNat nk), sI (Int32.ofNat i), sI (Int32.ofNat i)] [])) (fun _ k => XS.icmpNo X0.here hx rfl (hb hby d_38_4) rfl (tlt hc4).2.1 k) ?_
    have hii : i < nk := (ltN (by omega) (by omega)).mp hc4
    refine Go.of (T' := s₁) (f' := (mkF m 8 #[sR a1, sI (Int32.ofNat nk), sI (Int32.ofNat i), sI (Int32.ofNat i)] [(.ref a1)])) (fun _ k => XS.aloadN X0.here hx rfl (hb hby d_38_7) rfl rfl k) ?_
    refine Go.of (T' := s₁) (f' := (mkF m 9 #[sR a1, sI (Int32.ofNat nk), sI (Int32.ofNat i), sI (Int32.ofNat i)] [(.int (Int32.ofNat i)), (.ref a1)])) (fun _ k => XS.iloadN X0.here hx rfl (hb hby d_38_8) rfl k) ?_
    obtain ⟨cl8, Ar8, cq8, Sz8, Nn8, Hs8, Gs8⟩ := id V_a1
    have hin8 : ¬ ((Int32.ofNat i) < 0 ∨ cl8.slots.size ≤ ((Int32.ofNat i)).toNatClampNeg) := by rw [inbS Sz8 (m := 3) rfl]; exact ⟨nneg (by omega), by rw [nat32 (by omega)]; omega⟩
    have hat8 : cl8.slots[((Int32.ofNat i)).toNatClampNeg]? = some (.int (ss.getD i 0)) := Has.at Hs8 hin8 (by rw [nat32 (by omega)]; exact mapGet (by omega))
    refine Go.of (T' := s₁) (f' := (mkF m 10 #[sR a1, sI (Int32.ofNat nk), sI (Int32.ofNat i), sI (Int32.ofNat i)] [(.int (ss.getD i 0))])) (fun _ k => X0.caload hx (j := (Int32.ofNat i)) (v := (.int (ss.getD i 0))) (by rw [e0]; exact Ar8.1) (State.isArrayOf_alike hZ.alike Ar8.2.1) Ar8.2.2 hin8 hat8 (g := (mkF m 9 #[sR a1, sI (Int32.ofNat nk), sI (Int32.ofNat i), sI (Int32.ofNat i)] [(.int (Int32.ofNat i)), (.ref a1)])) rfl rfl (hb hby d_38_9) _ k) ?_
    refine goS X0 hx hZ hown (hw _ (List.mem_of_getElem? (i := 110) rfl)) (hw _ (List.mem_of_getElem? (i := 111) rfl)) (hw _ (List.mem_of_getElem? (i := 2) rfl)) (hw _ (List.mem_of_getElem? (i := 112) rfl)) (by decide) (C := 0) (S := 0) ((rm_ws l Z a0 hw (ss.getD i 0) h0 ).bk (W := 0) hZ (hw _ (List.mem_of_getElem? (i := 112) rfl)) (hw _ (List.mem_of_getElem? (i := 2) rfl)) (by decide) (by decide)) e0 (argsL := [(.int (ss.getD i 0))]) (rest := []) (by rw [hml]; rfl) (lenOf pd__C_Z rfl) rfl rfl (hb hby d_38_10) (Nat.le_of_eq rfl) (by decide) (by decide) ?_
    intro v9 T9 L9 X9 hQ9
    obtain ⟨nq9, e9, rfl⟩ := hQ9
    replace X9 := standNil X9 nq9
    show Go p e below P T9 (mkF m 13 #[sR a1, sI (Int32.ofNat nk), sI (Int32.ofNat i), sI (Int32.ofNat i)] [(.int (bi (Ws (ss.getD i 0))))])
    by_cases hc13 : Ws (ss.getD i 0)
    ·
      refine Go.of (T' := T9) (f' := (mkF m 16 #[sR a1, sI (Int32.ofNat nk), sI (Int32.ofNat i), sI (Int32.ofNat i)] [])) (fun _ k => XS.ifNo X9.here hx rfl (hb hby d_38_13) rfl ((if0 _ _).trans (feq (bi_ne hc13)).1) k) ?_
      refine Go.of (T' := T9) (f' := (mkF m 19 #[sR a1, sI (Int32.ofNat nk), sI (Int32.ofNat i), sI ((Int32.ofNat i) + (1 : Int32))] [])) (fun _ k => XS.iinc X9.here hx rfl (hb hby d_38_16) rfl (l' := #[sR a1, sI (Int32.ofNat nk), sI (Int32.ofNat i), sI ((Int32.ofNat i) + (1 : Int32))]) rfl k) ?_
      rw [show (Int32.ofNat i) + (1 : Int32) = Int32.ofNat (i + 1) from (Int32.ofNat_add _ _).symm]
      exact J1 T9 (i + 1) X9 e9 (stp_t ⟨hii, hc13⟩).symm hii
    ·
      refine Go.of (T' := T9) (f' := (mkF m 19 #[sR a1, sI (Int32.ofNat nk), sI (Int32.ofNat i), sI (Int32.ofNat i)] [])) (fun _ k => XS.ifYes X9.here hx rfl (pc0 := 13) (pc' := 19) rfl (hb hby d_38_13) rfl ((if0 _ _).trans (teq (bi_f hc13)).1) (by decide) (by decide) k) ?_
      exact J1 T9 i X9 e9 (stp_f (fun r => hc13 r.2)).symm (by omega)
  ·
    refine Go.of (T' := s₁) (f' := (mkF m 19 #[sR a1, sI (Int32.ofNat nk), sI (Int32.ofNat i), sI (Int32.ofNat i)] [])) (fun _ k => XS.icmpYes X0.here hx rfl (pc0 := 4) (pc' := 19) rfl (hb hby d_38_4) rfl (flt hc4).2.1 (by decide) (by decide) k) ?_
    exact J1 s₁ i X0 e0 (stp_f (fun r => hc4 ((ltN (by omega) (by omega)).mpr r.1))).symm (by omega)
theorem n3 (p : Int32) : ∃ k : Nat, k < 4 ∧ (p &&& (3 : Int32)) = Int32.ofNat k := by
  have h := c_mask p 3 2 (by decide) (by decide)
  refine ⟨(p &&& (3 : Int32)).toInt.toNat, by omega, ?_⟩
  apply Int32.toInt_inj.mp
  rw [n32i (by omega)]; omega
theorem tk3 {k : Nat} (hk : k < 4) (h0 : ¬ Int32.ofNat k = (0 : Int32)) (h1 : ¬ Int32.ofNat k = (1 : Int32)) (h2 : ¬ Int32.ofNat k = (2 : Int32)) : k = 3 := by
  have a0 : k ≠ 0 := fun q => h0 (by rw [q]; rfl)
  have a1 : k ≠ 1 := fun q => h1 (by rw [q]; rfl)
  have a2 : k ≠ 2 := fun q => h2 (by rw [q]; rfl)
  omega
theorem ef_rm_law (m : MethodId) (x0 : Int32) (x1 : Int32) (x2 : Int32) (x3 : Int32) (x4 : Int32) (x5 : Int32)  : entryFrame m #[(.int x0), (.int x1), (.int x2), (.int x3), (.int x4), (.int x5)] maxLocals = mkF m 0 #[.val (.int x0), .val (.int x1), .val (.int x2), .val (.int x3), .val (.int x4), .val (.int x5), .unset, .unset, .unset, .unset, .unset, .unset, .unset, .unset, .unset, .unset, .unset, .unset, .unset, .unset, .unset, .unset, .unset, .unset, .unset] [] := by first | (simp [entryFrame, mkF, argsToLocals, Value.category, maxLocals]; done) | rfl
theorem pd__I_C : parseMethodDescriptor "(I)C" = some ⟨[.int], some .char⟩ := by decide +kernel
theorem pd__Ljava_lang_String_Ljava_lang_String__V : parseMethodDescriptor "(Ljava/lang/String;Ljava/lang/String;)V" = some ⟨[(.object "java/lang/String"), (.object "java/lang/String")], none⟩ := by decide +kernel
theorem pd__I_Ljava_lang_String_ : parseMethodDescriptor "(I)Ljava/lang/String;" = some ⟨[.int], some (.object "java/lang/String")⟩ := by decide +kernel
theorem pd___CII_I : parseMethodDescriptor "([CII)I" = some ⟨[(.array .char), .int, .int], some .int⟩ := by decide +kernel
theorem pd___C_V : parseMethodDescriptor "([C)V" = some ⟨[(.array .char)], none⟩ := by decide +kernel
theorem hw_words {Z : State} {a0 : Array Value} (hw : ∀ d ∈ tables_1, d.before a0 Z = true) : ∀ d ∈ StrChars.Road.words, d.before a0 Z = true := fun d hd => hw d ((by decide +kernel : ∀ d ∈ StrChars.Road.words, d ∈ tables_1) d hd)
set_option maxRecDepth 65536 in
set_option maxHeartbeats 40000000 in
theorem rm_law (l : Launch) (Z : State) (a0 : Array Value) (hw : ∀ d ∈ tables_1, d.before a0 Z = true) (p1 p2 p3 p4 p5 p6 zc : Int32) (fm : Value) (h0 : Heap) (Z_ad : Sta Z h0 "java/lang/StringUTF16" "$assertionsDisabled" "Z" (.int (1 : Int32))) (Z_hs : Sta Z h0 "java/lang/StringUTF16" "HI_BYTE_SHIFT" "I" (.int (0 : Int32))) (Z_ls : Sta Z h0 "java/lang/StringUTF16" "LO_BYTE_SHIFT" "I" (.int (8 : Int32))) (Z_fm : Sta Z h0 "jdk/internal/util/Preconditions" "SIOOBE_FORMATTER" "Ljava/util/function/BiFunction;" fm) (hfm : fm.isRef = true) (Z_cs : Sta Z h0 "java/lang/String" "COMPACT_STRINGS" "Z" (.int zc)) (hz : ¬ zc = 0) :
    MeetsH l Z consts_1 x code maxLocals ret room_1 #[(.int p1), (.int p2), (.int p3), (.int p4), (.int p5), (.int p6)] h0 (fun v h L => v = some (.int 1) ∧ Mv h0 h [] L) := by
  refine MeetsH.of (plainFor_of_name pn_com_example_rezeptkern_rezeptkern_JsonCursorSkipPinLaw) ?_
  intro p e s m below meth c s₁ P hx hby hml hZ hown hnm hret hlk X0 e0 hS RH K
  have hk : h0.size ≤ h0.size := Nat.le_refl _
  replace hZ : Z.Warmed39 (s.setVm s.vm).vm := hZ
  replace hown : (s.setVm s.vm).vm.findClass "com/example/rezeptkern/rezeptkern/JsonCursorSkipPinLaw" = some m.cls := hown
  have M0 : Mv h0 h0 [] [] := Mv.refl _ _
  refine Go.cast (ef_rm_law m p1 p2 p3 p4 p5 p6 ) ?_
  refine Go.of (T' := s₁) (f' := (mkF m 2 #[sI p1, sI p2, sI p3, sI p4, sI p5, sI p6, .unset, .unset, .unset, .unset, .unset, .unset, .unset, .unset, .unset, .unset, .unset, .unset, .unset, .unset, .unset, .unset, .unset, .unset, .unset] [(.int p6)])) (fun _ k => XS.iload X0.here hx rfl (hb hby at_0) rfl k) ?_
  refine Go.of (T' := s₁) (f' := (mkF m 3 #[sI p1, sI p2, sI p3, sI p4, sI p5, sI p6, .unset, .unset, .unset, .unset, .unset, .unset, .unset, .unset, .unset, .unset, .unset, .unset, .unset, .unset, .unset, .unset, .unset, .unset, .unset] [(.int (3 : Int32)), (.int p6)])) (fun _ k => XS.iconst X0.here hx rfl (hb hby at_2) k) ?_
  refine Go.of (T' := s₁) (f' := (mkF m 4 #[sI p1, sI p2, sI p3, sI p4, sI p5, sI p6, .unset, .unset, .unset, .unset, .unset, .unset, .unset, .unset, .unset, .unset, .unset, .unset, .unset, .unset, .unset, .unset, .unset, .unset, .unset] [(.int (p6 &&& (3 : Int32)))])) (fun _ k => XS.iand X0.here hx rfl (hb hby at_3) rfl k) ?_
  refine Go.of (T' := s₁) (f' := (mkF m 6 #[sI p1, sI p2, sI p3, sI p4, sI p5, sI p6, sI (p6 &&& (3 : Int32)), .unset, .unset, .unset, .unset, .unset, .unset, .unset, .unset, .unset, .unset, .unset, .unset, .unset, .unset, .unset, .unset, .unset, .unset] [])) (fun _ k => XS.istore X0.here hx rfl (hb hby at_4) rfl (l' := #[sI p1, sI p2, sI p3, sI p4, sI p5, sI p6, sI (p6 &&& (3 : Int32)), .unset, .unset, .unset, .unset, .unset, .unset, .unset, .unset, .unset, .unset, .unset, .unset, .unset, .unset, .unset, .unset, .unset, .unset]) rfl k) ?_
  obtain ⟨nk, hnk, hke⟩ := n3 p6
  rw [hke]
  show Go p e below P s₁ (mkF m 6 #[sI p1, sI p2, sI p3, sI p4, sI p5, sI p6, sI (Int32.ofNat nk), .unset, .unset, .unset, .unset, .unset, .unset, .unset, .unset, .unset, .unset, .unset, .unset, .unset, .unset, .unset, .unset, .unset, .unset] [])
  refine Go.of (T' := s₁) (f' := (mkF m 7 #[sI p1, sI p2, sI p3, sI p4, sI p5, sI p6, sI (Int32.ofNat nk), .unset, .unset, .unset, .unset, .unset, .unset, .unset, .unset, .unset, .unset, .unset, .unset, .unset, .unset, .unset, .unset, .unset, .unset] [(.int p1)])) (fun _ k => XS.iloadN X0.here hx rfl (hb hby at_6) rfl k) ?_
  refine goS X0 hx hZ hown (hw _ (List.mem_of_getElem? (i := 0) rfl)) (hw _ (List.mem_of_getElem? (i := 1) rfl)) (hw _ (List.mem_of_getElem? (i := 2) rfl)) (hw _ (List.mem_of_getElem? (i := 3) rfl)) (by decide) (C := 0) (S := 0) ((rm_draw l Z a0 hw p1 h0).bk (W := 0) hZ (hw _ (List.mem_of_getElem? (i := 3) rfl)) (hw _ (List.mem_of_getElem? (i := 2) rfl)) (by decide) (by decide)) e0 (argsL := [(.int p1)]) (rest := []) (by rw [hml]; rfl) (lenOf pd__I_C rfl) rfl rfl (hb hby at_7) (Nat.le_of_eq rfl) (by decide) (by decide) ?_
  intro v1 T1 L1 X1 hQ1
  obtain ⟨nq1, e1, u1, rfl, hu1⟩ := hQ1
  replace X1 := standNil X1 nq1
  show Go p e below P T1 (mkF m 10 #[sI p1, sI p2, sI p3, sI p4, sI p5, sI p6, sI (Int32.ofNat nk), .unset, .unset, .unset, .unset, .unset, .unset, .unset, .unset, .unset, .unset, .unset, .unset, .unset, .unset, .unset, .unset, .unset, .unset] [(.int u1)])
  refine Go.of (T' := T1) (f' := (mkF m 12 #[sI p1, sI p2, sI p3, sI p4, sI p5, sI p6, sI (Int32.ofNat nk), sI u1, .unset, .unset, .unset, .unset, .unset, .unset, .unset, .unset, .unset, .unset, .unset, .unset, .unset, .unset, .unset, .unset, .unset] [])) (fun _ k => XS.istore X1.here hx rfl (hb hby at_10) rfl (l' := #[sI p1, sI p2, sI p3, sI p4, sI p5, sI p6, sI (Int32.ofNat nk), sI u1, .unset, .unset, .unset, .unset, .unset, .unset, .unset, .unset, .unset, .unset, .unset, .unset, .unset, .unset, .unset, .unset, .unset]) rfl k) ?_
  refine Go.of (T' := T1) (f' := (mkF m 13 #[sI p1, sI p2, sI p3, sI p4, sI p5, sI p6, sI (Int32.ofNat nk), sI u1, .unset, .unset, .unset, .unset, .unset, .unset, .unset, .unset, .unset, .unset, .unset, .unset, .unset, .unset, .unset, .unset, .unset] [(.int p2)])) (fun _ k => XS.iloadN X1.here hx rfl (hb hby at_12) rfl k) ?_
  refine goS X1 hx hZ hown (hw _ (List.mem_of_getElem? (i := 0) rfl)) (hw _ (List.mem_of_getElem? (i := 1) rfl)) (hw _ (List.mem_of_getElem? (i := 2) rfl)) (hw _ (List.mem_of_getElem? (i := 3) rfl)) (by decide) (C := 0) (S := 0) ((rm_draw l Z a0 hw p2 h0).bk (W := 0) hZ (hw _ (List.mem_of_getElem? (i := 3) rfl)) (hw _ (List.mem_of_getElem? (i := 2) rfl)) (by decide) (by decide)) e1 (argsL := [(.int p2)]) (rest := []) (by rw [hml]; rfl) (lenOf pd__I_C rfl) rfl rfl (hb hby at_13) (Nat.le_of_eq rfl) (by decide) (by decide) ?_
  intro v2 T2 L2 X2 hQ2
  obtain ⟨nq2, e2, u2, rfl, hu2⟩ := hQ2
  replace X2 := standNil X2 nq2
  show Go p e below P T2 (mkF m 16 #[sI p1, sI p2, sI p3, sI p4, sI p5, sI p6, sI (Int32.ofNat nk), sI u1, .unset, .unset, .unset, .unset, .unset, .unset, .unset, .unset, .unset, .unset, .unset, .unset, .unset, .unset, .unset, .unset, .unset] [(.int u2)])
  refine Go.of (T' := T2) (f' := (mkF m 18 #[sI p1, sI p2, sI p3, sI p4, sI p5, sI p6, sI (Int32.ofNat nk), sI u1, sI u2, .unset, .unset, .unset, .unset, .unset, .unset, .unset, .unset, .unset, .unset, .unset, .unset, .unset, .unset, .unset, .unset] [])) (fun _ k => XS.istore X2.here hx rfl (hb hby at_16) rfl (l' := #[sI p1, sI p2, sI p3, sI p4, sI p5, sI p6, sI (Int32.ofNat nk), sI u1, sI u2, .unset, .unset, .unset, .unset, .unset, .unset, .unset, .unset, .unset, .unset, .unset, .unset, .unset, .unset, .unset, .unset]) rfl k) ?_
  refine Go.of (T' := T2) (f' := (mkF m 19 #[sI p1, sI p2, sI p3, sI p4, sI p5, sI p6, sI (Int32.ofNat nk), sI u1, sI u2, .unset, .unset, .unset, .unset, .unset, .unset, .unset, .unset, .unset, .unset, .unset, .unset, .unset, .unset, .unset, .unset] [(.int p3)])) (fun _ k => XS.iloadN X2.here hx rfl (hb hby at_18) rfl k) ?_
  refine goS X2 hx hZ hown (hw _ (List.mem_of_getElem? (i := 0) rfl)) (hw _ (List.mem_of_getElem? (i := 1) rfl)) (hw _ (List.mem_of_getElem? (i := 2) rfl)) (hw _ (List.mem_of_getElem? (i := 3) rfl)) (by decide) (C := 0) (S := 0) ((rm_draw l Z a0 hw p3 h0).bk (W := 0) hZ (hw _ (List.mem_of_getElem? (i := 3) rfl)) (hw _ (List.mem_of_getElem? (i := 2) rfl)) (by decide) (by decide)) e2 (argsL := [(.int p3)]) (rest := []) (by rw [hml]; rfl) (lenOf pd__I_C rfl) rfl rfl (hb hby at_19) (Nat.le_of_eq rfl) (by decide) (by decide) ?_
  intro v3 T3 L3 X3 hQ3
  obtain ⟨nq3, e3, u3, rfl, hu3⟩ := hQ3
  replace X3 := standNil X3 nq3
  show Go p e below P T3 (mkF m 22 #[sI p1, sI p2, sI p3, sI p4, sI p5, sI p6, sI (Int32.ofNat nk), sI u1, sI u2, .unset, .unset, .unset, .unset, .unset, .unset, .unset, .unset, .unset, .unset, .unset, .unset, .unset, .unset, .unset, .unset] [(.int u3)])
  refine Go.of (T' := T3) (f' := (mkF m 24 #[sI p1, sI p2, sI p3, sI p4, sI p5, sI p6, sI (Int32.ofNat nk), sI u1, sI u2, sI u3, .unset, .unset, .unset, .unset, .unset, .unset, .unset, .unset, .unset, .unset, .unset, .unset, .unset, .unset, .unset] [])) (fun _ k => XS.istore X3.here hx rfl (hb hby at_22) rfl (l' := #[sI p1, sI p2, sI p3, sI p4, sI p5, sI p6, sI (Int32.ofNat nk), sI u1, sI u2, sI u3, .unset, .unset, .unset, .unset, .unset, .unset, .unset, .unset, .unset, .unset, .unset, .unset, .unset, .unset, .unset]) rfl k) ?_
  refine Go.of (T' := T3) (f' := (mkF m 25 #[sI p1, sI p2, sI p3, sI p4, sI p5, sI p6, sI (Int32.ofNat nk), sI u1, sI u2, sI u3, .unset, .unset, .unset, .unset, .unset, .unset, .unset, .unset, .unset, .unset, .unset, .unset, .unset, .unset, .unset] [(.int (3 : Int32))])) (fun _ k => XS.iconst X3.here hx rfl (hb hby at_24) k) ?_
  obtain ⟨T4, h4, k4, X4, e4, E4, A4, st4⟩ := newP X3 hx hZ (hw _ (List.mem_of_getElem? (i := 4) rfl)) e3 (g := (mkF m 25 #[sI p1, sI p2, sI p3, sI p4, sI p5, sI p6, sI (Int32.ofNat nk), sI u1, sI u2, sI u3, .unset, .unset, .unset, .unset, .unset, .unset, .unset, .unset, .unset, .unset, .unset, .unset, .unset, .unset, .unset] [(.int (3 : Int32))])) rfl (hb hby at_25) rfl (by decide) (cap := 3) (by decide) (by decide) (by decide) (by decide)
  obtain ⟨b4, g4⟩ : ∃ z, z = h0.size := ⟨_, rfl⟩
  rw [← g4] at A4 st4
  have fr_b4 : h0.size ≤ b4 := Nat.le_trans M0.le (Nat.le_of_eq g4.symm)
  have Sf_b4 := Safe.new (Z := Z) (EL := consts_1) (vm := s.vm) (Nat.le_of_eq g4.symm)
  have K4 := keepE E4
  have M4 := M0.ext E4
  replace hk := Nat.le_trans hk (K4).1
  have hs5 := CHr.keep (K4) sf0 RH.1
  replace Sf_b4 := Safe.keep (K4) sf0 RH.1 Sf_b4
  replace RH := RH.trans hs5
  replace Z_ad := StaKeep Z_ad K4 all0
  replace Z_hs := StaKeep Z_hs K4 all0
  replace Z_ls := StaKeep Z_ls K4 all0
  replace Z_fm := StaKeep Z_fm K4 all0
  replace Z_cs := StaKeep Z_cs K4 all0
  have V_b4 : Arv Z h4 b4 k4 .char (3 : Int32) [(.int (0 : Int32)), (.int (0 : Int32)), (.int (0 : Int32))] (.int (0 : Int32)) := (Arv.new A4 (by decide)).pad (pad_rep [] (.int (0 : Int32)) 3)
  refine Go.of (T' := T4) (f' := (mkF m 27 #[sI p1, sI p2, sI p3, sI p4, sI p5, sI p6, sI (Int32.ofNat nk), sI u1, sI u2, sI u3, .unset, .unset, .unset, .unset, .unset, .unset, .unset, .unset, .unset, .unset, .unset, .unset, .unset, .unset, .unset] [(.ref b4)])) st4 ?_
  refine Go.of (T' := T4) (f' := (mkF m 28 #[sI p1, sI p2, sI p3, sI p4, sI p5, sI p6, sI (Int32.ofNat nk), sI u1, sI u2, sI u3, .unset, .unset, .unset, .unset, .unset, .unset, .unset, .unset, .unset, .unset, .unset, .unset, .unset, .unset, .unset] [(.ref b4), (.ref b4)])) (fun _ k => XS.dup X4.here hx rfl (hb hby at_27) rfl rfl k) ?_
  refine Go.of (T' := T4) (f' := (mkF m 29 #[sI p1, sI p2, sI p3, sI p4, sI p5, sI p6, sI (Int32.ofNat nk), sI u1, sI u2, sI u3, .unset, .unset, .unset, .unset, .unset, .unset, .unset, .unset, .unset, .unset, .unset, .unset, .unset, .unset, .unset] [(.int (0 : Int32)), (.ref b4), (.ref b4)])) (fun _ k => XS.iconst X4.here hx rfl (hb hby at_28) k) ?_
  refine Go.of (T' := T4) (f' := (mkF m 31 #[sI p1, sI p2, sI p3, sI p4, sI p5, sI p6, sI (Int32.ofNat nk), sI u1, sI u2, sI u3, .unset, .unset, .unset, .unset, .unset, .unset, .unset, .unset, .unset, .unset, .unset, .unset, .unset, .unset, .unset] [(.int u1), (.int (0 : Int32)), (.ref b4), (.ref b4)])) (fun _ k => XS.iload X4.here hx rfl (hb hby at_29) rfl k) ?_
  obtain ⟨cl6, Ar6, cq6, Sz6, Nn6, Hs6, Gs6⟩ := id V_b4
  have hin6 : ¬ ((0 : Int32) < 0 ∨ cl6.slots.size ≤ ((0 : Int32)).toNatClampNeg) := inb_of Sz6 ⟨by decide, by decide⟩
  obtain ⟨T6, h6, X6, e6, W6, st6⟩ := stC X4 hx hZ e4 Ar6 (j := (0 : Int32)) hin6 (g := (mkF m 31 #[sI p1, sI p2, sI p3, sI p4, sI p5, sI p6, sI (Int32.ofNat nk), sI u1, sI u2, sI u3, .unset, .unset, .unset, .unset, .unset, .unset, .unset, .unset, .unset, .unset, .unset, .unset, .unset, .unset, .unset] [(.int u1), (.int (0 : Int32)), (.ref b4), (.ref b4)])) rfl rfl (hb hby at_31)
  have fq6 : fits .char (.int (nar .char u1)) = true := fits_nar_char _
  rw [show nar .char u1 = u1 from nar_rng hu1] at W6 fq6
  have V6 := Arv.set Ar6 cq6 Sz6 Nn6 Hs6 Gs6 fq6 W6 0 rfl (Nat.le_of_ble_eq_true rfl)
  have V_b4_o := V_b4
  have K6 := Keep.of_wr W6
  have M6 := M4.wr W6 (Or.inr fr_b4)
  replace hk := Nat.le_trans hk (K6).1
  have hq7 : ∀ x ∈ ([b4] : List Addr), Safe Z consts_1 s.vm h4 x := (sfS Sf_b4 sf0)
  have hs7 := CHr.keep (K6) hq7 RH.1
  replace Sf_b4 := Safe.keep (K6) hq7 RH.1 Sf_b4
  replace RH := RH.trans hs7
  replace Z_ad := StaKeep Z_ad K6 (allS (staArv V_b4_o) all0)
  replace Z_hs := StaKeep Z_hs K6 (allS (staArv V_b4_o) all0)
  replace Z_ls := StaKeep Z_ls K6 (allS (staArv V_b4_o) all0)
  replace Z_fm := StaKeep Z_fm K6 (allS (staArv V_b4_o) all0)
  replace Z_cs := StaKeep Z_cs K6 (allS (staArv V_b4_o) all0)
  replace V_b4 : Arv Z h6 b4 k4 .char (3 : Int32) [(.int u1), (.int (0 : Int32)), (.int (0 : Int32))] (.int (0 : Int32)) := V6
  refine Go.of (T' := T6) (f' := (mkF m 32 #[sI p1, sI p2, sI p3, sI p4, sI p5, sI p6, sI (Int32.ofNat nk), sI u1, sI u2, sI u3, .unset, .unset, .unset, .unset, .unset, .unset, .unset, .unset, .unset, .unset, .unset, .unset, .unset, .unset, .unset] [(.ref b4)])) st6 ?_
  refine Go.of (T' := T6) (f' := (mkF m 33 #[sI p1, sI p2, sI p3, sI p4, sI p5, sI p6, sI (Int32.ofNat nk), sI u1, sI u2, sI u3, .unset, .unset, .unset, .unset, .unset, .unset, .unset, .unset, .unset, .unset, .unset, .unset, .unset, .unset, .unset] [(.ref b4), (.ref b4)])) (fun _ k => XS.dup X6.here hx rfl (hb hby at_32) rfl rfl k) ?_
  refine Go.of (T' := T6) (f' := (mkF m 34 #[sI p1, sI p2, sI p3, sI p4, sI p5, sI p6, sI (Int32.ofNat nk), sI u1, sI u2, sI u3, .unset, .unset, .unset, .unset, .unset, .unset, .unset, .unset, .unset, .unset, .unset, .unset, .unset, .unset, .unset] [(.int (1 : Int32)), (.ref b4), (.ref b4)])) (fun _ k => XS.iconst X6.here hx rfl (hb hby at_33) k) ?_
  refine Go.of (T' := T6) (f' := (mkF m 36 #[sI p1, sI p2, sI p3, sI p4, sI p5, sI p6, sI (Int32.ofNat nk), sI u1, sI u2, sI u3, .unset, .unset, .unset, .unset, .unset, .unset, .unset, .unset, .unset, .unset, .unset, .unset, .unset, .unset, .unset] [(.int u2), (.int (1 : Int32)), (.ref b4), (.ref b4)])) (fun _ k => XS.iload X6.here hx rfl (hb hby at_34) rfl k) ?_
  obtain ⟨cl8, Ar8, cq8, Sz8, Nn8, Hs8, Gs8⟩ := id V_b4
  have hin8 : ¬ ((1 : Int32) < 0 ∨ cl8.slots.size ≤ ((1 : Int32)).toNatClampNeg) := inb_of Sz8 ⟨by decide, by decide⟩
  obtain ⟨T8, h8, X8, e8, W8, st8⟩ := stC X6 hx hZ e6 Ar8 (j := (1 : Int32)) hin8 (g := (mkF m 36 #[sI p1, sI p2, sI p3, sI p4, sI p5, sI p6, sI (Int32.ofNat nk), sI u1, sI u2, sI u3, .unset, .unset, .unset, .unset, .unset, .unset, .unset, .unset, .unset, .unset, .unset, .unset, .unset, .unset, .unset] [(.int u2), (.int (1 : Int32)), (.ref b4), (.ref b4)])) rfl rfl (hb hby at_36)
  have fq8 : fits .char (.int (nar .char u2)) = true := fits_nar_char _
  rw [show nar .char u2 = u2 from nar_rng hu2] at W8 fq8
  have V8 := Arv.set Ar8 cq8 Sz8 Nn8 Hs8 Gs8 fq8 W8 1 rfl (Nat.le_of_ble_eq_true rfl)
  have V_b4_o := V_b4
  have K8 := Keep.of_wr W8
  have M8 := M6.wr W8 (Or.inr fr_b4)
  replace hk := Nat.le_trans hk (K8).1
  have hq9 : ∀ x ∈ ([b4] : List Addr), Safe Z consts_1 s.vm h6 x := (sfS Sf_b4 sf0)
  have hs9 := CHr.keep (K8) hq9 RH.1
  replace Sf_b4 := Safe.keep (K8) hq9 RH.1 Sf_b4
  replace RH := RH.trans hs9
  replace Z_ad := StaKeep Z_ad K8 (allS (staArv V_b4_o) all0)
  replace Z_hs := StaKeep Z_hs K8 (allS (staArv V_b4_o) all0)
  replace Z_ls := StaKeep Z_ls K8 (allS (staArv V_b4_o) all0)
  replace Z_fm := StaKeep Z_fm K8 (allS (staArv V_b4_o) all0)
  replace Z_cs := StaKeep Z_cs K8 (allS (staArv V_b4_o) all0)
  replace V_b4 : Arv Z h8 b4 k4 .char (3 : Int32) [(.int u1), (.int u2), (.int (0 : Int32))] (.int (0 : Int32)) := V8
  refine Go.of (T' := T8) (f' := (mkF m 37 #[sI p1, sI p2, sI p3, sI p4, sI p5, sI p6, sI (Int32.ofNat nk), sI u1, sI u2, sI u3, .unset, .unset, .unset, .unset, .unset, .unset, .unset, .unset, .unset, .unset, .unset, .unset, .unset, .unset, .unset] [(.ref b4)])) st8 ?_
  refine Go.of (T' := T8) (f' := (mkF m 38 #[sI p1, sI p2, sI p3, sI p4, sI p5, sI p6, sI (Int32.ofNat nk), sI u1, sI u2, sI u3, .unset, .unset, .unset, .unset, .unset, .unset, .unset, .unset, .unset, .unset, .unset, .unset, .unset, .unset, .unset] [(.ref b4), (.ref b4)])) (fun _ k => XS.dup X8.here hx rfl (hb hby at_37) rfl rfl k) ?_
  refine Go.of (T' := T8) (f' := (mkF m 39 #[sI p1, sI p2, sI p3, sI p4, sI p5, sI p6, sI (Int32.ofNat nk), sI u1, sI u2, sI u3, .unset, .unset, .unset, .unset, .unset, .unset, .unset, .unset, .unset, .unset, .unset, .unset, .unset, .unset, .unset] [(.int (2 : Int32)), (.ref b4), (.ref b4)])) (fun _ k => XS.iconst X8.here hx rfl (hb hby at_38) k) ?_
  refine Go.of (T' := T8) (f' := (mkF m 41 #[sI p1, sI p2, sI p3, sI p4, sI p5, sI p6, sI (Int32.ofNat nk), sI u1, sI u2, sI u3, .unset, .unset, .unset, .unset, .unset, .unset, .unset, .unset, .unset, .unset, .unset, .unset, .unset, .unset, .unset] [(.int u3), (.int (2 : Int32)), (.ref b4), (.ref b4)])) (fun _ k => XS.iload X8.here hx rfl (hb hby at_39) rfl k) ?_
  obtain ⟨cl10, Ar10, cq10, Sz10, Nn10, Hs10, Gs10⟩ := id V_b4
  have hin10 : ¬ ((2 : Int32) < 0 ∨ cl10.slots.size ≤ ((2 : Int32)).toNatClampNeg) := inb_of Sz10 ⟨by decide, by decide⟩
  obtain ⟨T10, h10, X10, e10, W10, st10⟩ := stC X8 hx hZ e8 Ar10 (j := (2 : Int32)) hin10 (g := (mkF m 41 #[sI p1, sI p2, sI p3, sI p4, sI p5, sI p6, sI (Int32.ofNat nk), sI u1, sI u2, sI u3, .unset, .unset, .unset, .unset, .unset, .unset, .unset, .unset, .unset, .unset, .unset, .unset, .unset, .unset, .unset] [(.int u3), (.int (2 : Int32)), (.ref b4), (.ref b4)])) rfl rfl (hb hby at_41)
  have fq10 : fits .char (.int (nar .char u3)) = true := fits_nar_char _
  rw [show nar .char u3 = u3 from nar_rng hu3] at W10 fq10
  have V10 := Arv.set Ar10 cq10 Sz10 Nn10 Hs10 Gs10 fq10 W10 2 rfl (Nat.le_of_ble_eq_true rfl)
  have V_b4_o := V_b4
  have K10 := Keep.of_wr W10
  have M10 := M8.wr W10 (Or.inr fr_b4)
  replace hk := Nat.le_trans hk (K10).1
  have hq11 : ∀ x ∈ ([b4] : List Addr), Safe Z consts_1 s.vm h8 x := (sfS Sf_b4 sf0)
  have hs11 := CHr.keep (K10) hq11 RH.1
  replace Sf_b4 := Safe.keep (K10) hq11 RH.1 Sf_b4
  replace RH := RH.trans hs11
  replace Z_ad := StaKeep Z_ad K10 (allS (staArv V_b4_o) all0)
  replace Z_hs := StaKeep Z_hs K10 (allS (staArv V_b4_o) all0)
  replace Z_ls := StaKeep Z_ls K10 (allS (staArv V_b4_o) all0)
  replace Z_fm := StaKeep Z_fm K10 (allS (staArv V_b4_o) all0)
  replace Z_cs := StaKeep Z_cs K10 (allS (staArv V_b4_o) all0)
  replace V_b4 : Arv Z h10 b4 k4 .char (3 : Int32) [(.int u1), (.int u2), (.int u3)] (.int (0 : Int32)) := V10
  refine Go.of (T' := T10) (f' := (mkF m 42 #[sI p1, sI p2, sI p3, sI p4, sI p5, sI p6, sI (Int32.ofNat nk), sI u1, sI u2, sI u3, .unset, .unset, .unset, .unset, .unset, .unset, .unset, .unset, .unset, .unset, .unset, .unset, .unset, .unset, .unset] [(.ref b4)])) st10 ?_
  refine Go.of (T' := T10) (f' := (mkF m 44 #[sI p1, sI p2, sI p3, sI p4, sI p5, sI p6, sI (Int32.ofNat nk), sI u1, sI u2, sI u3, sR b4, .unset, .unset, .unset, .unset, .unset, .unset, .unset, .unset, .unset, .unset, .unset, .unset, .unset, .unset] [])) (fun _ k => XS.astore X10.here hx rfl (hb hby at_42) rfl rfl (l' := #[sI p1, sI p2, sI p3, sI p4, sI p5, sI p6, sI (Int32.ofNat nk), sI u1, sI u2, sI u3, sR b4, .unset, .unset, .unset, .unset, .unset, .unset, .unset, .unset, .unset, .unset, .unset, .unset, .unset, .unset]) rfl k) ?_
  refine Go.of (T' := T10) (f' := (mkF m 46 #[sI p1, sI p2, sI p3, sI p4, sI p5, sI p6, sI (Int32.ofNat nk), sI u1, sI u2, sI u3, sR b4, .unset, .unset, .unset, .unset, .unset, .unset, .unset, .unset, .unset, .unset, .unset, .unset, .unset, .unset] [(.int (Int32.ofNat nk))])) (fun _ k => XS.iload X10.here hx rfl (hb hby at_44) rfl k) ?_
  have hb3 : ∀ c ∈ ([u1, u2, u3] : List Int32), ¬ c < 0 ∧ ¬ (65535 : Int32) < c := by intro c hc; simp only [List.mem_cons, List.not_mem_nil, or_false] at hc; rcases hc with rfl | rfl | rfl <;> assumption
  have J12 : ∀ (Tj12 : State) (hj12 : Heap) (Lj12 : List Loc) (bt : Addr) (kt : ClassId) (cs : List Int32), Stand p l e room_1 (s.setVm s.vm) m #[(.int p1), (.int p2), (.int p3), (.int p4), (.int p5), (.int p6)] below meth c Tj12 Lj12 2 6 → Tj12.heap = hj12 → Mv h0 hj12 [] Lj12 → CHr Z consts_1 s.vm h0 s.vm hj12 → h0.size ≤ hj12.size → Sta Z hj12 "java/lang/StringUTF16" "$assertionsDisabled" "Z" (.int (1 : Int32)) → Sta Z hj12 "java/lang/StringUTF16" "HI_BYTE_SHIFT" "I" (.int (0 : Int32)) → Sta Z hj12 "java/lang/StringUTF16" "LO_BYTE_SHIFT" "I" (.int (8 : Int32)) → Sta Z hj12 "jdk/internal/util/Preconditions" "SIOOBE_FORMATTER" "Ljava/util/function/BiFunction;" fm → Sta Z hj12 "java/lang/String" "COMPACT_STRINGS" "Z" (.int zc) → Arv Z hj12 b4 k4 (.char) (3 : Int32) (([u1, u2, u3] : List Int32).map Value.int) (.int (0 : Int32)) → cs = List.take nk [u1, u2, u3] → h0.size ≤ bt → b4 ≠ bt → Arv Z hj12 bt kt .char (Int32.ofNat cs.length) (cs.map Value.int) (.int (0 : Int32)) → Go p e below P Tj12 (mkF m 120 #[sI p1, sI p2, sI p3, sI p4, sI p5, sI p6, sI (Int32.ofNat nk), sI u1, sI u2, sI u3, sR b4, sR bt, .unset, .unset, .unset, .unset, .unset, .unset, .unset, .unset, .unset, .unset, .unset, .unset, .unset] []) := by
    intro Tj12 hj12 Lj12 bt kt cs Xj12 ej12 Mj12 RH hk Z_ad Z_hs Z_ls Z_fm Z_cs V_b4 hcs fr_bt ne_bt V_bt
    have hcl : cs.length = nk := by rw [hcs, List.length_take]; simp; omega
    have hle8 : cs.length ≤ 8 := by omega
    have hbr : ∀ c ∈ cs, ¬ c < 0 ∧ ¬ (65535 : Int32) < c := by rw [hcs]; exact fun c hc => hb3 c (List.mem_of_mem_take hc)
    have hfl := fst_le cs
    refine Go.of (T' := Tj12) (f' := (mkF m 121 #[sI p1, sI p2, sI p3, sI p4, sI p5, sI p6, sI (Int32.ofNat nk), sI u1, sI u2, sI u3, sR b4, sR bt, .unset, .unset, .unset, .unset, .unset, .unset, .unset, .unset, .unset, .unset, .unset, .unset, .unset] [(.int p4)])) (fun _ k => XS.iloadN Xj12.here hx rfl (hb hby at_120) rfl k) ?_
    refine goS Xj12 hx hZ hown (hw _ (List.mem_of_getElem? (i := 0) rfl)) (hw _ (List.mem_of_getElem? (i := 1) rfl)) (hw _ (List.mem_of_getElem? (i := 2) rfl)) (hw _ (List.mem_of_getElem? (i := 3) rfl)) (by decide) (C := 0) (S := 0) ((rm_draw l Z a0 hw p4 hj12).bk (W := 0) hZ (hw _ (List.mem_of_getElem? (i := 3) rfl)) (hw _ (List.mem_of_getElem? (i := 2) rfl)) (by decide) (by decide)) ej12 (argsL := [(.int p4)]) (rest := []) (by rw [hml]; rfl) (lenOf pd__I_C rfl) rfl rfl (hb hby at_121) (Nat.le_of_eq rfl) (by decide) (by decide) ?_
    intro v13 T13 L13 X13 hQ13
    obtain ⟨nq13, e13, u13, rfl, hu13⟩ := hQ13
    replace X13 := standNil X13 nq13
    show Go p e below P T13 (mkF m 124 #[sI p1, sI p2, sI p3, sI p4, sI p5, sI p6, sI (Int32.ofNat nk), sI u1, sI u2, sI u3, sR b4, sR bt, .unset, .unset, .unset, .unset, .unset, .unset, .unset, .unset, .unset, .unset, .unset, .unset, .unset] [(.int u13)])
    refine Go.of (T' := T13) (f' := (mkF m 126 #[sI p1, sI p2, sI p3, sI p4, sI p5, sI p6, sI (Int32.ofNat nk), sI u1, sI u2, sI u3, sR b4, sR bt, sI u13, .unset, .unset, .unset, .unset, .unset, .unset, .unset, .unset, .unset, .unset, .unset, .unset] [])) (fun _ k => XS.istore X13.here hx rfl (hb hby at_124) rfl (l' := #[sI p1, sI p2, sI p3, sI p4, sI p5, sI p6, sI (Int32.ofNat nk), sI u1, sI u2, sI u3, sR b4, sR bt, sI u13, .unset, .unset, .unset, .unset, .unset, .unset, .unset, .unset, .unset, .unset, .unset, .unset]) rfl k) ?_
    refine Go.of (T' := T13) (f' := (mkF m 128 #[sI p1, sI p2, sI p3, sI p4, sI p5, sI p6, sI (Int32.ofNat nk), sI u1, sI u2, sI u3, sR b4, sR bt, sI u13, .unset, .unset, .unset, .unset, .unset, .unset, .unset, .unset, .unset, .unset, .unset, .unset] [(.int p5)])) (fun _ k => XS.iload X13.here hx rfl (hb hby at_126) rfl k) ?_
    refine goS X13 hx hZ hown (hw _ (List.mem_of_getElem? (i := 0) rfl)) (hw _ (List.mem_of_getElem? (i := 1) rfl)) (hw _ (List.mem_of_getElem? (i := 2) rfl)) (hw _ (List.mem_of_getElem? (i := 3) rfl)) (by decide) (C := 0) (S := 0) ((rm_draw l Z a0 hw p5 hj12).bk (W := 0) hZ (hw _ (List.mem_of_getElem? (i := 3) rfl)) (hw _ (List.mem_of_getElem? (i := 2) rfl)) (by decide) (by decide)) e13 (argsL := [(.int p5)]) (rest := []) (by rw [hml]; rfl) (lenOf pd__I_C rfl) rfl rfl (hb hby at_128) (Nat.le_of_eq rfl) (by decide) (by decide) ?_
    intro v14 T14 L14 X14 hQ14
    obtain ⟨nq14, e14, u14, rfl, hu14⟩ := hQ14
    replace X14 := standNil X14 nq14
    show Go p e below P T14 (mkF m 131 #[sI p1, sI p2, sI p3, sI p4, sI p5, sI p6, sI (Int32.ofNat nk), sI u1, sI u2, sI u3, sR b4, sR bt, sI u13, .unset, .unset, .unset, .unset, .unset, .unset, .unset, .unset, .unset, .unset, .unset, .unset] [(.int u14)])
    refine Go.of (T' := T14) (f' := (mkF m 133 #[sI p1, sI p2, sI p3, sI p4, sI p5, sI p6, sI (Int32.ofNat nk), sI u1, sI u2, sI u3, sR b4, sR bt, sI u13, sI u14, .unset, .unset, .unset, .unset, .unset, .unset, .unset, .unset, .unset, .unset, .unset] [])) (fun _ k => XS.istore X14.here hx rfl (hb hby at_131) rfl (l' := #[sI p1, sI p2, sI p3, sI p4, sI p5, sI p6, sI (Int32.ofNat nk), sI u1, sI u2, sI u3, sR b4, sR bt, sI u13, sI u14, .unset, .unset, .unset, .unset, .unset, .unset, .unset, .unset, .unset, .unset, .unset]) rfl k) ?_
    obtain ⟨T15, h15, X15, e15, E15, A15, D15, -, st15⟩ := newO X14 hx hZ hown (hw _ (List.mem_of_getElem? (i := 5) rfl)) (hw _ (List.mem_of_getElem? (i := 6) rfl)) (hw _ (List.mem_of_getElem? (i := 7) rfl)) e14 (g := (mkF m 133 #[sI p1, sI p2, sI p3, sI p4, sI p5, sI p6, sI (Int32.ofNat nk), sI u1, sI u2, sI u3, sR b4, sR bt, sI u13, sI u14, .unset, .unset, .unset, .unset, .unset, .unset, .unset, .unset, .unset, .unset, .unset] [])) rfl (hb hby at_133) (by decide) (by decide)
    obtain ⟨b15, g15⟩ : ∃ z, z = hj12.size := ⟨_, rfl⟩
    rw [← g15] at A15 D15 st15
    have ne_b4_b15 : b4 ≠ b15 := Nat.ne_of_lt (Nat.lt_of_lt_of_le V_b4.lt (Nat.le_of_eq g15.symm))
    have ne_bt_b15 : bt ≠ b15 := Nat.ne_of_lt (Nat.lt_of_lt_of_le V_bt.lt (Nat.le_of_eq g15.symm))
    have fr_b15 : h0.size ≤ b15 := Nat.le_trans Mj12.le (Nat.le_of_eq g15.symm)
    have Sf_b15 := Safe.new (Z := Z) (EL := consts_1) (vm := s.vm) (Nat.le_of_eq g15.symm)
    have K15 := keepE E15
    have M15 := Mj12.ext E15
    replace hk := Nat.le_trans hk (K15).1
    have hs16 := CHr.keep (K15) sf0 RH.1
    replace Sf_b15 := Safe.keep (K15) sf0 RH.1 Sf_b15
    replace RH := RH.trans hs16
    replace Z_ad := StaKeep Z_ad K15 all0
    replace Z_hs := StaKeep Z_hs K15 all0
    replace Z_ls := StaKeep Z_ls K15 all0
    replace Z_fm := StaKeep Z_fm K15 all0
    replace Z_cs := StaKeep Z_cs K15 all0
    replace V_b4 := V_b4.keep K15 nin0
    replace V_bt := V_bt.keep K15 nin0
    have E_b15 := A15
    have F_text_b15 : Fld Z h15 b15 "com/example/rezeptkern/rezeptkern/JsonCursor" "text" "Ljava/lang/String;" .null := D15 (Or.inr (hw _ (List.mem_of_getElem? (i := 45) rfl))) (ty := (.object "java/lang/String")) (by decide)
    have F_chars_b15 : Fld Z h15 b15 "com/example/rezeptkern/rezeptkern/JsonCursor" "chars" "[C" .null := D15 (Or.inr (hw _ (List.mem_of_getElem? (i := 64) rfl))) (ty := (.array .char)) (by decide)
    have F_name_b15 : Fld Z h15 b15 "com/example/rezeptkern/rezeptkern/JsonCursor" "name" "Ljava/lang/String;" .null := D15 (Or.inr (hw _ (List.mem_of_getElem? (i := 66) rfl))) (ty := (.object "java/lang/String")) (by decide)
    have F_position_b15 : Fld Z h15 b15 "com/example/rezeptkern/rezeptkern/JsonCursor" "position" "I" (.int (0 : Int32)) := D15 (Or.inl (hw _ (List.mem_of_getElem? (i := 77) rfl))) (ty := .int) (by decide)
    refine Go.of (T' := T15) (f' := (mkF m 136 #[sI p1, sI p2, sI p3, sI p4, sI p5, sI p6, sI (Int32.ofNat nk), sI u1, sI u2, sI u3, sR b4, sR bt, sI u13, sI u14, .unset, .unset, .unset, .unset, .unset, .unset, .unset, .unset, .unset, .unset, .unset] [(.ref b15)])) st15 ?_
    refine Go.of (T' := T15) (f' := (mkF m 137 #[sI p1, sI p2, sI p3, sI p4, sI p5, sI p6, sI (Int32.ofNat nk), sI u1, sI u2, sI u3, sR b4, sR bt, sI u13, sI u14, .unset, .unset, .unset, .unset, .unset, .unset, .unset, .unset, .unset, .unset, .unset] [(.ref b15), (.ref b15)])) (fun _ k => XS.dup X15.here hx rfl (hb hby at_136) rfl rfl k) ?_
    obtain ⟨T17, h17, X17, e17, E17, A17, D17, -, st17⟩ := newO X15 hx hZ hown (hw _ (List.mem_of_getElem? (i := 8) rfl)) (hw _ (List.mem_of_getElem? (i := 9) rfl)) (hw _ (List.mem_of_getElem? (i := 10) rfl)) e15 (g := (mkF m 137 #[sI p1, sI p2, sI p3, sI p4, sI p5, sI p6, sI (Int32.ofNat nk), sI u1, sI u2, sI u3, sR b4, sR bt, sI u13, sI u14, .unset, .unset, .unset, .unset, .unset, .unset, .unset, .unset, .unset, .unset, .unset] [(.ref b15), (.ref b15)])) rfl (hb hby at_137) (by decide) (by decide)
    obtain ⟨b17, g17⟩ : ∃ z, z = h15.size := ⟨_, rfl⟩
    rw [← g17] at A17 D17 st17
    have ne_b4_b17 : b4 ≠ b17 := Nat.ne_of_lt (Nat.lt_of_lt_of_le V_b4.lt (Nat.le_of_eq g17.symm))
    have ne_bt_b17 : bt ≠ b17 := Nat.ne_of_lt (Nat.lt_of_lt_of_le V_bt.lt (Nat.le_of_eq g17.symm))
    have ne_b15_b17 : b15 ≠ b17 := Nat.ne_of_lt (Nat.lt_of_lt_of_le E_b15.lt (Nat.le_of_eq g17.symm))
    have fr_b17 : h0.size ≤ b17 := Nat.le_trans M15.le (Nat.le_of_eq g17.symm)
    have Sf_b17 := Safe.new (Z := Z) (EL := consts_1) (vm := s.vm) (Nat.le_of_eq g17.symm)
    have K17 := keepE E17
    have M17 := M15.ext E17
    replace hk := Nat.le_trans hk (K17).1
    have hs18 := CHr.keep (K17) sf0 RH.1
    replace Sf_b15 := Safe.keep (K17) sf0 RH.1 Sf_b15
    replace Sf_b17 := Safe.keep (K17) sf0 RH.1 Sf_b17
    replace RH := RH.trans hs18
    replace Z_ad := StaKeep Z_ad K17 all0
    replace Z_hs := StaKeep Z_hs K17 all0
    replace Z_ls := StaKeep Z_ls K17 all0
    replace Z_fm := StaKeep Z_fm K17 all0
    replace Z_cs := StaKeep Z_cs K17 all0
    replace V_b4 := V_b4.keep K17 nin0
    replace V_bt := V_bt.keep K17 nin0
    replace E_b15 := E_b15.keep K17
    replace F_text_b15 := F_text_b15.keep K17 nin0
    replace F_chars_b15 := F_chars_b15.keep K17 nin0
    replace F_name_b15 := F_name_b15.keep K17 nin0
    replace F_position_b15 := F_position_b15.keep K17 nin0
    have E_b17 := A17
    have F_coder_b17 : Fld Z h17 b17 "java/lang/String" "coder" "B" (.int (0 : Int32)) := D17 (Or.inr (hw _ (List.mem_of_getElem? (i := 34) rfl))) (ty := .byte) (by decide)
    have F_value_b17 : Fld Z h17 b17 "java/lang/String" "value" "[B" .null := D17 (Or.inr (hw _ (List.mem_of_getElem? (i := 36) rfl))) (ty := (.array .byte)) (by decide)
    refine Go.of (T' := T17) (f' := (mkF m 140 #[sI p1, sI p2, sI p3, sI p4, sI p5, sI p6, sI (Int32.ofNat nk), sI u1, sI u2, sI u3, sR b4, sR bt, sI u13, sI u14, .unset, .unset, .unset, .unset, .unset, .unset, .unset, .unset, .unset, .unset, .unset] [(.ref b17), (.ref b15), (.ref b15)])) st17 ?_
    refine Go.of (T' := T17) (f' := (mkF m 141 #[sI p1, sI p2, sI p3, sI p4, sI p5, sI p6, sI (Int32.ofNat nk), sI u1, sI u2, sI u3, sR b4, sR bt, sI u13, sI u14, .unset, .unset, .unset, .unset, .unset, .unset, .unset, .unset, .unset, .unset, .unset] [(.ref b17), (.ref b17), (.ref b15), (.ref b15)])) (fun _ k => XS.dup X17.here hx rfl (hb hby at_140) rfl rfl k) ?_
    refine Go.of (T' := T17) (f' := (mkF m 143 #[sI p1, sI p2, sI p3, sI p4, sI p5, sI p6, sI (Int32.ofNat nk), sI u1, sI u2, sI u3, sR b4, sR bt, sI u13, sI u14, .unset, .unset, .unset, .unset, .unset, .unset, .unset, .unset, .unset, .unset, .unset] [(.ref bt), (.ref b17), (.ref b17), (.ref b15), (.ref b15)])) (fun _ k => XS.aload X17.here hx rfl (hb hby at_141) rfl rfl k) ?_
    have J19 : ∀ (vmj19 : Vm) (kj19 : Nat) (Tj19 : State) (hj19 : Heap) (Lj19 : List Loc) (tj : Addr), Stand p l e room_1 (s.setVm vmj19) m #[(.int p1), (.int p2), (.int p3), (.int p4), (.int p5), (.int p6)] below meth c Tj19 Lj19 9 54 → Tj19.heap = hj19 → Mv h0 hj19 [] Lj19 → CHr Z consts_1 s.vm h0 vmj19 hj19 → s.Since vmj19 kj19 → kj19 ≤ hj19.size → Z.Warmed39 (s.setVm vmj19).vm → (s.setVm vmj19).vm.findClass "com/example/rezeptkern/rezeptkern/JsonCursorSkipPinLaw" = some m.cls → Sta Z hj19 "java/lang/StringUTF16" "$assertionsDisabled" "Z" (.int (1 : Int32)) → Sta Z hj19 "java/lang/StringUTF16" "HI_BYTE_SHIFT" "I" (.int (0 : Int32)) → Sta Z hj19 "java/lang/StringUTF16" "LO_BYTE_SHIFT" "I" (.int (8 : Int32)) → Sta Z hj19 "jdk/internal/util/Preconditions" "SIOOBE_FORMATTER" "Ljava/util/function/BiFunction;" fm → Sta Z hj19 "java/lang/String" "COMPACT_STRINGS" "Z" (.int zc) → Arv Z hj19 b4 k4 (.char) (3 : Int32) (([u1, u2, u3] : List Int32).map Value.int) (.int (0 : Int32)) → Exa Z hj19 b15 "com/example/rezeptkern/rezeptkern/JsonCursor" → Fld Z hj19 b15 "com/example/rezeptkern/rezeptkern/JsonCursor" "text" "Ljava/lang/String;" .null → Fld Z hj19 b15 "com/example/rezeptkern/rezeptkern/JsonCursor" "chars" "[C" .null → Fld Z hj19 b15 "com/example/rezeptkern/rezeptkern/JsonCursor" "name" "Ljava/lang/String;" .null → Fld Z hj19 b15 "com/example/rezeptkern/rezeptkern/JsonCursor" "position" "I" (.int (0 : Int32)) → Str Z hj19 b17 tj cs → Go p e below P Tj19 (mkF m 146 #[sI p1, sI p2, sI p3, sI p4, sI p5, sI p6, sI (Int32.ofNat nk), sI u1, sI u2, sI u3, sR b4, sR bt, sI u13, sI u14, .unset, .unset, .unset, .unset, .unset, .unset, .unset, .unset, .unset, .unset, .unset] [(.ref b17), (.ref b15), (.ref b15)]) := by
      intro vmj19 kj19 Tj19 hj19 Lj19 tj Xj19 ej19 Mj19 RH hS hk hZ hown Z_ad Z_hs Z_ls Z_fm Z_cs V_b4 E_b15 F_text_b15 F_chars_b15 F_name_b15 F_position_b15 S_b17
      have Sf_b15 : Safe Z consts_1 vmj19 hj19 b15 := Safe.exa hZ.alike E_b15 (by decide) (by decide)
      obtain ⟨sa20, T20, h20, k20, sb20, kb20, X20, e20, E20, hS20, hk20, hZ20, hown20, E_sa20, F_cd20, F_vl20, V_sb20, -, -, A20, -, hne20, st20⟩ := ldcCH Xj19 hx hZ hown (hw _ (List.mem_of_getElem? (i := 37) rfl)) (hw_sA hw) ej19 hS hk (hEL_1 hw) (by decide) RH.1 (vs := [.int (116 : Int32)]) (z := (1 : Int32)) ⟨by decide, by decide⟩ (by decide) (by decide) (g := (mkF m 146 #[sI p1, sI p2, sI p3, sI p4, sI p5, sI p6, sI (Int32.ofNat nk), sI u1, sI u2, sI u3, sR b4, sR bt, sI u13, sI u14, .unset, .unset, .unset, .unset, .unset, .unset, .unset, .unset, .unset, .unset, .unset] [(.ref b17), (.ref b15), (.ref b15)])) rfl (hb hby at_146) (n := 4) (by decide) (by decide) (by decide) (by decide)
      have K20 := keepE E20
      have M20 := Mj19.ext E20
      clear hS hk
      replace Sf_b15 := CHr.safe A20 E_b15.lt Sf_b15
      replace RH := RH.trans A20
      replace Z_ad := StaKeep Z_ad K20 all0
      replace Z_hs := StaKeep Z_hs K20 all0
      replace Z_ls := StaKeep Z_ls K20 all0
      replace Z_fm := StaKeep Z_fm K20 all0
      replace Z_cs := StaKeep Z_cs K20 all0
      replace V_b4 := V_b4.keep K20 nin0
      replace E_b15 := E_b15.keep K20
      replace F_text_b15 := F_text_b15.keep K20 nin0
      replace F_chars_b15 := F_chars_b15.keep K20 nin0
      replace F_name_b15 := F_name_b15.keep K20 nin0
      replace F_position_b15 := F_position_b15.keep K20 nin0
      replace S_b17 := S_b17.keep K20 nin0 nin0
      have hS := hS20
      have hk := hk20
      replace hZ := hZ20
      replace hown := hown20
      have ne_b15_sa20 := (hne20 _ Sf_b15).1
      have ne_b15_sb20 := (hne20 _ Sf_b15).2
      refine Go.of (T' := T20) (f' := (mkF m 148 #[sI p1, sI p2, sI p3, sI p4, sI p5, sI p6, sI (Int32.ofNat nk), sI u1, sI u2, sI u3, sR b4, sR bt, sI u13, sI u14, .unset, .unset, .unset, .unset, .unset, .unset, .unset, .unset, .unset, .unset, .unset] [(.ref sa20), (.ref b17), (.ref b15), (.ref b15)])) st20 ?_
      refine goI X20 hx hZ rfl hown (hw _ (List.mem_of_getElem? (i := 40) rfl)) (hw _ (List.mem_of_getElem? (i := 41) rfl)) (hw _ (List.mem_of_getElem? (i := 42) rfl)) (by decide) (C := 1) (S := 8) ((rm_cur l Z a0 hw b15 b17 sa20 tj cs zc fm h20 E_b15 F_text_b15 F_chars_b15 F_name_b15 F_position_b15 S_b17 hle8 Z_ad Z_hs Z_ls Z_fm hfm Z_cs hz).bk (W := 1) hZ (hw _ (List.mem_of_getElem? (i := 42) rfl)) (hw _ (List.mem_of_getElem? (i := 7) rfl)) (by decide) (by decide)) e20 (argsL := [(.ref b17), (.ref sa20)]) (rest := [(.ref b15)]) (by rw [hml]; rfl) (lenOf pd__Ljava_lang_String_Ljava_lang_String__V rfl) rfl rfl (hb hby at_148) (Nat.le_of_eq rfl) (by decide) (by decide) ?_
      intro v21 T21 L21 X21 hQ21
      obtain ⟨h21, e21⟩ : ∃ z, T21.heap = z := ⟨_, rfl⟩
      rw [e21] at hQ21
      have E_b15_o := E_b15
      obtain ⟨rfl, Mc21, b21, k21, le21, Nc21_0, Nc21_1, Nc21_2, Nc21_3, Nc21_4⟩ := hQ21
      have ne_b4_b21 : b4 ≠ b21 := Nat.ne_of_lt (Nat.lt_of_lt_of_le V_b4.lt le21)
      have ne_b15_b21 : b15 ≠ b21 := Nat.ne_of_lt (Nat.lt_of_lt_of_le E_b15.lt le21)
      have ne_b17_b21 : b17 ≠ b21 := Nat.ne_of_lt (Nat.lt_of_lt_of_le S_b17.lt1 le21)
      have ne_tj_b21 : tj ≠ b21 := Nat.ne_of_lt (Nat.lt_of_lt_of_le S_b17.lt2 le21)
      have ne_sa20_b21 : sa20 ≠ b21 := Nat.ne_of_lt (Nat.lt_of_lt_of_le E_sa20.lt le21)
      have ne_sb20_b21 : sb20 ≠ b21 := Nat.ne_of_lt (Nat.lt_of_lt_of_le V_sb20.lt le21)
      have fr_b21 : h0.size ≤ b21 := Nat.le_trans M20.le le21
      have Sf_b21 := Safe.new (Z := Z) (EL := consts_1) (vm := T20.vm) le21
      have M21 := M20.app Mc21 (allS (Or.inr fr_b15) all0)
      replace hk := Nat.le_trans hk (Mc21.1).1
      have ne_tj_b15 : tj ≠ b15 := strT_ne S_b17 E_b15 (hw _ (List.mem_of_getElem? (i := 6) rfl))
      have hq22 : ∀ x ∈ ([b15] : List Addr), Safe Z consts_1 T20.vm h20 x := (sfS Sf_b15 sf0)
      have hs22 := CHr.keep (Mc21.1) hq22 RH.1
      replace Sf_b15 := Safe.keep (Mc21.1) hq22 RH.1 Sf_b15
      replace Sf_b21 := Safe.keep (Mc21.1) hq22 RH.1 Sf_b21
      replace RH := RH.trans hs22
      replace Z_ad := StaKeep Z_ad Mc21.1 (allS (staExa E_b15_o) all0)
      replace Z_hs := StaKeep Z_hs Mc21.1 (allS (staExa E_b15_o) all0)
      replace Z_ls := StaKeep Z_ls Mc21.1 (allS (staExa E_b15_o) all0)
      replace Z_fm := StaKeep Z_fm Mc21.1 (allS (staExa E_b15_o) all0)
      replace Z_cs := StaKeep Z_cs Mc21.1 (allS (staExa E_b15_o) all0)
      replace V_b4 := V_b4.keep Mc21.1 (ninS ne_b4_b15 nin0)
      replace S_b17 := S_b17.keep Mc21.1 (ninS (Ne.symm ne_b15_b17) nin0) (ninS ne_tj_b15 nin0)
      replace E_sa20 := E_sa20.keep Mc21.1
      replace F_cd20 := F_cd20.keep Mc21.1 (ninS (Ne.symm ne_b15_sa20) nin0)
      replace F_vl20 := F_vl20.keep Mc21.1 (ninS (Ne.symm ne_b15_sa20) nin0)
      replace V_sb20 := V_sb20.keep Mc21.1 (ninS (Ne.symm ne_b15_sb20) nin0)
      have E_b15 := Nc21_0
      have F_text_b15 := Nc21_1
      have F_chars_b15 := Nc21_2
      have F_position_b15 := Nc21_3
      have V_b21 := Nc21_4
      show Go p e below P T21 (mkF m 151 #[sI p1, sI p2, sI p3, sI p4, sI p5, sI p6, sI (Int32.ofNat nk), sI u1, sI u2, sI u3, sR b4, sR bt, sI u13, sI u14, .unset, .unset, .unset, .unset, .unset, .unset, .unset, .unset, .unset, .unset, .unset] [(.ref b15)])
      refine Go.of (T' := T21) (f' := (mkF m 153 #[sI p1, sI p2, sI p3, sI p4, sI p5, sI p6, sI (Int32.ofNat nk), sI u1, sI u2, sI u3, sR b4, sR bt, sI u13, sI u14, sR b15, .unset, .unset, .unset, .unset, .unset, .unset, .unset, .unset, .unset, .unset] [])) (fun _ k => XS.astore X21.here hx rfl (hb hby at_151) rfl rfl (l' := #[sI p1, sI p2, sI p3, sI p4, sI p5, sI p6, sI (Int32.ofNat nk), sI u1, sI u2, sI u3, sR b4, sR bt, sI u13, sI u14, sR b15, .unset, .unset, .unset, .unset, .unset, .unset, .unset, .unset, .unset, .unset]) rfl k) ?_
      refine Go.of (T' := T21) (f' := (mkF m 155 #[sI p1, sI p2, sI p3, sI p4, sI p5, sI p6, sI (Int32.ofNat nk), sI u1, sI u2, sI u3, sR b4, sR bt, sI u13, sI u14, sR b15, .unset, .unset, .unset, .unset, .unset, .unset, .unset, .unset, .unset, .unset] [(.ref b15)])) (fun _ k => XS.aload X21.here hx rfl (hb hby at_153) rfl rfl k) ?_
      refine Go.of (T' := T21) (f' := (mkF m 157 #[sI p1, sI p2, sI p3, sI p4, sI p5, sI p6, sI (Int32.ofNat nk), sI u1, sI u2, sI u3, sR b4, sR bt, sI u13, sI u14, sR b15, .unset, .unset, .unset, .unset, .unset, .unset, .unset, .unset, .unset, .unset] [(.int u13), (.ref b15)])) (fun _ k => XS.iload X21.here hx rfl (hb hby at_155) rfl k) ?_
      refine goV X21 hx hZ (y := (⟨"com/example/rezeptkern/rezeptkern/JsonCursor", "skip", "(C)Z"⟩ : MethodName)) (z := (⟨"com/example/rezeptkern/rezeptkern/JsonCursor", "skip", "(C)Z"⟩ : MethodName)) hown (hw _ (List.mem_of_getElem? (i := 67) rfl)) (hw _ (List.mem_of_getElem? (i := 68) rfl)) (notFace_of_selects (args := #[]) (mvT hZ (hw _ (List.mem_of_getElem? (i := 70) rfl)))) (hw _ (List.mem_of_getElem? (i := 70) rfl)) (hw _ (List.mem_of_getElem? (i := 69) rfl)) (by decide) (C := 0) (S := 0) ((rm_skip l Z a0 hw b15 b17 b21 k21 cs (0) (fst cs) u13 h21 E_b15 F_text_b15 F_chars_b15 F_position_b15 V_b21 hle8 (by omega) (by simp)).bk (W := 0) hZ (hw _ (List.mem_of_getElem? (i := 71) rfl)) (hw _ (List.mem_of_getElem? (i := 7) rfl)) (by decide) (by decide)) e21 E_b15 (argsL := [(.int u13)]) (rest := []) (by rw [hml]; rfl) (lenOf pd__C_Z rfl) rfl rfl (hb hby at_157) (Nat.le_of_eq rfl) (by decide) (by decide) ?_
      intro v23 T23 L23 X23 hQ23
      obtain ⟨h23, e23⟩ : ∃ z, T23.heap = z := ⟨_, rfl⟩
      rw [e23] at hQ23
      have E_b15_o := E_b15
      obtain ⟨rfl, Mc23, Nc23_0, Nc23_1, Nc23_2, Nc23_3, Nc23_4⟩ := hQ23
      have M23 := M21.app Mc23 (allS (Or.inr fr_b15) all0)
      replace hk := Nat.le_trans hk (Mc23.1).1
      have hq24 : ∀ x ∈ ([b15] : List Addr), Safe Z consts_1 T20.vm h21 x := (sfS Sf_b15 sf0)
      have hs24 := CHr.keep (Mc23.1) hq24 RH.1
      replace Sf_b15 := Safe.keep (Mc23.1) hq24 RH.1 Sf_b15
      replace Sf_b21 := Safe.keep (Mc23.1) hq24 RH.1 Sf_b21
      replace RH := RH.trans hs24
      replace Z_ad := StaKeep Z_ad Mc23.1 (allS (staExa E_b15_o) all0)
      replace Z_hs := StaKeep Z_hs Mc23.1 (allS (staExa E_b15_o) all0)
      replace Z_ls := StaKeep Z_ls Mc23.1 (allS (staExa E_b15_o) all0)
      replace Z_fm := StaKeep Z_fm Mc23.1 (allS (staExa E_b15_o) all0)
      replace Z_cs := StaKeep Z_cs Mc23.1 (allS (staExa E_b15_o) all0)
      replace V_b4 := V_b4.keep Mc23.1 (ninS ne_b4_b15 nin0)
      replace S_b17 := S_b17.keep Mc23.1 (ninS (Ne.symm ne_b15_b17) nin0) (ninS ne_tj_b15 nin0)
      replace E_sa20 := E_sa20.keep Mc23.1
      replace F_cd20 := F_cd20.keep Mc23.1 (ninS (Ne.symm ne_b15_sa20) nin0)
      replace F_vl20 := F_vl20.keep Mc23.1 (ninS (Ne.symm ne_b15_sa20) nin0)
      replace V_sb20 := V_sb20.keep Mc23.1 (ninS (Ne.symm ne_b15_sb20) nin0)
      replace E_b15 := Nc23_0
      replace F_text_b15 := Nc23_1
      replace F_chars_b15 := Nc23_2
      replace F_position_b15 := Nc23_3
      replace V_b21 := Nc23_4
      show Go p e below P T23 (mkF m 160 #[sI p1, sI p2, sI p3, sI p4, sI p5, sI p6, sI (Int32.ofNat nk), sI u1, sI u2, sI u3, sR b4, sR bt, sI u13, sI u14, sR b15, .unset, .unset, .unset, .unset, .unset, .unset, .unset, .unset, .unset, .unset] [(.int (bi ((fst cs) < cs.length ∧ cs.getD (fst cs) 0 = u13)))])
      obtain ⟨pa1, hpa1⟩ : ∃ z, z = nxt cs (fst cs) u13 := ⟨_, rfl⟩
      rw [← hpa1] at F_position_b15
      have hpa1l : pa1 ≤ cs.length := by rw [hpa1]; exact nxt_le (by omega)
      obtain ⟨jb2, hjb2⟩ : ∃ z, z = pa1 + fst (cs.drop pa1) := ⟨_, rfl⟩
      have hJl := fst_le (cs.drop pa1)
      rw [List.length_drop] at hJl
      refine Go.of (T' := T23) (f' := (mkF m 162 #[sI p1, sI p2, sI p3, sI p4, sI p5, sI p6, sI (Int32.ofNat nk), sI u1, sI u2, sI u3, sR b4, sR bt, sI u13, sI u14, sR b15, sI (bi ((fst cs) < cs.length ∧ cs.getD (fst cs) 0 = u13)), .unset, .unset, .unset, .unset, .unset, .unset, .unset, .unset, .unset] [])) (fun _ k => XS.istore X23.here hx rfl (hb hby at_160) rfl (l' := #[sI p1, sI p2, sI p3, sI p4, sI p5, sI p6, sI (Int32.ofNat nk), sI u1, sI u2, sI u3, sR b4, sR bt, sI u13, sI u14, sR b15, sI (bi ((fst cs) < cs.length ∧ cs.getD (fst cs) 0 = u13)), .unset, .unset, .unset, .unset, .unset, .unset, .unset, .unset, .unset]) rfl k) ?_
      refine Go.of (T' := T23) (f' := (mkF m 164 #[sI p1, sI p2, sI p3, sI p4, sI p5, sI p6, sI (Int32.ofNat nk), sI u1, sI u2, sI u3, sR b4, sR bt, sI u13, sI u14, sR b15, sI (bi ((fst cs) < cs.length ∧ cs.getD (fst cs) 0 = u13)), .unset, .unset, .unset, .unset, .unset, .unset, .unset, .unset, .unset] [(.ref b15)])) (fun _ k => XS.aload X23.here hx rfl (hb hby at_162) rfl rfl k) ?_
      refine Go.of (T' := T23) (f' := (mkF m 165 #[sI p1, sI p2, sI p3, sI p4, sI p5, sI p6, sI (Int32.ofNat nk), sI u1, sI u2, sI u3, sR b4, sR bt, sI u13, sI u14, sR b15, sI (bi ((fst cs) < cs.length ∧ cs.getD (fst cs) 0 = u13)), .unset, .unset, .unset, .unset, .unset, .unset, .unset, .unset, .unset] [(.int (0 : Int32)), (.ref b15)])) (fun _ k => XS.iconst X23.here hx rfl (hb hby at_164) k) ?_
      refine goVH X23 hx hZ (y := (⟨"com/example/rezeptkern/rezeptkern/JsonCursor", "since", "(I)Ljava/lang/String;"⟩ : MethodName)) (z := (⟨"com/example/rezeptkern/rezeptkern/JsonCursor", "since", "(I)Ljava/lang/String;"⟩ : MethodName)) hown (hw _ (List.mem_of_getElem? (i := 78) rfl)) (hw _ (List.mem_of_getElem? (i := 79) rfl)) (notFace_of_selects (args := #[]) (mvT hZ (hw _ (List.mem_of_getElem? (i := 81) rfl)))) (hw _ (List.mem_of_getElem? (i := 81) rfl)) (hw _ (List.mem_of_getElem? (i := 80) rfl)) (hw _ (List.mem_of_getElem? (i := 7) rfl)) (hw _ (List.mem_of_getElem? (i := 82) rfl)) (by decide) (W := 0) (C := 12) (S := 80) (rm_since l Z a0 hw b15 b17 tj b21 k21 cs pa1 zc fm h23 E_b15 F_text_b15 F_chars_b15 F_position_b15 V_b21 S_b17 hle8 (by omega) Z_ad Z_hs Z_ls Z_fm hfm Z_cs hz) rfl rfl (by decide) (by decide) hS hk (hEL_1 hw) RH.1 e23 E_b15 (argsL := [(.int (0 : Int32))]) (rest := []) (by rw [hml]; rfl) (lenOf pd__I_Ljava_lang_String_ rfl) rfl rfl (hb hby at_165) (Nat.le_of_eq rfl) (by decide) (by decide) ?_
      intro v25 T25 L25 X25 hQ25 hS25 hZ25 hown25 A25
      obtain ⟨h25, e25⟩ : ∃ z, T25.heap = z := ⟨_, rfl⟩
      rw [e25] at hQ25 hS25 A25
      obtain ⟨Mc25, a25, t25, rfl, S_a25⟩ := hQ25
      have M25 := M23.app0 Mc25
      clear hS hk
      replace Sf_b15 := CHr.safe A25 E_b15.lt Sf_b15
      replace Sf_b21 := CHr.safe A25 V_b21.lt Sf_b21
      replace RH := RH.trans A25
      replace Z_ad := StaKeep Z_ad Mc25.1 all0
      replace Z_hs := StaKeep Z_hs Mc25.1 all0
      replace Z_ls := StaKeep Z_ls Mc25.1 all0
      replace Z_fm := StaKeep Z_fm Mc25.1 all0
      replace Z_cs := StaKeep Z_cs Mc25.1 all0
      replace V_b4 := V_b4.keep Mc25.1 nin0
      replace E_b15 := E_b15.keep Mc25.1
      replace S_b17 := S_b17.keep Mc25.1 nin0 nin0
      replace E_sa20 := E_sa20.keep Mc25.1
      replace F_cd20 := F_cd20.keep Mc25.1 nin0
      replace F_vl20 := F_vl20.keep Mc25.1 nin0
      replace V_sb20 := V_sb20.keep Mc25.1 nin0
      replace F_text_b15 := F_text_b15.keep Mc25.1 nin0
      replace F_chars_b15 := F_chars_b15.keep Mc25.1 nin0
      replace F_position_b15 := F_position_b15.keep Mc25.1 nin0
      replace V_b21 := V_b21.keep Mc25.1 nin0
      have hS := hS25
      have hk : h25.size ≤ h25.size := Nat.le_refl _
      replace hZ := hZ25
      replace hown := hown25
      show Go p e below P T25 (mkF m 168 #[sI p1, sI p2, sI p3, sI p4, sI p5, sI p6, sI (Int32.ofNat nk), sI u1, sI u2, sI u3, sR b4, sR bt, sI u13, sI u14, sR b15, sI (bi ((fst cs) < cs.length ∧ cs.getD (fst cs) 0 = u13)), .unset, .unset, .unset, .unset, .unset, .unset, .unset, .unset, .unset] [(.ref a25)])
      refine goV X25 hx hZ (y := (⟨"java/lang/String", "length", "()I"⟩ : MethodName)) (z := (⟨"java/lang/String", "length", "()I"⟩ : MethodName)) hown (hw _ (List.mem_of_getElem? (i := 106) rfl)) (hw _ (List.mem_of_getElem? (i := 89) rfl)) (notFace_of_selects (args := #[]) (mvT hZ (hw _ (List.mem_of_getElem? (i := 91) rfl)))) (hw _ (List.mem_of_getElem? (i := 91) rfl)) (hw _ (List.mem_of_getElem? (i := 90) rfl)) (by decide) (C := 0) (S := 0) (lenStr (W := 0) hZ (hw_wordsLen hw) (hw _ (List.mem_of_getElem? (i := 9) rfl)) S_a25 Z_cs hz (by decide) (by decide)) e25 S_a25.exa (argsL := []) (rest := []) (by rw [hml]; rfl) (lenOf pd___I rfl) rfl rfl (hb hby at_168) (Nat.le_of_eq rfl) (by decide) (by decide) ?_
      intro v26 T26 L26 X26 hQ26
      obtain ⟨nq26, e26, rfl⟩ := hQ26
      replace X26 := standNil X26 nq26
      show Go p e below P T26 (mkF m 171 #[sI p1, sI p2, sI p3, sI p4, sI p5, sI p6, sI (Int32.ofNat nk), sI u1, sI u2, sI u3, sR b4, sR bt, sI u13, sI u14, sR b15, sI (bi ((fst cs) < cs.length ∧ cs.getD (fst cs) 0 = u13)), .unset, .unset, .unset, .unset, .unset, .unset, .unset, .unset, .unset] [(.int (Int32.ofNat (List.take pa1 cs).length))])
      rw [show (List.take pa1 cs).length = pa1 from by rw [List.length_take]; omega]
      show Go p e below P T26 (mkF m 171 #[sI p1, sI p2, sI p3, sI p4, sI p5, sI p6, sI (Int32.ofNat nk), sI u1, sI u2, sI u3, sR b4, sR bt, sI u13, sI u14, sR b15, sI (bi ((fst cs) < cs.length ∧ cs.getD (fst cs) 0 = u13)), .unset, .unset, .unset, .unset, .unset, .unset, .unset, .unset, .unset] [(.int (Int32.ofNat pa1))])
      refine Go.of (T' := T26) (f' := (mkF m 173 #[sI p1, sI p2, sI p3, sI p4, sI p5, sI p6, sI (Int32.ofNat nk), sI u1, sI u2, sI u3, sR b4, sR bt, sI u13, sI u14, sR b15, sI (bi ((fst cs) < cs.length ∧ cs.getD (fst cs) 0 = u13)), sI (Int32.ofNat pa1), .unset, .unset, .unset, .unset, .unset, .unset, .unset, .unset] [])) (fun _ k => XS.istore X26.here hx rfl (hb hby at_171) rfl (l' := #[sI p1, sI p2, sI p3, sI p4, sI p5, sI p6, sI (Int32.ofNat nk), sI u1, sI u2, sI u3, sR b4, sR bt, sI u13, sI u14, sR b15, sI (bi ((fst cs) < cs.length ∧ cs.getD (fst cs) 0 = u13)), sI (Int32.ofNat pa1), .unset, .unset, .unset, .unset, .unset, .unset, .unset, .unset]) rfl k) ?_
      refine Go.of (T' := T26) (f' := (mkF m 175 #[sI p1, sI p2, sI p3, sI p4, sI p5, sI p6, sI (Int32.ofNat nk), sI u1, sI u2, sI u3, sR b4, sR bt, sI u13, sI u14, sR b15, sI (bi ((fst cs) < cs.length ∧ cs.getD (fst cs) 0 = u13)), sI (Int32.ofNat pa1), .unset, .unset, .unset, .unset, .unset, .unset, .unset, .unset] [(.ref b15)])) (fun _ k => XS.aload X26.here hx rfl (hb hby at_173) rfl rfl k) ?_
      refine Go.of (T' := T26) (f' := (mkF m 177 #[sI p1, sI p2, sI p3, sI p4, sI p5, sI p6, sI (Int32.ofNat nk), sI u1, sI u2, sI u3, sR b4, sR bt, sI u13, sI u14, sR b15, sI (bi ((fst cs) < cs.length ∧ cs.getD (fst cs) 0 = u13)), sI (Int32.ofNat pa1), .unset, .unset, .unset, .unset, .unset, .unset, .unset, .unset] [(.int u14), (.ref b15)])) (fun _ k => XS.iload X26.here hx rfl (hb hby at_175) rfl k) ?_
      refine goV X26 hx hZ (y := (⟨"com/example/rezeptkern/rezeptkern/JsonCursor", "skip", "(C)Z"⟩ : MethodName)) (z := (⟨"com/example/rezeptkern/rezeptkern/JsonCursor", "skip", "(C)Z"⟩ : MethodName)) hown (hw _ (List.mem_of_getElem? (i := 67) rfl)) (hw _ (List.mem_of_getElem? (i := 68) rfl)) (notFace_of_selects (args := #[]) (mvT hZ (hw _ (List.mem_of_getElem? (i := 70) rfl)))) (hw _ (List.mem_of_getElem? (i := 70) rfl)) (hw _ (List.mem_of_getElem? (i := 69) rfl)) (by decide) (C := 0) (S := 0) ((rm_skip l Z a0 hw b15 b17 b21 k21 cs (pa1) jb2 u14 h25 E_b15 F_text_b15 F_chars_b15 F_position_b15 V_b21 hle8 (by omega) hjb2.symm).bk (W := 0) hZ (hw _ (List.mem_of_getElem? (i := 71) rfl)) (hw _ (List.mem_of_getElem? (i := 7) rfl)) (by decide) (by decide)) e26 E_b15 (argsL := [(.int u14)]) (rest := []) (by rw [hml]; rfl) (lenOf pd__C_Z rfl) rfl rfl (hb hby at_177) (Nat.le_of_eq rfl) (by decide) (by decide) ?_
      intro v27 T27 L27 X27 hQ27
      obtain ⟨h27, e27⟩ : ∃ z, T27.heap = z := ⟨_, rfl⟩
      rw [e27] at hQ27
      have E_b15_o := E_b15
      obtain ⟨rfl, Mc27, Nc27_0, Nc27_1, Nc27_2, Nc27_3, Nc27_4⟩ := hQ27
      have M27 := M25.app Mc27 (allS (Or.inr fr_b15) all0)
      replace hk := Nat.le_trans hk (Mc27.1).1
      have hq28 : ∀ x ∈ ([b15] : List Addr), Safe Z consts_1 T25.vm h25 x := (sfS Sf_b15 sf0)
      have hs28 := CHr.keep (Mc27.1) hq28 RH.1
      replace Sf_b15 := Safe.keep (Mc27.1) hq28 RH.1 Sf_b15
      replace Sf_b21 := Safe.keep (Mc27.1) hq28 RH.1 Sf_b21
      replace RH := RH.trans hs28
      replace Z_ad := StaKeep Z_ad Mc27.1 (allS (staExa E_b15_o) all0)
      replace Z_hs := StaKeep Z_hs Mc27.1 (allS (staExa E_b15_o) all0)
      replace Z_ls := StaKeep Z_ls Mc27.1 (allS (staExa E_b15_o) all0)
      replace Z_fm := StaKeep Z_fm Mc27.1 (allS (staExa E_b15_o) all0)
      replace Z_cs := StaKeep Z_cs Mc27.1 (allS (staExa E_b15_o) all0)
      replace V_b4 := V_b4.keep Mc27.1 (ninS ne_b4_b15 nin0)
      replace S_b17 := S_b17.keep Mc27.1 (ninS (Ne.symm ne_b15_b17) nin0) (ninS ne_tj_b15 nin0)
      replace E_sa20 := E_sa20.keep Mc27.1
      replace F_cd20 := F_cd20.keep Mc27.1 (ninS (Ne.symm ne_b15_sa20) nin0)
      replace F_vl20 := F_vl20.keep Mc27.1 (ninS (Ne.symm ne_b15_sa20) nin0)
      replace V_sb20 := V_sb20.keep Mc27.1 (ninS (Ne.symm ne_b15_sb20) nin0)
      replace E_b15 := Nc27_0
      replace F_text_b15 := Nc27_1
      replace F_chars_b15 := Nc27_2
      replace F_position_b15 := Nc27_3
      replace V_b21 := Nc27_4
      show Go p e below P T27 (mkF m 180 #[sI p1, sI p2, sI p3, sI p4, sI p5, sI p6, sI (Int32.ofNat nk), sI u1, sI u2, sI u3, sR b4, sR bt, sI u13, sI u14, sR b15, sI (bi ((fst cs) < cs.length ∧ cs.getD (fst cs) 0 = u13)), sI (Int32.ofNat pa1), .unset, .unset, .unset, .unset, .unset, .unset, .unset, .unset] [(.int (bi (jb2 < cs.length ∧ cs.getD jb2 0 = u14)))])
      obtain ⟨pa2, hpa2⟩ : ∃ z, z = nxt cs jb2 u14 := ⟨_, rfl⟩
      rw [← hpa2] at F_position_b15
      have hpa2l : pa2 ≤ cs.length := by rw [hpa2]; exact nxt_le (by omega)
      refine Go.of (T' := T27) (f' := (mkF m 182 #[sI p1, sI p2, sI p3, sI p4, sI p5, sI p6, sI (Int32.ofNat nk), sI u1, sI u2, sI u3, sR b4, sR bt, sI u13, sI u14, sR b15, sI (bi ((fst cs) < cs.length ∧ cs.getD (fst cs) 0 = u13)), sI (Int32.ofNat pa1), sI (bi (jb2 < cs.length ∧ cs.getD jb2 0 = u14)), .unset, .unset, .unset, .unset, .unset, .unset, .unset] [])) (fun _ k => XS.istore X27.here hx rfl (hb hby at_180) rfl (l' := #[sI p1, sI p2, sI p3, sI p4, sI p5, sI p6, sI (Int32.ofNat nk), sI u1, sI u2, sI u3, sR b4, sR bt, sI u13, sI u14, sR b15, sI (bi ((fst cs) < cs.length ∧ cs.getD (fst cs) 0 = u13)), sI (Int32.ofNat pa1), sI (bi (jb2 < cs.length ∧ cs.getD jb2 0 = u14)), .unset, .unset, .unset, .unset, .unset, .unset, .unset]) rfl k) ?_
      refine Go.of (T' := T27) (f' := (mkF m 184 #[sI p1, sI p2, sI p3, sI p4, sI p5, sI p6, sI (Int32.ofNat nk), sI u1, sI u2, sI u3, sR b4, sR bt, sI u13, sI u14, sR b15, sI (bi ((fst cs) < cs.length ∧ cs.getD (fst cs) 0 = u13)), sI (Int32.ofNat pa1), sI (bi (jb2 < cs.length ∧ cs.getD jb2 0 = u14)), .unset, .unset, .unset, .unset, .unset, .unset, .unset] [(.ref b15)])) (fun _ k => XS.aload X27.here hx rfl (hb hby at_182) rfl rfl k) ?_
      refine Go.of (T' := T27) (f' := (mkF m 185 #[sI p1, sI p2, sI p3, sI p4, sI p5, sI p6, sI (Int32.ofNat nk), sI u1, sI u2, sI u3, sR b4, sR bt, sI u13, sI u14, sR b15, sI (bi ((fst cs) < cs.length ∧ cs.getD (fst cs) 0 = u13)), sI (Int32.ofNat pa1), sI (bi (jb2 < cs.length ∧ cs.getD jb2 0 = u14)), .unset, .unset, .unset, .unset, .unset, .unset, .unset] [(.int (0 : Int32)), (.ref b15)])) (fun _ k => XS.iconst X27.here hx rfl (hb hby at_184) k) ?_
      refine goVH X27 hx hZ (y := (⟨"com/example/rezeptkern/rezeptkern/JsonCursor", "since", "(I)Ljava/lang/String;"⟩ : MethodName)) (z := (⟨"com/example/rezeptkern/rezeptkern/JsonCursor", "since", "(I)Ljava/lang/String;"⟩ : MethodName)) hown (hw _ (List.mem_of_getElem? (i := 78) rfl)) (hw _ (List.mem_of_getElem? (i := 79) rfl)) (notFace_of_selects (args := #[]) (mvT hZ (hw _ (List.mem_of_getElem? (i := 81) rfl)))) (hw _ (List.mem_of_getElem? (i := 81) rfl)) (hw _ (List.mem_of_getElem? (i := 80) rfl)) (hw _ (List.mem_of_getElem? (i := 7) rfl)) (hw _ (List.mem_of_getElem? (i := 82) rfl)) (by decide) (W := 0) (C := 12) (S := 80) (rm_since l Z a0 hw b15 b17 tj b21 k21 cs pa2 zc fm h27 E_b15 F_text_b15 F_chars_b15 F_position_b15 V_b21 S_b17 hle8 (by omega) Z_ad Z_hs Z_ls Z_fm hfm Z_cs hz) rfl rfl (by decide) (by decide) hS hk (hEL_1 hw) RH.1 e27 E_b15 (argsL := [(.int (0 : Int32))]) (rest := []) (by rw [hml]; rfl) (lenOf pd__I_Ljava_lang_String_ rfl) rfl rfl (hb hby at_185) (Nat.le_of_eq rfl) (by decide) (by decide) ?_
      intro v29 T29 L29 X29 hQ29 hS29 hZ29 hown29 A29
      obtain ⟨h29, e29⟩ : ∃ z, T29.heap = z := ⟨_, rfl⟩
      rw [e29] at hQ29 hS29 A29
      obtain ⟨Mc29, a29, t29, rfl, S_a29⟩ := hQ29
      have M29 := M27.app0 Mc29
      clear hS hk
      replace Sf_b15 := CHr.safe A29 E_b15.lt Sf_b15
      replace Sf_b21 := CHr.safe A29 V_b21.lt Sf_b21
      replace RH := RH.trans A29
      replace Z_ad := StaKeep Z_ad Mc29.1 all0
      replace Z_hs := StaKeep Z_hs Mc29.1 all0
      replace Z_ls := StaKeep Z_ls Mc29.1 all0
      replace Z_fm := StaKeep Z_fm Mc29.1 all0
      replace Z_cs := StaKeep Z_cs Mc29.1 all0
      replace V_b4 := V_b4.keep Mc29.1 nin0
      replace E_b15 := E_b15.keep Mc29.1
      replace S_b17 := S_b17.keep Mc29.1 nin0 nin0
      replace E_sa20 := E_sa20.keep Mc29.1
      replace F_cd20 := F_cd20.keep Mc29.1 nin0
      replace F_vl20 := F_vl20.keep Mc29.1 nin0
      replace V_sb20 := V_sb20.keep Mc29.1 nin0
      replace F_text_b15 := F_text_b15.keep Mc29.1 nin0
      replace F_chars_b15 := F_chars_b15.keep Mc29.1 nin0
      replace F_position_b15 := F_position_b15.keep Mc29.1 nin0
      replace V_b21 := V_b21.keep Mc29.1 nin0
      have hS := hS29
      have hk : h29.size ≤ h29.size := Nat.le_refl _
      replace hZ := hZ29
      replace hown := hown29
      show Go p e below P T29 (mkF m 188 #[sI p1, sI p2, sI p3, sI p4, sI p5, sI p6, sI (Int32.ofNat nk), sI u1, sI u2, sI u3, sR b4, sR bt, sI u13, sI u14, sR b15, sI (bi ((fst cs) < cs.length ∧ cs.getD (fst cs) 0 = u13)), sI (Int32.ofNat pa1), sI (bi (jb2 < cs.length ∧ cs.getD jb2 0 = u14)), .unset, .unset, .unset, .unset, .unset, .unset, .unset] [(.ref a29)])
      refine goV X29 hx hZ (y := (⟨"java/lang/String", "length", "()I"⟩ : MethodName)) (z := (⟨"java/lang/String", "length", "()I"⟩ : MethodName)) hown (hw _ (List.mem_of_getElem? (i := 106) rfl)) (hw _ (List.mem_of_getElem? (i := 89) rfl)) (notFace_of_selects (args := #[]) (mvT hZ (hw _ (List.mem_of_getElem? (i := 91) rfl)))) (hw _ (List.mem_of_getElem? (i := 91) rfl)) (hw _ (List.mem_of_getElem? (i := 90) rfl)) (by decide) (C := 0) (S := 0) (lenStr (W := 0) hZ (hw_wordsLen hw) (hw _ (List.mem_of_getElem? (i := 9) rfl)) S_a29 Z_cs hz (by decide) (by decide)) e29 S_a29.exa (argsL := []) (rest := []) (by rw [hml]; rfl) (lenOf pd___I rfl) rfl rfl (hb hby at_188) (Nat.le_of_eq rfl) (by decide) (by decide) ?_
      intro v30 T30 L30 X30 hQ30
      obtain ⟨nq30, e30, rfl⟩ := hQ30
      replace X30 := standNil X30 nq30
      show Go p e below P T30 (mkF m 191 #[sI p1, sI p2, sI p3, sI p4, sI p5, sI p6, sI (Int32.ofNat nk), sI u1, sI u2, sI u3, sR b4, sR bt, sI u13, sI u14, sR b15, sI (bi ((fst cs) < cs.length ∧ cs.getD (fst cs) 0 = u13)), sI (Int32.ofNat pa1), sI (bi (jb2 < cs.length ∧ cs.getD jb2 0 = u14)), .unset, .unset, .unset, .unset, .unset, .unset, .unset] [(.int (Int32.ofNat (List.take pa2 cs).length))])
      rw [show (List.take pa2 cs).length = pa2 from by rw [List.length_take]; omega]
      show Go p e below P T30 (mkF m 191 #[sI p1, sI p2, sI p3, sI p4, sI p5, sI p6, sI (Int32.ofNat nk), sI u1, sI u2, sI u3, sR b4, sR bt, sI u13, sI u14, sR b15, sI (bi ((fst cs) < cs.length ∧ cs.getD (fst cs) 0 = u13)), sI (Int32.ofNat pa1), sI (bi (jb2 < cs.length ∧ cs.getD jb2 0 = u14)), .unset, .unset, .unset, .unset, .unset, .unset, .unset] [(.int (Int32.ofNat pa2))])
      refine Go.of (T' := T30) (f' := (mkF m 193 #[sI p1, sI p2, sI p3, sI p4, sI p5, sI p6, sI (Int32.ofNat nk), sI u1, sI u2, sI u3, sR b4, sR bt, sI u13, sI u14, sR b15, sI (bi ((fst cs) < cs.length ∧ cs.getD (fst cs) 0 = u13)), sI (Int32.ofNat pa1), sI (bi (jb2 < cs.length ∧ cs.getD jb2 0 = u14)), sI (Int32.ofNat pa2), .unset, .unset, .unset, .unset, .unset, .unset] [])) (fun _ k => XS.istore X30.here hx rfl (hb hby at_191) rfl (l' := #[sI p1, sI p2, sI p3, sI p4, sI p5, sI p6, sI (Int32.ofNat nk), sI u1, sI u2, sI u3, sR b4, sR bt, sI u13, sI u14, sR b15, sI (bi ((fst cs) < cs.length ∧ cs.getD (fst cs) 0 = u13)), sI (Int32.ofNat pa1), sI (bi (jb2 < cs.length ∧ cs.getD jb2 0 = u14)), sI (Int32.ofNat pa2), .unset, .unset, .unset, .unset, .unset, .unset]) rfl k) ?_
      refine Go.of (T' := T30) (f' := (mkF m 195 #[sI p1, sI p2, sI p3, sI p4, sI p5, sI p6, sI (Int32.ofNat nk), sI u1, sI u2, sI u3, sR b4, sR bt, sI u13, sI u14, sR b15, sI (bi ((fst cs) < cs.length ∧ cs.getD (fst cs) 0 = u13)), sI (Int32.ofNat pa1), sI (bi (jb2 < cs.length ∧ cs.getD jb2 0 = u14)), sI (Int32.ofNat pa2), .unset, .unset, .unset, .unset, .unset, .unset] [(.ref b4)])) (fun _ k => XS.aload X30.here hx rfl (hb hby at_193) rfl rfl k) ?_
      refine Go.of (T' := T30) (f' := (mkF m 197 #[sI p1, sI p2, sI p3, sI p4, sI p5, sI p6, sI (Int32.ofNat nk), sI u1, sI u2, sI u3, sR b4, sR bt, sI u13, sI u14, sR b15, sI (bi ((fst cs) < cs.length ∧ cs.getD (fst cs) 0 = u13)), sI (Int32.ofNat pa1), sI (bi (jb2 < cs.length ∧ cs.getD jb2 0 = u14)), sI (Int32.ofNat pa2), .unset, .unset, .unset, .unset, .unset, .unset] [(.int (Int32.ofNat nk)), (.ref b4)])) (fun _ k => XS.iload X30.here hx rfl (hb hby at_195) rfl k) ?_
      refine Go.of (T' := T30) (f' := (mkF m 198 #[sI p1, sI p2, sI p3, sI p4, sI p5, sI p6, sI (Int32.ofNat nk), sI u1, sI u2, sI u3, sR b4, sR bt, sI u13, sI u14, sR b15, sI (bi ((fst cs) < cs.length ∧ cs.getD (fst cs) 0 = u13)), sI (Int32.ofNat pa1), sI (bi (jb2 < cs.length ∧ cs.getD jb2 0 = u14)), sI (Int32.ofNat pa2), .unset, .unset, .unset, .unset, .unset, .unset] [(.int (0 : Int32)), (.int (Int32.ofNat nk)), (.ref b4)])) (fun _ k => XS.iconst X30.here hx rfl (hb hby at_197) k) ?_
      refine goS X30 hx hZ hown (hw _ (List.mem_of_getElem? (i := 107) rfl)) (hw _ (List.mem_of_getElem? (i := 108) rfl)) (hw _ (List.mem_of_getElem? (i := 2) rfl)) (hw _ (List.mem_of_getElem? (i := 109) rfl)) (by decide) (C := 0) (S := 0) ((rm_wss l Z a0 hw b4 k4 [u1, u2, u3] nk 0 h29 V_b4 rfl (by omega) (by omega)).bk (W := 0) hZ (hw _ (List.mem_of_getElem? (i := 109) rfl)) (hw _ (List.mem_of_getElem? (i := 2) rfl)) (by decide) (by decide)) e30 (argsL := [(.ref b4), (.int (Int32.ofNat nk)), (.int (0 : Int32))]) (rest := []) (by rw [hml]; rfl) (lenOf pd___CII_I rfl) rfl rfl (hb hby at_198) (Nat.le_of_eq rfl) (by decide) (by decide) ?_
      intro v31 T31 L31 X31 hQ31
      obtain ⟨nq31, e31, rfl⟩ := hQ31
      replace X31 := standNil X31 nq31
      show Go p e below P T31 (mkF m 201 #[sI p1, sI p2, sI p3, sI p4, sI p5, sI p6, sI (Int32.ofNat nk), sI u1, sI u2, sI u3, sR b4, sR bt, sI u13, sI u14, sR b15, sI (bi ((fst cs) < cs.length ∧ cs.getD (fst cs) 0 = u13)), sI (Int32.ofNat pa1), sI (bi (jb2 < cs.length ∧ cs.getD jb2 0 = u14)), sI (Int32.ofNat pa2), .unset, .unset, .unset, .unset, .unset, .unset] [(.int (Int32.ofNat (0 + fst ((List.take nk [u1, u2, u3]).drop 0))))])
      rw [show 0 + fst ((List.take nk [u1, u2, u3]).drop 0) = (fst cs) from by rw [← hcs]; simp]
      show Go p e below P T31 (mkF m 201 #[sI p1, sI p2, sI p3, sI p4, sI p5, sI p6, sI (Int32.ofNat nk), sI u1, sI u2, sI u3, sR b4, sR bt, sI u13, sI u14, sR b15, sI (bi ((fst cs) < cs.length ∧ cs.getD (fst cs) 0 = u13)), sI (Int32.ofNat pa1), sI (bi (jb2 < cs.length ∧ cs.getD jb2 0 = u14)), sI (Int32.ofNat pa2), .unset, .unset, .unset, .unset, .unset, .unset] [(.int (Int32.ofNat (fst cs)))])
      refine Go.of (T' := T31) (f' := (mkF m 203 #[sI p1, sI p2, sI p3, sI p4, sI p5, sI p6, sI (Int32.ofNat nk), sI u1, sI u2, sI u3, sR b4, sR bt, sI u13, sI u14, sR b15, sI (bi ((fst cs) < cs.length ∧ cs.getD (fst cs) 0 = u13)), sI (Int32.ofNat pa1), sI (bi (jb2 < cs.length ∧ cs.getD jb2 0 = u14)), sI (Int32.ofNat pa2), sI (Int32.ofNat (fst cs)), .unset, .unset, .unset, .unset, .unset] [])) (fun _ k => XS.istore X31.here hx rfl (hb hby at_201) rfl (l' := #[sI p1, sI p2, sI p3, sI p4, sI p5, sI p6, sI (Int32.ofNat nk), sI u1, sI u2, sI u3, sR b4, sR bt, sI u13, sI u14, sR b15, sI (bi ((fst cs) < cs.length ∧ cs.getD (fst cs) 0 = u13)), sI (Int32.ofNat pa1), sI (bi (jb2 < cs.length ∧ cs.getD jb2 0 = u14)), sI (Int32.ofNat pa2), sI (Int32.ofNat (fst cs)), .unset, .unset, .unset, .unset, .unset]) rfl k) ?_
      refine Go.of (T' := T31) (f' := (mkF m 205 #[sI p1, sI p2, sI p3, sI p4, sI p5, sI p6, sI (Int32.ofNat nk), sI u1, sI u2, sI u3, sR b4, sR bt, sI u13, sI u14, sR b15, sI (bi ((fst cs) < cs.length ∧ cs.getD (fst cs) 0 = u13)), sI (Int32.ofNat pa1), sI (bi (jb2 < cs.length ∧ cs.getD jb2 0 = u14)), sI (Int32.ofNat pa2), sI (Int32.ofNat (fst cs)), .unset, .unset, .unset, .unset, .unset] [(.int (Int32.ofNat (fst cs)))])) (fun _ k => XS.iload X31.here hx rfl (hb hby at_203) rfl k) ?_
      refine Go.of (T' := T31) (f' := (mkF m 207 #[sI p1, sI p2, sI p3, sI p4, sI p5, sI p6, sI (Int32.ofNat nk), sI u1, sI u2, sI u3, sR b4, sR bt, sI u13, sI u14, sR b15, sI (bi ((fst cs) < cs.length ∧ cs.getD (fst cs) 0 = u13)), sI (Int32.ofNat pa1), sI (bi (jb2 < cs.length ∧ cs.getD jb2 0 = u14)), sI (Int32.ofNat pa2), sI (Int32.ofNat (fst cs)), .unset, .unset, .unset, .unset, .unset] [(.int (Int32.ofNat nk)), (.int (Int32.ofNat (fst cs)))])) (fun _ k => XS.iload X31.here hx rfl (hb hby at_205) rfl k) ?_
      have eg225 : (fst cs) < nk → cs.getD (fst cs) 0 = ([u1, u2, u3] : List Int32).getD (fst cs) 0 := fun q => (congrArg (fun l => List.getD l (fst cs) 0) hcs).trans (gtk q)
      have J32 : ∀ zj32 : Int32, zj32 = (bi ((fst cs) < cs.length ∧ cs.getD (fst cs) 0 = u13)) → Go p e below P T31 (mkF m 225 #[sI p1, sI p2, sI p3, sI p4, sI p5, sI p6, sI (Int32.ofNat nk), sI u1, sI u2, sI u3, sR b4, sR bt, sI u13, sI u14, sR b15, sI (bi ((fst cs) < cs.length ∧ cs.getD (fst cs) 0 = u13)), sI (Int32.ofNat pa1), sI (bi (jb2 < cs.length ∧ cs.getD jb2 0 = u14)), sI (Int32.ofNat pa2), sI (Int32.ofNat (fst cs)), .unset, .unset, .unset, .unset, .unset] [(.int zj32)]) := by
        intro zj32 hzj32
        subst hzj32
        refine Go.of (T' := T31) (f' := (mkF m 227 #[sI p1, sI p2, sI p3, sI p4, sI p5, sI p6, sI (Int32.ofNat nk), sI u1, sI u2, sI u3, sR b4, sR bt, sI u13, sI u14, sR b15, sI (bi ((fst cs) < cs.length ∧ cs.getD (fst cs) 0 = u13)), sI (Int32.ofNat pa1), sI (bi (jb2 < cs.length ∧ cs.getD jb2 0 = u14)), sI (Int32.ofNat pa2), sI (Int32.ofNat (fst cs)), sI (bi ((fst cs) < cs.length ∧ cs.getD (fst cs) 0 = u13)), .unset, .unset, .unset, .unset] [])) (fun _ k => XS.istore X31.here hx rfl (hb hby at_225) rfl (l' := #[sI p1, sI p2, sI p3, sI p4, sI p5, sI p6, sI (Int32.ofNat nk), sI u1, sI u2, sI u3, sR b4, sR bt, sI u13, sI u14, sR b15, sI (bi ((fst cs) < cs.length ∧ cs.getD (fst cs) 0 = u13)), sI (Int32.ofNat pa1), sI (bi (jb2 < cs.length ∧ cs.getD jb2 0 = u14)), sI (Int32.ofNat pa2), sI (Int32.ofNat (fst cs)), sI (bi ((fst cs) < cs.length ∧ cs.getD (fst cs) 0 = u13)), .unset, .unset, .unset, .unset]) rfl k) ?_
        refine Go.of (T' := T31) (f' := (mkF m 229 #[sI p1, sI p2, sI p3, sI p4, sI p5, sI p6, sI (Int32.ofNat nk), sI u1, sI u2, sI u3, sR b4, sR bt, sI u13, sI u14, sR b15, sI (bi ((fst cs) < cs.length ∧ cs.getD (fst cs) 0 = u13)), sI (Int32.ofNat pa1), sI (bi (jb2 < cs.length ∧ cs.getD jb2 0 = u14)), sI (Int32.ofNat pa2), sI (Int32.ofNat (fst cs)), sI (bi ((fst cs) < cs.length ∧ cs.getD (fst cs) 0 = u13)), .unset, .unset, .unset, .unset] [(.int (bi ((fst cs) < cs.length ∧ cs.getD (fst cs) 0 = u13)))])) (fun _ k => XS.iload X31.here hx rfl (hb hby at_227) rfl k) ?_
        have J33 : ∀ zj33 : Int32, zj33 = (Int32.ofNat pa1) → Go p e below P T31 (mkF m 241 #[sI p1, sI p2, sI p3, sI p4, sI p5, sI p6, sI (Int32.ofNat nk), sI u1, sI u2, sI u3, sR b4, sR bt, sI u13, sI u14, sR b15, sI (bi ((fst cs) < cs.length ∧ cs.getD (fst cs) 0 = u13)), sI (Int32.ofNat pa1), sI (bi (jb2 < cs.length ∧ cs.getD jb2 0 = u14)), sI (Int32.ofNat pa2), sI (Int32.ofNat (fst cs)), sI (bi ((fst cs) < cs.length ∧ cs.getD (fst cs) 0 = u13)), .unset, .unset, .unset, .unset] [(.int zj33)]) := by
          intro zj33 hzj33
          subst hzj33
          refine Go.of (T' := T31) (f' := (mkF m 243 #[sI p1, sI p2, sI p3, sI p4, sI p5, sI p6, sI (Int32.ofNat nk), sI u1, sI u2, sI u3, sR b4, sR bt, sI u13, sI u14, sR b15, sI (bi ((fst cs) < cs.length ∧ cs.getD (fst cs) 0 = u13)), sI (Int32.ofNat pa1), sI (bi (jb2 < cs.length ∧ cs.getD jb2 0 = u14)), sI (Int32.ofNat pa2), sI (Int32.ofNat (fst cs)), sI (bi ((fst cs) < cs.length ∧ cs.getD (fst cs) 0 = u13)), sI (Int32.ofNat pa1), .unset, .unset, .unset] [])) (fun _ k => XS.istore X31.here hx rfl (hb hby at_241) rfl (l' := #[sI p1, sI p2, sI p3, sI p4, sI p5, sI p6, sI (Int32.ofNat nk), sI u1, sI u2, sI u3, sR b4, sR bt, sI u13, sI u14, sR b15, sI (bi ((fst cs) < cs.length ∧ cs.getD (fst cs) 0 = u13)), sI (Int32.ofNat pa1), sI (bi (jb2 < cs.length ∧ cs.getD jb2 0 = u14)), sI (Int32.ofNat pa2), sI (Int32.ofNat (fst cs)), sI (bi ((fst cs) < cs.length ∧ cs.getD (fst cs) 0 = u13)), sI (Int32.ofNat pa1), .unset, .unset, .unset]) rfl k) ?_
          refine Go.of (T' := T31) (f' := (mkF m 245 #[sI p1, sI p2, sI p3, sI p4, sI p5, sI p6, sI (Int32.ofNat nk), sI u1, sI u2, sI u3, sR b4, sR bt, sI u13, sI u14, sR b15, sI (bi ((fst cs) < cs.length ∧ cs.getD (fst cs) 0 = u13)), sI (Int32.ofNat pa1), sI (bi (jb2 < cs.length ∧ cs.getD jb2 0 = u14)), sI (Int32.ofNat pa2), sI (Int32.ofNat (fst cs)), sI (bi ((fst cs) < cs.length ∧ cs.getD (fst cs) 0 = u13)), sI (Int32.ofNat pa1), .unset, .unset, .unset] [(.ref b4)])) (fun _ k => XS.aload X31.here hx rfl (hb hby at_243) rfl rfl k) ?_
          refine Go.of (T' := T31) (f' := (mkF m 247 #[sI p1, sI p2, sI p3, sI p4, sI p5, sI p6, sI (Int32.ofNat nk), sI u1, sI u2, sI u3, sR b4, sR bt, sI u13, sI u14, sR b15, sI (bi ((fst cs) < cs.length ∧ cs.getD (fst cs) 0 = u13)), sI (Int32.ofNat pa1), sI (bi (jb2 < cs.length ∧ cs.getD jb2 0 = u14)), sI (Int32.ofNat pa2), sI (Int32.ofNat (fst cs)), sI (bi ((fst cs) < cs.length ∧ cs.getD (fst cs) 0 = u13)), sI (Int32.ofNat pa1), .unset, .unset, .unset] [(.int (Int32.ofNat nk)), (.ref b4)])) (fun _ k => XS.iload X31.here hx rfl (hb hby at_245) rfl k) ?_
          refine Go.of (T' := T31) (f' := (mkF m 249 #[sI p1, sI p2, sI p3, sI p4, sI p5, sI p6, sI (Int32.ofNat nk), sI u1, sI u2, sI u3, sR b4, sR bt, sI u13, sI u14, sR b15, sI (bi ((fst cs) < cs.length ∧ cs.getD (fst cs) 0 = u13)), sI (Int32.ofNat pa1), sI (bi (jb2 < cs.length ∧ cs.getD jb2 0 = u14)), sI (Int32.ofNat pa2), sI (Int32.ofNat (fst cs)), sI (bi ((fst cs) < cs.length ∧ cs.getD (fst cs) 0 = u13)), sI (Int32.ofNat pa1), .unset, .unset, .unset] [(.int (Int32.ofNat pa1)), (.int (Int32.ofNat nk)), (.ref b4)])) (fun _ k => XS.iload X31.here hx rfl (hb hby at_247) rfl k) ?_
          refine goS X31 hx hZ hown (hw _ (List.mem_of_getElem? (i := 107) rfl)) (hw _ (List.mem_of_getElem? (i := 108) rfl)) (hw _ (List.mem_of_getElem? (i := 2) rfl)) (hw _ (List.mem_of_getElem? (i := 109) rfl)) (by decide) (C := 0) (S := 0) ((rm_wss l Z a0 hw b4 k4 [u1, u2, u3] nk pa1 h29 V_b4 rfl (by omega) (by omega)).bk (W := 0) hZ (hw _ (List.mem_of_getElem? (i := 109) rfl)) (hw _ (List.mem_of_getElem? (i := 2) rfl)) (by decide) (by decide)) e31 (argsL := [(.ref b4), (.int (Int32.ofNat nk)), (.int (Int32.ofNat pa1))]) (rest := []) (by rw [hml]; rfl) (lenOf pd___CII_I rfl) rfl rfl (hb hby at_249) (Nat.le_of_eq rfl) (by decide) (by decide) ?_
          intro v34 T34 L34 X34 hQ34
          obtain ⟨nq34, e34, rfl⟩ := hQ34
          replace X34 := standNil X34 nq34
          show Go p e below P T34 (mkF m 252 #[sI p1, sI p2, sI p3, sI p4, sI p5, sI p6, sI (Int32.ofNat nk), sI u1, sI u2, sI u3, sR b4, sR bt, sI u13, sI u14, sR b15, sI (bi ((fst cs) < cs.length ∧ cs.getD (fst cs) 0 = u13)), sI (Int32.ofNat pa1), sI (bi (jb2 < cs.length ∧ cs.getD jb2 0 = u14)), sI (Int32.ofNat pa2), sI (Int32.ofNat (fst cs)), sI (bi ((fst cs) < cs.length ∧ cs.getD (fst cs) 0 = u13)), sI (Int32.ofNat pa1), .unset, .unset, .unset] [(.int (Int32.ofNat (pa1 + fst ((List.take nk [u1, u2, u3]).drop pa1))))])
          rw [show pa1 + fst ((List.take nk [u1, u2, u3]).drop pa1) = jb2 from by rw [← hcs]; exact hjb2.symm]
          show Go p e below P T34 (mkF m 252 #[sI p1, sI p2, sI p3, sI p4, sI p5, sI p6, sI (Int32.ofNat nk), sI u1, sI u2, sI u3, sR b4, sR bt, sI u13, sI u14, sR b15, sI (bi ((fst cs) < cs.length ∧ cs.getD (fst cs) 0 = u13)), sI (Int32.ofNat pa1), sI (bi (jb2 < cs.length ∧ cs.getD jb2 0 = u14)), sI (Int32.ofNat pa2), sI (Int32.ofNat (fst cs)), sI (bi ((fst cs) < cs.length ∧ cs.getD (fst cs) 0 = u13)), sI (Int32.ofNat pa1), .unset, .unset, .unset] [(.int (Int32.ofNat jb2))])
          refine Go.of (T' := T34) (f' := (mkF m 254 #[sI p1, sI p2, sI p3, sI p4, sI p5, sI p6, sI (Int32.ofNat nk), sI u1, sI u2, sI u3, sR b4, sR bt, sI u13, sI u14, sR b15, sI (bi ((fst cs) < cs.length ∧ cs.getD (fst cs) 0 = u13)), sI (Int32.ofNat pa1), sI (bi (jb2 < cs.length ∧ cs.getD jb2 0 = u14)), sI (Int32.ofNat pa2), sI (Int32.ofNat (fst cs)), sI (bi ((fst cs) < cs.length ∧ cs.getD (fst cs) 0 = u13)), sI (Int32.ofNat pa1), sI (Int32.ofNat jb2), .unset, .unset] [])) (fun _ k => XS.istore X34.here hx rfl (hb hby at_252) rfl (l' := #[sI p1, sI p2, sI p3, sI p4, sI p5, sI p6, sI (Int32.ofNat nk), sI u1, sI u2, sI u3, sR b4, sR bt, sI u13, sI u14, sR b15, sI (bi ((fst cs) < cs.length ∧ cs.getD (fst cs) 0 = u13)), sI (Int32.ofNat pa1), sI (bi (jb2 < cs.length ∧ cs.getD jb2 0 = u14)), sI (Int32.ofNat pa2), sI (Int32.ofNat (fst cs)), sI (bi ((fst cs) < cs.length ∧ cs.getD (fst cs) 0 = u13)), sI (Int32.ofNat pa1), sI (Int32.ofNat jb2), .unset, .unset]) rfl k) ?_
          refine Go.of (T' := T34) (f' := (mkF m 256 #[sI p1, sI p2, sI p3, sI p4, sI p5, sI p6, sI (Int32.ofNat nk), sI u1, sI u2, sI u3, sR b4, sR bt, sI u13, sI u14, sR b15, sI (bi ((fst cs) < cs.length ∧ cs.getD (fst cs) 0 = u13)), sI (Int32.ofNat pa1), sI (bi (jb2 < cs.length ∧ cs.getD jb2 0 = u14)), sI (Int32.ofNat pa2), sI (Int32.ofNat (fst cs)), sI (bi ((fst cs) < cs.length ∧ cs.getD (fst cs) 0 = u13)), sI (Int32.ofNat pa1), sI (Int32.ofNat jb2), .unset, .unset] [(.int (Int32.ofNat jb2))])) (fun _ k => XS.iload X34.here hx rfl (hb hby at_254) rfl k) ?_
          refine Go.of (T' := T34) (f' := (mkF m 258 #[sI p1, sI p2, sI p3, sI p4, sI p5, sI p6, sI (Int32.ofNat nk), sI u1, sI u2, sI u3, sR b4, sR bt, sI u13, sI u14, sR b15, sI (bi ((fst cs) < cs.length ∧ cs.getD (fst cs) 0 = u13)), sI (Int32.ofNat pa1), sI (bi (jb2 < cs.length ∧ cs.getD jb2 0 = u14)), sI (Int32.ofNat pa2), sI (Int32.ofNat (fst cs)), sI (bi ((fst cs) < cs.length ∧ cs.getD (fst cs) 0 = u13)), sI (Int32.ofNat pa1), sI (Int32.ofNat jb2), .unset, .unset] [(.int (Int32.ofNat nk)), (.int (Int32.ofNat jb2))])) (fun _ k => XS.iload X34.here hx rfl (hb hby at_256) rfl k) ?_
          have eg276 : jb2 < nk → cs.getD jb2 0 = ([u1, u2, u3] : List Int32).getD jb2 0 := fun q => (congrArg (fun l => List.getD l jb2 0) hcs).trans (gtk q)
          have J35 : ∀ zj35 : Int32, zj35 = (bi (jb2 < cs.length ∧ cs.getD jb2 0 = u14)) → Go p e below P T34 (mkF m 276 #[sI p1, sI p2, sI p3, sI p4, sI p5, sI p6, sI (Int32.ofNat nk), sI u1, sI u2, sI u3, sR b4, sR bt, sI u13, sI u14, sR b15, sI (bi ((fst cs) < cs.length ∧ cs.getD (fst cs) 0 = u13)), sI (Int32.ofNat pa1), sI (bi (jb2 < cs.length ∧ cs.getD jb2 0 = u14)), sI (Int32.ofNat pa2), sI (Int32.ofNat (fst cs)), sI (bi ((fst cs) < cs.length ∧ cs.getD (fst cs) 0 = u13)), sI (Int32.ofNat pa1), sI (Int32.ofNat jb2), .unset, .unset] [(.int zj35)]) := by
            intro zj35 hzj35
            subst hzj35
            refine Go.of (T' := T34) (f' := (mkF m 278 #[sI p1, sI p2, sI p3, sI p4, sI p5, sI p6, sI (Int32.ofNat nk), sI u1, sI u2, sI u3, sR b4, sR bt, sI u13, sI u14, sR b15, sI (bi ((fst cs) < cs.length ∧ cs.getD (fst cs) 0 = u13)), sI (Int32.ofNat pa1), sI (bi (jb2 < cs.length ∧ cs.getD jb2 0 = u14)), sI (Int32.ofNat pa2), sI (Int32.ofNat (fst cs)), sI (bi ((fst cs) < cs.length ∧ cs.getD (fst cs) 0 = u13)), sI (Int32.ofNat pa1), sI (Int32.ofNat jb2), sI (bi (jb2 < cs.length ∧ cs.getD jb2 0 = u14)), .unset] [])) (fun _ k => XS.istore X34.here hx rfl (hb hby at_276) rfl (l' := #[sI p1, sI p2, sI p3, sI p4, sI p5, sI p6, sI (Int32.ofNat nk), sI u1, sI u2, sI u3, sR b4, sR bt, sI u13, sI u14, sR b15, sI (bi ((fst cs) < cs.length ∧ cs.getD (fst cs) 0 = u13)), sI (Int32.ofNat pa1), sI (bi (jb2 < cs.length ∧ cs.getD jb2 0 = u14)), sI (Int32.ofNat pa2), sI (Int32.ofNat (fst cs)), sI (bi ((fst cs) < cs.length ∧ cs.getD (fst cs) 0 = u13)), sI (Int32.ofNat pa1), sI (Int32.ofNat jb2), sI (bi (jb2 < cs.length ∧ cs.getD jb2 0 = u14)), .unset]) rfl k) ?_
            refine Go.of (T' := T34) (f' := (mkF m 280 #[sI p1, sI p2, sI p3, sI p4, sI p5, sI p6, sI (Int32.ofNat nk), sI u1, sI u2, sI u3, sR b4, sR bt, sI u13, sI u14, sR b15, sI (bi ((fst cs) < cs.length ∧ cs.getD (fst cs) 0 = u13)), sI (Int32.ofNat pa1), sI (bi (jb2 < cs.length ∧ cs.getD jb2 0 = u14)), sI (Int32.ofNat pa2), sI (Int32.ofNat (fst cs)), sI (bi ((fst cs) < cs.length ∧ cs.getD (fst cs) 0 = u13)), sI (Int32.ofNat pa1), sI (Int32.ofNat jb2), sI (bi (jb2 < cs.length ∧ cs.getD jb2 0 = u14)), .unset] [(.int (bi (jb2 < cs.length ∧ cs.getD jb2 0 = u14)))])) (fun _ k => XS.iload X34.here hx rfl (hb hby at_278) rfl k) ?_
            have J36 : ∀ zj36 : Int32, zj36 = (Int32.ofNat pa2) → Go p e below P T34 (mkF m 292 #[sI p1, sI p2, sI p3, sI p4, sI p5, sI p6, sI (Int32.ofNat nk), sI u1, sI u2, sI u3, sR b4, sR bt, sI u13, sI u14, sR b15, sI (bi ((fst cs) < cs.length ∧ cs.getD (fst cs) 0 = u13)), sI (Int32.ofNat pa1), sI (bi (jb2 < cs.length ∧ cs.getD jb2 0 = u14)), sI (Int32.ofNat pa2), sI (Int32.ofNat (fst cs)), sI (bi ((fst cs) < cs.length ∧ cs.getD (fst cs) 0 = u13)), sI (Int32.ofNat pa1), sI (Int32.ofNat jb2), sI (bi (jb2 < cs.length ∧ cs.getD jb2 0 = u14)), .unset] [(.int zj36)]) := by
              intro zj36 hzj36
              subst hzj36
              refine Go.of (T' := T34) (f' := (mkF m 294 #[sI p1, sI p2, sI p3, sI p4, sI p5, sI p6, sI (Int32.ofNat nk), sI u1, sI u2, sI u3, sR b4, sR bt, sI u13, sI u14, sR b15, sI (bi ((fst cs) < cs.length ∧ cs.getD (fst cs) 0 = u13)), sI (Int32.ofNat pa1), sI (bi (jb2 < cs.length ∧ cs.getD jb2 0 = u14)), sI (Int32.ofNat pa2), sI (Int32.ofNat (fst cs)), sI (bi ((fst cs) < cs.length ∧ cs.getD (fst cs) 0 = u13)), sI (Int32.ofNat pa1), sI (Int32.ofNat jb2), sI (bi (jb2 < cs.length ∧ cs.getD jb2 0 = u14)), sI (Int32.ofNat pa2)] [])) (fun _ k => XS.istore X34.here hx rfl (hb hby at_292) rfl (l' := #[sI p1, sI p2, sI p3, sI p4, sI p5, sI p6, sI (Int32.ofNat nk), sI u1, sI u2, sI u3, sR b4, sR bt, sI u13, sI u14, sR b15, sI (bi ((fst cs) < cs.length ∧ cs.getD (fst cs) 0 = u13)), sI (Int32.ofNat pa1), sI (bi (jb2 < cs.length ∧ cs.getD jb2 0 = u14)), sI (Int32.ofNat pa2), sI (Int32.ofNat (fst cs)), sI (bi ((fst cs) < cs.length ∧ cs.getD (fst cs) 0 = u13)), sI (Int32.ofNat pa1), sI (Int32.ofNat jb2), sI (bi (jb2 < cs.length ∧ cs.getD jb2 0 = u14)), sI (Int32.ofNat pa2)]) rfl k) ?_
              refine Go.of (T' := T34) (f' := (mkF m 296 #[sI p1, sI p2, sI p3, sI p4, sI p5, sI p6, sI (Int32.ofNat nk), sI u1, sI u2, sI u3, sR b4, sR bt, sI u13, sI u14, sR b15, sI (bi ((fst cs) < cs.length ∧ cs.getD (fst cs) 0 = u13)), sI (Int32.ofNat pa1), sI (bi (jb2 < cs.length ∧ cs.getD jb2 0 = u14)), sI (Int32.ofNat pa2), sI (Int32.ofNat (fst cs)), sI (bi ((fst cs) < cs.length ∧ cs.getD (fst cs) 0 = u13)), sI (Int32.ofNat pa1), sI (Int32.ofNat jb2), sI (bi (jb2 < cs.length ∧ cs.getD jb2 0 = u14)), sI (Int32.ofNat pa2)] [(.int (bi ((fst cs) < cs.length ∧ cs.getD (fst cs) 0 = u13)))])) (fun _ k => XS.iload X34.here hx rfl (hb hby at_294) rfl k) ?_
              refine Go.of (T' := T34) (f' := (mkF m 298 #[sI p1, sI p2, sI p3, sI p4, sI p5, sI p6, sI (Int32.ofNat nk), sI u1, sI u2, sI u3, sR b4, sR bt, sI u13, sI u14, sR b15, sI (bi ((fst cs) < cs.length ∧ cs.getD (fst cs) 0 = u13)), sI (Int32.ofNat pa1), sI (bi (jb2 < cs.length ∧ cs.getD jb2 0 = u14)), sI (Int32.ofNat pa2), sI (Int32.ofNat (fst cs)), sI (bi ((fst cs) < cs.length ∧ cs.getD (fst cs) 0 = u13)), sI (Int32.ofNat pa1), sI (Int32.ofNat jb2), sI (bi (jb2 < cs.length ∧ cs.getD jb2 0 = u14)), sI (Int32.ofNat pa2)] [(.int (bi ((fst cs) < cs.length ∧ cs.getD (fst cs) 0 = u13))), (.int (bi ((fst cs) < cs.length ∧ cs.getD (fst cs) 0 = u13)))])) (fun _ k => XS.iload X34.here hx rfl (hb hby at_296) rfl k) ?_
              refine Go.of (T' := T34) (f' := (mkF m 301 #[sI p1, sI p2, sI p3, sI p4, sI p5, sI p6, sI (Int32.ofNat nk), sI u1, sI u2, sI u3, sR b4, sR bt, sI u13, sI u14, sR b15, sI (bi ((fst cs) < cs.length ∧ cs.getD (fst cs) 0 = u13)), sI (Int32.ofNat pa1), sI (bi (jb2 < cs.length ∧ cs.getD jb2 0 = u14)), sI (Int32.ofNat pa2), sI (Int32.ofNat (fst cs)), sI (bi ((fst cs) < cs.length ∧ cs.getD (fst cs) 0 = u13)), sI (Int32.ofNat pa1), sI (Int32.ofNat jb2), sI (bi (jb2 < cs.length ∧ cs.getD jb2 0 = u14)), sI (Int32.ofNat pa2)] [])) (fun _ k => XS.icmpNo X34.here hx rfl (hb hby at_298) rfl ((teq (rfl : (bi ((fst cs) < cs.length ∧ cs.getD (fst cs) 0 = u13)) = (bi ((fst cs) < cs.length ∧ cs.getD (fst cs) 0 = u13)))).2) k) ?_
              refine Go.of (T' := T34) (f' := (mkF m 303 #[sI p1, sI p2, sI p3, sI p4, sI p5, sI p6, sI (Int32.ofNat nk), sI u1, sI u2, sI u3, sR b4, sR bt, sI u13, sI u14, sR b15, sI (bi ((fst cs) < cs.length ∧ cs.getD (fst cs) 0 = u13)), sI (Int32.ofNat pa1), sI (bi (jb2 < cs.length ∧ cs.getD jb2 0 = u14)), sI (Int32.ofNat pa2), sI (Int32.ofNat (fst cs)), sI (bi ((fst cs) < cs.length ∧ cs.getD (fst cs) 0 = u13)), sI (Int32.ofNat pa1), sI (Int32.ofNat jb2), sI (bi (jb2 < cs.length ∧ cs.getD jb2 0 = u14)), sI (Int32.ofNat pa2)] [(.int (Int32.ofNat pa1))])) (fun _ k => XS.iload X34.here hx rfl (hb hby at_301) rfl k) ?_
              refine Go.of (T' := T34) (f' := (mkF m 305 #[sI p1, sI p2, sI p3, sI p4, sI p5, sI p6, sI (Int32.ofNat nk), sI u1, sI u2, sI u3, sR b4, sR bt, sI u13, sI u14, sR b15, sI (bi ((fst cs) < cs.length ∧ cs.getD (fst cs) 0 = u13)), sI (Int32.ofNat pa1), sI (bi (jb2 < cs.length ∧ cs.getD jb2 0 = u14)), sI (Int32.ofNat pa2), sI (Int32.ofNat (fst cs)), sI (bi ((fst cs) < cs.length ∧ cs.getD (fst cs) 0 = u13)), sI (Int32.ofNat pa1), sI (Int32.ofNat jb2), sI (bi (jb2 < cs.length ∧ cs.getD jb2 0 = u14)), sI (Int32.ofNat pa2)] [(.int (Int32.ofNat pa1)), (.int (Int32.ofNat pa1))])) (fun _ k => XS.iload X34.here hx rfl (hb hby at_303) rfl k) ?_
              refine Go.of (T' := T34) (f' := (mkF m 308 #[sI p1, sI p2, sI p3, sI p4, sI p5, sI p6, sI (Int32.ofNat nk), sI u1, sI u2, sI u3, sR b4, sR bt, sI u13, sI u14, sR b15, sI (bi ((fst cs) < cs.length ∧ cs.getD (fst cs) 0 = u13)), sI (Int32.ofNat pa1), sI (bi (jb2 < cs.length ∧ cs.getD jb2 0 = u14)), sI (Int32.ofNat pa2), sI (Int32.ofNat (fst cs)), sI (bi ((fst cs) < cs.length ∧ cs.getD (fst cs) 0 = u13)), sI (Int32.ofNat pa1), sI (Int32.ofNat jb2), sI (bi (jb2 < cs.length ∧ cs.getD jb2 0 = u14)), sI (Int32.ofNat pa2)] [])) (fun _ k => XS.icmpNo X34.here hx rfl (hb hby at_305) rfl ((teq (rfl : (Int32.ofNat pa1) = (Int32.ofNat pa1))).2) k) ?_
              refine Go.of (T' := T34) (f' := (mkF m 310 #[sI p1, sI p2, sI p3, sI p4, sI p5, sI p6, sI (Int32.ofNat nk), sI u1, sI u2, sI u3, sR b4, sR bt, sI u13, sI u14, sR b15, sI (bi ((fst cs) < cs.length ∧ cs.getD (fst cs) 0 = u13)), sI (Int32.ofNat pa1), sI (bi (jb2 < cs.length ∧ cs.getD jb2 0 = u14)), sI (Int32.ofNat pa2), sI (Int32.ofNat (fst cs)), sI (bi ((fst cs) < cs.length ∧ cs.getD (fst cs) 0 = u13)), sI (Int32.ofNat pa1), sI (Int32.ofNat jb2), sI (bi (jb2 < cs.length ∧ cs.getD jb2 0 = u14)), sI (Int32.ofNat pa2)] [(.int (bi (jb2 < cs.length ∧ cs.getD jb2 0 = u14)))])) (fun _ k => XS.iload X34.here hx rfl (hb hby at_308) rfl k) ?_
              refine Go.of (T' := T34) (f' := (mkF m 312 #[sI p1, sI p2, sI p3, sI p4, sI p5, sI p6, sI (Int32.ofNat nk), sI u1, sI u2, sI u3, sR b4, sR bt, sI u13, sI u14, sR b15, sI (bi ((fst cs) < cs.length ∧ cs.getD (fst cs) 0 = u13)), sI (Int32.ofNat pa1), sI (bi (jb2 < cs.length ∧ cs.getD jb2 0 = u14)), sI (Int32.ofNat pa2), sI (Int32.ofNat (fst cs)), sI (bi ((fst cs) < cs.length ∧ cs.getD (fst cs) 0 = u13)), sI (Int32.ofNat pa1), sI (Int32.ofNat jb2), sI (bi (jb2 < cs.length ∧ cs.getD jb2 0 = u14)), sI (Int32.ofNat pa2)] [(.int (bi (jb2 < cs.length ∧ cs.getD jb2 0 = u14))), (.int (bi (jb2 < cs.length ∧ cs.getD jb2 0 = u14)))])) (fun _ k => XS.iload X34.here hx rfl (hb hby at_310) rfl k) ?_
              refine Go.of (T' := T34) (f' := (mkF m 315 #[sI p1, sI p2, sI p3, sI p4, sI p5, sI p6, sI (Int32.ofNat nk), sI u1, sI u2, sI u3, sR b4, sR bt, sI u13, sI u14, sR b15, sI (bi ((fst cs) < cs.length ∧ cs.getD (fst cs) 0 = u13)), sI (Int32.ofNat pa1), sI (bi (jb2 < cs.length ∧ cs.getD jb2 0 = u14)), sI (Int32.ofNat pa2), sI (Int32.ofNat (fst cs)), sI (bi ((fst cs) < cs.length ∧ cs.getD (fst cs) 0 = u13)), sI (Int32.ofNat pa1), sI (Int32.ofNat jb2), sI (bi (jb2 < cs.length ∧ cs.getD jb2 0 = u14)), sI (Int32.ofNat pa2)] [])) (fun _ k => XS.icmpNo X34.here hx rfl (hb hby at_312) rfl ((teq (rfl : (bi (jb2 < cs.length ∧ cs.getD jb2 0 = u14)) = (bi (jb2 < cs.length ∧ cs.getD jb2 0 = u14)))).2) k) ?_
              refine Go.of (T' := T34) (f' := (mkF m 317 #[sI p1, sI p2, sI p3, sI p4, sI p5, sI p6, sI (Int32.ofNat nk), sI u1, sI u2, sI u3, sR b4, sR bt, sI u13, sI u14, sR b15, sI (bi ((fst cs) < cs.length ∧ cs.getD (fst cs) 0 = u13)), sI (Int32.ofNat pa1), sI (bi (jb2 < cs.length ∧ cs.getD jb2 0 = u14)), sI (Int32.ofNat pa2), sI (Int32.ofNat (fst cs)), sI (bi ((fst cs) < cs.length ∧ cs.getD (fst cs) 0 = u13)), sI (Int32.ofNat pa1), sI (Int32.ofNat jb2), sI (bi (jb2 < cs.length ∧ cs.getD jb2 0 = u14)), sI (Int32.ofNat pa2)] [(.int (Int32.ofNat pa2))])) (fun _ k => XS.iload X34.here hx rfl (hb hby at_315) rfl k) ?_
              refine Go.of (T' := T34) (f' := (mkF m 319 #[sI p1, sI p2, sI p3, sI p4, sI p5, sI p6, sI (Int32.ofNat nk), sI u1, sI u2, sI u3, sR b4, sR bt, sI u13, sI u14, sR b15, sI (bi ((fst cs) < cs.length ∧ cs.getD (fst cs) 0 = u13)), sI (Int32.ofNat pa1), sI (bi (jb2 < cs.length ∧ cs.getD jb2 0 = u14)), sI (Int32.ofNat pa2), sI (Int32.ofNat (fst cs)), sI (bi ((fst cs) < cs.length ∧ cs.getD (fst cs) 0 = u13)), sI (Int32.ofNat pa1), sI (Int32.ofNat jb2), sI (bi (jb2 < cs.length ∧ cs.getD jb2 0 = u14)), sI (Int32.ofNat pa2)] [(.int (Int32.ofNat pa2)), (.int (Int32.ofNat pa2))])) (fun _ k => XS.iload X34.here hx rfl (hb hby at_317) rfl k) ?_
              refine Go.of (T' := T34) (f' := (mkF m 322 #[sI p1, sI p2, sI p3, sI p4, sI p5, sI p6, sI (Int32.ofNat nk), sI u1, sI u2, sI u3, sR b4, sR bt, sI u13, sI u14, sR b15, sI (bi ((fst cs) < cs.length ∧ cs.getD (fst cs) 0 = u13)), sI (Int32.ofNat pa1), sI (bi (jb2 < cs.length ∧ cs.getD jb2 0 = u14)), sI (Int32.ofNat pa2), sI (Int32.ofNat (fst cs)), sI (bi ((fst cs) < cs.length ∧ cs.getD (fst cs) 0 = u13)), sI (Int32.ofNat pa1), sI (Int32.ofNat jb2), sI (bi (jb2 < cs.length ∧ cs.getD jb2 0 = u14)), sI (Int32.ofNat pa2)] [])) (fun _ k => XS.icmpNo X34.here hx rfl (hb hby at_319) rfl ((teq (rfl : (Int32.ofNat pa2) = (Int32.ofNat pa2))).2) k) ?_
              refine Go.of (T' := T34) (f' := (mkF m 323 #[sI p1, sI p2, sI p3, sI p4, sI p5, sI p6, sI (Int32.ofNat nk), sI u1, sI u2, sI u3, sR b4, sR bt, sI u13, sI u14, sR b15, sI (bi ((fst cs) < cs.length ∧ cs.getD (fst cs) 0 = u13)), sI (Int32.ofNat pa1), sI (bi (jb2 < cs.length ∧ cs.getD jb2 0 = u14)), sI (Int32.ofNat pa2), sI (Int32.ofNat (fst cs)), sI (bi ((fst cs) < cs.length ∧ cs.getD (fst cs) 0 = u13)), sI (Int32.ofNat pa1), sI (Int32.ofNat jb2), sI (bi (jb2 < cs.length ∧ cs.getD jb2 0 = u14)), sI (Int32.ofNat pa2)] [(.int (1 : Int32))])) (fun _ k => XS.iconst X34.here hx rfl (hb hby at_322) k) ?_
              refine Go.of (T' := T34) (f' := (mkF m 327 #[sI p1, sI p2, sI p3, sI p4, sI p5, sI p6, sI (Int32.ofNat nk), sI u1, sI u2, sI u3, sR b4, sR bt, sI u13, sI u14, sR b15, sI (bi ((fst cs) < cs.length ∧ cs.getD (fst cs) 0 = u13)), sI (Int32.ofNat pa1), sI (bi (jb2 < cs.length ∧ cs.getD jb2 0 = u14)), sI (Int32.ofNat pa2), sI (Int32.ofNat (fst cs)), sI (bi ((fst cs) < cs.length ∧ cs.getD (fst cs) 0 = u13)), sI (Int32.ofNat pa1), sI (Int32.ofNat jb2), sI (bi (jb2 < cs.length ∧ cs.getD jb2 0 = u14)), sI (Int32.ofNat pa2)] [(.int (1 : Int32))])) (fun _ k => XS.goto X34.here hx rfl (pc0 := 323) (pc' := 327) rfl (hb hby at_323) (by decide) (by decide) k) ?_
              exact goRetIH (Q := fun v h L => v = some (.int 1) ∧ Mv h0 h [] L) X34 hx hZ hS hk (hEL_1 hw) RH (t := .boolean) hret hlk rfl (by simp) (hb hby at_327) K (by decide) (by decide) e34 (⟨rfl, M29⟩)
            by_cases hc280 : jb2 < cs.length ∧ cs.getD jb2 0 = u14
            ·
              refine Go.of (T' := T34) (f' := (mkF m 283 #[sI p1, sI p2, sI p3, sI p4, sI p5, sI p6, sI (Int32.ofNat nk), sI u1, sI u2, sI u3, sR b4, sR bt, sI u13, sI u14, sR b15, sI (bi ((fst cs) < cs.length ∧ cs.getD (fst cs) 0 = u13)), sI (Int32.ofNat pa1), sI (bi (jb2 < cs.length ∧ cs.getD jb2 0 = u14)), sI (Int32.ofNat pa2), sI (Int32.ofNat (fst cs)), sI (bi ((fst cs) < cs.length ∧ cs.getD (fst cs) 0 = u13)), sI (Int32.ofNat pa1), sI (Int32.ofNat jb2), sI (bi (jb2 < cs.length ∧ cs.getD jb2 0 = u14)), .unset] [])) (fun _ k => XS.ifNo X34.here hx rfl (hb hby at_280) rfl ((if0 _ _).trans (feq (bi_ne hc280)).1) k) ?_
              refine Go.of (T' := T34) (f' := (mkF m 285 #[sI p1, sI p2, sI p3, sI p4, sI p5, sI p6, sI (Int32.ofNat nk), sI u1, sI u2, sI u3, sR b4, sR bt, sI u13, sI u14, sR b15, sI (bi ((fst cs) < cs.length ∧ cs.getD (fst cs) 0 = u13)), sI (Int32.ofNat pa1), sI (bi (jb2 < cs.length ∧ cs.getD jb2 0 = u14)), sI (Int32.ofNat pa2), sI (Int32.ofNat (fst cs)), sI (bi ((fst cs) < cs.length ∧ cs.getD (fst cs) 0 = u13)), sI (Int32.ofNat pa1), sI (Int32.ofNat jb2), sI (bi (jb2 < cs.length ∧ cs.getD jb2 0 = u14)), .unset] [(.int (Int32.ofNat jb2))])) (fun _ k => XS.iload X34.here hx rfl (hb hby at_283) rfl k) ?_
              refine Go.of (T' := T34) (f' := (mkF m 286 #[sI p1, sI p2, sI p3, sI p4, sI p5, sI p6, sI (Int32.ofNat nk), sI u1, sI u2, sI u3, sR b4, sR bt, sI u13, sI u14, sR b15, sI (bi ((fst cs) < cs.length ∧ cs.getD (fst cs) 0 = u13)), sI (Int32.ofNat pa1), sI (bi (jb2 < cs.length ∧ cs.getD jb2 0 = u14)), sI (Int32.ofNat pa2), sI (Int32.ofNat (fst cs)), sI (bi ((fst cs) < cs.length ∧ cs.getD (fst cs) 0 = u13)), sI (Int32.ofNat pa1), sI (Int32.ofNat jb2), sI (bi (jb2 < cs.length ∧ cs.getD jb2 0 = u14)), .unset] [(.int (1 : Int32)), (.int (Int32.ofNat jb2))])) (fun _ k => XS.iconst X34.here hx rfl (hb hby at_285) k) ?_
              refine Go.of (T' := T34) (f' := (mkF m 287 #[sI p1, sI p2, sI p3, sI p4, sI p5, sI p6, sI (Int32.ofNat nk), sI u1, sI u2, sI u3, sR b4, sR bt, sI u13, sI u14, sR b15, sI (bi ((fst cs) < cs.length ∧ cs.getD (fst cs) 0 = u13)), sI (Int32.ofNat pa1), sI (bi (jb2 < cs.length ∧ cs.getD jb2 0 = u14)), sI (Int32.ofNat pa2), sI (Int32.ofNat (fst cs)), sI (bi ((fst cs) < cs.length ∧ cs.getD (fst cs) 0 = u13)), sI (Int32.ofNat pa1), sI (Int32.ofNat jb2), sI (bi (jb2 < cs.length ∧ cs.getD jb2 0 = u14)), .unset] [(.int ((Int32.ofNat jb2) + (1 : Int32)))])) (fun _ k => XS.iadd X34.here hx rfl (hb hby at_286) rfl k) ?_
              refine Go.of (T' := T34) (f' := (mkF m 292 #[sI p1, sI p2, sI p3, sI p4, sI p5, sI p6, sI (Int32.ofNat nk), sI u1, sI u2, sI u3, sR b4, sR bt, sI u13, sI u14, sR b15, sI (bi ((fst cs) < cs.length ∧ cs.getD (fst cs) 0 = u13)), sI (Int32.ofNat pa1), sI (bi (jb2 < cs.length ∧ cs.getD jb2 0 = u14)), sI (Int32.ofNat pa2), sI (Int32.ofNat (fst cs)), sI (bi ((fst cs) < cs.length ∧ cs.getD (fst cs) 0 = u13)), sI (Int32.ofNat pa1), sI (Int32.ofNat jb2), sI (bi (jb2 < cs.length ∧ cs.getD jb2 0 = u14)), .unset] [(.int ((Int32.ofNat jb2) + (1 : Int32)))])) (fun _ k => XS.goto X34.here hx rfl (pc0 := 287) (pc' := 292) rfl (hb hby at_287) (by decide) (by decide) k) ?_
              exact J36 ((Int32.ofNat jb2) + (1 : Int32)) (show Int32.ofNat jb2 + (1 : Int32) = Int32.ofNat pa2 from by rw [hpa2, nxt_t hc280]; exact (Int32.ofNat_add _ _).symm)
            ·
              refine Go.of (T' := T34) (f' := (mkF m 290 #[sI p1, sI p2, sI p3, sI p4, sI p5, sI p6, sI (Int32.ofNat nk), sI u1, sI u2, sI u3, sR b4, sR bt, sI u13, sI u14, sR b15, sI (bi ((fst cs) < cs.length ∧ cs.getD (fst cs) 0 = u13)), sI (Int32.ofNat pa1), sI (bi (jb2 < cs.length ∧ cs.getD jb2 0 = u14)), sI (Int32.ofNat pa2), sI (Int32.ofNat (fst cs)), sI (bi ((fst cs) < cs.length ∧ cs.getD (fst cs) 0 = u13)), sI (Int32.ofNat pa1), sI (Int32.ofNat jb2), sI (bi (jb2 < cs.length ∧ cs.getD jb2 0 = u14)), .unset] [])) (fun _ k => XS.ifYes X34.here hx rfl (pc0 := 280) (pc' := 290) rfl (hb hby at_280) rfl ((if0 _ _).trans (teq (bi_f hc280)).1) (by decide) (by decide) k) ?_
              refine Go.of (T' := T34) (f' := (mkF m 292 #[sI p1, sI p2, sI p3, sI p4, sI p5, sI p6, sI (Int32.ofNat nk), sI u1, sI u2, sI u3, sR b4, sR bt, sI u13, sI u14, sR b15, sI (bi ((fst cs) < cs.length ∧ cs.getD (fst cs) 0 = u13)), sI (Int32.ofNat pa1), sI (bi (jb2 < cs.length ∧ cs.getD jb2 0 = u14)), sI (Int32.ofNat pa2), sI (Int32.ofNat (fst cs)), sI (bi ((fst cs) < cs.length ∧ cs.getD (fst cs) 0 = u13)), sI (Int32.ofNat pa1), sI (Int32.ofNat jb2), sI (bi (jb2 < cs.length ∧ cs.getD jb2 0 = u14)), .unset] [(.int (Int32.ofNat jb2))])) (fun _ k => XS.iload X34.here hx rfl (hb hby at_290) rfl k) ?_
              exact J36 (Int32.ofNat jb2) (show Int32.ofNat jb2 = Int32.ofNat pa2 from by rw [hpa2, nxt_f hc280])
          by_cases hc258 : (Int32.ofNat jb2) < (Int32.ofNat nk)
          ·
            refine Go.of (T' := T34) (f' := (mkF m 261 #[sI p1, sI p2, sI p3, sI p4, sI p5, sI p6, sI (Int32.ofNat nk), sI u1, sI u2, sI u3, sR b4, sR bt, sI u13, sI u14, sR b15, sI (bi ((fst cs) < cs.length ∧ cs.getD (fst cs) 0 = u13)), sI (Int32.ofNat pa1), sI (bi (jb2 < cs.length ∧ cs.getD jb2 0 = u14)), sI (Int32.ofNat pa2), sI (Int32.ofNat (fst cs)), sI (bi ((fst cs) < cs.length ∧ cs.getD (fst cs) 0 = u13)), sI (Int32.ofNat pa1), sI (Int32.ofNat jb2), .unset, .unset] [])) (fun _ k => XS.icmpNo X34.here hx rfl (hb hby at_258) rfl (tlt hc258).2.1 k) ?_
            refine Go.of (T' := T34) (f' := (mkF m 263 #[sI p1, sI p2, sI p3, sI p4, sI p5, sI p6, sI (Int32.ofNat nk), sI u1, sI u2, sI u3, sR b4, sR bt, sI u13, sI u14, sR b15, sI (bi ((fst cs) < cs.length ∧ cs.getD (fst cs) 0 = u13)), sI (Int32.ofNat pa1), sI (bi (jb2 < cs.length ∧ cs.getD jb2 0 = u14)), sI (Int32.ofNat pa2), sI (Int32.ofNat (fst cs)), sI (bi ((fst cs) < cs.length ∧ cs.getD (fst cs) 0 = u13)), sI (Int32.ofNat pa1), sI (Int32.ofNat jb2), .unset, .unset] [(.ref b4)])) (fun _ k => XS.aload X34.here hx rfl (hb hby at_261) rfl rfl k) ?_
            refine Go.of (T' := T34) (f' := (mkF m 265 #[sI p1, sI p2, sI p3, sI p4, sI p5, sI p6, sI (Int32.ofNat nk), sI u1, sI u2, sI u3, sR b4, sR bt, sI u13, sI u14, sR b15, sI (bi ((fst cs) < cs.length ∧ cs.getD (fst cs) 0 = u13)), sI (Int32.ofNat pa1), sI (bi (jb2 < cs.length ∧ cs.getD jb2 0 = u14)), sI (Int32.ofNat pa2), sI (Int32.ofNat (fst cs)), sI (bi ((fst cs) < cs.length ∧ cs.getD (fst cs) 0 = u13)), sI (Int32.ofNat pa1), sI (Int32.ofNat jb2), .unset, .unset] [(.int (Int32.ofNat jb2)), (.ref b4)])) (fun _ k => XS.iload X34.here hx rfl (hb hby at_263) rfl k) ?_
            obtain ⟨cl37, Ar37, cq37, Sz37, Nn37, Hs37, Gs37⟩ := id V_b4
            have hin37 : ¬ ((Int32.ofNat jb2) < 0 ∨ cl37.slots.size ≤ ((Int32.ofNat jb2)).toNatClampNeg) := by rw [inbS Sz37 (m := 3) rfl]; exact ⟨nneg (by omega), by rw [nat32 (by omega)]; have := (ltN (by omega) (by omega)).mp hc258; omega⟩
            have hat37 : cl37.slots[((Int32.ofNat jb2)).toNatClampNeg]? = some (.int (([u1, u2, u3] : List Int32).getD jb2 0)) := Has.at Hs37 hin37 (by rw [nat32 (by omega)]; exact mapGet (by have := (ltN (by omega) (by omega)).mp hc258; show _ < 3; omega))
            refine Go.of (T' := T34) (f' := (mkF m 266 #[sI p1, sI p2, sI p3, sI p4, sI p5, sI p6, sI (Int32.ofNat nk), sI u1, sI u2, sI u3, sR b4, sR bt, sI u13, sI u14, sR b15, sI (bi ((fst cs) < cs.length ∧ cs.getD (fst cs) 0 = u13)), sI (Int32.ofNat pa1), sI (bi (jb2 < cs.length ∧ cs.getD jb2 0 = u14)), sI (Int32.ofNat pa2), sI (Int32.ofNat (fst cs)), sI (bi ((fst cs) < cs.length ∧ cs.getD (fst cs) 0 = u13)), sI (Int32.ofNat pa1), sI (Int32.ofNat jb2), .unset, .unset] [(.int (([u1, u2, u3] : List Int32).getD jb2 0))])) (fun _ k => X34.caload hx (j := (Int32.ofNat jb2)) (v := (.int (([u1, u2, u3] : List Int32).getD jb2 0))) (by rw [e34]; exact Ar37.1) (State.isArrayOf_alike hZ.alike Ar37.2.1) Ar37.2.2 hin37 hat37 (g := (mkF m 265 #[sI p1, sI p2, sI p3, sI p4, sI p5, sI p6, sI (Int32.ofNat nk), sI u1, sI u2, sI u3, sR b4, sR bt, sI u13, sI u14, sR b15, sI (bi ((fst cs) < cs.length ∧ cs.getD (fst cs) 0 = u13)), sI (Int32.ofNat pa1), sI (bi (jb2 < cs.length ∧ cs.getD jb2 0 = u14)), sI (Int32.ofNat pa2), sI (Int32.ofNat (fst cs)), sI (bi ((fst cs) < cs.length ∧ cs.getD (fst cs) 0 = u13)), sI (Int32.ofNat pa1), sI (Int32.ofNat jb2), .unset, .unset] [(.int (Int32.ofNat jb2)), (.ref b4)])) rfl rfl (hb hby at_265) _ k) ?_
            refine Go.of (T' := T34) (f' := (mkF m 268 #[sI p1, sI p2, sI p3, sI p4, sI p5, sI p6, sI (Int32.ofNat nk), sI u1, sI u2, sI u3, sR b4, sR bt, sI u13, sI u14, sR b15, sI (bi ((fst cs) < cs.length ∧ cs.getD (fst cs) 0 = u13)), sI (Int32.ofNat pa1), sI (bi (jb2 < cs.length ∧ cs.getD jb2 0 = u14)), sI (Int32.ofNat pa2), sI (Int32.ofNat (fst cs)), sI (bi ((fst cs) < cs.length ∧ cs.getD (fst cs) 0 = u13)), sI (Int32.ofNat pa1), sI (Int32.ofNat jb2), .unset, .unset] [(.int u14), (.int (([u1, u2, u3] : List Int32).getD jb2 0))])) (fun _ k => XS.iload X34.here hx rfl (hb hby at_266) rfl k) ?_
            by_cases hc268 : (([u1, u2, u3] : List Int32).getD jb2 0) = u14
            ·
              refine Go.of (T' := T34) (f' := (mkF m 271 #[sI p1, sI p2, sI p3, sI p4, sI p5, sI p6, sI (Int32.ofNat nk), sI u1, sI u2, sI u3, sR b4, sR bt, sI u13, sI u14, sR b15, sI (bi ((fst cs) < cs.length ∧ cs.getD (fst cs) 0 = u13)), sI (Int32.ofNat pa1), sI (bi (jb2 < cs.length ∧ cs.getD jb2 0 = u14)), sI (Int32.ofNat pa2), sI (Int32.ofNat (fst cs)), sI (bi ((fst cs) < cs.length ∧ cs.getD (fst cs) 0 = u13)), sI (Int32.ofNat pa1), sI (Int32.ofNat jb2), .unset, .unset] [])) (fun _ k => XS.icmpNo X34.here hx rfl (hb hby at_268) rfl (teq hc268).2 k) ?_
              refine Go.of (T' := T34) (f' := (mkF m 272 #[sI p1, sI p2, sI p3, sI p4, sI p5, sI p6, sI (Int32.ofNat nk), sI u1, sI u2, sI u3, sR b4, sR bt, sI u13, sI u14, sR b15, sI (bi ((fst cs) < cs.length ∧ cs.getD (fst cs) 0 = u13)), sI (Int32.ofNat pa1), sI (bi (jb2 < cs.length ∧ cs.getD jb2 0 = u14)), sI (Int32.ofNat pa2), sI (Int32.ofNat (fst cs)), sI (bi ((fst cs) < cs.length ∧ cs.getD (fst cs) 0 = u13)), sI (Int32.ofNat pa1), sI (Int32.ofNat jb2), .unset, .unset] [(.int (1 : Int32))])) (fun _ k => XS.iconst X34.here hx rfl (hb hby at_271) k) ?_
              refine Go.of (T' := T34) (f' := (mkF m 276 #[sI p1, sI p2, sI p3, sI p4, sI p5, sI p6, sI (Int32.ofNat nk), sI u1, sI u2, sI u3, sR b4, sR bt, sI u13, sI u14, sR b15, sI (bi ((fst cs) < cs.length ∧ cs.getD (fst cs) 0 = u13)), sI (Int32.ofNat pa1), sI (bi (jb2 < cs.length ∧ cs.getD jb2 0 = u14)), sI (Int32.ofNat pa2), sI (Int32.ofNat (fst cs)), sI (bi ((fst cs) < cs.length ∧ cs.getD (fst cs) 0 = u13)), sI (Int32.ofNat pa1), sI (Int32.ofNat jb2), .unset, .unset] [(.int (1 : Int32))])) (fun _ k => XS.goto X34.here hx rfl (pc0 := 272) (pc' := 276) rfl (hb hby at_272) (by decide) (by decide) k) ?_
              exact J35 (1 : Int32) ((bi_t (φ := jb2 < cs.length ∧ cs.getD jb2 0 = u14) ⟨by have := ((ltN (by omega) (by omega)).mp hc258); omega, (eg276 ((ltN (by omega) (by omega)).mp hc258)).trans hc268⟩).symm)
            ·
              refine Go.of (T' := T34) (f' := (mkF m 275 #[sI p1, sI p2, sI p3, sI p4, sI p5, sI p6, sI (Int32.ofNat nk), sI u1, sI u2, sI u3, sR b4, sR bt, sI u13, sI u14, sR b15, sI (bi ((fst cs) < cs.length ∧ cs.getD (fst cs) 0 = u13)), sI (Int32.ofNat pa1), sI (bi (jb2 < cs.length ∧ cs.getD jb2 0 = u14)), sI (Int32.ofNat pa2), sI (Int32.ofNat (fst cs)), sI (bi ((fst cs) < cs.length ∧ cs.getD (fst cs) 0 = u13)), sI (Int32.ofNat pa1), sI (Int32.ofNat jb2), .unset, .unset] [])) (fun _ k => XS.icmpYes X34.here hx rfl (pc0 := 268) (pc' := 275) rfl (hb hby at_268) rfl (feq hc268).2 (by decide) (by decide) k) ?_
              refine Go.of (T' := T34) (f' := (mkF m 276 #[sI p1, sI p2, sI p3, sI p4, sI p5, sI p6, sI (Int32.ofNat nk), sI u1, sI u2, sI u3, sR b4, sR bt, sI u13, sI u14, sR b15, sI (bi ((fst cs) < cs.length ∧ cs.getD (fst cs) 0 = u13)), sI (Int32.ofNat pa1), sI (bi (jb2 < cs.length ∧ cs.getD jb2 0 = u14)), sI (Int32.ofNat pa2), sI (Int32.ofNat (fst cs)), sI (bi ((fst cs) < cs.length ∧ cs.getD (fst cs) 0 = u13)), sI (Int32.ofNat pa1), sI (Int32.ofNat jb2), .unset, .unset] [(.int (0 : Int32))])) (fun _ k => XS.iconst X34.here hx rfl (hb hby at_275) k) ?_
              exact J35 (0 : Int32) ((bi_f (φ := jb2 < cs.length ∧ cs.getD jb2 0 = u14) (fun r => hc268 ((eg276 ((ltN (by omega) (by omega)).mp hc258)).symm.trans r.2))).symm)
          ·
            refine Go.of (T' := T34) (f' := (mkF m 275 #[sI p1, sI p2, sI p3, sI p4, sI p5, sI p6, sI (Int32.ofNat nk), sI u1, sI u2, sI u3, sR b4, sR bt, sI u13, sI u14, sR b15, sI (bi ((fst cs) < cs.length ∧ cs.getD (fst cs) 0 = u13)), sI (Int32.ofNat pa1), sI (bi (jb2 < cs.length ∧ cs.getD jb2 0 = u14)), sI (Int32.ofNat pa2), sI (Int32.ofNat (fst cs)), sI (bi ((fst cs) < cs.length ∧ cs.getD (fst cs) 0 = u13)), sI (Int32.ofNat pa1), sI (Int32.ofNat jb2), .unset, .unset] [])) (fun _ k => XS.icmpYes X34.here hx rfl (pc0 := 258) (pc' := 275) rfl (hb hby at_258) rfl (flt hc258).2.1 (by decide) (by decide) k) ?_
            refine Go.of (T' := T34) (f' := (mkF m 276 #[sI p1, sI p2, sI p3, sI p4, sI p5, sI p6, sI (Int32.ofNat nk), sI u1, sI u2, sI u3, sR b4, sR bt, sI u13, sI u14, sR b15, sI (bi ((fst cs) < cs.length ∧ cs.getD (fst cs) 0 = u13)), sI (Int32.ofNat pa1), sI (bi (jb2 < cs.length ∧ cs.getD jb2 0 = u14)), sI (Int32.ofNat pa2), sI (Int32.ofNat (fst cs)), sI (bi ((fst cs) < cs.length ∧ cs.getD (fst cs) 0 = u13)), sI (Int32.ofNat pa1), sI (Int32.ofNat jb2), .unset, .unset] [(.int (0 : Int32))])) (fun _ k => XS.iconst X34.here hx rfl (hb hby at_275) k) ?_
            exact J35 (0 : Int32) ((bi_f (φ := jb2 < cs.length ∧ cs.getD jb2 0 = u14) (fun r => hc258 ((ltN (by omega) (by omega)).mpr (by omega)))).symm)
        by_cases hc229 : (fst cs) < cs.length ∧ cs.getD (fst cs) 0 = u13
        ·
          refine Go.of (T' := T31) (f' := (mkF m 232 #[sI p1, sI p2, sI p3, sI p4, sI p5, sI p6, sI (Int32.ofNat nk), sI u1, sI u2, sI u3, sR b4, sR bt, sI u13, sI u14, sR b15, sI (bi ((fst cs) < cs.length ∧ cs.getD (fst cs) 0 = u13)), sI (Int32.ofNat pa1), sI (bi (jb2 < cs.length ∧ cs.getD jb2 0 = u14)), sI (Int32.ofNat pa2), sI (Int32.ofNat (fst cs)), sI (bi ((fst cs) < cs.length ∧ cs.getD (fst cs) 0 = u13)), .unset, .unset, .unset, .unset] [])) (fun _ k => XS.ifNo X31.here hx rfl (hb hby at_229) rfl ((if0 _ _).trans (feq (bi_ne hc229)).1) k) ?_
          refine Go.of (T' := T31) (f' := (mkF m 234 #[sI p1, sI p2, sI p3, sI p4, sI p5, sI p6, sI (Int32.ofNat nk), sI u1, sI u2, sI u3, sR b4, sR bt, sI u13, sI u14, sR b15, sI (bi ((fst cs) < cs.length ∧ cs.getD (fst cs) 0 = u13)), sI (Int32.ofNat pa1), sI (bi (jb2 < cs.length ∧ cs.getD jb2 0 = u14)), sI (Int32.ofNat pa2), sI (Int32.ofNat (fst cs)), sI (bi ((fst cs) < cs.length ∧ cs.getD (fst cs) 0 = u13)), .unset, .unset, .unset, .unset] [(.int (Int32.ofNat (fst cs)))])) (fun _ k => XS.iload X31.here hx rfl (hb hby at_232) rfl k) ?_
          refine Go.of (T' := T31) (f' := (mkF m 235 #[sI p1, sI p2, sI p3, sI p4, sI p5, sI p6, sI (Int32.ofNat nk), sI u1, sI u2, sI u3, sR b4, sR bt, sI u13, sI u14, sR b15, sI (bi ((fst cs) < cs.length ∧ cs.getD (fst cs) 0 = u13)), sI (Int32.ofNat pa1), sI (bi (jb2 < cs.length ∧ cs.getD jb2 0 = u14)), sI (Int32.ofNat pa2), sI (Int32.ofNat (fst cs)), sI (bi ((fst cs) < cs.length ∧ cs.getD (fst cs) 0 = u13)), .unset, .unset, .unset, .unset] [(.int (1 : Int32)), (.int (Int32.ofNat (fst cs)))])) (fun _ k => XS.iconst X31.here hx rfl (hb hby at_234) k) ?_
          refine Go.of (T' := T31) (f' := (mkF m 236 #[sI p1, sI p2, sI p3, sI p4, sI p5, sI p6, sI (Int32.ofNat nk), sI u1, sI u2, sI u3, sR b4, sR bt, sI u13, sI u14, sR b15, sI (bi ((fst cs) < cs.length ∧ cs.getD (fst cs) 0 = u13)), sI (Int32.ofNat pa1), sI (bi (jb2 < cs.length ∧ cs.getD jb2 0 = u14)), sI (Int32.ofNat pa2), sI (Int32.ofNat (fst cs)), sI (bi ((fst cs) < cs.length ∧ cs.getD (fst cs) 0 = u13)), .unset, .unset, .unset, .unset] [(.int ((Int32.ofNat (fst cs)) + (1 : Int32)))])) (fun _ k => XS.iadd X31.here hx rfl (hb hby at_235) rfl k) ?_
          refine Go.of (T' := T31) (f' := (mkF m 241 #[sI p1, sI p2, sI p3, sI p4, sI p5, sI p6, sI (Int32.ofNat nk), sI u1, sI u2, sI u3, sR b4, sR bt, sI u13, sI u14, sR b15, sI (bi ((fst cs) < cs.length ∧ cs.getD (fst cs) 0 = u13)), sI (Int32.ofNat pa1), sI (bi (jb2 < cs.length ∧ cs.getD jb2 0 = u14)), sI (Int32.ofNat pa2), sI (Int32.ofNat (fst cs)), sI (bi ((fst cs) < cs.length ∧ cs.getD (fst cs) 0 = u13)), .unset, .unset, .unset, .unset] [(.int ((Int32.ofNat (fst cs)) + (1 : Int32)))])) (fun _ k => XS.goto X31.here hx rfl (pc0 := 236) (pc' := 241) rfl (hb hby at_236) (by decide) (by decide) k) ?_
          exact J33 ((Int32.ofNat (fst cs)) + (1 : Int32)) (show Int32.ofNat (fst cs) + (1 : Int32) = Int32.ofNat pa1 from by rw [hpa1, nxt_t hc229]; exact (Int32.ofNat_add _ _).symm)
        ·
          refine Go.of (T' := T31) (f' := (mkF m 239 #[sI p1, sI p2, sI p3, sI p4, sI p5, sI p6, sI (Int32.ofNat nk), sI u1, sI u2, sI u3, sR b4, sR bt, sI u13, sI u14, sR b15, sI (bi ((fst cs) < cs.length ∧ cs.getD (fst cs) 0 = u13)), sI (Int32.ofNat pa1), sI (bi (jb2 < cs.length ∧ cs.getD jb2 0 = u14)), sI (Int32.ofNat pa2), sI (Int32.ofNat (fst cs)), sI (bi ((fst cs) < cs.length ∧ cs.getD (fst cs) 0 = u13)), .unset, .unset, .unset, .unset] [])) (fun _ k => XS.ifYes X31.here hx rfl (pc0 := 229) (pc' := 239) rfl (hb hby at_229) rfl ((if0 _ _).trans (teq (bi_f hc229)).1) (by decide) (by decide) k) ?_
          refine Go.of (T' := T31) (f' := (mkF m 241 #[sI p1, sI p2, sI p3, sI p4, sI p5, sI p6, sI (Int32.ofNat nk), sI u1, sI u2, sI u3, sR b4, sR bt, sI u13, sI u14, sR b15, sI (bi ((fst cs) < cs.length ∧ cs.getD (fst cs) 0 = u13)), sI (Int32.ofNat pa1), sI (bi (jb2 < cs.length ∧ cs.getD jb2 0 = u14)), sI (Int32.ofNat pa2), sI (Int32.ofNat (fst cs)), sI (bi ((fst cs) < cs.length ∧ cs.getD (fst cs) 0 = u13)), .unset, .unset, .unset, .unset] [(.int (Int32.ofNat (fst cs)))])) (fun _ k => XS.iload X31.here hx rfl (hb hby at_239) rfl k) ?_
          exact J33 (Int32.ofNat (fst cs)) (show Int32.ofNat (fst cs) = Int32.ofNat pa1 from by rw [hpa1, nxt_f hc229])
      by_cases hc207 : (Int32.ofNat (fst cs)) < (Int32.ofNat nk)
      ·
        refine Go.of (T' := T31) (f' := (mkF m 210 #[sI p1, sI p2, sI p3, sI p4, sI p5, sI p6, sI (Int32.ofNat nk), sI u1, sI u2, sI u3, sR b4, sR bt, sI u13, sI u14, sR b15, sI (bi ((fst cs) < cs.length ∧ cs.getD (fst cs) 0 = u13)), sI (Int32.ofNat pa1), sI (bi (jb2 < cs.length ∧ cs.getD jb2 0 = u14)), sI (Int32.ofNat pa2), sI (Int32.ofNat (fst cs)), .unset, .unset, .unset, .unset, .unset] [])) (fun _ k => XS.icmpNo X31.here hx rfl (hb hby at_207) rfl (tlt hc207).2.1 k) ?_
        refine Go.of (T' := T31) (f' := (mkF m 212 #[sI p1, sI p2, sI p3, sI p4, sI p5, sI p6, sI (Int32.ofNat nk), sI u1, sI u2, sI u3, sR b4, sR bt, sI u13, sI u14, sR b15, sI (bi ((fst cs) < cs.length ∧ cs.getD (fst cs) 0 = u13)), sI (Int32.ofNat pa1), sI (bi (jb2 < cs.length ∧ cs.getD jb2 0 = u14)), sI (Int32.ofNat pa2), sI (Int32.ofNat (fst cs)), .unset, .unset, .unset, .unset, .unset] [(.ref b4)])) (fun _ k => XS.aload X31.here hx rfl (hb hby at_210) rfl rfl k) ?_
        refine Go.of (T' := T31) (f' := (mkF m 214 #[sI p1, sI p2, sI p3, sI p4, sI p5, sI p6, sI (Int32.ofNat nk), sI u1, sI u2, sI u3, sR b4, sR bt, sI u13, sI u14, sR b15, sI (bi ((fst cs) < cs.length ∧ cs.getD (fst cs) 0 = u13)), sI (Int32.ofNat pa1), sI (bi (jb2 < cs.length ∧ cs.getD jb2 0 = u14)), sI (Int32.ofNat pa2), sI (Int32.ofNat (fst cs)), .unset, .unset, .unset, .unset, .unset] [(.int (Int32.ofNat (fst cs))), (.ref b4)])) (fun _ k => XS.iload X31.here hx rfl (hb hby at_212) rfl k) ?_
        obtain ⟨cl38, Ar38, cq38, Sz38, Nn38, Hs38, Gs38⟩ := id V_b4
        have hin38 : ¬ ((Int32.ofNat (fst cs)) < 0 ∨ cl38.slots.size ≤ ((Int32.ofNat (fst cs))).toNatClampNeg) := by rw [inbS Sz38 (m := 3) rfl]; exact ⟨nneg (by omega), by rw [nat32 (by omega)]; have := (ltN (by omega) (by omega)).mp hc207; omega⟩
        have hat38 : cl38.slots[((Int32.ofNat (fst cs))).toNatClampNeg]? = some (.int (([u1, u2, u3] : List Int32).getD (fst cs) 0)) := Has.at Hs38 hin38 (by rw [nat32 (by omega)]; exact mapGet (by have := (ltN (by omega) (by omega)).mp hc207; show _ < 3; omega))
        refine Go.of (T' := T31) (f' := (mkF m 215 #[sI p1, sI p2, sI p3, sI p4, sI p5, sI p6, sI (Int32.ofNat nk), sI u1, sI u2, sI u3, sR b4, sR bt, sI u13, sI u14, sR b15, sI (bi ((fst cs) < cs.length ∧ cs.getD (fst cs) 0 = u13)), sI (Int32.ofNat pa1), sI (bi (jb2 < cs.length ∧ cs.getD jb2 0 = u14)), sI (Int32.ofNat pa2), sI (Int32.ofNat (fst cs)), .unset, .unset, .unset, .unset, .unset] [(.int (([u1, u2, u3] : List Int32).getD (fst cs) 0))])) (fun _ k => X31.caload hx (j := (Int32.ofNat (fst cs))) (v := (.int (([u1, u2, u3] : List Int32).getD (fst cs) 0))) (by rw [e31]; exact Ar38.1) (State.isArrayOf_alike hZ.alike Ar38.2.1) Ar38.2.2 hin38 hat38 (g := (mkF m 214 #[sI p1, sI p2, sI p3, sI p4, sI p5, sI p6, sI (Int32.ofNat nk), sI u1, sI u2, sI u3, sR b4, sR bt, sI u13, sI u14, sR b15, sI (bi ((fst cs) < cs.length ∧ cs.getD (fst cs) 0 = u13)), sI (Int32.ofNat pa1), sI (bi (jb2 < cs.length ∧ cs.getD jb2 0 = u14)), sI (Int32.ofNat pa2), sI (Int32.ofNat (fst cs)), .unset, .unset, .unset, .unset, .unset] [(.int (Int32.ofNat (fst cs))), (.ref b4)])) rfl rfl (hb hby at_214) _ k) ?_
        refine Go.of (T' := T31) (f' := (mkF m 217 #[sI p1, sI p2, sI p3, sI p4, sI p5, sI p6, sI (Int32.ofNat nk), sI u1, sI u2, sI u3, sR b4, sR bt, sI u13, sI u14, sR b15, sI (bi ((fst cs) < cs.length ∧ cs.getD (fst cs) 0 = u13)), sI (Int32.ofNat pa1), sI (bi (jb2 < cs.length ∧ cs.getD jb2 0 = u14)), sI (Int32.ofNat pa2), sI (Int32.ofNat (fst cs)), .unset, .unset, .unset, .unset, .unset] [(.int u13), (.int (([u1, u2, u3] : List Int32).getD (fst cs) 0))])) (fun _ k => XS.iload X31.here hx rfl (hb hby at_215) rfl k) ?_
        by_cases hc217 : (([u1, u2, u3] : List Int32).getD (fst cs) 0) = u13
        ·
          refine Go.of (T' := T31) (f' := (mkF m 220 #[sI p1, sI p2, sI p3, sI p4, sI p5, sI p6, sI (Int32.ofNat nk), sI u1, sI u2, sI u3, sR b4, sR bt, sI u13, sI u14, sR b15, sI (bi ((fst cs) < cs.length ∧ cs.getD (fst cs) 0 = u13)), sI (Int32.ofNat pa1), sI (bi (jb2 < cs.length ∧ cs.getD jb2 0 = u14)), sI (Int32.ofNat pa2), sI (Int32.ofNat (fst cs)), .unset, .unset, .unset, .unset, .unset] [])) (fun _ k => XS.icmpNo X31.here hx rfl (hb hby at_217) rfl (teq hc217).2 k) ?_
          refine Go.of (T' := T31) (f' := (mkF m 221 #[sI p1, sI p2, sI p3, sI p4, sI p5, sI p6, sI (Int32.ofNat nk), sI u1, sI u2, sI u3, sR b4, sR bt, sI u13, sI u14, sR b15, sI (bi ((fst cs) < cs.length ∧ cs.getD (fst cs) 0 = u13)), sI (Int32.ofNat pa1), sI (bi (jb2 < cs.length ∧ cs.getD jb2 0 = u14)), sI (Int32.ofNat pa2), sI (Int32.ofNat (fst cs)), .unset, .unset, .unset, .unset, .unset] [(.int (1 : Int32))])) (fun _ k => XS.iconst X31.here hx rfl (hb hby at_220) k) ?_
          refine Go.of (T' := T31) (f' := (mkF m 225 #[sI p1, sI p2, sI p3, sI p4, sI p5, sI p6, sI (Int32.ofNat nk), sI u1, sI u2, sI u3, sR b4, sR bt, sI u13, sI u14, sR b15, sI (bi ((fst cs) < cs.length ∧ cs.getD (fst cs) 0 = u13)), sI (Int32.ofNat pa1), sI (bi (jb2 < cs.length ∧ cs.getD jb2 0 = u14)), sI (Int32.ofNat pa2), sI (Int32.ofNat (fst cs)), .unset, .unset, .unset, .unset, .unset] [(.int (1 : Int32))])) (fun _ k => XS.goto X31.here hx rfl (pc0 := 221) (pc' := 225) rfl (hb hby at_221) (by decide) (by decide) k) ?_
          exact J32 (1 : Int32) ((bi_t (φ := (fst cs) < cs.length ∧ cs.getD (fst cs) 0 = u13) ⟨by have := ((ltN (by omega) (by omega)).mp hc207); omega, (eg225 ((ltN (by omega) (by omega)).mp hc207)).trans hc217⟩).symm)
        ·
          refine Go.of (T' := T31) (f' := (mkF m 224 #[sI p1, sI p2, sI p3, sI p4, sI p5, sI p6, sI (Int32.ofNat nk), sI u1, sI u2, sI u3, sR b4, sR bt, sI u13, sI u14, sR b15, sI (bi ((fst cs) < cs.length ∧ cs.getD (fst cs) 0 = u13)), sI (Int32.ofNat pa1), sI (bi (jb2 < cs.length ∧ cs.getD jb2 0 = u14)), sI (Int32.ofNat pa2), sI (Int32.ofNat (fst cs)), .unset, .unset, .unset, .unset, .unset] [])) (fun _ k => XS.icmpYes X31.here hx rfl (pc0 := 217) (pc' := 224) rfl (hb hby at_217) rfl (feq hc217).2 (by decide) (by decide) k) ?_
          refine Go.of (T' := T31) (f' := (mkF m 225 #[sI p1, sI p2, sI p3, sI p4, sI p5, sI p6, sI (Int32.ofNat nk), sI u1, sI u2, sI u3, sR b4, sR bt, sI u13, sI u14, sR b15, sI (bi ((fst cs) < cs.length ∧ cs.getD (fst cs) 0 = u13)), sI (Int32.ofNat pa1), sI (bi (jb2 < cs.length ∧ cs.getD jb2 0 = u14)), sI (Int32.ofNat pa2), sI (Int32.ofNat (fst cs)), .unset, .unset, .unset, .unset, .unset] [(.int (0 : Int32))])) (fun _ k => XS.iconst X31.here hx rfl (hb hby at_224) k) ?_
          exact J32 (0 : Int32) ((bi_f (φ := (fst cs) < cs.length ∧ cs.getD (fst cs) 0 = u13) (fun r => hc217 ((eg225 ((ltN (by omega) (by omega)).mp hc207)).symm.trans r.2))).symm)
      ·
        refine Go.of (T' := T31) (f' := (mkF m 224 #[sI p1, sI p2, sI p3, sI p4, sI p5, sI p6, sI (Int32.ofNat nk), sI u1, sI u2, sI u3, sR b4, sR bt, sI u13, sI u14, sR b15, sI (bi ((fst cs) < cs.length ∧ cs.getD (fst cs) 0 = u13)), sI (Int32.ofNat pa1), sI (bi (jb2 < cs.length ∧ cs.getD jb2 0 = u14)), sI (Int32.ofNat pa2), sI (Int32.ofNat (fst cs)), .unset, .unset, .unset, .unset, .unset] [])) (fun _ k => XS.icmpYes X31.here hx rfl (pc0 := 207) (pc' := 224) rfl (hb hby at_207) rfl (flt hc207).2.1 (by decide) (by decide) k) ?_
        refine Go.of (T' := T31) (f' := (mkF m 225 #[sI p1, sI p2, sI p3, sI p4, sI p5, sI p6, sI (Int32.ofNat nk), sI u1, sI u2, sI u3, sR b4, sR bt, sI u13, sI u14, sR b15, sI (bi ((fst cs) < cs.length ∧ cs.getD (fst cs) 0 = u13)), sI (Int32.ofNat pa1), sI (bi (jb2 < cs.length ∧ cs.getD jb2 0 = u14)), sI (Int32.ofNat pa2), sI (Int32.ofNat (fst cs)), .unset, .unset, .unset, .unset, .unset] [(.int (0 : Int32))])) (fun _ k => XS.iconst X31.here hx rfl (hb hby at_224) k) ?_
        exact J32 (0 : Int32) ((bi_f (φ := (fst cs) < cs.length ∧ cs.getD (fst cs) 0 = u13) (fun r => hc207 ((ltN (by omega) (by omega)).mpr (by omega)))).symm)
    by_cases hk0 : nk = 0
    ·
      have hcs0 : cs = [] := by rw [hcs, hk0]; rfl
      replace V_bt : Arv Z h17 bt kt .char (0 : Int32) [] (.int (0 : Int32)) := by rw [hcs0] at V_bt; exact V_bt
      refine goIH X17 hx hZ rfl hown (hw _ (List.mem_of_getElem? (i := 11) rfl)) (hw _ (List.mem_of_getElem? (i := 12) rfl)) (hw _ (List.mem_of_getElem? (i := 10) rfl)) (hw _ (List.mem_of_getElem? (i := 13) rfl)) (by decide) (W := 3) (C := 4) (S := 8) (rm_init0 l Z a0 hw b17 bt _ h17 E_b17 F_value_b17 F_coder_b17 V_bt) rfl rfl (by decide) (by decide) hS hk (hEL_1 hw) RH.1 e17 (argsL := [(.ref bt)]) (rest := [(.ref b17), (.ref b15), (.ref b15)]) (by rw [hml]; rfl) (lenOf pd___C_V rfl) rfl rfl (hb hby at_143) (Nat.le_of_eq rfl) (by decide) (by decide) ?_
      intro v39 T39 L39 X39 hQ39 hS39 hZ39 hown39 A39
      obtain ⟨h39, e39⟩ : ∃ z, T39.heap = z := ⟨_, rfl⟩
      rw [e39] at hQ39 hS39 A39
      have E_b17_o := E_b17
      obtain ⟨rfl, Mc39, t39, S39⟩ := hQ39
      have M39 := M17.app Mc39 (allS (Or.inr fr_b17) all0)
      clear hS hk
      replace Sf_b15 := CHr.safe A39 E_b15.lt Sf_b15
      replace Sf_b17 := CHr.safe A39 E_b17.lt Sf_b17
      replace RH := RH.trans A39
      replace Z_ad := StaKeep Z_ad Mc39.1 (allS (staExa E_b17_o) all0)
      replace Z_hs := StaKeep Z_hs Mc39.1 (allS (staExa E_b17_o) all0)
      replace Z_ls := StaKeep Z_ls Mc39.1 (allS (staExa E_b17_o) all0)
      replace Z_fm := StaKeep Z_fm Mc39.1 (allS (staExa E_b17_o) all0)
      replace Z_cs := StaKeep Z_cs Mc39.1 (allS (staExa E_b17_o) all0)
      replace V_b4 := V_b4.keep Mc39.1 (ninS ne_b4_b17 nin0)
      replace V_bt := V_bt.keep Mc39.1 (ninS ne_bt_b17 nin0)
      replace E_b15 := E_b15.keep Mc39.1
      replace F_text_b15 := F_text_b15.keep Mc39.1 (ninS ne_b15_b17 nin0)
      replace F_chars_b15 := F_chars_b15.keep Mc39.1 (ninS ne_b15_b17 nin0)
      replace F_name_b15 := F_name_b15.keep Mc39.1 (ninS ne_b15_b17 nin0)
      replace F_position_b15 := F_position_b15.keep Mc39.1 (ninS ne_b15_b17 nin0)
      replace E_b17 := E_b17.keep Mc39.1
      have S_b17 := S39
      have hS := hS39
      have hk : h39.size ≤ h39.size := Nat.le_refl _
      replace hZ := hZ39
      replace hown := hown39
      show Go p e below P T39 (mkF m 146 #[sI p1, sI p2, sI p3, sI p4, sI p5, sI p6, sI (Int32.ofNat nk), sI u1, sI u2, sI u3, sR b4, sR bt, sI u13, sI u14, .unset, .unset, .unset, .unset, .unset, .unset, .unset, .unset, .unset, .unset, .unset] [(.ref b17), (.ref b15), (.ref b15)])
      rw [← hcs0] at S_b17
      exact J19 T39.vm _ T39 h39 _ t39 (standUp X39 (by decide) (by decide)) e39 M39 RH hS hk hZ hown Z_ad Z_hs Z_ls Z_fm Z_cs V_b4 E_b15 F_text_b15 F_chars_b15 F_name_b15 F_position_b15 S_b17
    ·
      have hpos : 0 < cs.length := by omega
      by_cases hal : ∀ c ∈ cs, ¬ (255 : Int32) < c
      ·
        refine goI X17 hx hZ rfl hown (hw _ (List.mem_of_getElem? (i := 11) rfl)) (hw _ (List.mem_of_getElem? (i := 12) rfl)) (hw _ (List.mem_of_getElem? (i := 13) rfl)) (by decide) (C := 1) (S := cs.length) (newStr (W := 3) hZ (hw_words hw) (hw _ (List.mem_of_getElem? (i := 9) rfl)) (cs := cs) E_b17 F_value_b17 F_coder_b17 V_bt rfl Z_cs hz (n := cs.length) rfl rfl hpos (by omega) (fun c hc => ⟨(hbr c hc).1, hal c hc⟩) (by decide) (by decide)) e17 (argsL := [(.ref bt)]) (rest := [(.ref b17), (.ref b15), (.ref b15)]) (by rw [hml]; rfl) (lenOf pd___C_V rfl) rfl rfl (hb hby at_143) (Nat.le_of_eq rfl) (by decide) (Nat.le_trans (Nat.add_le_add_left hle8 _) (by decide : 14 + 8 ≤ _)) ?_
        intro v40 T40 L40 X40 hQ40
        replace X40 := standUp (C := 5) (S := 22) X40 (Nat.le_refl _) (Nat.add_le_add_left hle8 _)
        obtain ⟨h40, e40⟩ : ∃ z, T40.heap = z := ⟨_, rfl⟩
        rw [e40] at hQ40
        have E_b17_o := E_b17
        obtain ⟨rfl, Mc40, t40, le40, S40⟩ := hQ40
        have ne_b4_t40 : b4 ≠ t40 := Nat.ne_of_lt (Nat.lt_of_lt_of_le V_b4.lt le40)
        have ne_bt_t40 : bt ≠ t40 := Nat.ne_of_lt (Nat.lt_of_lt_of_le V_bt.lt le40)
        have ne_b15_t40 : b15 ≠ t40 := Nat.ne_of_lt (Nat.lt_of_lt_of_le E_b15.lt le40)
        have ne_b17_t40 : b17 ≠ t40 := Nat.ne_of_lt (Nat.lt_of_lt_of_le E_b17.lt le40)
        have fr_t40 : h0.size ≤ t40 := Nat.le_trans M17.le le40
        have Sf_t40 := Safe.new (Z := Z) (EL := consts_1) (vm := s.vm) le40
        have M40 := M17.app Mc40 (allS (Or.inr fr_b17) all0)
        replace hk := Nat.le_trans hk (Mc40.1).1
        have hq41 : ∀ x ∈ ([b17] : List Addr), Safe Z consts_1 s.vm h17 x := (sfS Sf_b17 sf0)
        have hs41 := CHr.keep (Mc40.1) hq41 RH.1
        replace Sf_b15 := Safe.keep (Mc40.1) hq41 RH.1 Sf_b15
        replace Sf_b17 := Safe.keep (Mc40.1) hq41 RH.1 Sf_b17
        replace Sf_t40 := Safe.keep (Mc40.1) hq41 RH.1 Sf_t40
        replace RH := RH.trans hs41
        replace Z_ad := StaKeep Z_ad Mc40.1 (allS (staExa E_b17_o) all0)
        replace Z_hs := StaKeep Z_hs Mc40.1 (allS (staExa E_b17_o) all0)
        replace Z_ls := StaKeep Z_ls Mc40.1 (allS (staExa E_b17_o) all0)
        replace Z_fm := StaKeep Z_fm Mc40.1 (allS (staExa E_b17_o) all0)
        replace Z_cs := StaKeep Z_cs Mc40.1 (allS (staExa E_b17_o) all0)
        replace V_b4 := V_b4.keep Mc40.1 (ninS ne_b4_b17 nin0)
        replace V_bt := V_bt.keep Mc40.1 (ninS ne_bt_b17 nin0)
        replace E_b15 := E_b15.keep Mc40.1
        replace F_text_b15 := F_text_b15.keep Mc40.1 (ninS ne_b15_b17 nin0)
        replace F_chars_b15 := F_chars_b15.keep Mc40.1 (ninS ne_b15_b17 nin0)
        replace F_name_b15 := F_name_b15.keep Mc40.1 (ninS ne_b15_b17 nin0)
        replace F_position_b15 := F_position_b15.keep Mc40.1 (ninS ne_b15_b17 nin0)
        replace E_b17 := E_b17.keep Mc40.1
        have S_b17 := S40
        show Go p e below P T40 (mkF m 146 #[sI p1, sI p2, sI p3, sI p4, sI p5, sI p6, sI (Int32.ofNat nk), sI u1, sI u2, sI u3, sR b4, sR bt, sI u13, sI u14, .unset, .unset, .unset, .unset, .unset, .unset, .unset, .unset, .unset, .unset, .unset] [(.ref b17), (.ref b15), (.ref b15)])
        exact J19 s.vm _ T40 h40 _ t40 (standUp X40 (by decide) (by decide)) e40 M40 RH hS hk hZ hown Z_ad Z_hs Z_ls Z_fm Z_cs V_b4 E_b15 F_text_b15 F_chars_b15 F_name_b15 F_position_b15 S_b17
      ·
        have hwd : ∃ c ∈ cs, (255 : Int32) < c := Classical.byContradiction fun q => hal fun c hc r => q ⟨c, hc, r⟩
        refine goI X17 hx hZ rfl hown (hw _ (List.mem_of_getElem? (i := 11) rfl)) (hw _ (List.mem_of_getElem? (i := 12) rfl)) (hw _ (List.mem_of_getElem? (i := 13) rfl)) (by decide) (C := 2) (S := 24) ((rm_in l Z a0 hw b17 bt kt cs zc h17 E_b17 F_value_b17 F_coder_b17 V_bt hle8 hpos ne_bt_b17 hwd hbr Z_ad Z_hs Z_ls Z_cs hz).bk (W := 3) hZ (hw _ (List.mem_of_getElem? (i := 13) rfl)) (hw _ (List.mem_of_getElem? (i := 10) rfl)) (by decide) (by decide)) e17 (argsL := [(.ref bt)]) (rest := [(.ref b17), (.ref b15), (.ref b15)]) (by rw [hml]; rfl) (lenOf pd___C_V rfl) rfl rfl (hb hby at_143) (Nat.le_of_eq rfl) (by decide) (by decide) ?_
        intro v42 T42 L42 X42 hQ42
        obtain ⟨h42, e42⟩ : ∃ z, T42.heap = z := ⟨_, rfl⟩
        rw [e42] at hQ42
        have E_b17_o := E_b17
        obtain ⟨rfl, Mc42, t42, le42, S42⟩ := hQ42
        have ne_b4_t42 : b4 ≠ t42 := Nat.ne_of_lt (Nat.lt_of_lt_of_le V_b4.lt le42)
        have ne_bt_t42 : bt ≠ t42 := Nat.ne_of_lt (Nat.lt_of_lt_of_le V_bt.lt le42)
        have ne_b15_t42 : b15 ≠ t42 := Nat.ne_of_lt (Nat.lt_of_lt_of_le E_b15.lt le42)
        have ne_b17_t42 : b17 ≠ t42 := Nat.ne_of_lt (Nat.lt_of_lt_of_le E_b17.lt le42)
        have fr_t42 : h0.size ≤ t42 := Nat.le_trans M17.le le42
        have Sf_t42 := Safe.new (Z := Z) (EL := consts_1) (vm := s.vm) le42
        have M42 := M17.app Mc42 (allS (Or.inr fr_b17) all0)
        replace hk := Nat.le_trans hk (Mc42.1).1
        have hq43 : ∀ x ∈ ([b17] : List Addr), Safe Z consts_1 s.vm h17 x := (sfS Sf_b17 sf0)
        have hs43 := CHr.keep (Mc42.1) hq43 RH.1
        replace Sf_b15 := Safe.keep (Mc42.1) hq43 RH.1 Sf_b15
        replace Sf_b17 := Safe.keep (Mc42.1) hq43 RH.1 Sf_b17
        replace Sf_t42 := Safe.keep (Mc42.1) hq43 RH.1 Sf_t42
        replace RH := RH.trans hs43
        replace Z_ad := StaKeep Z_ad Mc42.1 (allS (staExa E_b17_o) all0)
        replace Z_hs := StaKeep Z_hs Mc42.1 (allS (staExa E_b17_o) all0)
        replace Z_ls := StaKeep Z_ls Mc42.1 (allS (staExa E_b17_o) all0)
        replace Z_fm := StaKeep Z_fm Mc42.1 (allS (staExa E_b17_o) all0)
        replace Z_cs := StaKeep Z_cs Mc42.1 (allS (staExa E_b17_o) all0)
        replace V_b4 := V_b4.keep Mc42.1 (ninS ne_b4_b17 nin0)
        replace V_bt := V_bt.keep Mc42.1 (ninS ne_bt_b17 nin0)
        replace E_b15 := E_b15.keep Mc42.1
        replace F_text_b15 := F_text_b15.keep Mc42.1 (ninS ne_b15_b17 nin0)
        replace F_chars_b15 := F_chars_b15.keep Mc42.1 (ninS ne_b15_b17 nin0)
        replace F_name_b15 := F_name_b15.keep Mc42.1 (ninS ne_b15_b17 nin0)
        replace F_position_b15 := F_position_b15.keep Mc42.1 (ninS ne_b15_b17 nin0)
        replace E_b17 := E_b17.keep Mc42.1
        have S_b17 := S42
        show Go p e below P T42 (mkF m 146 #[sI p1, sI p2, sI p3, sI p4, sI p5, sI p6, sI (Int32.ofNat nk), sI u1, sI u2, sI u3, sR b4, sR bt, sI u13, sI u14, .unset, .unset, .unset, .unset, .unset, .unset, .unset, .unset, .unset, .unset, .unset] [(.ref b17), (.ref b15), (.ref b15)])
        exact J19 s.vm _ T42 h42 _ t42 (standUp X42 (by decide) (by decide)) e42 M42 RH hS hk hZ hown Z_ad Z_hs Z_ls Z_fm Z_cs V_b4 E_b15 F_text_b15 F_chars_b15 F_name_b15 F_position_b15 S_b17
  by_cases hc46 : (Int32.ofNat nk) = (0 : Int32)
  ·
    refine Go.of (T' := T10) (f' := (mkF m 49 #[sI p1, sI p2, sI p3, sI p4, sI p5, sI p6, sI (Int32.ofNat nk), sI u1, sI u2, sI u3, sR b4, .unset, .unset, .unset, .unset, .unset, .unset, .unset, .unset, .unset, .unset, .unset, .unset, .unset, .unset] [])) (fun _ k => XS.ifNo X10.here hx rfl (hb hby at_46) rfl ((if0 _ _).trans (teq hc46).2) k) ?_
    refine Go.of (T' := T10) (f' := (mkF m 50 #[sI p1, sI p2, sI p3, sI p4, sI p5, sI p6, sI (Int32.ofNat nk), sI u1, sI u2, sI u3, sR b4, .unset, .unset, .unset, .unset, .unset, .unset, .unset, .unset, .unset, .unset, .unset, .unset, .unset, .unset] [(.int (0 : Int32))])) (fun _ k => XS.iconst X10.here hx rfl (hb hby at_49) k) ?_
    obtain ⟨T44, h44, k44, X44, e44, E44, A44, st44⟩ := newP X10 hx hZ (hw _ (List.mem_of_getElem? (i := 4) rfl)) e10 (g := (mkF m 50 #[sI p1, sI p2, sI p3, sI p4, sI p5, sI p6, sI (Int32.ofNat nk), sI u1, sI u2, sI u3, sR b4, .unset, .unset, .unset, .unset, .unset, .unset, .unset, .unset, .unset, .unset, .unset, .unset, .unset, .unset] [(.int (0 : Int32))])) rfl (hb hby at_50) rfl (by decide) (cap := 0) (by decide) (by decide) (by decide) (by decide)
    obtain ⟨b44, g44⟩ : ∃ z, z = h10.size := ⟨_, rfl⟩
    rw [← g44] at A44 st44
    have ne_b4_b44 : b4 ≠ b44 := Nat.ne_of_lt (Nat.lt_of_lt_of_le V_b4.lt (Nat.le_of_eq g44.symm))
    have fr_b44 : h0.size ≤ b44 := Nat.le_trans M10.le (Nat.le_of_eq g44.symm)
    have Sf_b44 := Safe.new (Z := Z) (EL := consts_1) (vm := s.vm) (Nat.le_of_eq g44.symm)
    have K44 := keepE E44
    have M44 := M10.ext E44
    replace hk := Nat.le_trans hk (K44).1
    have hs45 := CHr.keep (K44) sf0 RH.1
    replace Sf_b4 := Safe.keep (K44) sf0 RH.1 Sf_b4
    replace Sf_b44 := Safe.keep (K44) sf0 RH.1 Sf_b44
    replace RH := RH.trans hs45
    replace Z_ad := StaKeep Z_ad K44 all0
    replace Z_hs := StaKeep Z_hs K44 all0
    replace Z_ls := StaKeep Z_ls K44 all0
    replace Z_fm := StaKeep Z_fm K44 all0
    replace Z_cs := StaKeep Z_cs K44 all0
    replace V_b4 := V_b4.keep K44 nin0
    have V_b44 : Arv Z h44 b44 k44 .char (0 : Int32) [] (.int (0 : Int32)) := (Arv.new A44 (by decide)).pad (pad_rep [] (.int (0 : Int32)) 0)
    refine Go.of (T' := T44) (f' := (mkF m 52 #[sI p1, sI p2, sI p3, sI p4, sI p5, sI p6, sI (Int32.ofNat nk), sI u1, sI u2, sI u3, sR b4, .unset, .unset, .unset, .unset, .unset, .unset, .unset, .unset, .unset, .unset, .unset, .unset, .unset, .unset] [(.ref b44)])) st44 ?_
    refine Go.of (T' := T44) (f' := (mkF m 54 #[sI p1, sI p2, sI p3, sI p4, sI p5, sI p6, sI (Int32.ofNat nk), sI u1, sI u2, sI u3, sR b4, sR b44, .unset, .unset, .unset, .unset, .unset, .unset, .unset, .unset, .unset, .unset, .unset, .unset, .unset] [])) (fun _ k => XS.astore X44.here hx rfl (hb hby at_52) rfl rfl (l' := #[sI p1, sI p2, sI p3, sI p4, sI p5, sI p6, sI (Int32.ofNat nk), sI u1, sI u2, sI u3, sR b4, sR b44, .unset, .unset, .unset, .unset, .unset, .unset, .unset, .unset, .unset, .unset, .unset, .unset, .unset]) rfl k) ?_
    refine Go.of (T' := T44) (f' := (mkF m 120 #[sI p1, sI p2, sI p3, sI p4, sI p5, sI p6, sI (Int32.ofNat nk), sI u1, sI u2, sI u3, sR b4, sR b44, .unset, .unset, .unset, .unset, .unset, .unset, .unset, .unset, .unset, .unset, .unset, .unset, .unset] [])) (fun _ k => XS.goto X44.here hx rfl (pc0 := 54) (pc' := 120) rfl (hb hby at_54) (by decide) (by decide) k) ?_
    exact J12 T44 h44 _ b44 k44 [] (standUp X44 (by decide) (by decide)) e44 M44 RH hk Z_ad Z_hs Z_ls Z_fm Z_cs V_b4 (by rw [show nk = 0 from ofk (j := 0) (by omega) (by omega) hc46]; rfl) fr_b44 ne_b4_b44 V_b44
  ·
    refine Go.of (T' := T10) (f' := (mkF m 57 #[sI p1, sI p2, sI p3, sI p4, sI p5, sI p6, sI (Int32.ofNat nk), sI u1, sI u2, sI u3, sR b4, .unset, .unset, .unset, .unset, .unset, .unset, .unset, .unset, .unset, .unset, .unset, .unset, .unset, .unset] [])) (fun _ k => XS.ifYes X10.here hx rfl (pc0 := 46) (pc' := 57) rfl (hb hby at_46) rfl ((if0 _ _).trans (feq hc46).2) (by decide) (by decide) k) ?_
    refine Go.of (T' := T10) (f' := (mkF m 59 #[sI p1, sI p2, sI p3, sI p4, sI p5, sI p6, sI (Int32.ofNat nk), sI u1, sI u2, sI u3, sR b4, .unset, .unset, .unset, .unset, .unset, .unset, .unset, .unset, .unset, .unset, .unset, .unset, .unset, .unset] [(.int (Int32.ofNat nk))])) (fun _ k => XS.iload X10.here hx rfl (hb hby at_57) rfl k) ?_
    refine Go.of (T' := T10) (f' := (mkF m 60 #[sI p1, sI p2, sI p3, sI p4, sI p5, sI p6, sI (Int32.ofNat nk), sI u1, sI u2, sI u3, sR b4, .unset, .unset, .unset, .unset, .unset, .unset, .unset, .unset, .unset, .unset, .unset, .unset, .unset, .unset] [(.int (1 : Int32)), (.int (Int32.ofNat nk))])) (fun _ k => XS.iconst X10.here hx rfl (hb hby at_59) k) ?_
    by_cases hc60 : (Int32.ofNat nk) = (1 : Int32)
    ·
      refine Go.of (T' := T10) (f' := (mkF m 63 #[sI p1, sI p2, sI p3, sI p4, sI p5, sI p6, sI (Int32.ofNat nk), sI u1, sI u2, sI u3, sR b4, .unset, .unset, .unset, .unset, .unset, .unset, .unset, .unset, .unset, .unset, .unset, .unset, .unset, .unset] [])) (fun _ k => XS.icmpNo X10.here hx rfl (hb hby at_60) rfl (teq hc60).2 k) ?_
      refine Go.of (T' := T10) (f' := (mkF m 64 #[sI p1, sI p2, sI p3, sI p4, sI p5, sI p6, sI (Int32.ofNat nk), sI u1, sI u2, sI u3, sR b4, .unset, .unset, .unset, .unset, .unset, .unset, .unset, .unset, .unset, .unset, .unset, .unset, .unset, .unset] [(.int (1 : Int32))])) (fun _ k => XS.iconst X10.here hx rfl (hb hby at_63) k) ?_
      obtain ⟨T46, h46, k46, X46, e46, E46, A46, st46⟩ := newP X10 hx hZ (hw _ (List.mem_of_getElem? (i := 4) rfl)) e10 (g := (mkF m 64 #[sI p1, sI p2, sI p3, sI p4, sI p5, sI p6, sI (Int32.ofNat nk), sI u1, sI u2, sI u3, sR b4, .unset, .unset, .unset, .unset, .unset, .unset, .unset, .unset, .unset, .unset, .unset, .unset, .unset, .unset] [(.int (1 : Int32))])) rfl (hb hby at_64) rfl (by decide) (cap := 1) (by decide) (by decide) (by decide) (by decide)
      obtain ⟨b46, g46⟩ : ∃ z, z = h10.size := ⟨_, rfl⟩
      rw [← g46] at A46 st46
      have ne_b4_b46 : b4 ≠ b46 := Nat.ne_of_lt (Nat.lt_of_lt_of_le V_b4.lt (Nat.le_of_eq g46.symm))
      have fr_b46 : h0.size ≤ b46 := Nat.le_trans M10.le (Nat.le_of_eq g46.symm)
      have Sf_b46 := Safe.new (Z := Z) (EL := consts_1) (vm := s.vm) (Nat.le_of_eq g46.symm)
      have K46 := keepE E46
      have M46 := M10.ext E46
      replace hk := Nat.le_trans hk (K46).1
      have hs47 := CHr.keep (K46) sf0 RH.1
      replace Sf_b4 := Safe.keep (K46) sf0 RH.1 Sf_b4
      replace Sf_b46 := Safe.keep (K46) sf0 RH.1 Sf_b46
      replace RH := RH.trans hs47
      replace Z_ad := StaKeep Z_ad K46 all0
      replace Z_hs := StaKeep Z_hs K46 all0
      replace Z_ls := StaKeep Z_ls K46 all0
      replace Z_fm := StaKeep Z_fm K46 all0
      replace Z_cs := StaKeep Z_cs K46 all0
      replace V_b4 := V_b4.keep K46 nin0
      have V_b46 : Arv Z h46 b46 k46 .char (1 : Int32) [(.int (0 : Int32))] (.int (0 : Int32)) := (Arv.new A46 (by decide)).pad (pad_rep [] (.int (0 : Int32)) 1)
      refine Go.of (T' := T46) (f' := (mkF m 66 #[sI p1, sI p2, sI p3, sI p4, sI p5, sI p6, sI (Int32.ofNat nk), sI u1, sI u2, sI u3, sR b4, .unset, .unset, .unset, .unset, .unset, .unset, .unset, .unset, .unset, .unset, .unset, .unset, .unset, .unset] [(.ref b46)])) st46 ?_
      refine Go.of (T' := T46) (f' := (mkF m 67 #[sI p1, sI p2, sI p3, sI p4, sI p5, sI p6, sI (Int32.ofNat nk), sI u1, sI u2, sI u3, sR b4, .unset, .unset, .unset, .unset, .unset, .unset, .unset, .unset, .unset, .unset, .unset, .unset, .unset, .unset] [(.ref b46), (.ref b46)])) (fun _ k => XS.dup X46.here hx rfl (hb hby at_66) rfl rfl k) ?_
      refine Go.of (T' := T46) (f' := (mkF m 68 #[sI p1, sI p2, sI p3, sI p4, sI p5, sI p6, sI (Int32.ofNat nk), sI u1, sI u2, sI u3, sR b4, .unset, .unset, .unset, .unset, .unset, .unset, .unset, .unset, .unset, .unset, .unset, .unset, .unset, .unset] [(.int (0 : Int32)), (.ref b46), (.ref b46)])) (fun _ k => XS.iconst X46.here hx rfl (hb hby at_67) k) ?_
      refine Go.of (T' := T46) (f' := (mkF m 70 #[sI p1, sI p2, sI p3, sI p4, sI p5, sI p6, sI (Int32.ofNat nk), sI u1, sI u2, sI u3, sR b4, .unset, .unset, .unset, .unset, .unset, .unset, .unset, .unset, .unset, .unset, .unset, .unset, .unset, .unset] [(.int u1), (.int (0 : Int32)), (.ref b46), (.ref b46)])) (fun _ k => XS.iload X46.here hx rfl (hb hby at_68) rfl k) ?_
      obtain ⟨cl48, Ar48, cq48, Sz48, Nn48, Hs48, Gs48⟩ := id V_b46
      have hin48 : ¬ ((0 : Int32) < 0 ∨ cl48.slots.size ≤ ((0 : Int32)).toNatClampNeg) := inb_of Sz48 ⟨by decide, by decide⟩
      obtain ⟨T48, h48, X48, e48, W48, st48⟩ := stC X46 hx hZ e46 Ar48 (j := (0 : Int32)) hin48 (g := (mkF m 70 #[sI p1, sI p2, sI p3, sI p4, sI p5, sI p6, sI (Int32.ofNat nk), sI u1, sI u2, sI u3, sR b4, .unset, .unset, .unset, .unset, .unset, .unset, .unset, .unset, .unset, .unset, .unset, .unset, .unset, .unset] [(.int u1), (.int (0 : Int32)), (.ref b46), (.ref b46)])) rfl rfl (hb hby at_70)
      have fq48 : fits .char (.int (nar .char u1)) = true := fits_nar_char _
      rw [show nar .char u1 = u1 from nar_rng hu1] at W48 fq48
      have V48 := Arv.set Ar48 cq48 Sz48 Nn48 Hs48 Gs48 fq48 W48 0 rfl (Nat.le_of_ble_eq_true rfl)
      have V_b46_o := V_b46
      have K48 := Keep.of_wr W48
      have M48 := M46.wr W48 (Or.inr fr_b46)
      replace hk := Nat.le_trans hk (K48).1
      have hq49 : ∀ x ∈ ([b46] : List Addr), Safe Z consts_1 s.vm h46 x := (sfS Sf_b46 sf0)
      have hs49 := CHr.keep (K48) hq49 RH.1
      replace Sf_b4 := Safe.keep (K48) hq49 RH.1 Sf_b4
      replace Sf_b46 := Safe.keep (K48) hq49 RH.1 Sf_b46
      replace RH := RH.trans hs49
      replace Z_ad := StaKeep Z_ad K48 (allS (staArv V_b46_o) all0)
      replace Z_hs := StaKeep Z_hs K48 (allS (staArv V_b46_o) all0)
      replace Z_ls := StaKeep Z_ls K48 (allS (staArv V_b46_o) all0)
      replace Z_fm := StaKeep Z_fm K48 (allS (staArv V_b46_o) all0)
      replace Z_cs := StaKeep Z_cs K48 (allS (staArv V_b46_o) all0)
      replace V_b4 := V_b4.keep K48 (ninS ne_b4_b46 nin0)
      replace V_b46 : Arv Z h48 b46 k46 .char (1 : Int32) [(.int u1)] (.int (0 : Int32)) := V48
      refine Go.of (T' := T48) (f' := (mkF m 71 #[sI p1, sI p2, sI p3, sI p4, sI p5, sI p6, sI (Int32.ofNat nk), sI u1, sI u2, sI u3, sR b4, .unset, .unset, .unset, .unset, .unset, .unset, .unset, .unset, .unset, .unset, .unset, .unset, .unset, .unset] [(.ref b46)])) st48 ?_
      refine Go.of (T' := T48) (f' := (mkF m 73 #[sI p1, sI p2, sI p3, sI p4, sI p5, sI p6, sI (Int32.ofNat nk), sI u1, sI u2, sI u3, sR b4, sR b46, .unset, .unset, .unset, .unset, .unset, .unset, .unset, .unset, .unset, .unset, .unset, .unset, .unset] [])) (fun _ k => XS.astore X48.here hx rfl (hb hby at_71) rfl rfl (l' := #[sI p1, sI p2, sI p3, sI p4, sI p5, sI p6, sI (Int32.ofNat nk), sI u1, sI u2, sI u3, sR b4, sR b46, .unset, .unset, .unset, .unset, .unset, .unset, .unset, .unset, .unset, .unset, .unset, .unset, .unset]) rfl k) ?_
      refine Go.of (T' := T48) (f' := (mkF m 120 #[sI p1, sI p2, sI p3, sI p4, sI p5, sI p6, sI (Int32.ofNat nk), sI u1, sI u2, sI u3, sR b4, sR b46, .unset, .unset, .unset, .unset, .unset, .unset, .unset, .unset, .unset, .unset, .unset, .unset, .unset] [])) (fun _ k => XS.goto X48.here hx rfl (pc0 := 73) (pc' := 120) rfl (hb hby at_73) (by decide) (by decide) k) ?_
      exact J12 T48 h48 _ b46 k46 [u1] (standUp X48 (by decide) (by decide)) e48 M48 RH hk Z_ad Z_hs Z_ls Z_fm Z_cs V_b4 (by rw [show nk = 1 from ofk (j := 1) (by omega) (by omega) hc60]; rfl) fr_b46 ne_b4_b46 V_b46
    ·
      refine Go.of (T' := T10) (f' := (mkF m 76 #[sI p1, sI p2, sI p3, sI p4, sI p5, sI p6, sI (Int32.ofNat nk), sI u1, sI u2, sI u3, sR b4, .unset, .unset, .unset, .unset, .unset, .unset, .unset, .unset, .unset, .unset, .unset, .unset, .unset, .unset] [])) (fun _ k => XS.icmpYes X10.here hx rfl (pc0 := 60) (pc' := 76) rfl (hb hby at_60) rfl (feq hc60).2 (by decide) (by decide) k) ?_
      refine Go.of (T' := T10) (f' := (mkF m 78 #[sI p1, sI p2, sI p3, sI p4, sI p5, sI p6, sI (Int32.ofNat nk), sI u1, sI u2, sI u3, sR b4, .unset, .unset, .unset, .unset, .unset, .unset, .unset, .unset, .unset, .unset, .unset, .unset, .unset, .unset] [(.int (Int32.ofNat nk))])) (fun _ k => XS.iload X10.here hx rfl (hb hby at_76) rfl k) ?_
      refine Go.of (T' := T10) (f' := (mkF m 79 #[sI p1, sI p2, sI p3, sI p4, sI p5, sI p6, sI (Int32.ofNat nk), sI u1, sI u2, sI u3, sR b4, .unset, .unset, .unset, .unset, .unset, .unset, .unset, .unset, .unset, .unset, .unset, .unset, .unset, .unset] [(.int (2 : Int32)), (.int (Int32.ofNat nk))])) (fun _ k => XS.iconst X10.here hx rfl (hb hby at_78) k) ?_
      by_cases hc79 : (Int32.ofNat nk) = (2 : Int32)
      ·
        refine Go.of (T' := T10) (f' := (mkF m 82 #[sI p1, sI p2, sI p3, sI p4, sI p5, sI p6, sI (Int32.ofNat nk), sI u1, sI u2, sI u3, sR b4, .unset, .unset, .unset, .unset, .unset, .unset, .unset, .unset, .unset, .unset, .unset, .unset, .unset, .unset] [])) (fun _ k => XS.icmpNo X10.here hx rfl (hb hby at_79) rfl (teq hc79).2 k) ?_
        refine Go.of (T' := T10) (f' := (mkF m 83 #[sI p1, sI p2, sI p3, sI p4, sI p5, sI p6, sI (Int32.ofNat nk), sI u1, sI u2, sI u3, sR b4, .unset, .unset, .unset, .unset, .unset, .unset, .unset, .unset, .unset, .unset, .unset, .unset, .unset, .unset] [(.int (2 : Int32))])) (fun _ k => XS.iconst X10.here hx rfl (hb hby at_82) k) ?_
        obtain ⟨T50, h50, k50, X50, e50, E50, A50, st50⟩ := newP X10 hx hZ (hw _ (List.mem_of_getElem? (i := 4) rfl)) e10 (g := (mkF m 83 #[sI p1, sI p2, sI p3, sI p4, sI p5, sI p6, sI (Int32.ofNat nk), sI u1, sI u2, sI u3, sR b4, .unset, .unset, .unset, .unset, .unset, .unset, .unset, .unset, .unset, .unset, .unset, .unset, .unset, .unset] [(.int (2 : Int32))])) rfl (hb hby at_83) rfl (by decide) (cap := 2) (by decide) (by decide) (by decide) (by decide)
        obtain ⟨b50, g50⟩ : ∃ z, z = h10.size := ⟨_, rfl⟩
        rw [← g50] at A50 st50
        have ne_b4_b50 : b4 ≠ b50 := Nat.ne_of_lt (Nat.lt_of_lt_of_le V_b4.lt (Nat.le_of_eq g50.symm))
        have fr_b50 : h0.size ≤ b50 := Nat.le_trans M10.le (Nat.le_of_eq g50.symm)
        have Sf_b50 := Safe.new (Z := Z) (EL := consts_1) (vm := s.vm) (Nat.le_of_eq g50.symm)
        have K50 := keepE E50
        have M50 := M10.ext E50
        replace hk := Nat.le_trans hk (K50).1
        have hs51 := CHr.keep (K50) sf0 RH.1
        replace Sf_b4 := Safe.keep (K50) sf0 RH.1 Sf_b4
        replace Sf_b50 := Safe.keep (K50) sf0 RH.1 Sf_b50
        replace RH := RH.trans hs51
        replace Z_ad := StaKeep Z_ad K50 all0
        replace Z_hs := StaKeep Z_hs K50 all0
        replace Z_ls := StaKeep Z_ls K50 all0
        replace Z_fm := StaKeep Z_fm K50 all0
        replace Z_cs := StaKeep Z_cs K50 all0
        replace V_b4 := V_b4.keep K50 nin0
        have V_b50 : Arv Z h50 b50 k50 .char (2 : Int32) [(.int (0 : Int32)), (.int (0 : Int32))] (.int (0 : Int32)) := (Arv.new A50 (by decide)).pad (pad_rep [] (.int (0 : Int32)) 2)
        refine Go.of (T' := T50) (f' := (mkF m 85 #[sI p1, sI p2, sI p3, sI p4, sI p5, sI p6, sI (Int32.ofNat nk), sI u1, sI u2, sI u3, sR b4, .unset, .unset, .unset, .unset, .unset, .unset, .unset, .unset, .unset, .unset, .unset, .unset, .unset, .unset] [(.ref b50)])) st50 ?_
        refine Go.of (T' := T50) (f' := (mkF m 86 #[sI p1, sI p2, sI p3, sI p4, sI p5, sI p6, sI (Int32.ofNat nk), sI u1, sI u2, sI u3, sR b4, .unset, .unset, .unset, .unset, .unset, .unset, .unset, .unset, .unset, .unset, .unset, .unset, .unset, .unset] [(.ref b50), (.ref b50)])) (fun _ k => XS.dup X50.here hx rfl (hb hby at_85) rfl rfl k) ?_
        refine Go.of (T' := T50) (f' := (mkF m 87 #[sI p1, sI p2, sI p3, sI p4, sI p5, sI p6, sI (Int32.ofNat nk), sI u1, sI u2, sI u3, sR b4, .unset, .unset, .unset, .unset, .unset, .unset, .unset, .unset, .unset, .unset, .unset, .unset, .unset, .unset] [(.int (0 : Int32)), (.ref b50), (.ref b50)])) (fun _ k => XS.iconst X50.here hx rfl (hb hby at_86) k) ?_
        refine Go.of (T' := T50) (f' := (mkF m 89 #[sI p1, sI p2, sI p3, sI p4, sI p5, sI p6, sI (Int32.ofNat nk), sI u1, sI u2, sI u3, sR b4, .unset, .unset, .unset, .unset, .unset, .unset, .unset, .unset, .unset, .unset, .unset, .unset, .unset, .unset] [(.int u1), (.int (0 : Int32)), (.ref b50), (.ref b50)])) (fun _ k => XS.iload X50.here hx rfl (hb hby at_87) rfl k) ?_
        obtain ⟨cl52, Ar52, cq52, Sz52, Nn52, Hs52, Gs52⟩ := id V_b50
        have hin52 : ¬ ((0 : Int32) < 0 ∨ cl52.slots.size ≤ ((0 : Int32)).toNatClampNeg) := inb_of Sz52 ⟨by decide, by decide⟩
        obtain ⟨T52, h52, X52, e52, W52, st52⟩ := stC X50 hx hZ e50 Ar52 (j := (0 : Int32)) hin52 (g := (mkF m 89 #[sI p1, sI p2, sI p3, sI p4, sI p5, sI p6, sI (Int32.ofNat nk), sI u1, sI u2, sI u3, sR b4, .unset, .unset, .unset, .unset, .unset, .unset, .unset, .unset, .unset, .unset, .unset, .unset, .unset, .unset] [(.int u1), (.int (0 : Int32)), (.ref b50), (.ref b50)])) rfl rfl (hb hby at_89)
        have fq52 : fits .char (.int (nar .char u1)) = true := fits_nar_char _
        rw [show nar .char u1 = u1 from nar_rng hu1] at W52 fq52
        have V52 := Arv.set Ar52 cq52 Sz52 Nn52 Hs52 Gs52 fq52 W52 0 rfl (Nat.le_of_ble_eq_true rfl)
        have V_b50_o := V_b50
        have K52 := Keep.of_wr W52
        have M52 := M50.wr W52 (Or.inr fr_b50)
        replace hk := Nat.le_trans hk (K52).1
        have hq53 : ∀ x ∈ ([b50] : List Addr), Safe Z consts_1 s.vm h50 x := (sfS Sf_b50 sf0)
        have hs53 := CHr.keep (K52) hq53 RH.1
        replace Sf_b4 := Safe.keep (K52) hq53 RH.1 Sf_b4
        replace Sf_b50 := Safe.keep (K52) hq53 RH.1 Sf_b50
        replace RH := RH.trans hs53
        replace Z_ad := StaKeep Z_ad K52 (allS (staArv V_b50_o) all0)
        replace Z_hs := StaKeep Z_hs K52 (allS (staArv V_b50_o) all0)
        replace Z_ls := StaKeep Z_ls K52 (allS (staArv V_b50_o) all0)
        replace Z_fm := StaKeep Z_fm K52 (allS (staArv V_b50_o) all0)
        replace Z_cs := StaKeep Z_cs K52 (allS (staArv V_b50_o) all0)
        replace V_b4 := V_b4.keep K52 (ninS ne_b4_b50 nin0)
        replace V_b50 : Arv Z h52 b50 k50 .char (2 : Int32) [(.int u1), (.int (0 : Int32))] (.int (0 : Int32)) := V52
        refine Go.of (T' := T52) (f' := (mkF m 90 #[sI p1, sI p2, sI p3, sI p4, sI p5, sI p6, sI (Int32.ofNat nk), sI u1, sI u2, sI u3, sR b4, .unset, .unset, .unset, .unset, .unset, .unset, .unset, .unset, .unset, .unset, .unset, .unset, .unset, .unset] [(.ref b50)])) st52 ?_
        refine Go.of (T' := T52) (f' := (mkF m 91 #[sI p1, sI p2, sI p3, sI p4, sI p5, sI p6, sI (Int32.ofNat nk), sI u1, sI u2, sI u3, sR b4, .unset, .unset, .unset, .unset, .unset, .unset, .unset, .unset, .unset, .unset, .unset, .unset, .unset, .unset] [(.ref b50), (.ref b50)])) (fun _ k => XS.dup X52.here hx rfl (hb hby at_90) rfl rfl k) ?_
        refine Go.of (T' := T52) (f' := (mkF m 92 #[sI p1, sI p2, sI p3, sI p4, sI p5, sI p6, sI (Int32.ofNat nk), sI u1, sI u2, sI u3, sR b4, .unset, .unset, .unset, .unset, .unset, .unset, .unset, .unset, .unset, .unset, .unset, .unset, .unset, .unset] [(.int (1 : Int32)), (.ref b50), (.ref b50)])) (fun _ k => XS.iconst X52.here hx rfl (hb hby at_91) k) ?_
        refine Go.of (T' := T52) (f' := (mkF m 94 #[sI p1, sI p2, sI p3, sI p4, sI p5, sI p6, sI (Int32.ofNat nk), sI u1, sI u2, sI u3, sR b4, .unset, .unset, .unset, .unset, .unset, .unset, .unset, .unset, .unset, .unset, .unset, .unset, .unset, .unset] [(.int u2), (.int (1 : Int32)), (.ref b50), (.ref b50)])) (fun _ k => XS.iload X52.here hx rfl (hb hby at_92) rfl k) ?_
        obtain ⟨cl54, Ar54, cq54, Sz54, Nn54, Hs54, Gs54⟩ := id V_b50
        have hin54 : ¬ ((1 : Int32) < 0 ∨ cl54.slots.size ≤ ((1 : Int32)).toNatClampNeg) := inb_of Sz54 ⟨by decide, by decide⟩
        obtain ⟨T54, h54, X54, e54, W54, st54⟩ := stC X52 hx hZ e52 Ar54 (j := (1 : Int32)) hin54 (g := (mkF m 94 #[sI p1, sI p2, sI p3, sI p4, sI p5, sI p6, sI (Int32.ofNat nk), sI u1, sI u2, sI u3, sR b4, .unset, .unset, .unset, .unset, .unset, .unset, .unset, .unset, .unset, .unset, .unset, .unset, .unset, .unset] [(.int u2), (.int (1 : Int32)), (.ref b50), (.ref b50)])) rfl rfl (hb hby at_94)
        have fq54 : fits .char (.int (nar .char u2)) = true := fits_nar_char _
        rw [show nar .char u2 = u2 from nar_rng hu2] at W54 fq54
        have V54 := Arv.set Ar54 cq54 Sz54 Nn54 Hs54 Gs54 fq54 W54 1 rfl (Nat.le_of_ble_eq_true rfl)
        have V_b50_o := V_b50
        have K54 := Keep.of_wr W54
        have M54 := M52.wr W54 (Or.inr fr_b50)
        replace hk := Nat.le_trans hk (K54).1
        have hq55 : ∀ x ∈ ([b50] : List Addr), Safe Z consts_1 s.vm h52 x := (sfS Sf_b50 sf0)
        have hs55 := CHr.keep (K54) hq55 RH.1
        replace Sf_b4 := Safe.keep (K54) hq55 RH.1 Sf_b4
        replace Sf_b50 := Safe.keep (K54) hq55 RH.1 Sf_b50
        replace RH := RH.trans hs55
        replace Z_ad := StaKeep Z_ad K54 (allS (staArv V_b50_o) all0)
        replace Z_hs := StaKeep Z_hs K54 (allS (staArv V_b50_o) all0)
        replace Z_ls := StaKeep Z_ls K54 (allS (staArv V_b50_o) all0)
        replace Z_fm := StaKeep Z_fm K54 (allS (staArv V_b50_o) all0)
        replace Z_cs := StaKeep Z_cs K54 (allS (staArv V_b50_o) all0)
        replace V_b4 := V_b4.keep K54 (ninS ne_b4_b50 nin0)
        replace V_b50 : Arv Z h54 b50 k50 .char (2 : Int32) [(.int u1), (.int u2)] (.int (0 : Int32)) := V54
        refine Go.of (T' := T54) (f' := (mkF m 95 #[sI p1, sI p2, sI p3, sI p4, sI p5, sI p6, sI (Int32.ofNat nk), sI u1, sI u2, sI u3, sR b4, .unset, .unset, .unset, .unset, .unset, .unset, .unset, .unset, .unset, .unset, .unset, .unset, .unset, .unset] [(.ref b50)])) st54 ?_
        refine Go.of (T' := T54) (f' := (mkF m 97 #[sI p1, sI p2, sI p3, sI p4, sI p5, sI p6, sI (Int32.ofNat nk), sI u1, sI u2, sI u3, sR b4, sR b50, .unset, .unset, .unset, .unset, .unset, .unset, .unset, .unset, .unset, .unset, .unset, .unset, .unset] [])) (fun _ k => XS.astore X54.here hx rfl (hb hby at_95) rfl rfl (l' := #[sI p1, sI p2, sI p3, sI p4, sI p5, sI p6, sI (Int32.ofNat nk), sI u1, sI u2, sI u3, sR b4, sR b50, .unset, .unset, .unset, .unset, .unset, .unset, .unset, .unset, .unset, .unset, .unset, .unset, .unset]) rfl k) ?_
        refine Go.of (T' := T54) (f' := (mkF m 120 #[sI p1, sI p2, sI p3, sI p4, sI p5, sI p6, sI (Int32.ofNat nk), sI u1, sI u2, sI u3, sR b4, sR b50, .unset, .unset, .unset, .unset, .unset, .unset, .unset, .unset, .unset, .unset, .unset, .unset, .unset] [])) (fun _ k => XS.goto X54.here hx rfl (pc0 := 97) (pc' := 120) rfl (hb hby at_97) (by decide) (by decide) k) ?_
        exact J12 T54 h54 _ b50 k50 [u1, u2] (standUp X54 (by decide) (by decide)) e54 M54 RH hk Z_ad Z_hs Z_ls Z_fm Z_cs V_b4 (by rw [show nk = 2 from ofk (j := 2) (by omega) (by omega) hc79]; rfl) fr_b50 ne_b4_b50 V_b50
      ·
        refine Go.of (T' := T10) (f' := (mkF m 100 #[sI p1, sI p2, sI p3, sI p4, sI p5, sI p6, sI (Int32.ofNat nk), sI u1, sI u2, sI u3, sR b4, .unset, .unset, .unset, .unset, .unset, .unset, .unset, .unset, .unset, .unset, .unset, .unset, .unset, .unset] [])) (fun _ k => XS.icmpYes X10.here hx rfl (pc0 := 79) (pc' := 100) rfl (hb hby at_79) rfl (feq hc79).2 (by decide) (by decide) k) ?_
        refine Go.of (T' := T10) (f' := (mkF m 101 #[sI p1, sI p2, sI p3, sI p4, sI p5, sI p6, sI (Int32.ofNat nk), sI u1, sI u2, sI u3, sR b4, .unset, .unset, .unset, .unset, .unset, .unset, .unset, .unset, .unset, .unset, .unset, .unset, .unset, .unset] [(.int (3 : Int32))])) (fun _ k => XS.iconst X10.here hx rfl (hb hby at_100) k) ?_
        obtain ⟨T56, h56, k56, X56, e56, E56, A56, st56⟩ := newP X10 hx hZ (hw _ (List.mem_of_getElem? (i := 4) rfl)) e10 (g := (mkF m 101 #[sI p1, sI p2, sI p3, sI p4, sI p5, sI p6, sI (Int32.ofNat nk), sI u1, sI u2, sI u3, sR b4, .unset, .unset, .unset, .unset, .unset, .unset, .unset, .unset, .unset, .unset, .unset, .unset, .unset, .unset] [(.int (3 : Int32))])) rfl (hb hby at_101) rfl (by decide) (cap := 3) (by decide) (by decide) (by decide) (by decide)
        obtain ⟨b56, g56⟩ : ∃ z, z = h10.size := ⟨_, rfl⟩
        rw [← g56] at A56 st56
        have ne_b4_b56 : b4 ≠ b56 := Nat.ne_of_lt (Nat.lt_of_lt_of_le V_b4.lt (Nat.le_of_eq g56.symm))
        have fr_b56 : h0.size ≤ b56 := Nat.le_trans M10.le (Nat.le_of_eq g56.symm)
        have Sf_b56 := Safe.new (Z := Z) (EL := consts_1) (vm := s.vm) (Nat.le_of_eq g56.symm)
        have K56 := keepE E56
        have M56 := M10.ext E56
        replace hk := Nat.le_trans hk (K56).1
        have hs57 := CHr.keep (K56) sf0 RH.1
        replace Sf_b4 := Safe.keep (K56) sf0 RH.1 Sf_b4
        replace Sf_b56 := Safe.keep (K56) sf0 RH.1 Sf_b56
        replace RH := RH.trans hs57
        replace Z_ad := StaKeep Z_ad K56 all0
        replace Z_hs := StaKeep Z_hs K56 all0
        replace Z_ls := StaKeep Z_ls K56 all0
        replace Z_fm := StaKeep Z_fm K56 all0
        replace Z_cs := StaKeep Z_cs K56 all0
        replace V_b4 := V_b4.keep K56 nin0
        have V_b56 : Arv Z h56 b56 k56 .char (3 : Int32) [(.int (0 : Int32)), (.int (0 : Int32)), (.int (0 : Int32))] (.int (0 : Int32)) := (Arv.new A56 (by decide)).pad (pad_rep [] (.int (0 : Int32)) 3)
        refine Go.of (T' := T56) (f' := (mkF m 103 #[sI p1, sI p2, sI p3, sI p4, sI p5, sI p6, sI (Int32.ofNat nk), sI u1, sI u2, sI u3, sR b4, .unset, .unset, .unset, .unset, .unset, .unset, .unset, .unset, .unset, .unset, .unset, .unset, .unset, .unset] [(.ref b56)])) st56 ?_
        refine Go.of (T' := T56) (f' := (mkF m 104 #[sI p1, sI p2, sI p3, sI p4, sI p5, sI p6, sI (Int32.ofNat nk), sI u1, sI u2, sI u3, sR b4, .unset, .unset, .unset, .unset, .unset, .unset, .unset, .unset, .unset, .unset, .unset, .unset, .unset, .unset] [(.ref b56), (.ref b56)])) (fun _ k => XS.dup X56.here hx rfl (hb hby at_103) rfl rfl k) ?_
        refine Go.of (T' := T56) (f' := (mkF m 105 #[sI p1, sI p2, sI p3, sI p4, sI p5, sI p6, sI (Int32.ofNat nk), sI u1, sI u2, sI u3, sR b4, .unset, .unset, .unset, .unset, .unset, .unset, .unset, .unset, .unset, .unset, .unset, .unset, .unset, .unset] [(.int (0 : Int32)), (.ref b56), (.ref b56)])) (fun _ k => XS.iconst X56.here hx rfl (hb hby at_104) k) ?_
        refine Go.of (T' := T56) (f' := (mkF m 107 #[sI p1, sI p2, sI p3, sI p4, sI p5, sI p6, sI (Int32.ofNat nk), sI u1, sI u2, sI u3, sR b4, .unset, .unset, .unset, .unset, .unset, .unset, .unset, .unset, .unset, .unset, .unset, .unset, .unset, .unset] [(.int u1), (.int (0 : Int32)), (.ref b56), (.ref b56)])) (fun _ k => XS.iload X56.here hx rfl (hb hby at_105) rfl k) ?_
        obtain ⟨cl58, Ar58, cq58, Sz58, Nn58, Hs58, Gs58⟩ := id V_b56
        have hin58 : ¬ ((0 : Int32) < 0 ∨ cl58.slots.size ≤ ((0 : Int32)).toNatClampNeg) := inb_of Sz58 ⟨by decide, by decide⟩
        obtain ⟨T58, h58, X58, e58, W58, st58⟩ := stC X56 hx hZ e56 Ar58 (j := (0 : Int32)) hin58 (g := (mkF m 107 #[sI p1, sI p2, sI p3, sI p4, sI p5, sI p6, sI (Int32.ofNat nk), sI u1, sI u2, sI u3, sR b4, .unset, .unset, .unset, .unset, .unset, .unset, .unset, .unset, .unset, .unset, .unset, .unset, .unset, .unset] [(.int u1), (.int (0 : Int32)), (.ref b56), (.ref b56)])) rfl rfl (hb hby at_107)
        have fq58 : fits .char (.int (nar .char u1)) = true := fits_nar_char _
        rw [show nar .char u1 = u1 from nar_rng hu1] at W58 fq58
        have V58 := Arv.set Ar58 cq58 Sz58 Nn58 Hs58 Gs58 fq58 W58 0 rfl (Nat.le_of_ble_eq_true rfl)
        have V_b56_o := V_b56
        have K58 := Keep.of_wr W58
        have M58 := M56.wr W58 (Or.inr fr_b56)
        replace hk := Nat.le_trans hk (K58).1
        have hq59 : ∀ x ∈ ([b56] : List Addr), Safe Z consts_1 s.vm h56 x := (sfS Sf_b56 sf0)
        have hs59 := CHr.keep (K58) hq59 RH.1
        replace Sf_b4 := Safe.keep (K58) hq59 RH.1 Sf_b4
        replace Sf_b56 := Safe.keep (K58) hq59 RH.1 Sf_b56
        replace RH := RH.trans hs59
        replace Z_ad := StaKeep Z_ad K58 (allS (staArv V_b56_o) all0)
        replace Z_hs := StaKeep Z_hs K58 (allS (staArv V_b56_o) all0)
        replace Z_ls := StaKeep Z_ls K58 (allS (staArv V_b56_o) all0)
        replace Z_fm := StaKeep Z_fm K58 (allS (staArv V_b56_o) all0)
        replace Z_cs := StaKeep Z_cs K58 (allS (staArv V_b56_o) all0)
        replace V_b4 := V_b4.keep K58 (ninS ne_b4_b56 nin0)
        replace V_b56 : Arv Z h58 b56 k56 .char (3 : Int32) [(.int u1), (.int (0 : Int32)), (.int (0 : Int32))] (.int (0 : Int32)) := V58
        refine Go.of (T' := T58) (f' := (mkF m 108 #[sI p1, sI p2, sI p3, sI p4, sI p5, sI p6, sI (Int32.ofNat nk), sI u1, sI u2, sI u3, sR b4, .unset, .unset, .unset, .unset, .unset, .unset, .unset, .unset, .unset, .unset, .unset, .unset, .unset, .unset] [(.ref b56)])) st58 ?_
        refine Go.of (T' := T58) (f' := (mkF m 109 #[sI p1, sI p2, sI p3, sI p4, sI p5, sI p6, sI (Int32.ofNat nk), sI u1, sI u2, sI u3, sR b4, .unset, .unset, .unset, .unset, .unset, .unset, .unset, .unset, .unset, .unset, .unset, .unset, .unset, .unset] [(.ref b56), (.ref b56)])) (fun _ k => XS.dup X58.here hx rfl (hb hby at_108) rfl rfl k) ?_
        refine Go.of (T' := T58) (f' := (mkF m 110 #[sI p1, sI p2, sI p3, sI p4, sI p5, sI p6, sI (Int32.ofNat nk), sI u1, sI u2, sI u3, sR b4, .unset, .unset, .unset, .unset, .unset, .unset, .unset, .unset, .unset, .unset, .unset, .unset, .unset, .unset] [(.int (1 : Int32)), (.ref b56), (.ref b56)])) (fun _ k => XS.iconst X58.here hx rfl (hb hby at_109) k) ?_
        refine Go.of (T' := T58) (f' := (mkF m 112 #[sI p1, sI p2, sI p3, sI p4, sI p5, sI p6, sI (Int32.ofNat nk), sI u1, sI u2, sI u3, sR b4, .unset, .unset, .unset, .unset, .unset, .unset, .unset, .unset, .unset, .unset, .unset, .unset, .unset, .unset] [(.int u2), (.int (1 : Int32)), (.ref b56), (.ref b56)])) (fun _ k => XS.iload X58.here hx rfl (hb hby at_110) rfl k) ?_
        obtain ⟨cl60, Ar60, cq60, Sz60, Nn60, Hs60, Gs60⟩ := id V_b56
        have hin60 : ¬ ((1 : Int32) < 0 ∨ cl60.slots.size ≤ ((1 : Int32)).toNatClampNeg) := inb_of Sz60 ⟨by decide, by decide⟩
        obtain ⟨T60, h60, X60, e60, W60, st60⟩ := stC X58 hx hZ e58 Ar60 (j := (1 : Int32)) hin60 (g := (mkF m 112 #[sI p1, sI p2, sI p3, sI p4, sI p5, sI p6, sI (Int32.ofNat nk), sI u1, sI u2, sI u3, sR b4, .unset, .unset, .unset, .unset, .unset, .unset, .unset, .unset, .unset, .unset, .unset, .unset, .unset, .unset] [(.int u2), (.int (1 : Int32)), (.ref b56), (.ref b56)])) rfl rfl (hb hby at_112)
        have fq60 : fits .char (.int (nar .char u2)) = true := fits_nar_char _
        rw [show nar .char u2 = u2 from nar_rng hu2] at W60 fq60
        have V60 := Arv.set Ar60 cq60 Sz60 Nn60 Hs60 Gs60 fq60 W60 1 rfl (Nat.le_of_ble_eq_true rfl)
        have V_b56_o := V_b56
        have K60 := Keep.of_wr W60
        have M60 := M58.wr W60 (Or.inr fr_b56)
        replace hk := Nat.le_trans hk (K60).1
        have hq61 : ∀ x ∈ ([b56] : List Addr), Safe Z consts_1 s.vm h58 x := (sfS Sf_b56 sf0)
        have hs61 := CHr.keep (K60) hq61 RH.1
        replace Sf_b4 := Safe.keep (K60) hq61 RH.1 Sf_b4
        replace Sf_b56 := Safe.keep (K60) hq61 RH.1 Sf_b56
        replace RH := RH.trans hs61
        replace Z_ad := StaKeep Z_ad K60 (allS (staArv V_b56_o) all0)
        replace Z_hs := StaKeep Z_hs K60 (allS (staArv V_b56_o) all0)
        replace Z_ls := StaKeep Z_ls K60 (allS (staArv V_b56_o) all0)
        replace Z_fm := StaKeep Z_fm K60 (allS (staArv V_b56_o) all0)
        replace Z_cs := StaKeep Z_cs K60 (allS (staArv V_b56_o) all0)
        replace V_b4 := V_b4.keep K60 (ninS ne_b4_b56 nin0)
        replace V_b56 : Arv Z h60 b56 k56 .char (3 : Int32) [(.int u1), (.int u2), (.int (0 : Int32))] (.int (0 : Int32)) := V60
        refine Go.of (T' := T60) (f' := (mkF m 113 #[sI p1, sI p2, sI p3, sI p4, sI p5, sI p6, sI (Int32.ofNat nk), sI u1, sI u2, sI u3, sR b4, .unset, .unset, .unset, .unset, .unset, .unset, .unset, .unset, .unset, .unset, .unset, .unset, .unset, .unset] [(.ref b56)])) st60 ?_
        refine Go.of (T' := T60) (f' := (mkF m 114 #[sI p1, sI p2, sI p3, sI p4, sI p5, sI p6, sI (Int32.ofNat nk), sI u1, sI u2, sI u3, sR b4, .unset, .unset, .unset, .unset, .unset, .unset, .unset, .unset, .unset, .unset, .unset, .unset, .unset, .unset] [(.ref b56), (.ref b56)])) (fun _ k => XS.dup X60.here hx rfl (hb hby at_113) rfl rfl k) ?_
        refine Go.of (T' := T60) (f' := (mkF m 115 #[sI p1, sI p2, sI p3, sI p4, sI p5, sI p6, sI (Int32.ofNat nk), sI u1, sI u2, sI u3, sR b4, .unset, .unset, .unset, .unset, .unset, .unset, .unset, .unset, .unset, .unset, .unset, .unset, .unset, .unset] [(.int (2 : Int32)), (.ref b56), (.ref b56)])) (fun _ k => XS.iconst X60.here hx rfl (hb hby at_114) k) ?_
        refine Go.of (T' := T60) (f' := (mkF m 117 #[sI p1, sI p2, sI p3, sI p4, sI p5, sI p6, sI (Int32.ofNat nk), sI u1, sI u2, sI u3, sR b4, .unset, .unset, .unset, .unset, .unset, .unset, .unset, .unset, .unset, .unset, .unset, .unset, .unset, .unset] [(.int u3), (.int (2 : Int32)), (.ref b56), (.ref b56)])) (fun _ k => XS.iload X60.here hx rfl (hb hby at_115) rfl k) ?_
        obtain ⟨cl62, Ar62, cq62, Sz62, Nn62, Hs62, Gs62⟩ := id V_b56
        have hin62 : ¬ ((2 : Int32) < 0 ∨ cl62.slots.size ≤ ((2 : Int32)).toNatClampNeg) := inb_of Sz62 ⟨by decide, by decide⟩
        obtain ⟨T62, h62, X62, e62, W62, st62⟩ := stC X60 hx hZ e60 Ar62 (j := (2 : Int32)) hin62 (g := (mkF m 117 #[sI p1, sI p2, sI p3, sI p4, sI p5, sI p6, sI (Int32.ofNat nk), sI u1, sI u2, sI u3, sR b4, .unset, .unset, .unset, .unset, .unset, .unset, .unset, .unset, .unset, .unset, .unset, .unset, .unset, .unset] [(.int u3), (.int (2 : Int32)), (.ref b56), (.ref b56)])) rfl rfl (hb hby at_117)
        have fq62 : fits .char (.int (nar .char u3)) = true := fits_nar_char _
        rw [show nar .char u3 = u3 from nar_rng hu3] at W62 fq62
        have V62 := Arv.set Ar62 cq62 Sz62 Nn62 Hs62 Gs62 fq62 W62 2 rfl (Nat.le_of_ble_eq_true rfl)
        have V_b56_o := V_b56
        have K62 := Keep.of_wr W62
        have M62 := M60.wr W62 (Or.inr fr_b56)
        replace hk := Nat.le_trans hk (K62).1
        have hq63 : ∀ x ∈ ([b56] : List Addr), Safe Z consts_1 s.vm h60 x := (sfS Sf_b56 sf0)
        have hs63 := CHr.keep (K62) hq63 RH.1
        replace Sf_b4 := Safe.keep (K62) hq63 RH.1 Sf_b4
        replace Sf_b56 := Safe.keep (K62) hq63 RH.1 Sf_b56
        replace RH := RH.trans hs63
        replace Z_ad := StaKeep Z_ad K62 (allS (staArv V_b56_o) all0)
        replace Z_hs := StaKeep Z_hs K62 (allS (staArv V_b56_o) all0)
        replace Z_ls := StaKeep Z_ls K62 (allS (staArv V_b56_o) all0)
        replace Z_fm := StaKeep Z_fm K62 (allS (staArv V_b56_o) all0)
        replace Z_cs := StaKeep Z_cs K62 (allS (staArv V_b56_o) all0)
        replace V_b4 := V_b4.keep K62 (ninS ne_b4_b56 nin0)
        replace V_b56 : Arv Z h62 b56 k56 .char (3 : Int32) [(.int u1), (.int u2), (.int u3)] (.int (0 : Int32)) := V62
        refine Go.of (T' := T62) (f' := (mkF m 118 #[sI p1, sI p2, sI p3, sI p4, sI p5, sI p6, sI (Int32.ofNat nk), sI u1, sI u2, sI u3, sR b4, .unset, .unset, .unset, .unset, .unset, .unset, .unset, .unset, .unset, .unset, .unset, .unset, .unset, .unset] [(.ref b56)])) st62 ?_
        refine Go.of (T' := T62) (f' := (mkF m 120 #[sI p1, sI p2, sI p3, sI p4, sI p5, sI p6, sI (Int32.ofNat nk), sI u1, sI u2, sI u3, sR b4, sR b56, .unset, .unset, .unset, .unset, .unset, .unset, .unset, .unset, .unset, .unset, .unset, .unset, .unset] [])) (fun _ k => XS.astore X62.here hx rfl (hb hby at_118) rfl rfl (l' := #[sI p1, sI p2, sI p3, sI p4, sI p5, sI p6, sI (Int32.ofNat nk), sI u1, sI u2, sI u3, sR b4, sR b56, .unset, .unset, .unset, .unset, .unset, .unset, .unset, .unset, .unset, .unset, .unset, .unset, .unset]) rfl k) ?_
        exact J12 T62 h62 _ b56 k56 [u1, u2, u3] (standUp X62 (by decide) (by decide)) e62 M62 RH hk Z_ad Z_hs Z_ls Z_fm Z_cs V_b4 (by rw [show nk = 3 from tk3 hnk hc46 hc60 hc79]; rfl) fr_b56 ne_b4_b56 V_b56
set_option maxRecDepth 65536 in
set_option maxHeartbeats 40000000 in
theorem comes_1 {Post : Tables → Env → Array Value → State → Outcome → State → Prop} (hpost : ∀ tb e args s v u, (limb_1_1.after args s (.returned v) u = true ∧ limb_1_2.after args s (.returned v) u = true ∧ True) → ReturnedEndW s (.returned v) u (Jvm.fieldLocs frame_1_writes args s ++ Jvm.arrayLocs frame_1_arrays args s ++ Jvm.staticLocs frame_1_statics s) 48 4288 → Post tb e args s (.returned v) u) :
    ArmFor flags0 classFile x code maxLocals ret World_1 tables_1 room_1 Calls_1 rest_1 Pre_1 Post := by
  intro l hfl _ _ p e ha hc hk s m args below hf hA hF happ hP
  obtain ⟨hcalls, hrest, hpre⟩ := hP
  obtain ⟨-, -, -, hnamed, -, -, -, hat⟩ := (Spec.applies_iff hf).mp happ
  obtain ⟨hg, hn⟩ := and_e (Cond.before_iff.mp (show (Jvm.Cond.and given_1 narrow_1).before args s = true from hpre))
  obtain ⟨g1, g2⟩ := and_e hg
  obtain ⟨g3, g4⟩ := and_e g2
  obtain ⟨g5, g6⟩ := and_e g4
  obtain ⟨g7, g8⟩ := and_e g6
  obtain ⟨g9, g10⟩ := and_e g8
  obtain ⟨g11, g12⟩ := and_e g10
  obtain ⟨w0, w1, w2, w3, w4, w5, rfl⟩ : ∃ w0 w1 w2 w3 w4 w5 : Value, args = #[w0, w1, w2, w3, w4, w5] := by
    have hs : args.size = 6 := by simpa [Cond.value, given_1] using g1
    obtain ⟨L⟩ := args
    match L, hs with
    | [w0, w1, w2, w3, w4, w5], _ => exact ⟨w0, w1, w2, w3, w4, w5, rfl⟩
  have hw := fun d (hd : d ∈ tables_1) => atoms_spec (ws := Jvm.Cond.code x code maxLocals ret :: tables_1) hat d (List.mem_cons_of_mem _ hd)
  have hfit : Fit s := fun {y c} hc i hi => by
    obtain ⟨ha, rfl⟩ := Array.getElem?_eq_some_iff.mp hc
    have q := List.all_eq_true.mp ((Array.all_eq_true_iff_forall_mem.mp hF) _ (Array.getElem_mem ha)) i (List.mem_range.mpr hi)
    simpa [Array.getElem?_eq_getElem hi] using q
  obtain ⟨hsets, hown0⟩ := atoms_of _ (rest_1_c_eq ▸ (show rest_1_c.before _ s = true from hrest))
  have hr0 := Cond.before_iff.mp hown0
  obtain ⟨i0, ei0⟩ := is_v g3
  obtain rfl : w0 = (.int i0) := Option.some.inj ei0
  obtain ⟨i1, ei1⟩ := is_v g5
  obtain rfl : w1 = (.int i1) := Option.some.inj ei1
  obtain ⟨i2, ei2⟩ := is_v g7
  obtain rfl : w2 = (.int i2) := Option.some.inj ei2
  obtain ⟨i3, ei3⟩ := is_v g9
  obtain rfl : w3 = (.int i3) := Option.some.inj ei3
  obtain ⟨i4, ei4⟩ := is_v g11
  obtain rfl : w4 = (.int i4) := Option.some.inj ei4
  obtain ⟨i5, ei5⟩ := is_v g12
  obtain rfl : w5 = (.int i5) := Option.some.inj ei5
  have H0 : CHv s consts_1 s.vm s.heap := CHv.start (hEL_1 hw) (fun p hp => hcalls.1 p hp) (hsets _ (List.mem_of_getElem? (i := 2) rfl)) (hw _ (List.mem_of_getElem? (i := 26) rfl)) (hw _ (List.mem_of_getElem? (i := 9) rfl))
  have n3 := not_v (Cond.before_iff.mp (hsets _ (List.mem_of_getElem? (i := 2) rfl)))
  obtain ⟨zc, ezc⟩ := is_v (Cond.before_iff.mp (hsets _ (List.mem_of_getElem? (i := 1) rfl)))
  have Z_cs : Sta s s.heap "java/lang/String" "COMPACT_STRINGS" "Z" (.int zc) := Sta.start ezc (Or.inl (hsets _ (List.mem_of_getElem? (i := 0) rfl)))
  have hz : ¬ (zc = (0 : Int32)) := gotF (Cond.eq_ints ezc (Term.int_eval (0))) n3
  obtain ⟨fm, efm, hfm⟩ := isR_v (Cond.before_iff.mp (hsets _ (List.mem_of_getElem? (i := 8) rfl)))
  have Z_fm : Sta s s.heap "jdk/internal/util/Preconditions" "SIOOBE_FORMATTER" "Ljava/util/function/BiFunction;" fm := Sta.start efm (Or.inl (hsets _ (List.mem_of_getElem? (i := 7) rfl)))
  have eZ_ad := eqInt (hsets _ (List.mem_of_getElem? (i := 12) rfl))
  have Z_ad : Sta s s.heap "java/lang/StringUTF16" "$assertionsDisabled" "Z" (.int (1 : Int32)) := Sta.start eZ_ad (Or.inl (hsets _ (List.mem_of_getElem? (i := 11) rfl)))
  have eZ_hs := eqInt (hsets _ (List.mem_of_getElem? (i := 15) rfl))
  have Z_hs : Sta s s.heap "java/lang/StringUTF16" "HI_BYTE_SHIFT" "I" (.int (0 : Int32)) := Sta.start eZ_hs (Or.inl (hsets _ (List.mem_of_getElem? (i := 14) rfl)))
  have eZ_ls := eqInt (hsets _ (List.mem_of_getElem? (i := 18) rfl))
  have Z_ls : Sta s s.heap "java/lang/StringUTF16" "LO_BYTE_SHIFT" "I" (.int (8 : Int32)) := Sta.start eZ_ls (Or.inl (hsets _ (List.mem_of_getElem? (i := 17) rfl)))
  obtain ⟨n, o, h1, h2, h3, _, L, rfl, ⟨rfl, M⟩, _, hq⟩ := rm_law l s _ hw i0 i1 i2 i3 i4 i5 zc fm s.heap Z_ad Z_hs Z_ls Z_fm hfm Z_cs hz tables_1 p e ha hc hk s m _ below hf ((Spec.applies_iff_loose hf).mp happ).1 ⟨rfl, State.Warmed39.refl s, rfl, H0⟩ trivial
  refine ⟨n, _, h1, h2, h3, hpost _ _ _ _ _ _ ⟨Cond.after_iff.mpr rfl, Cond.after_iff.mpr (eq_i res_at (Term.int_eval (1)) rfl), trivial⟩ ⟨hq.1, hq.2.1, hq.2.2.1, (hq.2.2.2.sift fun y hy => Or.inr (M.fr y hy)).mono (by decide) (by decide)⟩⟩
theorem main_1_1 : Claimed_1_1 := comes_1 fun _ _ _ _ _ _ h hF => ⟨h.1, hF⟩
theorem main_1_2 : Claimed_1_2 := comes_1 fun _ _ _ _ _ _ h hF => ⟨h.2.1, hF⟩
end Jvm.Pilot.@@N@@
namespace Jvm.Pilot.@@N@@
open Jvm Jvm.ClassFile Sem Op Lib Jvm.Free Jvm.Stand Jvm.Pilot.@@N@@.Jvm.D
/-! MADE BY PROGRAM (witnessworld.py) out of the Statement's table words and the real class files: 23 classes; the members and pool entries that the words name. The judged class is class 1, her method 4. -/
namespace start1
open Jvm.ClassFile
def u (s : String) : CpInfo := .utf8 (stringToUtf16 s)
/-- a pool by its gaps: so many unusable entries, then the entry; so many at the end -/
def gap : Nat → List CpInfo → List CpInfo
  | 0, r => r
  | n + 1, r => .unusable :: gap n r
def poolList (es : List (Nat × CpInfo)) (last : Nat) : List CpInfo := es.foldr (fun e r => gap e.1 (e.2 :: r)) (gap last [])
def pool (es : List (Nat × CpInfo)) (last : Nat) : Array CpInfo := ⟨poolList es last⟩
def fileOf (pool : Array CpInfo) (this : Nat) (attrs : Array Attribute := #[]) (ms : Array MethodInfo := #[]) (fl : Nat := 33) (sup : Nat := 0) (ifs : Array Nat := #[]) (fds : Array FieldInfo := #[]) : ClassFile where
  minorVersion := 0
  majorVersion := 65
  constantPool := pool
  accessFlags := fl
  thisClass := this
  superClass := sup
  interfaces := ifs
  fields := fds
  methods := ms
  attributes := attrs
def plain (name : String) (sup : Option ClassId) : Class where
  name := name
  kind := .ordinary
  loader := none
  accessFlags := 33
  super := sup
  interfaces := #[]
  cf := none
  fields := #[]
  methods := #[]
  instanceTypes := #[]
  staticTypes := #[]
  resolved := #[]
  callSites := []
  init := .initialized
  statics := none
  mirror := none

def pool0 : Array CpInfo := pool [(5, u "<init>"), (0, u "()V"), (1, .class_ 10), (1, u "java/lang/Object")] 113

def k0c0 : Code := { maxStack := 0, maxLocals := 1, code := object_method_1_code, exceptionTable := #[], attributes := #[] }
def k0m0 : Method := { name := "<init>", desc := "()V", sig := { parameters := [], returnType := none }, accessFlags := 1, code := some k0c0 }
/-- java/lang/Object -/
def k0 : Class := { plain "java/lang/Object" none with
  accessFlags := 33
  interfaces := #[]
  cf := some (fileOf pool0 8 #[] #[{ accessFlags := 1, nameIndex := 5, descriptorIndex := 6, attributes := #[] }] 33 0 #[] #[])
  fields := #[]
  methods := #[k0m0]
  instanceTypes := #[]
  staticTypes := #[]
  resolved := Array.replicate 124 none
  statics := none }

def pool1 : Array CpInfo := pool [(2, .class_ 4), (1, u "java/lang/Object"), (0, u "<init>"), (0, u "()V"), (0, .methodref 8 9), (0, .class_ 10), (0, .nameAndType 11 12), (0, u "com/example/rezeptkern/rezeptkern/JsonCursorSkipPinLaw"), (0, u "isWs"), (0, u "(C)Z"), (0, .methodref 8 14), (0, .nameAndType 15 16), (0, u "draw"), (0, u "(I)C"), (0, .class_ 18), (0, u "com/example/rezeptkern/rezeptkern/JsonCursor"), (0, .class_ 20), (0, u "java/lang/String"), (0, .methodref 19 22), (0, .nameAndType 5 23), (0, u "([C)V"), (0, .string 25), (0, u "t"), (0, .methodref 17 27), (0, .nameAndType 5 28), (0, u "(Ljava/lang/String;Ljava/lang/String;)V"), (0, .methodref 17 30), (0, .nameAndType 31 12), (0, u "skip"), (0, .methodref 17 33), (0, .nameAndType 34 35), (0, u "since"), (0, u "(I)Ljava/lang/String;"), (0, .methodref 19 37), (0, .nameAndType 38 39), (0, u "length"), (0, u "()I"), (0, .methodref 8 41), (0, .nameAndType 42 43), (0, u "ws"), (0, u "([CII)I"), (3, u "law"), (0, u "(IIIIII)Z")] 4

def k1m0 : Method := { name := "<init>", desc := "()V", sig := { parameters := [], returnType := none }, accessFlags := 1, code := none }
def k1c1 : Code := { maxStack := 2, maxLocals := 2, code := method_2_code, exceptionTable := #[], attributes := #[] }
def k1m1 : Method := { name := "draw", desc := "(I)C", sig := { parameters := [.int], returnType := some .char }, accessFlags := 10, code := some k1c1 }
def k1c2 : Code := { maxStack := 2, maxLocals := 1, code := method_3_code, exceptionTable := #[], attributes := #[] }
def k1m2 : Method := { name := "isWs", desc := "(C)Z", sig := { parameters := [.char], returnType := some .boolean }, accessFlags := 10, code := some k1c2 }
def k1c3 : Code := { maxStack := 2, maxLocals := 4, code := method_4_code, exceptionTable := #[], attributes := #[] }
def k1m3 : Method := { name := "ws", desc := "([CII)I", sig := { parameters := [(.array .char), .int, .int], returnType := some .int }, accessFlags := 10, code := some k1c3 }
def k1c4 : Code := { maxStack := 5, maxLocals := 25, code := code, exceptionTable := #[], attributes := #[] }
def k1m4 : Method := { name := "law", desc := "(IIIIII)Z", sig := { parameters := [.int, .int, .int, .int, .int, .int], returnType := some .boolean }, accessFlags := 9, code := some k1c4 }
/-- com/example/rezeptkern/rezeptkern/JsonCursorSkipPinLaw -/
def k1 : Class := { plain "com/example/rezeptkern/rezeptkern/JsonCursorSkipPinLaw" (some 0) with
  accessFlags := 49
  interfaces := #[]
  cf := some (fileOf pool1 8 #[] #[{ accessFlags := 1, nameIndex := 5, descriptorIndex := 6, attributes := #[] }, { accessFlags := 10, nameIndex := 15, descriptorIndex := 16, attributes := #[] }, { accessFlags := 10, nameIndex := 11, descriptorIndex := 12, attributes := #[] }, { accessFlags := 10, nameIndex := 42, descriptorIndex := 43, attributes := #[] }, { accessFlags := 9, nameIndex := 47, descriptorIndex := 48, attributes := #[] }] 49 2 #[] #[])
  fields := #[]
  methods := #[k1m0, k1m1, k1m2, k1m3, k1m4]
  instanceTypes := #[]
  staticTypes := #[]
  resolved := Array.replicate 53 none
  statics := none }

def pool2 : Array CpInfo := pool [(1, .methodref 2 3), (0, .class_ 4), (0, .nameAndType 5 6), (0, u "java/lang/Object"), (0, u "<init>"), (0, u "()V"), (0, .fieldref 8 9), (0, .class_ 10), (0, .nameAndType 11 12), (0, u "com/example/rezeptkern/rezeptkern/JsonCursor"), (0, u "text"), (0, u "Ljava/lang/String;"), (0, .methodref 14 15), (0, .class_ 16), (0, .nameAndType 17 18), (0, u "java/lang/String"), (0, u "toCharArray"), (0, u "()[C"), (0, .fieldref 8 20), (0, .nameAndType 21 22), (0, u "chars"), (0, u "[C"), (0, .fieldref 8 24), (0, .nameAndType 25 12), (0, u "name"), (2, u "skip"), (0, u "(C)Z"), (8, .methodref 8 39), (0, .nameAndType 40 6), (0, u "skipWhitespace"), (0, .fieldref 8 42), (0, .nameAndType 43 44), (0, u "position"), (0, u "I"), (24, .methodref 14 70), (0, .nameAndType 71 72), (0, u "substring"), (0, u "(II)Ljava/lang/String;"), (87, u "ESCAPES"), (1, u "HEX_DIGITS"), (0, u "END"), (0, u "DIGIT"), (0, u "AT_END"), (1, u "(Ljava/lang/String;Ljava/lang/String;)V"), (7, u "since"), (0, u "(I)Ljava/lang/String;")] 22

def k2c0 : Code := { maxStack := 2, maxLocals := 3, code := prog_33_method_1_code, exceptionTable := #[], attributes := #[] }
def k2m0 : Method := { name := "<init>", desc := "(Ljava/lang/String;Ljava/lang/String;)V", sig := { parameters := [(.object "java/lang/String"), (.object "java/lang/String")], returnType := none }, accessFlags := 0, code := some k2c0 }
def k2c1 : Code := { maxStack := 3, maxLocals := 2, code := prog_33_method_3_code, exceptionTable := #[], attributes := #[] }
def k2m1 : Method := { name := "skip", desc := "(C)Z", sig := { parameters := [.char], returnType := some .boolean }, accessFlags := 0, code := some k2c1 }
def k2c2 : Code := { maxStack := 3, maxLocals := 2, code := prog_33_method_13_code, exceptionTable := #[], attributes := #[] }
def k2m2 : Method := { name := "since", desc := "(I)Ljava/lang/String;", sig := { parameters := [.int], returnType := some (.object "java/lang/String") }, accessFlags := 0, code := some k2c2 }
def k2c3 : Code := { maxStack := 3, maxLocals := 2, code := prog_33_method_15_code, exceptionTable := #[], attributes := #[] }
def k2m3 : Method := { name := "skipWhitespace", desc := "()V", sig := { parameters := [], returnType := none }, accessFlags := 2, code := some k2c3 }
/-- com/example/rezeptkern/rezeptkern/JsonCursor -/
def k2 : Class := { plain "com/example/rezeptkern/rezeptkern/JsonCursor" (some 0) with
  accessFlags := 48
  interfaces := #[]
  cf := some (fileOf pool2 8 #[] #[{ accessFlags := 0, nameIndex := 5, descriptorIndex := 167, attributes := #[] }, { accessFlags := 0, nameIndex := 28, descriptorIndex := 29, attributes := #[] }, { accessFlags := 0, nameIndex := 175, descriptorIndex := 176, attributes := #[] }, { accessFlags := 2, nameIndex := 40, descriptorIndex := 6, attributes := #[] }] 48 2 #[] #[{ accessFlags := 26, nameIndex := 160, descriptorIndex := 12, attributes := #[] }, { accessFlags := 26, nameIndex := 162, descriptorIndex := 12, attributes := #[] }, { accessFlags := 26, nameIndex := 163, descriptorIndex := 12, attributes := #[] }, { accessFlags := 26, nameIndex := 164, descriptorIndex := 12, attributes := #[] }, { accessFlags := 24, nameIndex := 165, descriptorIndex := 44, attributes := #[] }, { accessFlags := 18, nameIndex := 11, descriptorIndex := 12, attributes := #[] }, { accessFlags := 18, nameIndex := 21, descriptorIndex := 22, attributes := #[] }, { accessFlags := 18, nameIndex := 25, descriptorIndex := 12, attributes := #[] }, { accessFlags := 2, nameIndex := 43, descriptorIndex := 44, attributes := #[] }])
  fields := #[{ name := "ESCAPES", type := (.object "java/lang/String"), accessFlags := 26, slot := 0, constantValue := 0 }, { name := "HEX_DIGITS", type := (.object "java/lang/String"), accessFlags := 26, slot := 1, constantValue := 0 }, { name := "END", type := (.object "java/lang/String"), accessFlags := 26, slot := 2, constantValue := 0 }, { name := "DIGIT", type := (.object "java/lang/String"), accessFlags := 26, slot := 3, constantValue := 0 }, { name := "AT_END", type := .int, accessFlags := 24, slot := 4, constantValue := 0 }, { name := "text", type := (.object "java/lang/String"), accessFlags := 18, slot := 0, constantValue := 0 }, { name := "chars", type := (.array .char), accessFlags := 18, slot := 1, constantValue := 0 }, { name := "name", type := (.object "java/lang/String"), accessFlags := 18, slot := 2, constantValue := 0 }, { name := "position", type := .int, accessFlags := 2, slot := 3, constantValue := 0 }]
  methods := #[k2m0, k2m1, k2m2, k2m3]
  instanceTypes := #[(.object "java/lang/String"), (.array .char), (.object "java/lang/String"), .int]
  staticTypes := #[(.object "java/lang/String"), (.object "java/lang/String"), (.object "java/lang/String"), (.object "java/lang/String"), .int]
  resolved := Array.replicate 199 none
  statics := none }

def pool3 : Array CpInfo := pool [(1, .class_ 2), (0, u "java/io/Serializable"), (0, .class_ 4), (0, u "java/lang/Object")] 2

/-- java/io/Serializable -/
def k3 : Class := { plain "java/io/Serializable" (some 0) with
  accessFlags := 1537
  interfaces := #[]
  cf := some (fileOf pool3 1 #[] #[] 1537 3 #[] #[])
  fields := #[]
  methods := #[]
  instanceTypes := #[]
  staticTypes := #[]
  resolved := Array.replicate 7 none
  statics := none }

def pool4 : Array CpInfo := pool [(1, .class_ 2), (0, u "java/lang/Comparable"), (0, .class_ 4), (0, u "java/lang/Object")] 7

/-- java/lang/Comparable -/
def k4 : Class := { plain "java/lang/Comparable" (some 0) with
  accessFlags := 1537
  interfaces := #[]
  cf := some (fileOf pool4 1 #[] #[] 1537 3 #[] #[])
  fields := #[]
  methods := #[]
  instanceTypes := #[]
  staticTypes := #[]
  resolved := Array.replicate 12 none
  statics := none }

def pool5 : Array CpInfo := pool [(2, .class_ 4), (1, u "java/lang/CharSequence"), (42, .class_ 48), (0, u "java/lang/CharSequence$1CodePointIterator"), (10, .class_ 60), (0, u "java/lang/CharSequence$1CharIterator"), (5, .class_ 67), (0, u "java/lang/Object")] 63

/-- java/lang/CharSequence -/
def k5 : Class := { plain "java/lang/CharSequence" (some 0) with
  accessFlags := 1537
  interfaces := #[]
  cf := some (fileOf pool5 2 #[.nestMembers #[47, 59]] #[] 1537 66 #[] #[])
  fields := #[]
  methods := #[]
  instanceTypes := #[]
  staticTypes := #[]
  resolved := Array.replicate 131 none
  statics := none }

def pool6 : Array CpInfo := pool [(1, .class_ 2), (0, u "java/lang/constant/Constable"), (0, .class_ 4), (0, u "java/lang/Object")] 6

/-- java/lang/constant/Constable -/
def k6 : Class := { plain "java/lang/constant/Constable" (some 0) with
  accessFlags := 1537
  interfaces := #[]
  cf := some (fileOf pool6 1 #[] #[] 1537 3 #[] #[])
  fields := #[]
  methods := #[]
  instanceTypes := #[]
  staticTypes := #[]
  resolved := Array.replicate 11 none
  statics := none }

def pool7 : Array CpInfo := pool [(1, .class_ 2), (0, u "java/lang/constant/ConstantDesc"), (0, .class_ 4), (0, u "java/lang/Object")] 32

/-- java/lang/constant/ConstantDesc -/
def k7 : Class := { plain "java/lang/constant/ConstantDesc" (some 0) with
  accessFlags := 1537
  interfaces := #[]
  cf := some (fileOf pool7 1 #[] #[] 1537 3 #[] #[])
  fields := #[]
  methods := #[]
  instanceTypes := #[]
  staticTypes := #[]
  resolved := Array.replicate 37 none
  statics := none }

def pool8 : Array CpInfo := pool [(1, .methodref 2 3), (0, .class_ 4), (0, .nameAndType 5 6), (0, u "java/lang/Object"), (0, u "<init>"), (0, u "()V"), (0, .string 8), (0, u ""), (0, .fieldref 10 11), (0, .class_ 12), (0, .nameAndType 13 14), (0, u "java/lang/String"), (0, u "value"), (0, u "[B"), (0, .fieldref 10 16), (0, .nameAndType 17 18), (0, u "coder"), (0, u "B"), (2, u "hash"), (0, u "I"), (2, u "hashIsZero"), (0, u "Z"), (0, .methodref 10 28), (0, .nameAndType 5 29), (0, u "([CIILjava/lang/Void;)V"), (6, u "checkBoundsOffCount"), (0, u "(III)I"), (0, .fieldref 10 39), (0, .nameAndType 40 26), (0, u "COMPACT_STRINGS"), (1, .class_ 44), (1, u "java/lang/StringUTF16"), (0, u "compress"), (1, .methodref 42 48), (0, .nameAndType 49 50), (0, u "coderFromArrayLen"), (0, u "([BI)B"), (56, .class_ 109), (1, u "java/lang/StringLatin1"), (32, u "()Z"), (34, .methodref 42 178), (0, .nameAndType 45 179), (0, u "([CII)[B"), (31, u "([BB)V"), (87, .methodref 107 300), (0, .nameAndType 301 302), (0, u "toChars"), (0, u "([B)[C"), (0, .methodref 42 300), (30, u "()I"), (0, .methodref 10 336), (0, .nameAndType 17 337), (0, u "()B"), (154, .methodref 10 493), (0, .nameAndType 494 142), (0, u "isLatin1"), (10, .methodref 10 506), (0, .nameAndType 507 334), (0, u "length"), (5, u "checkFromToIndex"), (7, .methodref 10 522), (0, .nameAndType 523 524), (0, u "checkBoundsBeginEnd"), (0, u "(III)V"), (50, .class_ 576), (0, u "java/lang/CharSequence"), (22, u "CASE_INSENSITIVE_ORDER"), (0, u "Ljava/util/Comparator;"), (82, u "substring"), (0, u "(II)Ljava/lang/String;"), (0, .methodref 107 686), (0, .nameAndType 687 688), (0, u "newString"), (0, u "([BII)Ljava/lang/String;"), (0, .methodref 42 686), (265, u "toCharArray"), (0, u "()[C"), (53, u "([C)V"), (42, .fieldref 1054 1055), (0, .class_ 1056), (0, .nameAndType 1057 1058), (0, u "jdk/internal/util/Preconditions"), (0, u "SIOOBE_FORMATTER"), (0, u "Ljava/util/function/BiFunction;"), (3, .methodref 1054 1063), (0, .nameAndType 513 1064), (0, u "(IIILjava/util/function/BiFunction;)I"), (0, .methodref 1054 1066), (0, .nameAndType 1067 1064), (0, u "checkFromIndexSize"), (33, u "serialPersistentFields"), (0, u "[Ljava/io/ObjectStreamField;"), (0, .class_ 1104), (0, u "java/lang/String$CaseInsensitiveComparator"), (1, .class_ 1107), (0, u "java/io/Serializable"), (0, .class_ 1109), (0, u "java/lang/Comparable"), (0, .class_ 1111), (0, u "java/lang/constant/Constable"), (0, .class_ 1113), (0, u "java/lang/constant/ConstantDesc"), (2, u "serialVersionUID"), (0, u "J"), (3, u "REPL"), (0, u "C"), (2, u "LATIN1"), (1, u "UTF16")] 323

def k8m0 : Method := { name := "<init>", desc := "()V", sig := { parameters := [], returnType := none }, accessFlags := 1, code := none }
def k8c1 : Code := { maxStack := 5, maxLocals := 2, code := jdk_42_method_3_code, exceptionTable := #[], attributes := #[] }
def k8m1 : Method := { name := "<init>", desc := "([C)V", sig := { parameters := [(.array .char)], returnType := none }, accessFlags := 1, code := some k8c1 }
def k8c2 : Code := { maxStack := 2, maxLocals := 1, code := jdk_42_method_54_code, exceptionTable := #[], attributes := #[] }
def k8m2 : Method := { name := "length", desc := "()I", sig := { parameters := [], returnType := some .int }, accessFlags := 1, code := some k8c2 }
def k8c3 : Code := { maxStack := 3, maxLocals := 5, code := jdk_42_method_92_code, exceptionTable := #[], attributes := #[] }
def k8m3 : Method := { name := "substring", desc := "(II)Ljava/lang/String;", sig := { parameters := [.int, .int], returnType := some (.object "java/lang/String") }, accessFlags := 1, code := some k8c3 }
def k8c4 : Code := { maxStack := 1, maxLocals := 1, code := jdk_42_method_129_code, exceptionTable := #[], attributes := #[] }
def k8m4 : Method := { name := "toCharArray", desc := "()[C", sig := { parameters := [], returnType := some (.array .char) }, accessFlags := 1, code := some k8c4 }
def k8c5 : Code := { maxStack := 4, maxLocals := 6, code := jdk_42_method_149_code, exceptionTable := #[], attributes := #[] }
def k8m5 : Method := { name := "<init>", desc := "([CIILjava/lang/Void;)V", sig := { parameters := [(.array .char), .int, .int, (.object "java/lang/Void")], returnType := none }, accessFlags := 2, code := some k8c5 }
def k8c6 : Code := { maxStack := 2, maxLocals := 3, code := jdk_42_method_151_code, exceptionTable := #[], attributes := #[] }
def k8m6 : Method := { name := "<init>", desc := "([BB)V", sig := { parameters := [(.array .byte), .byte], returnType := none }, accessFlags := 0, code := some k8c6 }
def k8c7 : Code := { maxStack := 1, maxLocals := 1, code := jdk_42_method_152_code, exceptionTable := #[], attributes := #[] }
def k8m7 : Method := { name := "coder", desc := "()B", sig := { parameters := [], returnType := some .byte }, accessFlags := 0, code := some k8c7 }
def k8c8 : Code := { maxStack := 1, maxLocals := 1, code := jdk_42_method_154_code, exceptionTable := #[], attributes := #[] }
def k8m8 : Method := { name := "isLatin1", desc := "()Z", sig := { parameters := [], returnType := some .boolean }, accessFlags := 0, code := some k8c8 }
def k8c9 : Code := { maxStack := 4, maxLocals := 3, code := jdk_42_method_157_code, exceptionTable := #[], attributes := #[] }
def k8m9 : Method := { name := "checkBoundsOffCount", desc := "(III)I", sig := { parameters := [.int, .int, .int], returnType := some .int }, accessFlags := 8, code := some k8c9 }
def k8c10 : Code := { maxStack := 4, maxLocals := 3, code := jdk_42_method_158_code, exceptionTable := #[], attributes := #[] }
def k8m10 : Method := { name := "checkBoundsBeginEnd", desc := "(III)V", sig := { parameters := [.int, .int, .int], returnType := none }, accessFlags := 8, code := some k8c10 }
/-- java/lang/String -/
def k8 : Class := { plain "java/lang/String" (some 0) with
  accessFlags := 49
  interfaces := #[3, 4, 5, 6, 7]
  cf := some (fileOf pool8 10 #[.nestMembers #[1103]] #[{ accessFlags := 1, nameIndex := 5, descriptorIndex := 6, attributes := #[] }, { accessFlags := 1, nameIndex := 5, descriptorIndex := 1010, attributes := #[] }, { accessFlags := 1, nameIndex := 507, descriptorIndex := 334, attributes := #[] }, { accessFlags := 1, nameIndex := 683, descriptorIndex := 684, attributes := #[] }, { accessFlags := 1, nameIndex := 955, descriptorIndex := 956, attributes := #[] }, { accessFlags := 2, nameIndex := 5, descriptorIndex := 29, attributes := #[] }, { accessFlags := 0, nameIndex := 5, descriptorIndex := 211, attributes := #[] }, { accessFlags := 0, nameIndex := 17, descriptorIndex := 337, attributes := #[] }, { accessFlags := 0, nameIndex := 494, descriptorIndex := 142, attributes := #[] }, { accessFlags := 8, nameIndex := 36, descriptorIndex := 37, attributes := #[] }, { accessFlags := 8, nameIndex := 523, descriptorIndex := 524, attributes := #[] }] 49 2 #[1106, 1108, 575, 1110, 1112] #[{ accessFlags := 18, nameIndex := 13, descriptorIndex := 14, attributes := #[] }, { accessFlags := 18, nameIndex := 17, descriptorIndex := 18, attributes := #[] }, { accessFlags := 2, nameIndex := 21, descriptorIndex := 22, attributes := #[] }, { accessFlags := 2, nameIndex := 25, descriptorIndex := 26, attributes := #[] }, { accessFlags := 26, nameIndex := 1116, descriptorIndex := 1117, attributes := #[] }, { accessFlags := 24, nameIndex := 40, descriptorIndex := 26, attributes := #[] }, { accessFlags := 26, nameIndex := 1101, descriptorIndex := 1102, attributes := #[] }, { accessFlags := 26, nameIndex := 1121, descriptorIndex := 1122, attributes := #[] }, { accessFlags := 25, nameIndex := 599, descriptorIndex := 600, attributes := #[] }, { accessFlags := 24, nameIndex := 1125, descriptorIndex := 18, attributes := #[] }, { accessFlags := 24, nameIndex := 1127, descriptorIndex := 18, attributes := #[] }])
  fields := #[{ name := "value", type := (.array .byte), accessFlags := 18, slot := 0, constantValue := 0 }, { name := "coder", type := .byte, accessFlags := 18, slot := 1, constantValue := 0 }, { name := "hash", type := .int, accessFlags := 2, slot := 2, constantValue := 0 }, { name := "hashIsZero", type := .boolean, accessFlags := 2, slot := 3, constantValue := 0 }, { name := "serialVersionUID", type := .long, accessFlags := 26, slot := 0, constantValue := 0 }, { name := "COMPACT_STRINGS", type := .boolean, accessFlags := 24, slot := 1, constantValue := 0 }, { name := "serialPersistentFields", type := (.array (.object "java/io/ObjectStreamField")), accessFlags := 26, slot := 2, constantValue := 0 }, { name := "REPL", type := .char, accessFlags := 26, slot := 3, constantValue := 0 }, { name := "CASE_INSENSITIVE_ORDER", type := (.object "java/util/Comparator"), accessFlags := 25, slot := 4, constantValue := 0 }, { name := "LATIN1", type := .byte, accessFlags := 24, slot := 5, constantValue := 0 }, { name := "UTF16", type := .byte, accessFlags := 24, slot := 6, constantValue := 0 }]
  methods := #[k8m0, k8m1, k8m2, k8m3, k8m4, k8m5, k8m6, k8m7, k8m8, k8m9, k8m10]
  instanceTypes := #[(.array .byte), .byte, .int, .boolean]
  staticTypes := #[.long, .boolean, (.array (.object "java/io/ObjectStreamField")), .char, (.object "java/util/Comparator"), .byte, .byte]
  resolved := Array.replicate 1451 none
  statics := some 0 }

def pool9 : Array CpInfo := pool [(3, .class_ 4), (0, u "java/lang/String"), (1, .class_ 8), (1, u "java/lang/Object"), (0, u "<init>"), (0, u "()V"), (0, .methodref 12 13), (0, .class_ 14), (0, .nameAndType 15 16), (0, u "java/lang/StringUTF16"), (0, u "newBytesLength"), (0, u "(I)I"), (3, .integer 1073741823), (23, .fieldref 12 45), (0, .nameAndType 46 47), (0, u "$assertionsDisabled"), (0, u "Z"), (0, .methodref 12 49), (0, .nameAndType 50 51), (0, u "length"), (0, u "([B)I"), (7, .fieldref 12 60), (0, .nameAndType 61 62), (0, u "HI_BYTE_SHIFT"), (0, u "I"), (0, .fieldref 12 64), (0, .nameAndType 65 62), (0, u "LO_BYTE_SHIFT"), (5, .methodref 12 72), (0, .nameAndType 73 74), (0, u "getChar"), (0, u "([BI)C"), (24, u "(II[B)V"), (3, .methodref 12 104), (0, .nameAndType 105 106), (0, u "getChars"), (0, u "([BII[CI)V"), (0, .methodref 12 108), (0, .nameAndType 109 110), (0, u "newBytesFor"), (0, u "(I)[B"), (0, .methodref 12 112), (0, .nameAndType 113 114), (0, u "putChar"), (0, u "([BII)V"), (0, .methodref 12 116), (0, .nameAndType 117 118), (0, u "compress"), (0, u "([CI[BII)I"), (0, .methodref 12 120), (0, .nameAndType 121 122), (0, u "toBytes"), (0, u "([CII)[B"), (0, .methodref 12 124), (0, .nameAndType 117 125), (0, u "([BI[BII)I"), (0, .methodref 127 128), (0, .class_ 129), (0, .nameAndType 130 131), (0, u "java/util/Arrays"), (0, u "copyOfRange"), (0, u "([BII)[B"), (41, .methodref 12 174), (0, .nameAndType 175 99), (0, u "checkBoundsOffCount"), (75, .fieldref 3 252), (0, .nameAndType 253 47), (0, u "COMPACT_STRINGS"), (3, .methodref 12 258), (0, .nameAndType 117 131), (0, .methodref 12 260), (0, .nameAndType 261 262), (0, u "coderFromArrayLen"), (0, u "([BI)B"), (0, .methodref 3 264), (0, .nameAndType 9 265), (0, u "([BB)V"), (15, u "(III)I"), (13, .string 296), (0, u ""), (30, u "newString"), (0, u "([BII)Ljava/lang/String;"), (13, u "toChars"), (26, .class_ 371), (1, u "java/lang/StringUTF16$LinesSpliterator"), (47, .methodref 3 420), (0, .nameAndType 175 281), (9, u "MAX_LENGTH"), (23, u "([B)[C"), (172, .class_ 628), (0, u "java/lang/StringUTF16$CodePointsSpliterator"), (0, .class_ 630), (0, u "java/lang/StringUTF16$CharsSpliterator")] 4

def k9m0 : Method := { name := "<init>", desc := "()V", sig := { parameters := [], returnType := none }, accessFlags := 0, code := none }
def k9c1 : Code := { maxStack := 1, maxLocals := 1, code := jdk_52_method_2_code, exceptionTable := #[], attributes := #[] }
def k9m1 : Method := { name := "newBytesFor", desc := "(I)[B", sig := { parameters := [.int], returnType := some (.array .byte) }, accessFlags := 9, code := some k9c1 }
def k9c2 : Code := { maxStack := 4, maxLocals := 1, code := jdk_52_method_3_code, exceptionTable := #[], attributes := #[] }
def k9m2 : Method := { name := "newBytesLength", desc := "(I)I", sig := { parameters := [.int], returnType := some .int }, accessFlags := 9, code := some k9c2 }
def k9c3 : Code := { maxStack := 4, maxLocals := 3, code := jdk_52_method_4_code, exceptionTable := #[], attributes := #[] }
def k9m3 : Method := { name := "putChar", desc := "([BII)V", sig := { parameters := [(.array .byte), .int, .int], returnType := none }, accessFlags := 8, code := some k9c3 }
def k9c4 : Code := { maxStack := 3, maxLocals := 2, code := jdk_52_method_5_code, exceptionTable := #[], attributes := #[] }
def k9m4 : Method := { name := "getChar", desc := "([BI)C", sig := { parameters := [(.array .byte), .int], returnType := some .char }, accessFlags := 8, code := some k9c4 }
def k9c5 : Code := { maxStack := 2, maxLocals := 1, code := jdk_52_method_6_code, exceptionTable := #[], attributes := #[] }
def k9m5 : Method := { name := "length", desc := "([B)I", sig := { parameters := [(.array .byte)], returnType := some .int }, accessFlags := 9, code := some k9c5 }
def k9c6 : Code := { maxStack := 5, maxLocals := 2, code := jdk_52_method_13_code, exceptionTable := #[], attributes := #[] }
def k9m6 : Method := { name := "toChars", desc := "([B)[C", sig := { parameters := [(.array .byte)], returnType := some (.array .char) }, accessFlags := 9, code := some k9c6 }
def k9c7 : Code := { maxStack := 4, maxLocals := 5, code := jdk_52_method_14_code, exceptionTable := #[], attributes := #[] }
def k9m7 : Method := { name := "toBytes", desc := "([CII)[B", sig := { parameters := [(.array .char), .int, .int], returnType := some (.array .byte) }, accessFlags := 9, code := some k9c7 }
def k9c8 : Code := { maxStack := 2, maxLocals := 2, code := jdk_52_method_15_code, exceptionTable := #[], attributes := #[] }
def k9m8 : Method := { name := "coderFromArrayLen", desc := "([BI)B", sig := { parameters := [(.array .byte), .int], returnType := some .byte }, accessFlags := 8, code := some k9c8 }
def k9c9 : Code := { maxStack := 5, maxLocals := 6, code := jdk_52_method_16_code, exceptionTable := #[], attributes := #[] }
def k9m9 : Method := { name := "compress", desc := "([CII)[B", sig := { parameters := [(.array .char), .int, .int], returnType := some (.array .byte) }, accessFlags := 9, code := some k9c9 }
def k9c10 : Code := { maxStack := 5, maxLocals := 6, code := jdk_52_method_17_code, exceptionTable := #[], attributes := #[] }
def k9m10 : Method := { name := "compress", desc := "([BII)[B", sig := { parameters := [(.array .byte), .int, .int], returnType := some (.array .byte) }, accessFlags := 9, code := some k9c10 }
def k9c11 : Code := { maxStack := 3, maxLocals := 7, code := jdk_52_method_21_code, exceptionTable := #[], attributes := #[] }
def k9m11 : Method := { name := "compress", desc := "([CI[BII)I", sig := { parameters := [(.array .char), .int, (.array .byte), .int, .int], returnType := some .int }, accessFlags := 9, code := some k9c11 }
def k9c12 : Code := { maxStack := 3, maxLocals := 7, code := jdk_52_method_22_code, exceptionTable := #[], attributes := #[] }
def k9m12 : Method := { name := "compress", desc := "([BI[BII)I", sig := { parameters := [(.array .byte), .int, (.array .byte), .int, .int], returnType := some .int }, accessFlags := 9, code := some k9c12 }
def k9c13 : Code := { maxStack := 4, maxLocals := 6, code := jdk_52_method_26_code, exceptionTable := #[], attributes := #[] }
def k9m13 : Method := { name := "getChars", desc := "([BII[CI)V", sig := { parameters := [(.array .byte), .int, .int, (.array .char), .int], returnType := none }, accessFlags := 9, code := some k9c13 }
def k9c14 : Code := { maxStack := 6, maxLocals := 5, code := jdk_52_method_69_code, exceptionTable := #[], attributes := #[] }
def k9m14 : Method := { name := "newString", desc := "([BII)Ljava/lang/String;", sig := { parameters := [(.array .byte), .int, .int], returnType := some (.object "java/lang/String") }, accessFlags := 9, code := some k9c14 }
def k9c15 : Code := { maxStack := 3, maxLocals := 3, code := jdk_52_method_94_code, exceptionTable := #[], attributes := #[] }
def k9m15 : Method := { name := "checkBoundsOffCount", desc := "(II[B)V", sig := { parameters := [.int, .int, (.array .byte)], returnType := none }, accessFlags := 9, code := some k9c15 }
/-- java/lang/StringUTF16 -/
def k9 : Class := { plain "java/lang/StringUTF16" (some 0) with
  accessFlags := 48
  interfaces := #[]
  cf := some (fileOf pool9 12 #[.nestMembers #[627, 629, 369]] #[{ accessFlags := 0, nameIndex := 9, descriptorIndex := 10, attributes := #[] }, { accessFlags := 9, nameIndex := 109, descriptorIndex := 110, attributes := #[] }, { accessFlags := 9, nameIndex := 15, descriptorIndex := 16, attributes := #[] }, { accessFlags := 8, nameIndex := 113, descriptorIndex := 114, attributes := #[] }, { accessFlags := 8, nameIndex := 73, descriptorIndex := 74, attributes := #[] }, { accessFlags := 9, nameIndex := 50, descriptorIndex := 51, attributes := #[] }, { accessFlags := 9, nameIndex := 342, descriptorIndex := 454, attributes := #[] }, { accessFlags := 9, nameIndex := 121, descriptorIndex := 122, attributes := #[] }, { accessFlags := 8, nameIndex := 261, descriptorIndex := 262, attributes := #[] }, { accessFlags := 9, nameIndex := 117, descriptorIndex := 122, attributes := #[] }, { accessFlags := 9, nameIndex := 117, descriptorIndex := 131, attributes := #[] }, { accessFlags := 9, nameIndex := 117, descriptorIndex := 118, attributes := #[] }, { accessFlags := 9, nameIndex := 117, descriptorIndex := 125, attributes := #[] }, { accessFlags := 9, nameIndex := 105, descriptorIndex := 106, attributes := #[] }, { accessFlags := 9, nameIndex := 327, descriptorIndex := 328, attributes := #[] }, { accessFlags := 9, nameIndex := 175, descriptorIndex := 99, attributes := #[] }] 48 6 #[] #[{ accessFlags := 26, nameIndex := 61, descriptorIndex := 62, attributes := #[] }, { accessFlags := 26, nameIndex := 65, descriptorIndex := 62, attributes := #[] }, { accessFlags := 24, nameIndex := 430, descriptorIndex := 62, attributes := #[] }, { accessFlags := 4120, nameIndex := 46, descriptorIndex := 47, attributes := #[] }])
  fields := #[{ name := "HI_BYTE_SHIFT", type := .int, accessFlags := 26, slot := 0, constantValue := 0 }, { name := "LO_BYTE_SHIFT", type := .int, accessFlags := 26, slot := 1, constantValue := 0 }, { name := "MAX_LENGTH", type := .int, accessFlags := 24, slot := 2, constantValue := 0 }, { name := "$assertionsDisabled", type := .boolean, accessFlags := 4120, slot := 3, constantValue := 0 }]
  methods := #[k9m0, k9m1, k9m2, k9m3, k9m4, k9m5, k9m6, k9m7, k9m8, k9m9, k9m10, k9m11, k9m12, k9m13, k9m14, k9m15]
  instanceTypes := #[]
  staticTypes := #[.int, .int, .int, .boolean]
  resolved := Array.replicate 635 none
  statics := some 1 }

def pool10 : Array CpInfo := pool [(1, .class_ 2), (0, u "java/lang/String"), (1, .class_ 6), (1, u "java/lang/Object"), (0, u "<init>"), (0, u "()V"), (4, .methodref 14 15), (0, .class_ 16), (0, .nameAndType 17 18), (0, u "java/lang/StringLatin1"), (0, u "inflate"), (0, u "([BI[CII)V"), (93, .methodref 1 113), (0, .nameAndType 7 114), (0, u "([BB)V"), (6, u "$assertionsDisabled"), (0, u "Z"), (8, .class_ 133), (1, u "java/util/Arrays"), (17, .string 152), (0, u ""), (39, u "toChars"), (3, u "newString"), (0, u "([BII)Ljava/lang/String;"), (23, .class_ 223), (1, u "java/lang/StringLatin1$LinesSpliterator"), (8, .methodref 131 233), (0, .nameAndType 234 235), (0, u "copyOfRange"), (0, u "([BII)[B"), (32, u "([B)[C"), (121, .class_ 391), (0, u "java/lang/StringLatin1$CharsSpliterator")] 3

def k10m0 : Method := { name := "<init>", desc := "()V", sig := { parameters := [], returnType := none }, accessFlags := 0, code := none }
def k10c1 : Code := { maxStack := 5, maxLocals := 2, code := jdk_43_method_9_code, exceptionTable := #[], attributes := #[] }
def k10m1 : Method := { name := "toChars", desc := "([B)[C", sig := { parameters := [(.array .byte)], returnType := some (.array .char) }, accessFlags := 9, code := some k10c1 }
def k10c2 : Code := { maxStack := 6, maxLocals := 3, code := jdk_43_method_47_code, exceptionTable := #[], attributes := #[] }
def k10m2 : Method := { name := "newString", desc := "([BII)Ljava/lang/String;", sig := { parameters := [(.array .byte), .int, .int], returnType := some (.object "java/lang/String") }, accessFlags := 9, code := some k10c2 }
def k10c3 : Code := { maxStack := 4, maxLocals := 6, code := jdk_43_method_49_code, exceptionTable := #[], attributes := #[] }
def k10m3 : Method := { name := "inflate", desc := "([BI[CII)V", sig := { parameters := [(.array .byte), .int, (.array .char), .int, .int], returnType := none }, accessFlags := 9, code := some k10c3 }
/-- java/lang/StringLatin1 -/
def k10 : Class := { plain "java/lang/StringLatin1" (some 0) with
  accessFlags := 48
  interfaces := #[]
  cf := some (fileOf pool10 14 #[.nestMembers #[390, 221]] #[{ accessFlags := 0, nameIndex := 7, descriptorIndex := 8, attributes := #[] }, { accessFlags := 9, nameIndex := 192, descriptorIndex := 268, attributes := #[] }, { accessFlags := 9, nameIndex := 196, descriptorIndex := 197, attributes := #[] }, { accessFlags := 9, nameIndex := 17, descriptorIndex := 18, attributes := #[] }] 48 4 #[] #[{ accessFlags := 4120, nameIndex := 121, descriptorIndex := 122, attributes := #[] }])
  fields := #[{ name := "$assertionsDisabled", type := .boolean, accessFlags := 4120, slot := 0, constantValue := 0 }]
  methods := #[k10m0, k10m1, k10m2, k10m3]
  instanceTypes := #[]
  staticTypes := #[.boolean]
  resolved := Array.replicate 395 none
  statics := none }

def pool11 : Array CpInfo := pool [(2, .class_ 4), (1, u "java/lang/Object"), (0, u "<init>"), (0, u "()V"), (17, .class_ 26), (1, u "jdk/internal/util/Preconditions"), (20, u "checkFromToIndex"), (1, u "checkFromIndexSize"), (5, .class_ 56), (0, u "jdk/internal/util/Preconditions$4"), (57, .class_ 115), (0, u "jdk/internal/util/Preconditions$1"), (7, u "SIOOBE_FORMATTER"), (0, u "Ljava/util/function/BiFunction;"), (0, .class_ 126), (0, u "jdk/internal/util/Preconditions$2"), (3, u "AIOOBE_FORMATTER"), (0, .class_ 132), (0, u "jdk/internal/util/Preconditions$3"), (3, u "IOOBE_FORMATTER"), (46, u "(IIILjava/util/function/BiFunction;)I")] 10

def k11m0 : Method := { name := "<init>", desc := "()V", sig := { parameters := [], returnType := none }, accessFlags := 1, code := none }
def k11c1 : Code := { maxStack := 4, maxLocals := 4, code := jdk_41_method_12_code, exceptionTable := #[], attributes := #[] }
def k11m1 : Method := { name := "checkFromToIndex", desc := "(IIILjava/util/function/BiFunction;)I", sig := { parameters := [.int, .int, .int, (.object "java/util/function/BiFunction")], returnType := some .int }, accessFlags := 9, code := some k11c1 }
def k11c2 : Code := { maxStack := 4, maxLocals := 4, code := jdk_41_method_13_code, exceptionTable := #[], attributes := #[] }
def k11m2 : Method := { name := "checkFromIndexSize", desc := "(IIILjava/util/function/BiFunction;)I", sig := { parameters := [.int, .int, .int, (.object "java/util/function/BiFunction")], returnType := some .int }, accessFlags := 9, code := some k11c2 }
/-- jdk/internal/util/Preconditions -/
def k11 : Class := { plain "jdk/internal/util/Preconditions" (some 0) with
  accessFlags := 33
  interfaces := #[]
  cf := some (fileOf pool11 24 #[.nestMembers #[55, 131, 125, 114]] #[{ accessFlags := 1, nameIndex := 5, descriptorIndex := 6, attributes := #[] }, { accessFlags := 9, nameIndex := 47, descriptorIndex := 183, attributes := #[] }, { accessFlags := 9, nameIndex := 49, descriptorIndex := 183, attributes := #[] }] 33 2 #[] #[{ accessFlags := 25, nameIndex := 123, descriptorIndex := 124, attributes := #[] }, { accessFlags := 25, nameIndex := 130, descriptorIndex := 124, attributes := #[] }, { accessFlags := 25, nameIndex := 136, descriptorIndex := 124, attributes := #[] }])
  fields := #[{ name := "SIOOBE_FORMATTER", type := (.object "java/util/function/BiFunction"), accessFlags := 25, slot := 0, constantValue := 0 }, { name := "AIOOBE_FORMATTER", type := (.object "java/util/function/BiFunction"), accessFlags := 25, slot := 1, constantValue := 0 }, { name := "IOOBE_FORMATTER", type := (.object "java/util/function/BiFunction"), accessFlags := 25, slot := 2, constantValue := 0 }]
  methods := #[k11m0, k11m1, k11m2]
  instanceTypes := #[]
  staticTypes := #[(.object "java/util/function/BiFunction"), (.object "java/util/function/BiFunction"), (.object "java/util/function/BiFunction")]
  resolved := Array.replicate 194 none
  statics := some 2 }

def pool12 : Array CpInfo := pool [(2, .class_ 4), (1, u "java/lang/Object"), (0, u "<init>"), (0, u "()V"), (7, .class_ 16), (1, u "java/util/Arrays"), (57, .class_ 76), (1, u "java/util/Arrays$NaturalOrder"), (36, .class_ 115), (1, u "java/util/Arrays$LegacyMergeSort"), (1, u "Z"), (21, u "copyOfRange"), (10, .methodref 151 152), (0, .class_ 153), (0, .nameAndType 154 155), (0, u "java/lang/System"), (0, u "arraycopy"), (0, u "(Ljava/lang/Object;ILjava/lang/Object;II)V"), (148, .methodref 305 306), (0, .class_ 307), (0, .nameAndType 308 309), (0, u "java/lang/Math"), (0, u "min"), (0, u "(II)I"), (29, .methodref 14 340), (0, .nameAndType 341 342), (0, u "copyOfRangeByte"), (0, u "([BII)[B"), (0, .methodref 14 344), (0, .nameAndType 345 346), (0, u "checkLength"), (0, u "(II)V"), (28, .class_ 376), (0, u "java/util/Arrays$ArrayList"), (68, u "$assertionsDisabled"), (269, u "MIN_ARRAY_SORT_GRAN"), (0, u "I"), (2, u "INSERTIONSORT_THRESHOLD"), (255, .class_ 976), (0, u "java/util/Arrays$ArrayItr")] 52

def k12m0 : Method := { name := "<init>", desc := "()V", sig := { parameters := [], returnType := none }, accessFlags := 2, code := none }
def k12c1 : Code := { maxStack := 4, maxLocals := 2, code := jdk_65_method_131_code, exceptionTable := #[], attributes := #[] }
def k12m1 : Method := { name := "checkLength", desc := "(II)V", sig := { parameters := [.int, .int], returnType := none }, accessFlags := 10, code := some k12c1 }
def k12c2 : Code := { maxStack := 3, maxLocals := 3, code := jdk_65_method_132_code, exceptionTable := #[], attributes := #[] }
def k12m2 : Method := { name := "copyOfRange", desc := "([BII)[B", sig := { parameters := [(.array .byte), .int, .int], returnType := some (.array .byte) }, accessFlags := 9, code := some k12c2 }
def k12c3 : Code := { maxStack := 6, maxLocals := 5, code := jdk_65_method_133_code, exceptionTable := #[], attributes := #[] }
def k12m3 : Method := { name := "copyOfRangeByte", desc := "([BII)[B", sig := { parameters := [(.array .byte), .int, .int], returnType := some (.array .byte) }, accessFlags := 10, code := some k12c3 }
/-- java/util/Arrays -/
def k12 : Class := { plain "java/util/Arrays" (some 0) with
  accessFlags := 49
  interfaces := #[]
  cf := some (fileOf pool12 14 #[.nestMembers #[975, 375, 113, 74]] #[{ accessFlags := 2, nameIndex := 5, descriptorIndex := 6, attributes := #[] }, { accessFlags := 10, nameIndex := 345, descriptorIndex := 346, attributes := #[] }, { accessFlags := 9, nameIndex := 139, descriptorIndex := 342, attributes := #[] }, { accessFlags := 10, nameIndex := 341, descriptorIndex := 342, attributes := #[] }] 49 2 #[] #[{ accessFlags := 26, nameIndex := 715, descriptorIndex := 716, attributes := #[] }, { accessFlags := 26, nameIndex := 719, descriptorIndex := 716, attributes := #[] }, { accessFlags := 4120, nameIndex := 445, descriptorIndex := 117, attributes := #[] }])
  fields := #[{ name := "MIN_ARRAY_SORT_GRAN", type := .int, accessFlags := 26, slot := 0, constantValue := 0 }, { name := "INSERTIONSORT_THRESHOLD", type := .int, accessFlags := 26, slot := 1, constantValue := 0 }, { name := "$assertionsDisabled", type := .boolean, accessFlags := 4120, slot := 2, constantValue := 0 }]
  methods := #[k12m0, k12m1, k12m2, k12m3]
  instanceTypes := #[]
  staticTypes := #[.int, .int, .boolean]
  resolved := Array.replicate 1029 none
  statics := none }

def pool13 : Array CpInfo := pool [(1, .class_ 2), (0, u "java/lang/Math"), (1, .class_ 6), (1, u "java/lang/Object"), (0, u "<init>"), (0, u "()V"), (89, .class_ 100), (1, u "java/lang/Math$RandomNumberGeneratorHolder"), (71, u "negativeZeroFloatBits"), (0, u "J"), (2, u "negativeZeroDoubleBits"), (24, u "min"), (43, u "$assertionsDisabled"), (0, u "Z"), (88, u "(II)I"), (2, u "twoToTheDoubleScaleDown"), (0, u "D"), (4, u "twoToTheDoubleScaleUp"), (9, u "E"), (3, u "PI"), (2, u "TAU"), (2, u "DEGREES_TO_RADIANS"), (0, u "RADIANS_TO_DEGREES")] 94

def k13m0 : Method := { name := "<init>", desc := "()V", sig := { parameters := [], returnType := none }, accessFlags := 2, code := none }
def k13c1 : Code := { maxStack := 2, maxLocals := 2, code := jdk_29_method_69_code, exceptionTable := #[], attributes := #[] }
def k13m1 : Method := { name := "min", desc := "(II)I", sig := { parameters := [.int, .int], returnType := some .int }, accessFlags := 9, code := some k13c1 }
/-- java/lang/Math -/
def k13 : Class := { plain "java/lang/Math" (some 0) with
  accessFlags := 49
  interfaces := #[]
  cf := some (fileOf pool13 1 #[.nestMembers #[98]] #[{ accessFlags := 2, nameIndex := 7, descriptorIndex := 8, attributes := #[] }, { accessFlags := 9, nameIndex := 201, descriptorIndex := 335, attributes := #[] }] 49 4 #[] #[{ accessFlags := 25, nameIndex := 354, descriptorIndex := 339, attributes := #[] }, { accessFlags := 25, nameIndex := 358, descriptorIndex := 339, attributes := #[] }, { accessFlags := 25, nameIndex := 361, descriptorIndex := 339, attributes := #[] }, { accessFlags := 26, nameIndex := 364, descriptorIndex := 339, attributes := #[] }, { accessFlags := 26, nameIndex := 365, descriptorIndex := 339, attributes := #[] }, { accessFlags := 26, nameIndex := 172, descriptorIndex := 173, attributes := #[] }, { accessFlags := 26, nameIndex := 176, descriptorIndex := 173, attributes := #[] }, { accessFlags := 8, nameIndex := 344, descriptorIndex := 339, attributes := #[] }, { accessFlags := 8, nameIndex := 338, descriptorIndex := 339, attributes := #[] }, { accessFlags := 4120, nameIndex := 245, descriptorIndex := 246, attributes := #[] }])
  fields := #[{ name := "E", type := .double, accessFlags := 25, slot := 0, constantValue := 0 }, { name := "PI", type := .double, accessFlags := 25, slot := 1, constantValue := 0 }, { name := "TAU", type := .double, accessFlags := 25, slot := 2, constantValue := 0 }, { name := "DEGREES_TO_RADIANS", type := .double, accessFlags := 26, slot := 3, constantValue := 0 }, { name := "RADIANS_TO_DEGREES", type := .double, accessFlags := 26, slot := 4, constantValue := 0 }, { name := "negativeZeroFloatBits", type := .long, accessFlags := 26, slot := 5, constantValue := 0 }, { name := "negativeZeroDoubleBits", type := .long, accessFlags := 26, slot := 6, constantValue := 0 }, { name := "twoToTheDoubleScaleUp", type := .double, accessFlags := 8, slot := 7, constantValue := 0 }, { name := "twoToTheDoubleScaleDown", type := .double, accessFlags := 8, slot := 8, constantValue := 0 }, { name := "$assertionsDisabled", type := .boolean, accessFlags := 4120, slot := 9, constantValue := 0 }]
  methods := #[k13m0, k13m1]
  instanceTypes := #[]
  staticTypes := #[.double, .double, .double, .double, .double, .long, .long, .double, .double, .boolean]
  resolved := Array.replicate 460 none
  statics := none }

def pool14 : Array CpInfo := pool [(2, .class_ 4), (1, u "java/lang/Object"), (0, u "<init>"), (0, u "()V"), (1, .class_ 10), (1, u "java/lang/System"), (0, u "allowSecurityManager"), (0, u "I"), (16, u "cons"), (0, u "Ljava/io/Console;"), (77, .class_ 110), (1, u "java/lang/System$CallersHolder"), (43, u "initialErrStream"), (0, u "Ljava/io/PrintStream;"), (19, u "security"), (0, u "Ljava/lang/SecurityManager;"), (31, .class_ 209), (0, u "java/lang/System$1"), (7, u "props"), (0, u "Ljava/util/Properties;"), (2, u "lineSeparator"), (0, u "Ljava/lang/String;"), (96, .class_ 321), (1, u "java/lang/System$LoggerFinder"), (5, .class_ 328), (0, u "java/lang/System$Logger"), (67, u "err"), (2, u "out"), (91, u "notSupportedJnuEncoding"), (15, u "in"), (17, u "initialIn"), (0, u "Ljava/io/InputStream;"), (35, u "bootLayer"), (0, u "Ljava/lang/ModuleLayer;"), (99, .class_ 664), (0, u "java/lang/System$2"), (9, u "NEVER"), (2, u "MAYBE"), (49, u "arraycopy"), (0, u "(Ljava/lang/Object;ILjava/lang/Object;II)V"), (72, .class_ 802), (0, u "java/lang/System$Logger$Level")] 31

def k14m0 : Method := { name := "<init>", desc := "()V", sig := { parameters := [], returnType := none }, accessFlags := 2, code := none }
def k14m1 : Method := { name := "arraycopy", desc := "(Ljava/lang/Object;ILjava/lang/Object;II)V", sig := { parameters := [(.object "java/lang/Object"), .int, (.object "java/lang/Object"), .int, .int], returnType := none }, accessFlags := 265, code := none }
/-- java/lang/System -/
def k14 : Class := { plain "java/lang/System" (some 0) with
  accessFlags := 49
  interfaces := #[]
  cf := some (fileOf pool14 8 #[.nestMembers #[319, 327, 801, 108, 663, 208]] #[{ accessFlags := 2, nameIndex := 5, descriptorIndex := 6, attributes := #[] }, { accessFlags := 265, nameIndex := 727, descriptorIndex := 728, attributes := #[] }] 49 2 #[] #[{ accessFlags := 25, nameIndex := 507, descriptorIndex := 526, attributes := #[] }, { accessFlags := 25, nameIndex := 399, descriptorIndex := 155, attributes := #[] }, { accessFlags := 25, nameIndex := 396, descriptorIndex := 155, attributes := #[] }, { accessFlags := 10, nameIndex := 525, descriptorIndex := 526, attributes := #[] }, { accessFlags := 26, nameIndex := 674, descriptorIndex := 12, attributes := #[] }, { accessFlags := 26, nameIndex := 677, descriptorIndex := 12, attributes := #[] }, { accessFlags := 10, nameIndex := 11, descriptorIndex := 12, attributes := #[] }, { accessFlags := 74, nameIndex := 175, descriptorIndex := 176, attributes := #[] }, { accessFlags := 10, nameIndex := 491, descriptorIndex := 222, attributes := #[] }, { accessFlags := 74, nameIndex := 29, descriptorIndex := 30, attributes := #[] }, { accessFlags := 74, nameIndex := 154, descriptorIndex := 155, attributes := #[] }, { accessFlags := 10, nameIndex := 217, descriptorIndex := 218, attributes := #[] }, { accessFlags := 10, nameIndex := 221, descriptorIndex := 222, attributes := #[] }, { accessFlags := 8, nameIndex := 562, descriptorIndex := 563, attributes := #[] }])
  fields := #[{ name := "in", type := (.object "java/io/InputStream"), accessFlags := 25, slot := 0, constantValue := 0 }, { name := "out", type := (.object "java/io/PrintStream"), accessFlags := 25, slot := 1, constantValue := 0 }, { name := "err", type := (.object "java/io/PrintStream"), accessFlags := 25, slot := 2, constantValue := 0 }, { name := "initialIn", type := (.object "java/io/InputStream"), accessFlags := 10, slot := 3, constantValue := 0 }, { name := "NEVER", type := .int, accessFlags := 26, slot := 4, constantValue := 0 }, { name := "MAYBE", type := .int, accessFlags := 26, slot := 5, constantValue := 0 }, { name := "allowSecurityManager", type := .int, accessFlags := 10, slot := 6, constantValue := 0 }, { name := "security", type := (.object "java/lang/SecurityManager"), accessFlags := 74, slot := 7, constantValue := 0 }, { name := "notSupportedJnuEncoding", type := (.object "java/lang/String"), accessFlags := 10, slot := 8, constantValue := 0 }, { name := "cons", type := (.object "java/io/Console"), accessFlags := 74, slot := 9, constantValue := 0 }, { name := "initialErrStream", type := (.object "java/io/PrintStream"), accessFlags := 74, slot := 10, constantValue := 0 }, { name := "props", type := (.object "java/util/Properties"), accessFlags := 10, slot := 11, constantValue := 0 }, { name := "lineSeparator", type := (.object "java/lang/String"), accessFlags := 10, slot := 12, constantValue := 0 }, { name := "bootLayer", type := (.object "java/lang/ModuleLayer"), accessFlags := 8, slot := 13, constantValue := 0 }]
  methods := #[k14m0, k14m1]
  instanceTypes := #[]
  staticTypes := #[(.object "java/io/InputStream"), (.object "java/io/PrintStream"), (.object "java/io/PrintStream"), (.object "java/io/InputStream"), .int, .int, .int, (.object "java/lang/SecurityManager"), (.object "java/lang/String"), (.object "java/io/Console"), (.object "java/io/PrintStream"), (.object "java/util/Properties"), (.object "java/lang/String"), (.object "java/lang/ModuleLayer")]
  resolved := Array.replicate 834 none
  statics := none }

def pool15 : Array CpInfo := pool [(9, u "<init>"), (6, .class_ 18), (1, u "java/lang/Object"), (0, u "()V"), (1, .class_ 23), (1, u "jdk/internal/util/ArraysSupport"), (0, u "LOG2_ARRAY_LONG_INDEX_SCALE"), (0, u "I"), (2, u "U"), (0, u "Ljdk/internal/misc/Unsafe;"), (8, u "BIG_ENDIAN"), (0, u "Z"), (8, u "LOG2_BYTE_BIT_SIZE"), (4, u "LOG2_ARRAY_INT_INDEX_SCALE"), (54, u "JLA"), (0, u "Ljdk/internal/access/JavaLangAccess;"), (11, u "LOG2_ARRAY_BOOLEAN_INDEX_SCALE"), (9, u "LOG2_ARRAY_BYTE_INDEX_SCALE"), (5, u "LOG2_ARRAY_CHAR_INDEX_SCALE"), (5, u "LOG2_ARRAY_SHORT_INDEX_SCALE"), (18, u "LOG2_ARRAY_FLOAT_INDEX_SCALE"), (24, u "LOG2_ARRAY_DOUBLE_INDEX_SCALE"), (89, u "T_BOOLEAN"), (2, u "T_CHAR"), (1, u "T_FLOAT"), (1, u "T_DOUBLE"), (1, u "T_BYTE"), (1, u "T_SHORT"), (1, u "T_INT"), (1, u "T_LONG"), (1, u "SOFT_MAX_ARRAY_LENGTH")] 83

def k15m0 : Method := { name := "<init>", desc := "()V", sig := { parameters := [], returnType := none }, accessFlags := 2, code := none }
/-- jdk/internal/util/ArraysSupport -/
def k15 : Class := { plain "jdk/internal/util/ArraysSupport" (some 0) with
  accessFlags := 33
  interfaces := #[]
  cf := some (fileOf pool15 21 #[] #[{ accessFlags := 2, nameIndex := 9, descriptorIndex := 19, attributes := #[] }] 33 16 #[] #[{ accessFlags := 24, nameIndex := 28, descriptorIndex := 29, attributes := #[] }, { accessFlags := 26, nameIndex := 38, descriptorIndex := 39, attributes := #[] }, { accessFlags := 25, nameIndex := 121, descriptorIndex := 25, attributes := #[] }, { accessFlags := 25, nameIndex := 131, descriptorIndex := 25, attributes := #[] }, { accessFlags := 25, nameIndex := 137, descriptorIndex := 25, attributes := #[] }, { accessFlags := 25, nameIndex := 143, descriptorIndex := 25, attributes := #[] }, { accessFlags := 25, nameIndex := 53, descriptorIndex := 25, attributes := #[] }, { accessFlags := 25, nameIndex := 24, descriptorIndex := 25, attributes := #[] }, { accessFlags := 25, nameIndex := 162, descriptorIndex := 25, attributes := #[] }, { accessFlags := 25, nameIndex := 187, descriptorIndex := 25, attributes := #[] }, { accessFlags := 26, nameIndex := 48, descriptorIndex := 25, attributes := #[] }, { accessFlags := 25, nameIndex := 277, descriptorIndex := 25, attributes := #[] }, { accessFlags := 25, nameIndex := 280, descriptorIndex := 25, attributes := #[] }, { accessFlags := 25, nameIndex := 282, descriptorIndex := 25, attributes := #[] }, { accessFlags := 25, nameIndex := 284, descriptorIndex := 25, attributes := #[] }, { accessFlags := 25, nameIndex := 286, descriptorIndex := 25, attributes := #[] }, { accessFlags := 25, nameIndex := 288, descriptorIndex := 25, attributes := #[] }, { accessFlags := 25, nameIndex := 290, descriptorIndex := 25, attributes := #[] }, { accessFlags := 25, nameIndex := 292, descriptorIndex := 25, attributes := #[] }, { accessFlags := 26, nameIndex := 108, descriptorIndex := 109, attributes := #[] }, { accessFlags := 25, nameIndex := 294, descriptorIndex := 25, attributes := #[] }])
  fields := #[{ name := "U", type := (.object "jdk/internal/misc/Unsafe"), accessFlags := 24, slot := 0, constantValue := 0 }, { name := "BIG_ENDIAN", type := .boolean, accessFlags := 26, slot := 1, constantValue := 0 }, { name := "LOG2_ARRAY_BOOLEAN_INDEX_SCALE", type := .int, accessFlags := 25, slot := 2, constantValue := 0 }, { name := "LOG2_ARRAY_BYTE_INDEX_SCALE", type := .int, accessFlags := 25, slot := 3, constantValue := 0 }, { name := "LOG2_ARRAY_CHAR_INDEX_SCALE", type := .int, accessFlags := 25, slot := 4, constantValue := 0 }, { name := "LOG2_ARRAY_SHORT_INDEX_SCALE", type := .int, accessFlags := 25, slot := 5, constantValue := 0 }, { name := "LOG2_ARRAY_INT_INDEX_SCALE", type := .int, accessFlags := 25, slot := 6, constantValue := 0 }, { name := "LOG2_ARRAY_LONG_INDEX_SCALE", type := .int, accessFlags := 25, slot := 7, constantValue := 0 }, { name := "LOG2_ARRAY_FLOAT_INDEX_SCALE", type := .int, accessFlags := 25, slot := 8, constantValue := 0 }, { name := "LOG2_ARRAY_DOUBLE_INDEX_SCALE", type := .int, accessFlags := 25, slot := 9, constantValue := 0 }, { name := "LOG2_BYTE_BIT_SIZE", type := .int, accessFlags := 26, slot := 10, constantValue := 0 }, { name := "T_BOOLEAN", type := .int, accessFlags := 25, slot := 11, constantValue := 0 }, { name := "T_CHAR", type := .int, accessFlags := 25, slot := 12, constantValue := 0 }, { name := "T_FLOAT", type := .int, accessFlags := 25, slot := 13, constantValue := 0 }, { name := "T_DOUBLE", type := .int, accessFlags := 25, slot := 14, constantValue := 0 }, { name := "T_BYTE", type := .int, accessFlags := 25, slot := 15, constantValue := 0 }, { name := "T_SHORT", type := .int, accessFlags := 25, slot := 16, constantValue := 0 }, { name := "T_INT", type := .int, accessFlags := 25, slot := 17, constantValue := 0 }, { name := "T_LONG", type := .int, accessFlags := 25, slot := 18, constantValue := 0 }, { name := "JLA", type := (.object "jdk/internal/access/JavaLangAccess"), accessFlags := 26, slot := 19, constantValue := 0 }, { name := "SOFT_MAX_ARRAY_LENGTH", type := .int, accessFlags := 25, slot := 20, constantValue := 0 }]
  methods := #[k15m0]
  instanceTypes := #[]
  staticTypes := #[(.object "jdk/internal/misc/Unsafe"), .boolean, .int, .int, .int, .int, .int, .int, .int, .int, .int, .int, .int, .int, .int, .int, .int, .int, .int, (.object "jdk/internal/access/JavaLangAccess"), .int]
  resolved := Array.replicate 378 none
  statics := none }

def pool16 : Array CpInfo := pool [(1, u "java/lang/Cloneable"), (0, .class_ 1), (0, u "java/lang/Object"), (0, .class_ 3)] 3

/-- java/lang/Cloneable -/
def k16 : Class := { plain "java/lang/Cloneable" (some 0) with
  accessFlags := 1537
  interfaces := #[]
  cf := some (fileOf pool16 2 #[] #[] 1537 4 #[] #[])
  fields := #[]
  methods := #[]
  instanceTypes := #[]
  staticTypes := #[]
  resolved := Array.replicate 8 none
  statics := none }

/-- the primitive byte -/
def k17 : Class := { plain "byte" none with kind := .primitive 'B', accessFlags := 0x411 }
/-- [B -/
def k18 : Class := { plain "[B" (some 0) with kind := .array 17 .byte, interfaces := #[16, 3], accessFlags := 1041 }

/-- the primitive char -/
def k19 : Class := { plain "char" none with kind := .primitive 'C', accessFlags := 0x411 }
/-- [C -/
def k20 : Class := { plain "[C" (some 0) with kind := .array 19 .char, interfaces := #[16, 3], accessFlags := 1041 }

/-- the primitive int -/
def k21 : Class := { plain "int" none with kind := .primitive 'I', accessFlags := 0x411 }
/-- [I -/
def k22 : Class := { plain "[I" (some 0) with kind := .array 21 .int, interfaces := #[16, 3], accessFlags := 1041 }

def heap : Heap := #[{ cls := 8, slots := #[.long 0, .int 1, .null, .int 0, .null, .int 0, .int 0], vm := .statics 8 },
  { cls := 9, slots := #[.int 0, .int 8, .int 0, .int 1], vm := .statics 9 },
  { cls := 11, slots := #[.null, .null, .null], vm := .statics 11 }]
def classes : Array Class := #[k0, k1, k2, k3, k4, k5, k6, k7, k8, k9, k10, k11, k12, k13, k14, k15, k16, k17, k18, k19, k20, k21, k22]
def interned : List (Array UInt16 × Addr) := []
def slotsUsed : Nat := 14
def theMethod : MethodId := ⟨1, 4⟩
def args0 : Array Value := #[.int 5, .int 6, .int 7, .int 8, .int 9, .int 10]
def aboutOver (below : List Frame) : State where
  vm := { classes := classes, interned := interned.toArray }
  heap := heap
  slotsUsed := slotsUsed
  threads := #[{ frames := .invoking theMethod args0 :: below }]
def below0 : List Frame := [.native { method := ⟨0, 0⟩, args := #[] }]
def about1 : State := aboutOver below0
def p0 : Program := .bare "" "" ""
def e0 : Env := launch0.env 0 0 0
theorem w_frames : about1.frames = Frame.invoking theMethod args0 :: below0 := rfl
set_option maxRecDepth 65536 in
theorem w_args : argsFit about1.vm theMethod args0 = true := by decide +kernel
set_option maxRecDepth 65536 in
theorem w_heap : heapFits about1 = true := by decide +kernel
set_option maxRecDepth 65536 in
theorem w_runnable : about1.curStatus? = some .runnable := by decide +kernel
set_option maxRecDepth 65536 in
theorem w_alone : about1.alone = true := by decide +kernel
set_option maxRecDepth 65536 in
theorem w_named : about1.methodNamed? x = some theMethod := by decide +kernel
set_option maxRecDepth 65536 in
theorem w_hears : about1.hears theMethod below0 = true := by decide +kernel
set_option maxRecDepth 65536 in
theorem w_ripe : about1.ripe theMethod args0 below0 = true := by decide +kernel
theorem w_running : about1.status = .running := rfl
set_option maxRecDepth 65536 in
theorem w_room : about1.hasRoom e0.platform room_1 = true :=
  launch0.hasRoom_least _ room_1 (by decide +kernel) (by decide +kernel) (by decide +kernel) (by decide +kernel) (by decide +kernel) (by decide +kernel)
theorem allAtoms_all (ts : List Jvm.Cond) (a : Array Jvm.Value) (st : Jvm.State) : (allAtoms ts).before a st = ts.all (fun c => c.before a st) := by
  induction ts with
  | nil => rfl
  | cons c t ih =>
    show (Jvm.Cond.and c (allAtoms t)).before a st = _
    rw [Jvm.Cond.before_and, ih, List.all_cons]
def words1 : List Jvm.Cond := Jvm.Cond.code x code maxLocals ret :: tables_1
/-- a 'code' word, met by the world's own term for the bytes: nothing is compared byte by byte -/
theorem code_word {y : MethodName} {bytes : ByteArray} {mx : Nat} {rt : Option FieldType} {a : Array Value} {s : State} {m : MethodId} {meth : Method} {c : Code} (h1 : s.methodNamed? y = some m) (h2 : s.vm.method? m = some meth) (h3 : meth.code = some c) (h4 : c.code = bytes)
    (h5 : (c.maxLocals == mx && c.exceptionTable.isEmpty && decide (c.maxStack ≤ mostOperands) && decide (meth.sig.returnType = rt) && !meth.locks && decide (parseMethodDescriptor y.desc = some meth.sig)) = true) : (Jvm.Cond.code y bytes mx rt).before a s = true := by
  simp only [Bool.and_eq_true, beq_iff_eq, Bool.not_eq_true', decide_eq_true_eq] at h5
  obtain ⟨⟨⟨⟨⟨g1, g2⟩, g3⟩, g4⟩, g5⟩, g6⟩ := h5
  simp [Cond.before, Cond.holds, Cond.value, h1, h2, h3, h4, g1, g2, g3, g4, g5, g6]
def isCode : Jvm.Cond → Bool
  | .code _ _ _ _ => true
  | _ => false
theorem all_split {L : List Jvm.Cond} {P : Jvm.Cond → Bool} (h1 : L.all (fun c => isCode c || P c) = true) (h2 : ∀ c ∈ L.filter isCode, P c = true) : L.all P = true := by
  refine List.all_eq_true.mpr fun c hc => ?_
  have h := List.all_eq_true.mp h1 c hc
  rcases Bool.eq_false_or_eq_true (isCode c) with hi | hi
  · exact h2 c (List.mem_filter.mpr ⟨hc, hi⟩)
  · simpa [hi] using h
set_option maxRecDepth 65536 in
theorem w_c0 : (Jvm.Cond.code x code maxLocals ret).before args0 about1 = true := code_word (m := ⟨1, 4⟩) (meth := k1m4) (c := k1c4) (by decide +kernel) rfl rfl rfl (by decide +kernel)
set_option maxRecDepth 65536 in
theorem w_c1 : (Jvm.Cond.code ({ cls := "com/example/rezeptkern/rezeptkern/JsonCursorSkipPinLaw", name := "draw", desc := "(I)C" } : Jvm.MethodName) method_2_code (2 : Nat) (Option.some Jvm.ClassFile.FieldType.char)).before args0 about1 = true := code_word (m := ⟨1, 1⟩) (meth := k1m1) (c := k1c1) (by decide +kernel) rfl rfl rfl (by decide +kernel)
set_option maxRecDepth 65536 in
theorem w_c2 : (Jvm.Cond.code ({ cls := "java/lang/String", name := "<init>", desc := "([C)V" } : Jvm.MethodName) jdk_42_method_3_code (2 : Nat) (Option.none : Option Jvm.ClassFile.FieldType)).before args0 about1 = true := code_word (m := ⟨8, 1⟩) (meth := k8m1) (c := k8c1) (by decide +kernel) rfl rfl rfl (by decide +kernel)
set_option maxRecDepth 65536 in
theorem w_c3 : (Jvm.Cond.code ({ cls := "java/lang/String", name := "<init>", desc := "([CIILjava/lang/Void;)V" } : Jvm.MethodName) jdk_42_method_149_code (6 : Nat) (Option.none : Option Jvm.ClassFile.FieldType)).before args0 about1 = true := code_word (m := ⟨8, 5⟩) (meth := k8m5) (c := k8c5) (by decide +kernel) rfl rfl rfl (by decide +kernel)
set_option maxRecDepth 65536 in
theorem w_c4 : (Jvm.Cond.code ({ cls := "java/lang/Object", name := "<init>", desc := "()V" } : Jvm.MethodName) object_method_1_code (1 : Nat) (Option.none : Option Jvm.ClassFile.FieldType)).before args0 about1 = true := code_word (m := ⟨0, 0⟩) (meth := k0m0) (c := k0c0) (by decide +kernel) rfl rfl rfl (by decide +kernel)
set_option maxRecDepth 65536 in
theorem w_c5 : (Jvm.Cond.code ({ cls := "java/lang/StringUTF16", name := "compress", desc := "([CII)[B" } : Jvm.MethodName) jdk_52_method_16_code (6 : Nat) (Option.some (Jvm.ClassFile.FieldType.array Jvm.ClassFile.FieldType.byte))).before args0 about1 = true := code_word (m := ⟨9, 9⟩) (meth := k9m9) (c := k9c9) (by decide +kernel) rfl rfl rfl (by decide +kernel)
set_option maxRecDepth 65536 in
theorem w_c6 : (Jvm.Cond.code ({ cls := "java/lang/StringUTF16", name := "compress", desc := "([CI[BII)I" } : Jvm.MethodName) jdk_52_method_21_code (7 : Nat) (Option.some Jvm.ClassFile.FieldType.int)).before args0 about1 = true := code_word (m := ⟨9, 11⟩) (meth := k9m11) (c := k9c11) (by decide +kernel) rfl rfl rfl (by decide +kernel)
set_option maxRecDepth 65536 in
theorem w_c7 : (Jvm.Cond.code ({ cls := "java/lang/StringUTF16", name := "coderFromArrayLen", desc := "([BI)B" } : Jvm.MethodName) jdk_52_method_15_code (2 : Nat) (Option.some Jvm.ClassFile.FieldType.byte)).before args0 about1 = true := code_word (m := ⟨9, 8⟩) (meth := k9m8) (c := k9c8) (by decide +kernel) rfl rfl rfl (by decide +kernel)
set_option maxRecDepth 65536 in
theorem w_c8 : (Jvm.Cond.code ({ cls := "com/example/rezeptkern/rezeptkern/JsonCursor", name := "<init>", desc := "(Ljava/lang/String;Ljava/lang/String;)V" } : Jvm.MethodName) prog_33_method_1_code (3 : Nat) (Option.none : Option Jvm.ClassFile.FieldType)).before args0 about1 = true := code_word (m := ⟨2, 0⟩) (meth := k2m0) (c := k2c0) (by decide +kernel) rfl rfl rfl (by decide +kernel)
set_option maxRecDepth 65536 in
theorem w_c9 : (Jvm.Cond.code ({ cls := "java/lang/String", name := "toCharArray", desc := "()[C" } : Jvm.MethodName) jdk_42_method_129_code (1 : Nat) (Option.some (Jvm.ClassFile.FieldType.array Jvm.ClassFile.FieldType.char))).before args0 about1 = true := code_word (m := ⟨8, 4⟩) (meth := k8m4) (c := k8c4) (by decide +kernel) rfl rfl rfl (by decide +kernel)
set_option maxRecDepth 65536 in
theorem w_c10 : (Jvm.Cond.code ({ cls := "java/lang/String", name := "isLatin1", desc := "()Z" } : Jvm.MethodName) jdk_42_method_154_code (1 : Nat) (Option.some Jvm.ClassFile.FieldType.boolean)).before args0 about1 = true := code_word (m := ⟨8, 8⟩) (meth := k8m8) (c := k8c8) (by decide +kernel) rfl rfl rfl (by decide +kernel)
set_option maxRecDepth 65536 in
theorem w_c11 : (Jvm.Cond.code ({ cls := "java/lang/StringLatin1", name := "toChars", desc := "([B)[C" } : Jvm.MethodName) jdk_43_method_9_code (2 : Nat) (Option.some (Jvm.ClassFile.FieldType.array Jvm.ClassFile.FieldType.char))).before args0 about1 = true := code_word (m := ⟨10, 1⟩) (meth := k10m1) (c := k10c1) (by decide +kernel) rfl rfl rfl (by decide +kernel)
set_option maxRecDepth 65536 in
theorem w_c12 : (Jvm.Cond.code ({ cls := "java/lang/StringLatin1", name := "inflate", desc := "([BI[CII)V" } : Jvm.MethodName) jdk_43_method_49_code (6 : Nat) (Option.none : Option Jvm.ClassFile.FieldType)).before args0 about1 = true := code_word (m := ⟨10, 3⟩) (meth := k10m3) (c := k10c3) (by decide +kernel) rfl rfl rfl (by decide +kernel)
set_option maxRecDepth 65536 in
theorem w_c13 : (Jvm.Cond.code ({ cls := "com/example/rezeptkern/rezeptkern/JsonCursor", name := "skip", desc := "(C)Z" } : Jvm.MethodName) prog_33_method_3_code (2 : Nat) (Option.some Jvm.ClassFile.FieldType.boolean)).before args0 about1 = true := code_word (m := ⟨2, 1⟩) (meth := k2m1) (c := k2c1) (by decide +kernel) rfl rfl rfl (by decide +kernel)
set_option maxRecDepth 65536 in
theorem w_c14 : (Jvm.Cond.code ({ cls := "com/example/rezeptkern/rezeptkern/JsonCursor", name := "skipWhitespace", desc := "()V" } : Jvm.MethodName) prog_33_method_15_code (2 : Nat) (Option.none : Option Jvm.ClassFile.FieldType)).before args0 about1 = true := code_word (m := ⟨2, 3⟩) (meth := k2m3) (c := k2c3) (by decide +kernel) rfl rfl rfl (by decide +kernel)
set_option maxRecDepth 65536 in
theorem w_c15 : (Jvm.Cond.code ({ cls := "com/example/rezeptkern/rezeptkern/JsonCursor", name := "since", desc := "(I)Ljava/lang/String;" } : Jvm.MethodName) prog_33_method_13_code (2 : Nat) (Option.some (Jvm.ClassFile.FieldType.object "java/lang/String"))).before args0 about1 = true := code_word (m := ⟨2, 2⟩) (meth := k2m2) (c := k2c2) (by decide +kernel) rfl rfl rfl (by decide +kernel)
set_option maxRecDepth 65536 in
theorem w_c16 : (Jvm.Cond.code ({ cls := "java/lang/String", name := "substring", desc := "(II)Ljava/lang/String;" } : Jvm.MethodName) jdk_42_method_92_code (5 : Nat) (Option.some (Jvm.ClassFile.FieldType.object "java/lang/String"))).before args0 about1 = true := code_word (m := ⟨8, 3⟩) (meth := k8m3) (c := k8c3) (by decide +kernel) rfl rfl rfl (by decide +kernel)
set_option maxRecDepth 65536 in
theorem w_c17 : (Jvm.Cond.code ({ cls := "java/lang/String", name := "length", desc := "()I" } : Jvm.MethodName) jdk_42_method_54_code (1 : Nat) (Option.some Jvm.ClassFile.FieldType.int)).before args0 about1 = true := code_word (m := ⟨8, 2⟩) (meth := k8m2) (c := k8c2) (by decide +kernel) rfl rfl rfl (by decide +kernel)
set_option maxRecDepth 65536 in
theorem w_c18 : (Jvm.Cond.code ({ cls := "java/lang/String", name := "coder", desc := "()B" } : Jvm.MethodName) jdk_42_method_152_code (1 : Nat) (Option.some Jvm.ClassFile.FieldType.byte)).before args0 about1 = true := code_word (m := ⟨8, 7⟩) (meth := k8m7) (c := k8c7) (by decide +kernel) rfl rfl rfl (by decide +kernel)
set_option maxRecDepth 65536 in
theorem w_c19 : (Jvm.Cond.code ({ cls := "java/lang/String", name := "checkBoundsBeginEnd", desc := "(III)V" } : Jvm.MethodName) jdk_42_method_158_code (3 : Nat) (Option.none : Option Jvm.ClassFile.FieldType)).before args0 about1 = true := code_word (m := ⟨8, 10⟩) (meth := k8m10) (c := k8c10) (by decide +kernel) rfl rfl rfl (by decide +kernel)
set_option maxRecDepth 65536 in
theorem w_c20 : (Jvm.Cond.code ({ cls := "jdk/internal/util/Preconditions", name := "checkFromToIndex", desc := "(IIILjava/util/function/BiFunction;)I" } : Jvm.MethodName) jdk_41_method_12_code (4 : Nat) (Option.some Jvm.ClassFile.FieldType.int)).before args0 about1 = true := code_word (m := ⟨11, 1⟩) (meth := k11m1) (c := k11c1) (by decide +kernel) rfl rfl rfl (by decide +kernel)
set_option maxRecDepth 65536 in
theorem w_c21 : (Jvm.Cond.code ({ cls := "com/example/rezeptkern/rezeptkern/JsonCursorSkipPinLaw", name := "ws", desc := "([CII)I" } : Jvm.MethodName) method_4_code (4 : Nat) (Option.some Jvm.ClassFile.FieldType.int)).before args0 about1 = true := code_word (m := ⟨1, 3⟩) (meth := k1m3) (c := k1c3) (by decide +kernel) rfl rfl rfl (by decide +kernel)
set_option maxRecDepth 65536 in
theorem w_c22 : (Jvm.Cond.code ({ cls := "com/example/rezeptkern/rezeptkern/JsonCursorSkipPinLaw", name := "isWs", desc := "(C)Z" } : Jvm.MethodName) method_3_code (1 : Nat) (Option.some Jvm.ClassFile.FieldType.boolean)).before args0 about1 = true := code_word (m := ⟨1, 2⟩) (meth := k1m2) (c := k1c2) (by decide +kernel) rfl rfl rfl (by decide +kernel)
set_option maxRecDepth 65536 in
theorem w_c23 : (Jvm.Cond.code ({ cls := "java/lang/StringLatin1", name := "newString", desc := "([BII)Ljava/lang/String;" } : Jvm.MethodName) jdk_43_method_47_code (3 : Nat) (Option.some (Jvm.ClassFile.FieldType.object "java/lang/String"))).before args0 about1 = true := code_word (m := ⟨10, 2⟩) (meth := k10m2) (c := k10c2) (by decide +kernel) rfl rfl rfl (by decide +kernel)
set_option maxRecDepth 65536 in
theorem w_c24 : (Jvm.Cond.code ({ cls := "java/util/Arrays", name := "copyOfRange", desc := "([BII)[B" } : Jvm.MethodName) jdk_65_method_132_code (3 : Nat) (Option.some (Jvm.ClassFile.FieldType.array Jvm.ClassFile.FieldType.byte))).before args0 about1 = true := code_word (m := ⟨12, 2⟩) (meth := k12m2) (c := k12c2) (by decide +kernel) rfl rfl rfl (by decide +kernel)
set_option maxRecDepth 65536 in
theorem w_c25 : (Jvm.Cond.code ({ cls := "java/util/Arrays", name := "copyOfRangeByte", desc := "([BII)[B" } : Jvm.MethodName) jdk_65_method_133_code (5 : Nat) (Option.some (Jvm.ClassFile.FieldType.array Jvm.ClassFile.FieldType.byte))).before args0 about1 = true := code_word (m := ⟨12, 3⟩) (meth := k12m3) (c := k12c3) (by decide +kernel) rfl rfl rfl (by decide +kernel)
set_option maxRecDepth 65536 in
theorem w_c26 : (Jvm.Cond.code ({ cls := "java/util/Arrays", name := "checkLength", desc := "(II)V" } : Jvm.MethodName) jdk_65_method_131_code (2 : Nat) (Option.none : Option Jvm.ClassFile.FieldType)).before args0 about1 = true := code_word (m := ⟨12, 1⟩) (meth := k12m1) (c := k12c1) (by decide +kernel) rfl rfl rfl (by decide +kernel)
set_option maxRecDepth 65536 in
theorem w_c27 : (Jvm.Cond.code ({ cls := "java/lang/Math", name := "min", desc := "(II)I" } : Jvm.MethodName) jdk_29_method_69_code (2 : Nat) (Option.some Jvm.ClassFile.FieldType.int)).before args0 about1 = true := code_word (m := ⟨13, 1⟩) (meth := k13m1) (c := k13c1) (by decide +kernel) rfl rfl rfl (by decide +kernel)
set_option maxRecDepth 65536 in
theorem w_c28 : (Jvm.Cond.code ({ cls := "java/lang/String", name := "<init>", desc := "([BB)V" } : Jvm.MethodName) jdk_42_method_151_code (3 : Nat) (Option.none : Option Jvm.ClassFile.FieldType)).before args0 about1 = true := code_word (m := ⟨8, 6⟩) (meth := k8m6) (c := k8c6) (by decide +kernel) rfl rfl rfl (by decide +kernel)
set_option maxRecDepth 65536 in
theorem w_c29 : (Jvm.Cond.code ({ cls := "java/lang/StringUTF16", name := "toBytes", desc := "([CII)[B" } : Jvm.MethodName) jdk_52_method_14_code (5 : Nat) (Option.some (Jvm.ClassFile.FieldType.array Jvm.ClassFile.FieldType.byte))).before args0 about1 = true := code_word (m := ⟨9, 7⟩) (meth := k9m7) (c := k9c7) (by decide +kernel) rfl rfl rfl (by decide +kernel)
set_option maxRecDepth 65536 in
theorem w_c30 : (Jvm.Cond.code ({ cls := "java/lang/StringUTF16", name := "newBytesFor", desc := "(I)[B" } : Jvm.MethodName) jdk_52_method_2_code (1 : Nat) (Option.some (Jvm.ClassFile.FieldType.array Jvm.ClassFile.FieldType.byte))).before args0 about1 = true := code_word (m := ⟨9, 1⟩) (meth := k9m1) (c := k9c1) (by decide +kernel) rfl rfl rfl (by decide +kernel)
set_option maxRecDepth 65536 in
theorem w_c31 : (Jvm.Cond.code ({ cls := "java/lang/StringUTF16", name := "newBytesLength", desc := "(I)I" } : Jvm.MethodName) jdk_52_method_3_code (1 : Nat) (Option.some Jvm.ClassFile.FieldType.int)).before args0 about1 = true := code_word (m := ⟨9, 2⟩) (meth := k9m2) (c := k9c2) (by decide +kernel) rfl rfl rfl (by decide +kernel)
set_option maxRecDepth 65536 in
theorem w_c32 : (Jvm.Cond.code ({ cls := "java/lang/StringUTF16", name := "putChar", desc := "([BII)V" } : Jvm.MethodName) jdk_52_method_4_code (3 : Nat) (Option.none : Option Jvm.ClassFile.FieldType)).before args0 about1 = true := code_word (m := ⟨9, 3⟩) (meth := k9m3) (c := k9c3) (by decide +kernel) rfl rfl rfl (by decide +kernel)
set_option maxRecDepth 65536 in
theorem w_c33 : (Jvm.Cond.code ({ cls := "java/lang/StringUTF16", name := "getChar", desc := "([BI)C" } : Jvm.MethodName) jdk_52_method_5_code (2 : Nat) (Option.some Jvm.ClassFile.FieldType.char)).before args0 about1 = true := code_word (m := ⟨9, 4⟩) (meth := k9m4) (c := k9c4) (by decide +kernel) rfl rfl rfl (by decide +kernel)
set_option maxRecDepth 65536 in
theorem w_c34 : (Jvm.Cond.code ({ cls := "java/lang/StringUTF16", name := "toChars", desc := "([B)[C" } : Jvm.MethodName) jdk_52_method_13_code (2 : Nat) (Option.some (Jvm.ClassFile.FieldType.array Jvm.ClassFile.FieldType.char))).before args0 about1 = true := code_word (m := ⟨9, 6⟩) (meth := k9m6) (c := k9c6) (by decide +kernel) rfl rfl rfl (by decide +kernel)
set_option maxRecDepth 65536 in
theorem w_c35 : (Jvm.Cond.code ({ cls := "java/lang/StringUTF16", name := "getChars", desc := "([BII[CI)V" } : Jvm.MethodName) jdk_52_method_26_code (6 : Nat) (Option.none : Option Jvm.ClassFile.FieldType)).before args0 about1 = true := code_word (m := ⟨9, 13⟩) (meth := k9m13) (c := k9c13) (by decide +kernel) rfl rfl rfl (by decide +kernel)
set_option maxRecDepth 65536 in
theorem w_c36 : (Jvm.Cond.code ({ cls := "java/lang/StringUTF16", name := "checkBoundsOffCount", desc := "(II[B)V" } : Jvm.MethodName) jdk_52_method_94_code (3 : Nat) (Option.none : Option Jvm.ClassFile.FieldType)).before args0 about1 = true := code_word (m := ⟨9, 15⟩) (meth := k9m15) (c := k9c15) (by decide +kernel) rfl rfl rfl (by decide +kernel)
set_option maxRecDepth 65536 in
theorem w_c37 : (Jvm.Cond.code ({ cls := "java/lang/StringUTF16", name := "length", desc := "([B)I" } : Jvm.MethodName) jdk_52_method_6_code (1 : Nat) (Option.some Jvm.ClassFile.FieldType.int)).before args0 about1 = true := code_word (m := ⟨9, 5⟩) (meth := k9m5) (c := k9c5) (by decide +kernel) rfl rfl rfl (by decide +kernel)
set_option maxRecDepth 65536 in
theorem w_c38 : (Jvm.Cond.code ({ cls := "java/lang/String", name := "checkBoundsOffCount", desc := "(III)I" } : Jvm.MethodName) jdk_42_method_157_code (3 : Nat) (Option.some Jvm.ClassFile.FieldType.int)).before args0 about1 = true := code_word (m := ⟨8, 9⟩) (meth := k8m9) (c := k8c9) (by decide +kernel) rfl rfl rfl (by decide +kernel)
set_option maxRecDepth 65536 in
theorem w_c39 : (Jvm.Cond.code ({ cls := "jdk/internal/util/Preconditions", name := "checkFromIndexSize", desc := "(IIILjava/util/function/BiFunction;)I" } : Jvm.MethodName) jdk_41_method_13_code (4 : Nat) (Option.some Jvm.ClassFile.FieldType.int)).before args0 about1 = true := code_word (m := ⟨11, 2⟩) (meth := k11m2) (c := k11c2) (by decide +kernel) rfl rfl rfl (by decide +kernel)
set_option maxRecDepth 65536 in
theorem w_c40 : (Jvm.Cond.code ({ cls := "java/lang/StringUTF16", name := "newString", desc := "([BII)Ljava/lang/String;" } : Jvm.MethodName) jdk_52_method_69_code (5 : Nat) (Option.some (Jvm.ClassFile.FieldType.object "java/lang/String"))).before args0 about1 = true := code_word (m := ⟨9, 14⟩) (meth := k9m14) (c := k9c14) (by decide +kernel) rfl rfl rfl (by decide +kernel)
set_option maxRecDepth 65536 in
theorem w_c41 : (Jvm.Cond.code ({ cls := "java/lang/StringUTF16", name := "compress", desc := "([BII)[B" } : Jvm.MethodName) jdk_52_method_17_code (6 : Nat) (Option.some (Jvm.ClassFile.FieldType.array Jvm.ClassFile.FieldType.byte))).before args0 about1 = true := code_word (m := ⟨9, 10⟩) (meth := k9m10) (c := k9c10) (by decide +kernel) rfl rfl rfl (by decide +kernel)
set_option maxRecDepth 65536 in
theorem w_c42 : (Jvm.Cond.code ({ cls := "java/lang/StringUTF16", name := "compress", desc := "([BI[BII)I" } : Jvm.MethodName) jdk_52_method_22_code (7 : Nat) (Option.some Jvm.ClassFile.FieldType.int)).before args0 about1 = true := code_word (m := ⟨9, 12⟩) (meth := k9m12) (c := k9c12) (by decide +kernel) rfl rfl rfl (by decide +kernel)
def codes1 : List Jvm.Cond := [Jvm.Cond.code x code maxLocals ret, Jvm.Cond.code ({ cls := "com/example/rezeptkern/rezeptkern/JsonCursorSkipPinLaw", name := "draw", desc := "(I)C" } : Jvm.MethodName) method_2_code (2 : Nat) (Option.some Jvm.ClassFile.FieldType.char), Jvm.Cond.code ({ cls := "java/lang/String", name := "<init>", desc := "([C)V" } : Jvm.MethodName) jdk_42_method_3_code (2 : Nat) (Option.none : Option Jvm.ClassFile.FieldType), Jvm.Cond.code ({ cls := "java/lang/String", name := "<init>", desc := "([CIILjava/lang/Void;)V" } : Jvm.MethodName) jdk_42_method_149_code (6 : Nat) (Option.none : Option Jvm.ClassFile.FieldType), Jvm.Cond.code ({ cls := "java/lang/Object", name := "<init>", desc := "()V" } : Jvm.MethodName) object_method_1_code (1 : Nat) (Option.none : Option Jvm.ClassFile.FieldType), Jvm.Cond.code ({ cls := "java/lang/StringUTF16", name := "compress", desc := "([CII)[B" } : Jvm.MethodName) jdk_52_method_16_code (6 : Nat) (Option.some (Jvm.ClassFile.FieldType.array Jvm.ClassFile.FieldType.byte)), Jvm.Cond.code ({ cls := "java/lang/StringUTF16", name := "compress", desc := "([CI[BII)I" } : Jvm.MethodName) jdk_52_method_21_code (7 : Nat) (Option.some Jvm.ClassFile.FieldType.int), Jvm.Cond.code ({ cls := "java/lang/StringUTF16", name := "coderFromArrayLen", desc := "([BI)B" } : Jvm.MethodName) jdk_52_method_15_code (2 : Nat) (Option.some Jvm.ClassFile.FieldType.byte), Jvm.Cond.code ({ cls := "com/example/rezeptkern/rezeptkern/JsonCursor", name := "<init>", desc := "(Ljava/lang/String;Ljava/lang/String;)V" } : Jvm.MethodName) prog_33_method_1_code (3 : Nat) (Option.none : Option Jvm.ClassFile.FieldType), Jvm.Cond.code ({ cls := "java/lang/String", name := "toCharArray", desc := "()[C" } : Jvm.MethodName) jdk_42_method_129_code (1 : Nat) (Option.some (Jvm.ClassFile.FieldType.array Jvm.ClassFile.FieldType.char)), Jvm.Cond.code ({ cls := "java/lang/String", name := "isLatin1", desc := "()Z" } : Jvm.MethodName) jdk_42_method_154_code (1 : Nat) (Option.some Jvm.ClassFile.FieldType.boolean), Jvm.Cond.code ({ cls := "java/lang/StringLatin1", name := "toChars", desc := "([B)[C" } : Jvm.MethodName) jdk_43_method_9_code (2 : Nat) (Option.some (Jvm.ClassFile.FieldType.array Jvm.ClassFile.FieldType.char)), Jvm.Cond.code ({ cls := "java/lang/StringLatin1", name := "inflate", desc := "([BI[CII)V" } : Jvm.MethodName) jdk_43_method_49_code (6 : Nat) (Option.none : Option Jvm.ClassFile.FieldType), Jvm.Cond.code ({ cls := "com/example/rezeptkern/rezeptkern/JsonCursor", name := "skip", desc := "(C)Z" } : Jvm.MethodName) prog_33_method_3_code (2 : Nat) (Option.some Jvm.ClassFile.FieldType.boolean), Jvm.Cond.code ({ cls := "com/example/rezeptkern/rezeptkern/JsonCursor", name := "skipWhitespace", desc := "()V" } : Jvm.MethodName) prog_33_method_15_code (2 : Nat) (Option.none : Option Jvm.ClassFile.FieldType), Jvm.Cond.code ({ cls := "com/example/rezeptkern/rezeptkern/JsonCursor", name := "since", desc := "(I)Ljava/lang/String;" } : Jvm.MethodName) prog_33_method_13_code (2 : Nat) (Option.some (Jvm.ClassFile.FieldType.object "java/lang/String")), Jvm.Cond.code ({ cls := "java/lang/String", name := "substring", desc := "(II)Ljava/lang/String;" } : Jvm.MethodName) jdk_42_method_92_code (5 : Nat) (Option.some (Jvm.ClassFile.FieldType.object "java/lang/String")), Jvm.Cond.code ({ cls := "java/lang/String", name := "length", desc := "()I" } : Jvm.MethodName) jdk_42_method_54_code (1 : Nat) (Option.some Jvm.ClassFile.FieldType.int), Jvm.Cond.code ({ cls := "java/lang/String", name := "coder", desc := "()B" } : Jvm.MethodName) jdk_42_method_152_code (1 : Nat) (Option.some Jvm.ClassFile.FieldType.byte), Jvm.Cond.code ({ cls := "java/lang/String", name := "checkBoundsBeginEnd", desc := "(III)V" } : Jvm.MethodName) jdk_42_method_158_code (3 : Nat) (Option.none : Option Jvm.ClassFile.FieldType), Jvm.Cond.code ({ cls := "jdk/internal/util/Preconditions", name := "checkFromToIndex", desc := "(IIILjava/util/function/BiFunction;)I" } : Jvm.MethodName) jdk_41_method_12_code (4 : Nat) (Option.some Jvm.ClassFile.FieldType.int), Jvm.Cond.code ({ cls := "com/example/rezeptkern/rezeptkern/JsonCursorSkipPinLaw", name := "ws", desc := "([CII)I" } : Jvm.MethodName) method_4_code (4 : Nat) (Option.some Jvm.ClassFile.FieldType.int), Jvm.Cond.code ({ cls := "com/example/rezeptkern/rezeptkern/JsonCursorSkipPinLaw", name := "isWs", desc := "(C)Z" } : Jvm.MethodName) method_3_code (1 : Nat) (Option.some Jvm.ClassFile.FieldType.boolean), Jvm.Cond.code ({ cls := "java/lang/StringLatin1", name := "newString", desc := "([BII)Ljava/lang/String;" } : Jvm.MethodName) jdk_43_method_47_code (3 : Nat) (Option.some (Jvm.ClassFile.FieldType.object "java/lang/String")), Jvm.Cond.code ({ cls := "java/util/Arrays", name := "copyOfRange", desc := "([BII)[B" } : Jvm.MethodName) jdk_65_method_132_code (3 : Nat) (Option.some (Jvm.ClassFile.FieldType.array Jvm.ClassFile.FieldType.byte)), Jvm.Cond.code ({ cls := "java/util/Arrays", name := "copyOfRangeByte", desc := "([BII)[B" } : Jvm.MethodName) jdk_65_method_133_code (5 : Nat) (Option.some (Jvm.ClassFile.FieldType.array Jvm.ClassFile.FieldType.byte)), Jvm.Cond.code ({ cls := "java/util/Arrays", name := "checkLength", desc := "(II)V" } : Jvm.MethodName) jdk_65_method_131_code (2 : Nat) (Option.none : Option Jvm.ClassFile.FieldType), Jvm.Cond.code ({ cls := "java/lang/Math", name := "min", desc := "(II)I" } : Jvm.MethodName) jdk_29_method_69_code (2 : Nat) (Option.some Jvm.ClassFile.FieldType.int), Jvm.Cond.code ({ cls := "java/lang/String", name := "<init>", desc := "([BB)V" } : Jvm.MethodName) jdk_42_method_151_code (3 : Nat) (Option.none : Option Jvm.ClassFile.FieldType), Jvm.Cond.code ({ cls := "java/lang/StringUTF16", name := "toBytes", desc := "([CII)[B" } : Jvm.MethodName) jdk_52_method_14_code (5 : Nat) (Option.some (Jvm.ClassFile.FieldType.array Jvm.ClassFile.FieldType.byte)), Jvm.Cond.code ({ cls := "java/lang/StringUTF16", name := "newBytesFor", desc := "(I)[B" } : Jvm.MethodName) jdk_52_method_2_code (1 : Nat) (Option.some (Jvm.ClassFile.FieldType.array Jvm.ClassFile.FieldType.byte)), Jvm.Cond.code ({ cls := "java/lang/StringUTF16", name := "newBytesLength", desc := "(I)I" } : Jvm.MethodName) jdk_52_method_3_code (1 : Nat) (Option.some Jvm.ClassFile.FieldType.int), Jvm.Cond.code ({ cls := "java/lang/StringUTF16", name := "putChar", desc := "([BII)V" } : Jvm.MethodName) jdk_52_method_4_code (3 : Nat) (Option.none : Option Jvm.ClassFile.FieldType), Jvm.Cond.code ({ cls := "java/lang/StringUTF16", name := "getChar", desc := "([BI)C" } : Jvm.MethodName) jdk_52_method_5_code (2 : Nat) (Option.some Jvm.ClassFile.FieldType.char), Jvm.Cond.code ({ cls := "java/lang/StringUTF16", name := "toChars", desc := "([B)[C" } : Jvm.MethodName) jdk_52_method_13_code (2 : Nat) (Option.some (Jvm.ClassFile.FieldType.array Jvm.ClassFile.FieldType.char)), Jvm.Cond.code ({ cls := "java/lang/StringUTF16", name := "getChars", desc := "([BII[CI)V" } : Jvm.MethodName) jdk_52_method_26_code (6 : Nat) (Option.none : Option Jvm.ClassFile.FieldType), Jvm.Cond.code ({ cls := "java/lang/StringUTF16", name := "checkBoundsOffCount", desc := "(II[B)V" } : Jvm.MethodName) jdk_52_method_94_code (3 : Nat) (Option.none : Option Jvm.ClassFile.FieldType), Jvm.Cond.code ({ cls := "java/lang/StringUTF16", name := "length", desc := "([B)I" } : Jvm.MethodName) jdk_52_method_6_code (1 : Nat) (Option.some Jvm.ClassFile.FieldType.int), Jvm.Cond.code ({ cls := "java/lang/String", name := "checkBoundsOffCount", desc := "(III)I" } : Jvm.MethodName) jdk_42_method_157_code (3 : Nat) (Option.some Jvm.ClassFile.FieldType.int), Jvm.Cond.code ({ cls := "jdk/internal/util/Preconditions", name := "checkFromIndexSize", desc := "(IIILjava/util/function/BiFunction;)I" } : Jvm.MethodName) jdk_41_method_13_code (4 : Nat) (Option.some Jvm.ClassFile.FieldType.int), Jvm.Cond.code ({ cls := "java/lang/StringUTF16", name := "newString", desc := "([BII)Ljava/lang/String;" } : Jvm.MethodName) jdk_52_method_69_code (5 : Nat) (Option.some (Jvm.ClassFile.FieldType.object "java/lang/String")), Jvm.Cond.code ({ cls := "java/lang/StringUTF16", name := "compress", desc := "([BII)[B" } : Jvm.MethodName) jdk_52_method_17_code (6 : Nat) (Option.some (Jvm.ClassFile.FieldType.array Jvm.ClassFile.FieldType.byte)), Jvm.Cond.code ({ cls := "java/lang/StringUTF16", name := "compress", desc := "([BI[BII)I" } : Jvm.MethodName) jdk_52_method_22_code (7 : Nat) (Option.some Jvm.ClassFile.FieldType.int)]
set_option maxRecDepth 65536 in
theorem codes_eq : words1.filter isCode = codes1 := rfl
theorem w_codes : ∀ c ∈ words1.filter isCode, c.before args0 about1 = true := by
  rw [codes_eq]
  intro c hc
  simp only [codes1, List.mem_cons, List.not_mem_nil, or_false] at hc
  rcases hc with rfl | rfl | rfl | rfl | rfl | rfl | rfl | rfl | rfl | rfl | rfl | rfl | rfl | rfl | rfl | rfl | rfl | rfl | rfl | rfl | rfl | rfl | rfl | rfl | rfl | rfl | rfl | rfl | rfl | rfl | rfl | rfl | rfl | rfl | rfl | rfl | rfl | rfl | rfl | rfl | rfl | rfl | rfl
  · exact w_c0
  · exact w_c1
  · exact w_c2
  · exact w_c3
  · exact w_c4
  · exact w_c5
  · exact w_c6
  · exact w_c7
  · exact w_c8
  · exact w_c9
  · exact w_c10
  · exact w_c11
  · exact w_c12
  · exact w_c13
  · exact w_c14
  · exact w_c15
  · exact w_c16
  · exact w_c17
  · exact w_c18
  · exact w_c19
  · exact w_c20
  · exact w_c21
  · exact w_c22
  · exact w_c23
  · exact w_c24
  · exact w_c25
  · exact w_c26
  · exact w_c27
  · exact w_c28
  · exact w_c29
  · exact w_c30
  · exact w_c31
  · exact w_c32
  · exact w_c33
  · exact w_c34
  · exact w_c35
  · exact w_c36
  · exact w_c37
  · exact w_c38
  · exact w_c39
  · exact w_c40
  · exact w_c41
  · exact w_c42
set_option maxRecDepth 65536 in
theorem w_t1 : (words1.take 24).all (fun c => isCode c || c.before args0 about1) = true := by decide +kernel
set_option maxRecDepth 65536 in
theorem w_t2 : ((words1.drop 24).take 24).all (fun c => isCode c || c.before args0 about1) = true := by decide +kernel
set_option maxRecDepth 65536 in
theorem w_t3 : (((words1.drop 24).drop 24).take 24).all (fun c => isCode c || c.before args0 about1) = true := by decide +kernel
set_option maxRecDepth 65536 in
theorem w_t4 : ((((words1.drop 24).drop 24).drop 24).take 24).all (fun c => isCode c || c.before args0 about1) = true := by decide +kernel
set_option maxRecDepth 65536 in
theorem w_t5 : (((((words1.drop 24).drop 24).drop 24).drop 24).take 24).all (fun c => isCode c || c.before args0 about1) = true := by decide +kernel
set_option maxRecDepth 65536 in
theorem w_t6 : ((((((words1.drop 24).drop 24).drop 24).drop 24).drop 24).take 24).all (fun c => isCode c || c.before args0 about1) = true := by decide +kernel
set_option maxRecDepth 65536 in
theorem w_t7 : (((((((words1.drop 24).drop 24).drop 24).drop 24).drop 24).drop 24).take 24).all (fun c => isCode c || c.before args0 about1) = true := by decide +kernel
set_option maxRecDepth 65536 in
theorem w_t8 : ((((((((words1.drop 24).drop 24).drop 24).drop 24).drop 24).drop 24).drop 24).take 24).all (fun c => isCode c || c.before args0 about1) = true := by decide +kernel
set_option maxRecDepth 65536 in
theorem w_t9 : ((((((((words1.drop 24).drop 24).drop 24).drop 24).drop 24).drop 24).drop 24).drop 24).all (fun c => isCode c || c.before args0 about1) = true := by decide +kernel
theorem w_tables : (allAtoms (Jvm.Cond.code x code maxLocals ret :: tables_1)).before args0 about1 = true := by
  rw [allAtoms_all]
  show words1.all (fun c => c.before args0 about1) = true
  refine all_split ?_ w_codes
  rw [← List.take_append_drop 24 words1, List.all_append, w_t1, ← List.take_append_drop 24 (words1.drop 24), List.all_append, w_t2, ← List.take_append_drop 24 ((words1.drop 24).drop 24), List.all_append, w_t3, ← List.take_append_drop 24 (((words1.drop 24).drop 24).drop 24), List.all_append, w_t4, ← List.take_append_drop 24 ((((words1.drop 24).drop 24).drop 24).drop 24), List.all_append, w_t5, ← List.take_append_drop 24 (((((words1.drop 24).drop 24).drop 24).drop 24).drop 24), List.all_append, w_t6, ← List.take_append_drop 24 ((((((words1.drop 24).drop 24).drop 24).drop 24).drop 24).drop 24), List.all_append, w_t7, ← List.take_append_drop 24 (((((((words1.drop 24).drop 24).drop 24).drop 24).drop 24).drop 24).drop 24), List.all_append, w_t8, w_t9]
  rfl
set_option maxRecDepth 65536 in
theorem w_rest : rest_1_c.before args0 about1 = true := by decide +kernel
set_option maxRecDepth 65536 in
theorem w_case : (Jvm.Cond.and given_1 narrow_1).before args0 about1 = true := by decide +kernel
set_option maxRecDepth 65536 in
theorem w_consts : constsHeld consts_1 about1 := Jvm.Lit.constsHeldB_iff.mp (by decide +kernel)
theorem w_applies : (headSpec (Jvm.Cond.code x code maxLocals ret :: tables_1) room_1).applies x e0.platform about1 = true :=
  (Spec.applies_iff w_frames).mpr ⟨w_running, w_runnable, w_alone, w_named, w_hears, w_ripe, w_room, w_tables⟩
theorem atStart : AtStart classFile x code maxLocals ret World_1 tables_1 room_1 Calls_1 rest_1 Pre_1 launch0 p0 e0 about1 theMethod args0 below0 :=
  ⟨lists_1, trivial, launch0.admits_env _ _ _, launch0.least_env, fairChoices_fair.cas, fairChoices_fair.clock, w_frames, w_args, w_heap, w_applies, ⟨w_consts, trivial⟩, w_rest, w_case⟩
end start1
theorem witness_1 : WitnessClaimed_1 := ⟨start1.p0, start1.e0, start1.about1, start1.theMethod, start1.args0, start1.below0, start1.atStart⟩
end Jvm.Pilot.@@N@@
