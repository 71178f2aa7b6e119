import JvmDerived
import JvmDerived.Pilot.@@N@@Statement
import JvmDerived.Pilot.@@N@@Code
set_option linter.unusedVariables false
set_option linter.unusedSimpArgs false
/- laws to paste: Road.backArv, Road.codOf (cut by pick.py; bodies as the Statement names them) -/
namespace Jvm.Pilot.@@N@@
namespace StrChars
open Jvm Sem ClassFile Op Lib Jvm.Stand Jvm.Free.XT Jvm.Free.ALB Jvm.Free.JM Jvm.Free
open Jvm.Lib.Cold (StaticIs)
/-- a char array whose places are chars -/
def Ch (a : Addr) (A : Cell) (U : State) : Prop := Arr .char a A U ∧ Typed .char A
theorem Ch.mv {a : Addr} {A : Cell} {U U' : State} (h : Ch a A U) (hal : U.vm.Alike U'.vm) (hh : U'.heap = U.heap) : Ch a A U' := ⟨h.1.mv hal hh, h.2⟩
theorem Ch.keep {a : Addr} {A : Cell} {U U' : State} (h : Ch a A U) (hal : U.vm.Alike U'.vm) (hk : U'.heap[a]? = some A) : Ch a A U' := ⟨h.1.keep hal hk, h.2⟩
/-- what place i of a char[]'s cell holds -/
def cv (A : Cell) (i : Nat) : Int32 := match A.slots[i]? with | some (.int x) => x | _ => 0
theorem Ch.get {a : Addr} {A : Cell} {U : State} (h : Ch a A U) {i : Nat} (hi : i < A.slots.size) : A.slots[i]? = some (.int (cv A i)) := by
  have e := Array.getElem?_eq_getElem hi
  have f := h.2 i _ e
  unfold cv; rw [e]
  generalize A.slots[i] = v at f
  cases v <;> simp [fits] at f ⊢
/-- the byte that i2b leaves of a char -/
def lo8 (x : Int32) : Int32 := x.toInt8.toInt32
theorem fits_lo8 (y : Int32) : fits .byte (.int (lo8 y)) = true := by
  have h1 := y.toInt8.le_toInt
  have h2 := y.toInt8.toInt_lt
  simp only [lo8, fits, Bool.and_eq_true, decide_eq_true_eq, Int32.le_iff_toInt_le, Int8.toInt_toInt32, show (-128 : Int32).toInt = -128 from by decide, show (127 : Int32).toInt = 127 from by decide]
  omega
/-- A' is A but that each place j of lo .. hi - 1 holds f j -/
def Laid (A A' : Cell) (lo hi : Nat) (f : Nat → Value) : Prop := A'.cls = A.cls ∧ A'.vm = A.vm ∧ A'.slots.size = A.slots.size ∧ ∀ i, A'.slots[i]? = if lo ≤ i ∧ i < hi then some (f i) else A.slots[i]?
theorem Laid.zero (A : Cell) (lo : Nat) (f : Nat → Value) : Laid A A lo (lo + 0) f := ⟨rfl, rfl, rfl, fun i => by rw [if_neg (by omega)]⟩
theorem Laid.step {A Ak : Cell} {lo k : Nat} {f : Nat → Value} {v : Value} (h : Laid A Ak lo k f) (hlo : lo ≤ k) (hk : k < Ak.slots.size) (hv : v = f k) : Laid A (Ak.setSlot k v) lo (k + 1) f := by
  refine ⟨h.1, h.2.1, by simpa [Cell.setSlot] using h.2.2.1, fun i => ?_⟩
  by_cases e : k = i
  · subst e; rw [Cell.slots_setSlot_self v hk, if_pos (by omega), hv]
  · rw [Cell.slots_setSlot_ne v e, h.2.2.2 i]
    by_cases q : lo ≤ i ∧ i < k
    · rw [if_pos q, if_pos (by omega)]
    · rw [if_neg q, if_neg (by omega)]
def U16 : String := "java/lang/StringUTF16"
namespace Cmp5
def yN : MethodName := ⟨"java/lang/StringUTF16", "compress", "([CI[BII)I"⟩
abbrev yB : ByteArray := jdk_52_method_21_code
theorem d0 : decode yB 0 = .ok (.iconst 0, 1) := by decide +kernel
theorem d1 : decode yB 1 = .ok (.istore 5, 2) := by decide +kernel
theorem d3 : decode yB 3 = .ok (.iload 5, 2) := by decide +kernel
theorem d5 : decode yB 5 = .ok (.iload 4, 2) := by decide +kernel
theorem d7 : decode yB 7 = .ok (.if_icmp (.ge) 37, 3) := by decide +kernel
theorem d10 : decode yB 10 = .ok (.aload_n 0, 1) := by decide +kernel
theorem d11 : decode yB 11 = .ok (.iload_n 1, 1) := by decide +kernel
theorem d12 : decode yB 12 = .ok (.caload, 1) := by decide +kernel
theorem d13 : decode yB 13 = .ok (.istore 6, 2) := by decide +kernel
theorem d15 : decode yB 15 = .ok (.iload 6, 2) := by decide +kernel
theorem d17 : decode yB 17 = .ok (.sipush 255, 3) := by decide +kernel
theorem d20 : decode yB 20 = .ok (.if_icmp (.le) 6, 3) := by decide +kernel
theorem d26 : decode yB 26 = .ok (.aload_n 2, 1) := by decide +kernel
theorem d27 : decode yB 27 = .ok (.iload_n 3, 1) := by decide +kernel
theorem d28 : decode yB 28 = .ok (.iload 6, 2) := by decide +kernel
theorem d30 : decode yB 30 = .ok (.i2b, 1) := by decide +kernel
theorem d31 : decode yB 31 = .ok (.bastore, 1) := by decide +kernel
theorem d32 : decode yB 32 = .ok (.iinc 1 1, 3) := by decide +kernel
theorem d35 : decode yB 35 = .ok (.iinc 3 1, 3) := by decide +kernel
theorem d38 : decode yB 38 = .ok (.iinc 5 1, 3) := by decide +kernel
theorem d41 : decode yB 41 = .ok (.goto (-38), 3) := by decide +kernel
theorem d44 : decode yB 44 = .ok (.iload 4, 2) := by decide +kernel
theorem d46 : decode yB 46 = .ok (.ireturn, 1) := by decide +kernel
def site : List Cond := []
def tab : Cond := tabOf yN yB 7 (some .int) site
def P (b : Addr) (A : Cell) (d : Addr) (B : Cell) (o q len : Nat) (args : Array Value) (s : State) : Prop := args = #[.ref b, .int (Int32.ofNat o), .ref d, .int (Int32.ofNat q), .int (Int32.ofNat len)] ∧ Ch b A s ∧ Arr .byte d B s ∧ b ≠ d ∧ o + len ≤ A.slots.size ∧ q + len ≤ B.slots.size ∧ ∀ i, i < len → ¬ 255 < cv A (o + i)
def E (b : Addr) (A : Cell) (d : Addr) (B : Cell) (o q len : Nat) (r : Option Value) (s u : State) : Prop := r = some (.int (Int32.ofNat len)) ∧ ∃ B', Put d B' s u ∧ Laid B B' q (q + len) (fun j => Value.int (lo8 (cv A (o + (j - q)))))
/-- no char of the range above 255: len; the places written hold each char's low byte -/
theorem law (l : Launch) (b : Addr) (A : Cell) (d : Addr) (B : Cell) (o q len : Nat) : Law l yN 5 5 0 0 yB 7 (some .int) site (P b A d B o q len) (E b A d B o q len) (copyLocs d q len) 0 0 := by
  refine Law.of_walk (plainFor_of_name (by decide +kernel)) (by decide +kernel) (by decide +kernel) (by decide) (fun _ _ h => by rw [h.1]; rfl) (fun _ U U' hal hh h => ⟨h.1, h.2.1.mv hal hh, h.2.2.1.mv hal hh, h.2.2.2⟩) (fun r U U' V V' h1 hal h2 h => ⟨h.1, h.2.elim fun B' q => ⟨B', q.1.mv h1 h2, q.2⟩⟩) ?_
  intro p e s m args below meth c s₁ X0 hexec hbytes hml hret hlk hnm hown hh0 W hP
  obtain ⟨rfl, hA, hB, hne, l1, l2, hp⟩ := hP
  have c1 : Steps p.tables e below (s₁.setTop (entryFrame m #[.ref b, .int (Int32.ofNat o), .ref d, .int (Int32.ofNat q), .int (Int32.ofNat len)] 7)) (s₁.setTop (mkF m 0 #[.val (.ref b), .val (.int (Int32.ofNat o)), .val (.ref d), .val (.int (Int32.ofNat q)), .val (.int (Int32.ofNat len)), .unset, .unset] [])) := entry rfl
  have hA0 := hA.1.mv X0.warmed.alike hh0
  have hB0 := hB.mv X0.warmed.alike hh0
  have a31 := hA.1.2.2.2
  have c2 : Steps p.tables e below (s₁.setTop (entryFrame m #[.ref b, .int (Int32.ofNat o), .ref d, .int (Int32.ofNat q), .int (Int32.ofNat len)] 7)) (s₁.setTop (mkF m 3 #[.val (.ref b), .val (.int (Int32.ofNat o)), .val (.ref d), .val (.int (Int32.ofNat q)), .val (.int (Int32.ofNat len)), .val (.int 0), .unset] [])) := c1.trans (by
    refine iconstV X0.here hexec rfl 0 (hb hbytes d0) (by decide) ?_
    refine XS.istore X0.here hexec rfl (hb hbytes d1) rfl rfl ?_
    exact Steps.refl _)
  have loop : ∀ (r i : Nat), i + r = len → ∀ (z : Slot), (z = .unset ∨ ∃ w, z = .val w ∧ w.category = 1) → ∀ (Tl : State) (Bk : Cell), Stand p l e { frames := 0, locals := 0, cells := 0, slots := 0 } s m #[.ref b, .int (Int32.ofNat o), .ref d, .int (Int32.ofNat q), .int (Int32.ofNat len)] below meth c Tl ([] ++ copyLocs d q i) 0 0 → Put d Bk s₁ Tl → Laid B Bk q (q + i) (fun j => Value.int (lo8 (cv A (o + (j - q))))) →
      Steps p.tables e below (s₁.setTop (entryFrame m #[.ref b, .int (Int32.ofNat o), .ref d, .int (Int32.ofNat q), .int (Int32.ofNat len)] 7)) (Tl.setTop (mkF m 3 #[.val (.ref b), .val (.int (Int32.ofNat (o + i))), .val (.ref d), .val (.int (Int32.ofNat (q + i))), .val (.int (Int32.ofNat len)), .val (.int (Int32.ofNat i)), z] [])) → ∃ (T' : State) (B' : Cell) (z' : Slot), Stand p l e { frames := 0, locals := 0, cells := 0, slots := 0 } s m #[.ref b, .int (Int32.ofNat o), .ref d, .int (Int32.ofNat q), .int (Int32.ofNat len)] below meth c T' ([] ++ copyLocs d q len) 0 0 ∧ Put d B' s₁ T' ∧ Laid B B' q (q + len) (fun j => Value.int (lo8 (cv A (o + (j - q))))) ∧
      Steps p.tables e below (s₁.setTop (entryFrame m #[.ref b, .int (Int32.ofNat o), .ref d, .int (Int32.ofNat q), .int (Int32.ofNat len)] 7)) (T'.setTop (mkF m 3 #[.val (.ref b), .val (.int (Int32.ofNat (o + len))), .val (.ref d), .val (.int (Int32.ofNat (q + len))), .val (.int (Int32.ofNat len)), .val (.int (Int32.ofNat len)), z'] [])) := by
    intro r
    induction r with
    | zero =>
      intro i hi z hz Tl Bk Xl pl fl cl
      have hil : i = len := by omega
      rw [hil] at Xl fl cl
      exact ⟨Tl, Bk, z, Xl, pl, fl, cl⟩
    | succ r ih =>
      intro i hi z hz Tl Bk Xl pl fl cl
      have all := X0.warmed.alike.symm.trans Xl.warmed.alike
      have hAl := hA0.keep all (pl.other hne hA0.1)
      have hBk := hB0.like all pl.1 fl.1 fl.2.1 fl.2.2.1
      have hlt : q + i < Bk.slots.size := by rw [fl.2.2.1]; omega
      have c3 : Steps p.tables e below (s₁.setTop (entryFrame m #[.ref b, .int (Int32.ofNat o), .ref d, .int (Int32.ofNat q), .int (Int32.ofNat len)] 7)) (Tl.setTop (mkF m 12 #[.val (.ref b), .val (.int (Int32.ofNat (o + i))), .val (.ref d), .val (.int (Int32.ofNat (q + i))), .val (.int (Int32.ofNat len)), .val (.int (Int32.ofNat i)), z] [.int (Int32.ofNat (o + i)), .ref b])) := cl.trans (by
        refine XS.iload Xl.here hexec rfl (hb hbytes d3) rfl ?_
        refine XS.iload Xl.here hexec rfl (hb hbytes d5) rfl ?_
        refine XS.icmpNo Xl.here hexec rfl (hb hbytes d7) rfl (ii_ge_f (lt32 (by omega) (by omega))) ?_
        refine XS.aloadN Xl.here hexec rfl (hb hbytes d10) rfl rfl ?_
        refine XS.iloadN Xl.here hexec rfl (hb hbytes d11) rfl ?_
        exact Steps.refl _)
      have c4 : Steps p.tables e below (s₁.setTop (entryFrame m #[.ref b, .int (Int32.ofNat o), .ref d, .int (Int32.ofNat q), .int (Int32.ofNat len)] 7)) (Tl.setTop (mkF m 13 #[.val (.ref b), .val (.int (Int32.ofNat (o + i))), .val (.ref d), .val (.int (Int32.ofNat (q + i))), .val (.int (Int32.ofNat len)), .val (.int (Int32.ofNat i)), z] [.int (cv A (o + i))])) := c3.trans (by
        refine Xl.aget hexec hAl rfl (hA.get (i := o + i) (by omega)) rfl rfl (hb hbytes d12) ?_
        exact Steps.refl _)
      have c5 : Steps p.tables e below (s₁.setTop (entryFrame m #[.ref b, .int (Int32.ofNat o), .ref d, .int (Int32.ofNat q), .int (Int32.ofNat len)] 7)) (Tl.setTop (mkF m 15 #[.val (.ref b), .val (.int (Int32.ofNat (o + i))), .val (.ref d), .val (.int (Int32.ofNat (q + i))), .val (.int (Int32.ofNat len)), .val (.int (Int32.ofNat i)), .val (.int (cv A (o + i)))] [])) := c4.trans (by
        refine XS.istoreS Xl.here hexec rfl (hb hbytes d13) rfl rfl hz ?_
        exact Steps.refl _)
      have c6 : Steps p.tables e below (s₁.setTop (entryFrame m #[.ref b, .int (Int32.ofNat o), .ref d, .int (Int32.ofNat q), .int (Int32.ofNat len)] 7)) (Tl.setTop (mkF m 31 #[.val (.ref b), .val (.int (Int32.ofNat (o + i))), .val (.ref d), .val (.int (Int32.ofNat (q + i))), .val (.int (Int32.ofNat len)), .val (.int (Int32.ofNat i)), .val (.int (cv A (o + i)))] [.int (lo8 (cv A (o + i))), .int (Int32.ofNat (q + i)), .ref d])) := c5.trans (by
        refine XS.iload Xl.here hexec rfl (hb hbytes d15) rfl ?_
        refine sipushV Xl.here hexec rfl 255 (hb hbytes d17) (by decide) ?_
        refine XS.icmpYes Xl.here hexec rfl (pc0 := 20) rfl (hb hbytes d20) rfl (ii_le_t (hp i (by omega))) (by decide) rfl ?_
        refine XS.aloadN Xl.here hexec rfl (hb hbytes d26) rfl rfl ?_
        refine XS.iloadN Xl.here hexec rfl (hb hbytes d27) rfl ?_
        refine XS.iload Xl.here hexec rfl (hb hbytes d28) rfl ?_
        refine i2b Xl.here hexec rfl (hb hbytes d30) rfl ?_
        exact Steps.refl _)
      obtain ⟨T7, X7, p7, st7⟩ := Xl.aput hexec hBk rfl hlt rfl (fits_lo8 (cv A (o + i))) (g := (mkF m 31 #[.val (.ref b), .val (.int (Int32.ofNat (o + i))), .val (.ref d), .val (.int (Int32.ofNat (q + i))), .val (.int (Int32.ofNat len)), .val (.int (Int32.ofNat i)), .val (.int (cv A (o + i)))] [.int (lo8 (cv A (o + i))), .int (Int32.ofNat (q + i)), .ref d])) rfl (rest := []) rfl (hb hbytes d31)
      have c8 : Steps p.tables e below (s₁.setTop (entryFrame m #[.ref b, .int (Int32.ofNat o), .ref d, .int (Int32.ofNat q), .int (Int32.ofNat len)] 7)) (T7.setTop (mkF m 32 #[.val (.ref b), .val (.int (Int32.ofNat (o + i))), .val (.ref d), .val (.int (Int32.ofNat (q + i))), .val (.int (Int32.ofNat len)), .val (.int (Int32.ofNat i)), .val (.int (cv A (o + i)))] [])) := c6.trans (st7 _ (Steps.refl _))
      have c9 : Steps p.tables e below (s₁.setTop (entryFrame m #[.ref b, .int (Int32.ofNat o), .ref d, .int (Int32.ofNat q), .int (Int32.ofNat len)] 7)) (T7.setTop (mkF m 3 #[.val (.ref b), .val (.int (Int32.ofNat (o + i) + 1)), .val (.ref d), .val (.int (Int32.ofNat (q + i) + 1)), .val (.int (Int32.ofNat len)), .val (.int (Int32.ofNat i + 1)), .val (.int (cv A (o + i)))] [])) := c8.trans (by
        refine iincV X7.here hexec rfl 1 (hb hbytes d32) (by decide) rfl rfl ?_
        refine iincV X7.here hexec rfl 1 (hb hbytes d35) (by decide) rfl rfl ?_
        refine iincV X7.here hexec rfl 1 (hb hbytes d38) (by decide) rfl rfl ?_
        refine XS.goto X7.here hexec rfl (pc0 := 41) rfl (hb hbytes d41) (by decide) rfl ?_
        exact Steps.refl _)
      have c10 : Steps p.tables e below (s₁.setTop (entryFrame m #[.ref b, .int (Int32.ofNat o), .ref d, .int (Int32.ofNat q), .int (Int32.ofNat len)] 7)) (T7.setTop (mkF m 3 #[.val (.ref b), .val (.int (Int32.ofNat (o + (i + 1)))), .val (.ref d), .val (.int (Int32.ofNat (q + (i + 1)))), .val (.int (Int32.ofNat len)), .val (.int (Int32.ofNat (i + 1))), .val (.int (cv A (o + i)))] [])) := by
        have := c9
        rw [succ32, succ32, succ32] at this
        exact this
      exact ih (i + 1) (by omega) _ (Or.inr ⟨_, rfl, rfl⟩) T7 _ (by rw [copyLocs_step, ← List.append_assoc]; exact X7) (pl.trans p7) (fl.step (by omega) hlt (by simp)) c10
  obtain ⟨T9, B9, z9, X9, p9, f9, g9⟩ := loop len 0 (by omega) .unset (Or.inl rfl) s₁ B (by simpa [copyLocs] using X0) ⟨hB0.1, fun _ _ => rfl, rfl⟩ (Laid.zero _ _ _) c2
  have c11 : Steps p.tables e below (s₁.setTop (entryFrame m #[.ref b, .int (Int32.ofNat o), .ref d, .int (Int32.ofNat q), .int (Int32.ofNat len)] 7)) (T9.setTop (mkF m 46 #[.val (.ref b), .val (.int (Int32.ofNat (o + len))), .val (.ref d), .val (.int (Int32.ofNat (q + len))), .val (.int (Int32.ofNat len)), .val (.int (Int32.ofNat len)), z9] [.int (Int32.ofNat len)])) := g9.trans (by
    refine XS.iload X9.here hexec rfl (hb hbytes d3) rfl ?_
    refine XS.iload X9.here hexec rfl (hb hbytes d5) rfl ?_
    refine XS.icmpYes X9.here hexec rfl (pc0 := 7) rfl (hb hbytes d7) rfl (ii_ge_t (nlt32 (by omega) (Nat.le_refl _))) (by decide) rfl ?_
    refine XS.iload X9.here hexec rfl (hb hbytes d44) rfl ?_
    exact Steps.refl _)
  exact ⟨T9, some (.int (Int32.ofNat len)), _, _, _, X9, by simp, rfl, rfl, (fun h => by cases h), ⟨rfl, B9, p9.from hh0, f9⟩, fun fs hl => c11.trans (X9.ireturnOut hexec hret rfl (Or.inl rfl) (hb hbytes d46) hl)⟩
end Cmp5
namespace Cmp3
def yN : MethodName := ⟨"java/lang/StringUTF16", "compress", "([CII)[B"⟩
abbrev yB : ByteArray := jdk_52_method_16_code
theorem d0 : decode yB 0 = .ok (.iload_n 2, 1) := by decide +kernel
theorem d1 : decode yB 1 = .ok (.newarray .byte, 2) := by decide +kernel
theorem d3 : decode yB 3 = .ok (.astore_n 3, 1) := by decide +kernel
theorem d4 : decode yB 4 = .ok (.aload_n 0, 1) := by decide +kernel
theorem d5 : decode yB 5 = .ok (.iload_n 1, 1) := by decide +kernel
theorem d6 : decode yB 6 = .ok (.aload_n 3, 1) := by decide +kernel
theorem d7 : decode yB 7 = .ok (.iconst 0, 1) := by decide +kernel
theorem d8 : decode yB 8 = .ok (.iload_n 2, 1) := by decide +kernel
theorem d9 : decode yB 9 = .ok (.invokestatic 115, 3) := by decide +kernel
theorem d12 : decode yB 12 = .ok (.istore 4, 2) := by decide +kernel
theorem d14 : decode yB 14 = .ok (.iload 4, 2) := by decide +kernel
theorem d16 : decode yB 16 = .ok (.iload_n 2, 1) := by decide +kernel
theorem d17 : decode yB 17 = .ok (.if_icmp (.eq) 40, 3) := by decide +kernel
theorem d57 : decode yB 57 = .ok (.aload_n 3, 1) := by decide +kernel
theorem d58 : decode yB 58 = .ok (.areturn, 1) := by decide +kernel
def site : List Cond := [.arrayClass .byte, Cmp5.tab] ++ staticW U16 115 Cmp5.yN
def tab : Cond := tabOf yN yB 6 (some (.array .byte)) site
def P (b : Addr) (A : Cell) (o len : Nat) (args : Array Value) (s : State) : Prop := args = #[.ref b, .int (Int32.ofNat o), .int (Int32.ofNat len)] ∧ Ch b A s ∧ o + len ≤ A.slots.size ∧ len ≤ 536870912 ∧ ∀ i, i < len → ¬ 255 < cv A (o + i)
def E (b : Addr) (A : Cell) (o len : Nat) (r : Option Value) (s u : State) : Prop := NewArr .byte "[B" len (fun j => .int (lo8 (cv A (o + j)))) r s u ∧ u.heap.size = s.heap.size + 1
/-- no char of the range above 255: a new byte[] of their low bytes -/
theorem law (l : Launch) (b : Addr) (A : Cell) (o len : Nat) : Law l yN 3 3 1 18 yB 6 (some (.array .byte)) site (P b A o len) (E b A o len) [] 1 len := by
  refine Law.of_walk (plainFor_of_name (by decide +kernel)) (by decide +kernel) (by decide +kernel) (by decide) (fun _ _ h => by rw [h.1]; rfl) (fun _ U U' hal hh h => ⟨h.1, h.2.1.mv hal hh, h.2.2⟩) (fun r U U' V V' h1 hal h2 h => ⟨NewArr.mv r U U' V V' h1 hal h2 h.1, by rw [h1, h2]; exact h.2⟩) ?_
  intro p e s m args below meth c s₁ X0 hexec hbytes hml hret hlk hnm hown hh0 W hP
  obtain ⟨rfl, hA, l1, l2, hp⟩ := hP
  have a31 := hA.1.2.2.2
  have c1 : Steps p.tables e below (s₁.setTop (entryFrame m #[.ref b, .int (Int32.ofNat o), .int (Int32.ofNat len)] 6)) (s₁.setTop (mkF m 0 #[.val (.ref b), .val (.int (Int32.ofNat o)), .val (.int (Int32.ofNat len)), .unset, .unset, .unset] [])) := entry rfl
  have c2 : Steps p.tables e below (s₁.setTop (entryFrame m #[.ref b, .int (Int32.ofNat o), .int (Int32.ofNat len)] 6)) (s₁.setTop (mkF m 1 #[.val (.ref b), .val (.int (Int32.ofNat o)), .val (.int (Int32.ofNat len)), .unset, .unset, .unset] [.int (Int32.ofNat len)])) := c1.trans (by
    refine XS.iloadN X0.here hexec rfl (hb hbytes d0) rfl ?_
    exact Steps.refl _)
  obtain ⟨T3, B3, X3, ba3, bs3, bv3, bh3, bf3, st3⟩ := X0.anew hexec (atype := .byte) (wk W (.arrayClass .byte)) rfl (by show len * 1 ≤ _; omega) (by omega) (g := (mkF m 1 #[.val (.ref b), .val (.int (Int32.ofNat o)), .val (.int (Int32.ofNat len)), .unset, .unset, .unset] [.int (Int32.ofNat len)])) rfl (hb hbytes d1) (rest := []) rfl (Nat.le_refl _) (by show 0 + len ≤ len; omega)
  rw [hh0] at ba3 st3
  have kp3 : XT.Kept s T3 := (XT.Kept.of_eq hh0).push bh3
  have hA3 := hA.keep X3.warmed.alike (kp3 _ _ hA.1.1)
  have hne : b ≠ s.heap.size := hA.1.ne
  have c4 : Steps p.tables e below (s₁.setTop (entryFrame m #[.ref b, .int (Int32.ofNat o), .int (Int32.ofNat len)] 6)) (T3.setTop (mkF m 3 #[.val (.ref b), .val (.int (Int32.ofNat o)), .val (.int (Int32.ofNat len)), .unset, .unset, .unset] [.ref s.heap.size])) := c2.trans (st3 _ (Steps.refl _))
  have c5 : Steps p.tables e below (s₁.setTop (entryFrame m #[.ref b, .int (Int32.ofNat o), .int (Int32.ofNat len)] 6)) (T3.setTop (mkF m 9 #[.val (.ref b), .val (.int (Int32.ofNat o)), .val (.int (Int32.ofNat len)), .val (.ref s.heap.size), .unset, .unset] [.int (Int32.ofNat len), .int 0, .ref s.heap.size, .int (Int32.ofNat o), .ref b])) := c4.trans (by
    refine XS.astoreN X3.here hexec rfl (hb hbytes d3) rfl rfl rfl ?_
    refine XS.aloadN X3.here hexec rfl (hb hbytes d4) rfl rfl ?_
    refine XS.iloadN X3.here hexec rfl (hb hbytes d5) rfl ?_
    refine XS.aloadN X3.here hexec rfl (hb hbytes d6) rfl rfl ?_
    refine iconstV X3.here hexec rfl 0 (hb hbytes d7) (by decide) ?_
    refine XS.iloadN X3.here hexec rfl (hb hbytes d8) rfl ?_
    exact Steps.refl _)
  obtain ⟨v6, T6, X6, E6, g6⟩ := X3.callS hexec (Cmp5.law l b A s.heap.size B3 o 0 len) hown (wks W (staticW U16 115 Cmp5.yN)) (wk W Cmp5.tab) (W := 0) (Nat.le_of_ble_eq_true rfl) (Nat.le_of_ble_eq_true rfl) (Nat.le_refl _) (by show 0 + len + 0 ≤ len; omega) (g := (mkF m 9 #[.val (.ref b), .val (.int (Int32.ofNat o)), .val (.int (Int32.ofNat len)), .val (.ref s.heap.size), .unset, .unset] [.int (Int32.ofNat len), .int (Int32.ofNat 0), .ref s.heap.size, .int (Int32.ofNat o), .ref b])) rfl (by rw [hml]; rfl) c5 (argsL := [.ref b, .int (Int32.ofNat o), .ref s.heap.size, .int (Int32.ofNat 0), .int (Int32.ofNat len)]) (rest := []) rfl rfl (by show 2 * 0 + 0 ≤ _; decide) (hb hbytes d9) (⟨rfl, hA3, ba3, hne, l1, by rw [bs3]; simp, hp⟩)
  obtain ⟨rfl, B6, p6, f6⟩ := E6
  have c7 : Steps p.tables e below (s₁.setTop (entryFrame m #[.ref b, .int (Int32.ofNat o), .int (Int32.ofNat len)] 6)) (T6.setTop (mkF m 12 #[.val (.ref b), .val (.int (Int32.ofNat o)), .val (.int (Int32.ofNat len)), .val (.ref s.heap.size), .unset, .unset] [.int (Int32.ofNat len)])) := g6
  have c8 : Steps p.tables e below (s₁.setTop (entryFrame m #[.ref b, .int (Int32.ofNat o), .int (Int32.ofNat len)] 6)) (T6.setTop (mkF m 58 #[.val (.ref b), .val (.int (Int32.ofNat o)), .val (.int (Int32.ofNat len)), .val (.ref s.heap.size), .val (.int (Int32.ofNat len)), .unset] [.ref s.heap.size])) := c7.trans (by
    refine XS.istore X6.here hexec rfl (hb hbytes d12) rfl rfl ?_
    refine XS.iload X6.here hexec rfl (hb hbytes d14) rfl ?_
    refine XS.iloadN X6.here hexec rfl (hb hbytes d16) rfl ?_
    refine XS.icmpYes X6.here hexec rfl (pc0 := 17) rfl (hb hbytes d17) rfl (ii_eq_t rfl) (by decide) rfl ?_
    refine XS.aloadN X6.here hexec rfl (hb hbytes d57) rfl rfl ?_
    exact Steps.refl _)
  have X8 := X6.wide (L' := []) (cells' := 1) (slots' := len) (fun x hx hlt => by
    simp only [List.nil_append, copyLocs, List.mem_map, List.mem_range] at hx
    obtain ⟨i, -, rfl⟩ := hx
    exact absurd hlt (Nat.lt_irrefl _)) (Nat.le_refl _) (by omega)
  exact ⟨T6, some (.ref s.heap.size), _, _, _, X8, rfl, rfl, rfl, (fun h => by cases h), ⟨⟨rfl, B6, ba3.like (X3.warmed.alike.symm.trans X6.warmed.alike) p6.1 f6.1 f6.2.1 f6.2.2.1, f6.2.1.trans bv3, by rw [X6.warmed.alike.findClass, f6.1]; exact bf3, by rw [f6.2.2.1, bs3]; simp, fun j hj => by rw [f6.2.2.2 j, if_pos (by omega)]; rfl, kp3.put p6 (Nat.le_refl _)⟩, by rw [p6.2.2, bh3, hh0]; simp⟩, fun fs hl => c8.trans (X8.areturnOut hexec rfl hret rfl (hb hbytes d58) hl)⟩
end Cmp3
namespace CodL
def yN : MethodName := ⟨"java/lang/StringUTF16", "coderFromArrayLen", "([BI)B"⟩
abbrev yB : ByteArray := jdk_52_method_15_code
theorem d0 : decode yB 0 = .ok (.iload_n 1, 1) := by decide +kernel
theorem d1 : decode yB 1 = .ok (.aload_n 0, 1) := by decide +kernel
theorem d2 : decode yB 2 = .ok (.arraylength, 1) := by decide +kernel
theorem d3 : decode yB 3 = .ok (.isub, 1) := by decide +kernel
theorem d4 : decode yB 4 = .ok (.bipush 31, 2) := by decide +kernel
theorem d6 : decode yB 6 = .ok (.iushr, 1) := by decide +kernel
theorem d7 : decode yB 7 = .ok (.i2b, 1) := by decide +kernel
theorem d8 : decode yB 8 = .ok (.ireturn, 1) := by decide +kernel
def site : List Cond := []
def tab : Cond := tabOf yN yB 2 (some .byte) site
def P (d : Addr) (B : Cell) (args : Array Value) (s : State) : Prop := args = #[.ref d, .int (Int32.ofNat B.slots.size)] ∧ Arr .byte d B s
def E (r : Option Value) (s u : State) : Prop := XT.PureE (some (.int 0)) r s u
/-- an array as long as the number of chars: LATIN1 -/
theorem law (l : Launch) (d : Addr) (B : Cell) : Law l yN 2 2 0 0 yB 2 (some .byte) site (P d B) E [] 0 0 := by
  refine Law.of_walk (plainFor_of_name (by decide +kernel)) (by decide +kernel) (by decide +kernel) (by decide) (fun _ _ h => by rw [h.1]; rfl) (fun _ U U' hal hh h => ⟨h.1, h.2.mv hal hh⟩) (fun r U U' V V' h1 hal h2 h => XT.PureE.mv r U U' V V' h1 hal h2 h) ?_
  intro p e s m args below meth c s₁ X0 hexec hbytes hml hret hlk hnm hown hh0 W hP
  obtain ⟨rfl, hB⟩ := hP
  have hB0 := hB.mv X0.warmed.alike hh0
  have c1 : Steps p.tables e below (s₁.setTop (entryFrame m #[.ref d, .int (Int32.ofNat B.slots.size)] 2)) (s₁.setTop (mkF m 0 #[.val (.ref d), .val (.int (Int32.ofNat B.slots.size))] [])) := entry rfl
  have c2 : Steps p.tables e below (s₁.setTop (entryFrame m #[.ref d, .int (Int32.ofNat B.slots.size)] 2)) (s₁.setTop (mkF m 2 #[.val (.ref d), .val (.int (Int32.ofNat B.slots.size))] [.ref d, .int (Int32.ofNat B.slots.size)])) := c1.trans (by
    refine XS.iloadN X0.here hexec rfl (hb hbytes d0) rfl ?_
    refine XS.aloadN X0.here hexec rfl (hb hbytes d1) rfl rfl ?_
    exact Steps.refl _)
  have c3 : Steps p.tables e below (s₁.setTop (entryFrame m #[.ref d, .int (Int32.ofNat B.slots.size)] 2)) (s₁.setTop (mkF m 8 #[.val (.ref d), .val (.int (Int32.ofNat B.slots.size))] [.int (lo8 (ushr (Int32.ofNat B.slots.size - Int32.ofNat B.slots.size) 31))])) := c2.trans (by
    refine X0.alen hexec hB0 rfl rfl (hb hbytes d2) ?_
    refine XS.isub X0.here hexec rfl (hb hbytes d3) rfl ?_
    refine bipushV X0.here hexec rfl 31 (hb hbytes d4) (by decide) ?_
    refine iushr X0.here hexec rfl (hb hbytes d6) rfl ?_
    refine i2b X0.here hexec rfl (hb hbytes d7) rfl ?_
    exact Steps.refl _)
  have e0 : lo8 (ushr (Int32.ofNat B.slots.size - Int32.ofNat B.slots.size) 31) = 0 := by rw [Int32.sub_self]; decide
  rw [e0] at c3
  exact ⟨s₁, some (.int 0), _, _, _, X0, rfl, rfl, rfl, (fun h => by cases h), ⟨rfl, hh0⟩, fun fs hl => c3.trans (X0.ireturnOut hexec hret rfl (Or.inr (Or.inr (Or.inl rfl))) (hb hbytes d8) hl)⟩
end CodL
/-- the String at a is Latin-1 over a new byte[] (the heap's one new cell): the low bytes of the len chars of A from o on; every cell but a is kept -/
def Got (a : Addr) (D : Cell) (fV fC : Field) (A : Cell) (o len : Nat) (r : Option Value) (s u : State) : Prop := r = none ∧ ∃ D' V : Cell, Blank "java/lang/String" a D' u ∧ Same D D' [fV.slot, fC.slot] ∧ D'.slots[fV.slot]? = some (.ref s.heap.size) ∧ D'.slots[fC.slot]? = some (.int 0) ∧ Arr .byte s.heap.size V u ∧ V.vm = .none ∧ u.vm.findClass "[B" = some V.cls ∧ V.slots.size = len ∧ (∀ j, j < len → V.slots[j]? = some (.int (lo8 (cv A (o + j))))) ∧ (∀ (y : Addr) (c : Cell), y ≠ a → s.heap[y]? = some c → u.heap[y]? = some c) ∧ u.heap.size = s.heap.size + 1
theorem Got.mv {a : Addr} {D A : Cell} {fV fC : Field} {o len : Nat} : ∀ r (U U' V V' : State), U'.heap = U.heap → V.vm.Alike V'.vm → V'.heap = V.heap → Got a D fV fC A o len r U V → Got a D fV fC A o len r U' V' :=
  fun r U U' V V' h1 hal h2 ⟨e0, D', X, a1, a2, a3, a4, a5, a6, a7, a8, a9, a10, a11⟩ => ⟨e0, D', X, a1.mv hal h2, a2, by rw [h1]; exact a3, a4, by rw [h1]; exact a5.mv hal h2, a6, by rw [hal.findClass]; exact a7, a8, a9, by rw [h1, h2]; exact a10, by rw [h1, h2]; exact a11⟩
namespace New4
def yN : MethodName := ⟨"java/lang/String", "<init>", "([CIILjava/lang/Void;)V"⟩
abbrev yB : ByteArray := jdk_42_method_149_code
theorem d0 : decode yB 0 = .ok (.aload_n 0, 1) := by decide +kernel
theorem d1 : decode yB 1 = .ok (.invokespecial 1, 3) := by decide +kernel
theorem d4 : decode yB 4 = .ok (.iload_n 3, 1) := by decide +kernel
theorem d5 : decode yB 5 = .ok (.ifCond (.ne) 22, 3) := by decide +kernel
theorem d27 : decode yB 27 = .ok (.getstatic 38, 3) := by decide +kernel
theorem d30 : decode yB 30 = .ok (.ifCond (.eq) 28, 3) := by decide +kernel
theorem d33 : decode yB 33 = .ok (.aload_n 1, 1) := by decide +kernel
theorem d34 : decode yB 34 = .ok (.iload_n 2, 1) := by decide +kernel
theorem d35 : decode yB 35 = .ok (.iload_n 3, 1) := by decide +kernel
theorem d36 : decode yB 36 = .ok (.invokestatic 177, 3) := by decide +kernel
theorem d39 : decode yB 39 = .ok (.astore 5, 2) := by decide +kernel
theorem d41 : decode yB 41 = .ok (.aload_n 0, 1) := by decide +kernel
theorem d42 : decode yB 42 = .ok (.aload 5, 2) := by decide +kernel
theorem d44 : decode yB 44 = .ok (.iload_n 3, 1) := by decide +kernel
theorem d45 : decode yB 45 = .ok (.invokestatic 47, 3) := by decide +kernel
theorem d48 : decode yB 48 = .ok (.putfield 15, 3) := by decide +kernel
theorem d51 : decode yB 51 = .ok (.aload_n 0, 1) := by decide +kernel
theorem d52 : decode yB 52 = .ok (.aload 5, 2) := by decide +kernel
theorem d54 : decode yB 54 = .ok (.putfield 9, 3) := by decide +kernel
theorem d57 : decode yB 57 = .ok (.return_, 1) := by decide +kernel
def site : List Cond := [.fieldLink "java/lang/String" 38 "java/lang/String" "COMPACT_STRINGS" "Z", Cmp3.tab, CodL.tab, .laysFinal "java/lang/String" "java/lang/String" "value" "[B", .fieldLink "java/lang/String" 9 "java/lang/String" "value" "[B", .laysFinal "java/lang/String" "java/lang/String" "coder" "B", .fieldLink "java/lang/String" 15 "java/lang/String" "coder" "B"] ++ objW "java/lang/String" 1 ++ staticW "java/lang/String" 177 Cmp3.yN ++ staticW "java/lang/String" 47 CodL.yN
def tab : Cond := tabOf yN yB 6 none site
def P (a : Addr) (D : Cell) (fV fC : Field) (b : Addr) (A : Cell) (z : Int32) (o len : Nat) (args : Array Value) (s : State) : Prop := args = #[.ref a, .ref b, .int (Int32.ofNat o), .int (Int32.ofNat len), .null] ∧ Blank "java/lang/String" a D s ∧ Found "java/lang/String" "value" "[B" fV s ∧ Found "java/lang/String" "coder" "B" fC s ∧ Ch b A s ∧ StaticIs s "java/lang/String" "COMPACT_STRINGS" "Z" (.int z) ∧ ¬ z = 0 ∧ 0 < len ∧ o + len ≤ A.slots.size ∧ len ≤ 536870912 ∧ ∀ i, i < len → ¬ 255 < cv A (o + i)
def E (a : Addr) (D : Cell) (fV fC : Field) (A : Cell) (o len : Nat) (r : Option Value) (s u : State) : Prop := Got a D fV fC A o len r s u
/-- len > 0, no char of the range above 255: a Latin-1 String of their low bytes -/
theorem law (l : Launch) (a : Addr) (D : Cell) (fV fC : Field) (b : Addr) (A : Cell) (z : Int32) (o len : Nat) : Law l yN 5 4 2 35 yB 6 none site (P a D fV fC b A z o len) (E a D fV fC A o len) [⟨a, fC.slot⟩, ⟨a, fV.slot⟩] 1 len := by
  refine Law.of_walk (plainFor_of_name (by decide +kernel)) (by decide +kernel) (by decide +kernel) (by decide) (fun _ _ h => by rw [h.1]; rfl) (fun _ U U' hal hh h => ⟨h.1, h.2.1.mv hal hh, h.2.2.1.al hal, h.2.2.2.1.al hal, h.2.2.2.2.1.mv hal hh, h.2.2.2.2.2.1.there hal hh, h.2.2.2.2.2.2⟩) (fun r U U' V V' h1 hal h2 h => Got.mv r U U' V V' h1 hal h2 h) ?_
  intro p e s m args below meth c s₁ X0 hexec hbytes hml hret hlk hnm hown hh0 W hP
  obtain ⟨rfl, hB, f1, f2, hA, s1, hz, l0, l1, l2, hp⟩ := hP
  have a31 := hA.1.2.2.2
  have c1 : Steps p.tables e below (s₁.setTop (entryFrame m #[.ref a, .ref b, .int (Int32.ofNat o), .int (Int32.ofNat len), .null] 6)) (s₁.setTop (mkF m 0 #[.val (.ref a), .val (.ref b), .val (.int (Int32.ofNat o)), .val (.int (Int32.ofNat len)), .val .null, .unset] [])) := entry rfl
  have c2 : Steps p.tables e below (s₁.setTop (entryFrame m #[.ref a, .ref b, .int (Int32.ofNat o), .int (Int32.ofNat len), .null] 6)) (s₁.setTop (mkF m 1 #[.val (.ref a), .val (.ref b), .val (.int (Int32.ofNat o)), .val (.int (Int32.ofNat len)), .val .null, .unset] [.ref a])) := c1.trans (by
    refine XS.aloadN X0.here hexec rfl (hb hbytes d0) rfl rfl ?_
    exact Steps.refl _)
  obtain ⟨T3, X3, q3, st3⟩ := X0.oinit hexec hown (wks W (objW "java/lang/String" 1)) (g := (mkF m 1 #[.val (.ref a), .val (.ref b), .val (.int (Int32.ofNat o)), .val (.int (Int32.ofNat len)), .val .null, .unset] [.ref a])) rfl (by rw [hml]; rfl) (rest := []) rfl (hb hbytes d1) (W := 0) (by show 2 * 0 + 0 ≤ _; decide) (Nat.le_of_ble_eq_true rfl) (Nat.le_of_ble_eq_true rfl)
  have hh3 := q3.trans hh0
  have c4 : Steps p.tables e below (s₁.setTop (entryFrame m #[.ref a, .ref b, .int (Int32.ofNat o), .int (Int32.ofNat len), .null] 6)) (T3.setTop (mkF m 27 #[.val (.ref a), .val (.ref b), .val (.int (Int32.ofNat o)), .val (.int (Int32.ofNat len)), .val .null, .unset] [])) := (c2.trans (st3 _ (Steps.refl _))).trans (by
    refine XS.iloadN X3.here hexec rfl (hb hbytes d4) rfl ?_
    refine XS.ifYes X3.here hexec rfl (pc0 := 5) rfl (hb hbytes d5) rfl (i0_ne_t (nz32 (by omega) l0)) (by decide) rfl ?_
    exact Steps.refl _)
  obtain ⟨T5, X5, q5, st5⟩ := X3.sget hexec hown (wk W (.fieldLink "java/lang/String" 38 "java/lang/String" "COMPACT_STRINGS" "Z")) s1 (fun _ _ h => by rw [hh3]; exact h) (g := (mkF m 27 #[.val (.ref a), .val (.ref b), .val (.int (Int32.ofNat o)), .val (.int (Int32.ofNat len)), .val .null, .unset] [])) rfl (hb hbytes d27)
  have hh5 := q5.trans hh3
  have c6 : Steps p.tables e below (s₁.setTop (entryFrame m #[.ref a, .ref b, .int (Int32.ofNat o), .int (Int32.ofNat len), .null] 6)) (T5.setTop (mkF m 30 #[.val (.ref a), .val (.ref b), .val (.int (Int32.ofNat o)), .val (.int (Int32.ofNat len)), .val .null, .unset] [.int z])) := c4.trans (st5 _ (Steps.refl _))
  have c7 : Steps p.tables e below (s₁.setTop (entryFrame m #[.ref a, .ref b, .int (Int32.ofNat o), .int (Int32.ofNat len), .null] 6)) (T5.setTop (mkF m 36 #[.val (.ref a), .val (.ref b), .val (.int (Int32.ofNat o)), .val (.int (Int32.ofNat len)), .val .null, .unset] [.int (Int32.ofNat len), .int (Int32.ofNat o), .ref b])) := c6.trans (by
    refine XS.ifNo X5.here hexec rfl (hb hbytes d30) rfl (i0_eq_f hz) ?_
    refine XS.aloadN X5.here hexec rfl (hb hbytes d33) rfl rfl ?_
    refine XS.iloadN X5.here hexec rfl (hb hbytes d34) rfl ?_
    refine XS.iloadN X5.here hexec rfl (hb hbytes d35) rfl ?_
    exact Steps.refl _)
  obtain ⟨v8, T8, X8, E8, g8⟩ := X5.callS hexec (Cmp3.law l b A o len) hown (wks W (staticW "java/lang/String" 177 Cmp3.yN)) (wk W Cmp3.tab) (W := 0) (Nat.le_of_ble_eq_true rfl) (Nat.le_of_ble_eq_true rfl) (Nat.le_refl _) (by show 0 + len ≤ len; omega) (g := (mkF m 36 #[.val (.ref a), .val (.ref b), .val (.int (Int32.ofNat o)), .val (.int (Int32.ofNat len)), .val .null, .unset] [.int (Int32.ofNat len), .int (Int32.ofNat o), .ref b])) rfl (by rw [hml]; rfl) c7 (argsL := [.ref b, .int (Int32.ofNat o), .int (Int32.ofNat len)]) (rest := []) rfl rfl (by show 2 * 0 + 0 ≤ _; decide) (hb hbytes d36) (⟨rfl, hA.mv X5.warmed.alike hh5, l1, l2, hp⟩)
  obtain ⟨e8, z8⟩ := E8
  obtain ⟨rfl, N, n1, n2, n3, n4, n5, n6⟩ := NewArr.mv _ T5 s _ _ hh5.symm (Vm.Alike.refl _) rfl e8
  rw [hh5] at z8
  have hB1 := hB.keep X8.warmed.alike (n6 _ _ hB.1)
  have hne : s.heap.size ≠ a := (Nat.ne_of_lt (Array.getElem?_eq_some_iff.mp hB.1).1).symm
  have c9 : Steps p.tables e below (s₁.setTop (entryFrame m #[.ref a, .ref b, .int (Int32.ofNat o), .int (Int32.ofNat len), .null] 6)) (T8.setTop (mkF m 39 #[.val (.ref a), .val (.ref b), .val (.int (Int32.ofNat o)), .val (.int (Int32.ofNat len)), .val .null, .unset] [.ref s.heap.size])) := g8
  have c10 : Steps p.tables e below (s₁.setTop (entryFrame m #[.ref a, .ref b, .int (Int32.ofNat o), .int (Int32.ofNat len), .null] 6)) (T8.setTop (mkF m 45 #[.val (.ref a), .val (.ref b), .val (.int (Int32.ofNat o)), .val (.int (Int32.ofNat len)), .val .null, .val (.ref s.heap.size)] [.int (Int32.ofNat N.slots.size), .ref s.heap.size, .ref a])) := by
    have hc : Steps p.tables e below (s₁.setTop (entryFrame m #[.ref a, .ref b, .int (Int32.ofNat o), .int (Int32.ofNat len), .null] 6)) (T8.setTop (mkF m 45 #[.val (.ref a), .val (.ref b), .val (.int (Int32.ofNat o)), .val (.int (Int32.ofNat len)), .val .null, .val (.ref s.heap.size)] [.int (Int32.ofNat len), .ref s.heap.size, .ref a])) := c9.trans (by
      refine XS.astore X8.here hexec rfl (hb hbytes d39) rfl rfl rfl ?_
      refine XS.aloadN X8.here hexec rfl (hb hbytes d41) rfl rfl ?_
      refine XS.aload X8.here hexec rfl (hb hbytes d42) rfl rfl ?_
      refine XS.iloadN X8.here hexec rfl (hb hbytes d44) rfl ?_
      exact Steps.refl _)
    rw [n4]; exact hc
  obtain ⟨v11, T11, X11, E11, g11⟩ := X8.callS hexec (CodL.law l s.heap.size N) hown (wks W (staticW "java/lang/String" 47 CodL.yN)) (wk W CodL.tab) (W := 1) (Nat.le_of_ble_eq_true rfl) (Nat.le_of_ble_eq_true rfl) (Nat.le_refl _) (by show 0 + len + 0 ≤ len; omega) (g := (mkF m 45 #[.val (.ref a), .val (.ref b), .val (.int (Int32.ofNat o)), .val (.int (Int32.ofNat len)), .val .null, .val (.ref s.heap.size)] [.int (Int32.ofNat N.slots.size), .ref s.heap.size, .ref a])) rfl (by rw [hml]; rfl) c10 (argsL := [.ref s.heap.size, .int (Int32.ofNat N.slots.size)]) (rest := [.ref a]) rfl rfl (by show 2 * 0 + (1 + 0) ≤ _; decide) (hb hbytes d45) (⟨rfl, n1⟩)
  obtain ⟨rfl, q11⟩ := E11
  have hB11 := hB1.mv (X8.warmed.alike.symm.trans X11.warmed.alike) q11
  have c12 : Steps p.tables e below (s₁.setTop (entryFrame m #[.ref a, .ref b, .int (Int32.ofNat o), .int (Int32.ofNat len), .null] 6)) (T11.setTop (mkF m 48 #[.val (.ref a), .val (.ref b), .val (.int (Int32.ofNat o)), .val (.int (Int32.ofNat len)), .val .null, .val (.ref s.heap.size)] [.int 0, .ref a])) := g11
  obtain ⟨T13, X13, p13, bl13, sl13, st13⟩ := X11.finit hexec hown (wk W (.fieldLink "java/lang/String" 15 "java/lang/String" "coder" "B")) (Or.inr ⟨_, (wk W (.laysFinal "java/lang/String" "java/lang/String" "coder" "B"))⟩) (Or.inl ⟨rfl, hnm⟩) f2 (Or.inl rfl) hB11 (t := .byte) (by decide +kernel) rfl (g := (mkF m 48 #[.val (.ref a), .val (.ref b), .val (.int (Int32.ofNat o)), .val (.int (Int32.ofNat len)), .val .null, .val (.ref s.heap.size)] [.int 0, .ref a])) rfl (rest := []) rfl (hb hbytes d48)
  have c14 : Steps p.tables e below (s₁.setTop (entryFrame m #[.ref a, .ref b, .int (Int32.ofNat o), .int (Int32.ofNat len), .null] 6)) (T13.setTop (mkF m 54 #[.val (.ref a), .val (.ref b), .val (.int (Int32.ofNat o)), .val (.int (Int32.ofNat len)), .val .null, .val (.ref s.heap.size)] [.ref s.heap.size, .ref a])) := (c12.trans (st13 _ (Steps.refl _))).trans (by
    refine XS.aloadN X13.here hexec rfl (hb hbytes d51) rfl rfl ?_
    refine XS.aload X13.here hexec rfl (hb hbytes d52) rfl rfl ?_
    exact Steps.refl _)
  obtain ⟨T15, X15, p15, bl15, sl15, st15⟩ := X13.finit hexec hown (wk W (.fieldLink "java/lang/String" 9 "java/lang/String" "value" "[B")) (Or.inr ⟨_, (wk W (.laysFinal "java/lang/String" "java/lang/String" "value" "[B"))⟩) (Or.inl ⟨rfl, hnm⟩) f1 (Or.inl rfl) bl13 (t := (.array .byte)) (by decide +kernel) rfl (g := (mkF m 54 #[.val (.ref a), .val (.ref b), .val (.int (Int32.ofNat o)), .val (.int (Int32.ofNat len)), .val .null, .val (.ref s.heap.size)] [.ref s.heap.size, .ref a])) rfl (rest := []) rfl (hb hbytes d54)
  have c16 : Steps p.tables e below (s₁.setTop (entryFrame m #[.ref a, .ref b, .int (Int32.ofNat o), .int (Int32.ofNat len), .null] 6)) (T15.setTop (mkF m 57 #[.val (.ref a), .val (.ref b), .val (.int (Int32.ofNat o)), .val (.int (Int32.ofNat len)), .val .null, .val (.ref s.heap.size)] [])) := c14.trans (st15 _ (Steps.refl _))
  have ap := apart (Or.inr ⟨_, (wk W (.laysFinal "java/lang/String" "java/lang/String" "value" "[B"))⟩) (Or.inr ⟨_, (wk W (.laysFinal "java/lang/String" "java/lang/String" "coder" "B"))⟩) f1 f2 (t₁ := .array .byte) (t₂ := .byte) (by decide +kernel) (by decide +kernel) (by decide)
  have al := X8.warmed.alike.symm.trans X15.warmed.alike
  have n7 : T11.heap[s.heap.size]? = some N := by rw [q11]; exact n1.1
  exact ⟨T15, none, _, _, _, X15, by simp, rfl, by omega, (fun _ => rfl), ⟨rfl, _, N, bl15, ((Same.refl D _).set _ (by simp)).set _ (by simp), sl15, (Cell.slots_setSlot_ne _ ap).trans sl13, n1.keep al (p15.other hne (p13.other hne n7)), n2, by rw [al.findClass]; exact n3, n4, n5, fun y c h1 h2 => p15.other h1 (p13.other h1 (by rw [q11]; exact n6 y c h2)), by rw [p15.2.2, p13.2.2, q11]; exact z8⟩, fun fs hl => c16.trans (X15.returnOut hexec hret (hb hbytes d57) hl)⟩
end New4
namespace New1
def yN : MethodName := ⟨"java/lang/String", "<init>", "([C)V"⟩
abbrev yB : ByteArray := jdk_42_method_3_code
theorem d0 : decode yB 0 = .ok (.aload_n 0, 1) := by decide +kernel
theorem d1 : decode yB 1 = .ok (.aload_n 1, 1) := by decide +kernel
theorem d2 : decode yB 2 = .ok (.iconst 0, 1) := by decide +kernel
theorem d3 : decode yB 3 = .ok (.aload_n 1, 1) := by decide +kernel
theorem d4 : decode yB 4 = .ok (.arraylength, 1) := by decide +kernel
theorem d5 : decode yB 5 = .ok (.aconst_null, 1) := by decide +kernel
theorem d6 : decode yB 6 = .ok (.invokespecial 27, 3) := by decide +kernel
theorem d9 : decode yB 9 = .ok (.return_, 1) := by decide +kernel
def site : List Cond := [New4.tab] ++ initW "java/lang/String" 27 New4.yN
def tab : Cond := tabOf yN yB 2 none site
def P (a : Addr) (D : Cell) (fV fC : Field) (b : Addr) (A : Cell) (z : Int32) (args : Array Value) (s : State) : Prop := args = #[.ref a, .ref b] ∧ Blank "java/lang/String" a D s ∧ Found "java/lang/String" "value" "[B" fV s ∧ Found "java/lang/String" "coder" "B" fC s ∧ Ch b A s ∧ StaticIs s "java/lang/String" "COMPACT_STRINGS" "Z" (.int z) ∧ ¬ z = 0 ∧ 0 < A.slots.size ∧ A.slots.size ≤ 536870912 ∧ ∀ i, i < A.slots.size → ¬ 255 < cv A i
def E (a : Addr) (D : Cell) (fV fC : Field) (A : Cell) (r : Option Value) (s u : State) : Prop := Got a D fV fC A 0 A.slots.size r s u
/-- new String(chars), not empty, no char above 255: a Latin-1 String of their low bytes -/
theorem law (l : Launch) (a : Addr) (D : Cell) (fV fC : Field) (b : Addr) (A : Cell) (z : Int32) : Law l yN 2 1 3 52 yB 2 none site (P a D fV fC b A z) (E a D fV fC A) [⟨a, fC.slot⟩, ⟨a, fV.slot⟩] 1 A.slots.size := by
  refine Law.of_walk (plainFor_of_name (by decide +kernel)) (by decide +kernel) (by decide +kernel) (by decide) (fun _ _ h => by rw [h.1]; rfl) (fun _ U U' hal hh h => ⟨h.1, h.2.1.mv hal hh, h.2.2.1.al hal, h.2.2.2.1.al hal, h.2.2.2.2.1.mv hal hh, h.2.2.2.2.2.1.there hal hh, h.2.2.2.2.2.2⟩) (fun r U U' V V' h1 hal h2 h => Got.mv r U U' V V' h1 hal h2 h) ?_
  intro p e s m args below meth c s₁ X0 hexec hbytes hml hret hlk hnm hown hh0 W hP
  obtain ⟨rfl, hB, f1, f2, hA, s1, hz, l0, l2, hp⟩ := hP
  have c1 : Steps p.tables e below (s₁.setTop (entryFrame m #[.ref a, .ref b] 2)) (s₁.setTop (mkF m 0 #[.val (.ref a), .val (.ref b)] [])) := entry rfl
  have c2 : Steps p.tables e below (s₁.setTop (entryFrame m #[.ref a, .ref b] 2)) (s₁.setTop (mkF m 6 #[.val (.ref a), .val (.ref b)] [.null, .int (Int32.ofNat A.slots.size), .int 0, .ref b, .ref a])) := c1.trans (by
    refine XS.aloadN X0.here hexec rfl (hb hbytes d0) rfl rfl ?_
    refine XS.aloadN X0.here hexec rfl (hb hbytes d1) rfl rfl ?_
    refine iconstV X0.here hexec rfl 0 (hb hbytes d2) (by decide) ?_
    refine XS.aloadN X0.here hexec rfl (hb hbytes d3) rfl rfl ?_
    refine X0.alen hexec (hA.1.mv X0.warmed.alike hh0) rfl rfl (hb hbytes d4) ?_
    refine XS.aconstNull X0.here hexec rfl (hb hbytes d5) ?_
    exact Steps.refl _)
  obtain ⟨v3, T3, X3, E3, g3⟩ := X0.callN hexec (New4.law l a D fV fC b A z 0 A.slots.size) rfl hown (wks W (initW "java/lang/String" 27 New4.yN)) (W New4.tab (by simp only [site, List.mem_cons, List.mem_append, true_or, or_true])) (W := 0) (Nat.le_of_ble_eq_true rfl) (Nat.le_of_ble_eq_true rfl) (Nat.le_refl _) (by show 0 + A.slots.size ≤ A.slots.size; omega) (g := (mkF m 6 #[.val (.ref a), .val (.ref b)] [.null, .int (Int32.ofNat A.slots.size), .int (Int32.ofNat 0), .ref b, .ref a])) rfl (by rw [hml]; rfl) c2 (argsL := [.ref b, .int (Int32.ofNat 0), .int (Int32.ofNat A.slots.size), .null]) (rest := []) rfl rfl (by show 2 * 0 + 0 ≤ _; decide) (hb hbytes d6) (⟨rfl, hB.mv X0.warmed.alike hh0, f1.al X0.warmed.alike, f2.al X0.warmed.alike, hA.mv X0.warmed.alike hh0, s1.there X0.warmed.alike hh0, hz, l0, by omega, l2, fun i hi => by rw [Nat.zero_add]; exact hp i hi⟩)
  have e0 := Got.mv _ s₁ s _ _ hh0.symm (Vm.Alike.refl _) rfl E3
  obtain rfl := e0.1
  have c4 : Steps p.tables e below (s₁.setTop (entryFrame m #[.ref a, .ref b] 2)) (T3.setTop (mkF m 9 #[.val (.ref a), .val (.ref b)] [])) := g3
  exact ⟨T3, none, _, _, _, X3, by simp, rfl, by omega, (fun _ => rfl), e0, fun fs hl => c4.trans (X3.returnOut hexec hret (hb hbytes d9) hl)⟩
theorem pays {l : Launch} {R : Room} {p : Program} {e : Env} {below : List Frame} {s : State} {sargs : Array Value} {len W : Nat} (a : Addr) (D : Cell) (fV fC : Field) (b : Addr) (A : Cell) (z : Int32) (htab : tab.before sargs s = true) (hfr : 4 ≤ R.frames) (hlo : W + 65 ≤ R.locals) :
    Back l R p e below s sargs yN len W (fun A₁ a₁ => A₁.cells + 1 ≤ R.cells ∧ A₁.slots + A.slots.size ≤ R.slots ∧ P a D fV fC b A z a₁ A₁.U) (fun A₁ _ v₁ B₁ => E a D fV fC A v₁ A₁.U B₁.U ∧ B₁.locs = A₁.locs ++ [⟨a, fC.slot⟩, ⟨a, fV.slot⟩] ∧ B₁.cells = A₁.cells + 1 ∧ B₁.slots = A₁.slots + A.slots.size) :=
  (law l a D fV fC b A z).pays htab hfr (by omega)
end New1
end StrChars
namespace StrChars.Road
open Jvm Sem ClassFile Op Lib Jvm.Stand Jvm.Free Jvm.Free.XT
open Jvm.Lib.Cold (StaticIs)
abbrev ST : String := "java/lang/String"
/-- every table word that New1's law asks, flat -/
abbrev words : List Jvm.Cond := [.code New1.yN New1.yB 2 none, .initialized ST, .methodLink ST 27 New4.yN, .instanceMethod New4.yN,
  .code New4.yN New4.yB 6 none, .fieldLink ST 38 ST "COMPACT_STRINGS" "Z", .laysFinal ST ST "value" "[B", .fieldLink ST 9 ST "value" "[B", .laysFinal ST ST "coder" "B", .fieldLink ST 15 ST "coder" "B",
  .methodLink ST 1 Lib.objectInit, .instanceMethod Lib.objectInit, .code Lib.objectInit ⟨#[0xb1]⟩ 1 none, .methodLink ST 177 Cmp3.yN, .static Cmp3.yN, .methodLink ST 47 CodL.yN, .static CodL.yN,
  .code Cmp3.yN Cmp3.yB 6 (some (.array .byte)), .initialized U16, .arrayClass .byte, .methodLink U16 115 Cmp5.yN, .static Cmp5.yN, .code Cmp5.yN Cmp5.yB 7 (some .int), .code CodL.yN CodL.yB 2 (some .byte)]
theorem tab_of {a : Array Value} {s : State} (h : ∀ w ∈ words, w.before a s = true) : New1.tab.before a s = true := by
  have h5 : Cmp5.tab.before a s = true := unparts (wk h (.code Cmp5.yN Cmp5.yB 7 (some .int))) (wks h (.initialized Cmp5.yN.cls :: Cmp5.site))
  have hc : CodL.tab.before a s = true := unparts (wk h (.code CodL.yN CodL.yB 2 (some .byte))) (wks h (.initialized CodL.yN.cls :: CodL.site))
  have q5 : ∀ w ∈ Cmp5.tab :: words, w.before a s = true := fun w hw => (List.mem_cons.mp hw).elim (fun e => e ▸ h5) (h w)
  have h3 : Cmp3.tab.before a s = true := unparts (wk q5 (.code Cmp3.yN Cmp3.yB 6 (some (.array .byte)))) (wks q5 (.initialized Cmp3.yN.cls :: Cmp3.site))
  have q3 : ∀ w ∈ Cmp3.tab :: CodL.tab :: words, w.before a s = true := fun w hw => (List.mem_cons.mp hw).elim (fun e => e ▸ h3) fun hw => (List.mem_cons.mp hw).elim (fun e => e ▸ hc) (h w)
  have h4 : New4.tab.before a s = true := unparts (wk q3 (.code New4.yN New4.yB 6 none)) (wks q3 (.initialized New4.yN.cls :: New4.site))
  have q4 : ∀ w ∈ New4.tab :: words, w.before a s = true := fun w hw => (List.mem_cons.mp hw).elim (fun e => e ▸ h4) (h w)
  exact unparts (wk q4 (.code New1.yN New1.yB 2 none)) (wks q4 (.initialized New1.yN.cls :: New1.site))
/-- the words ride from the start Z to the walk's own state -/
theorem moved {Z s : State} {a0 args : Array Value} (hZ : Z.Warmed39 s.vm) (hw : ∀ d ∈ words, d.before a0 Z = true) : ∀ d ∈ words, d.before args s = true := fun d hd => by
  have q := hw d hd
  have t : ∀ d ∈ words, d = .arrayClass .byte ∨ (d.onTables && d.keepsFace) = true := by decide +kernel
  rcases t d hd with rfl | t
  · exact RoadKit.mvA hZ q
  · exact RoadKit.mv hZ q t
/-- WHAT COMES BACK, over the tables of the start Z: h the heap at the call, h' behind it -/
def Q (Z : State) (x : Addr) (A : Cell) (h : Heap) (v : Option Value) (h' : Heap) (L : List Loc) : Prop := v = none ∧ (∀ y ∈ L, y.base = x) ∧ RoadKit.Keep h h' [x] ∧ h'.size = h.size + 1 ∧ RoadKit.Exa Z h' x ST ∧ RoadKit.Fld Z h' x ST "value" "[B" (.ref h.size) ∧ RoadKit.Fld Z h' x ST "coder" "B" (.int 0) ∧
  (∃ V : Cell, RoadKit.Arr Z h' h.size V .byte ∧ V.vm = .none ∧ Z.vm.findClass "[B" = some V.cls ∧ V.slots.size = A.slots.size ∧ ∀ j, j < A.slots.size → V.slots[j]? = some (.int (lo8 (cv A j)))) ∧
  ∀ (O n d : String) (w : Value), RoadKit.Fld Z h x O n d w → RoadKit.slotOf Z O n d ≠ RoadKit.slotOf Z ST "value" "[B" → RoadKit.slotOf Z O n d ≠ RoadKit.slotOf Z ST "coder" "B" → RoadKit.Fld Z h' x O n d w
/-- **new String(chars) AT A CALL, IN THE ROAD'S FORM**: for specialBack behind newO: x the fresh String, b the char[] with the cell A -/
theorem back {p : Program} {l : Launch} {e : Env} {R : Room} {s : State} {args : Array Value} {below : List Frame} {len W : Nat} {Z : State} {a0 : Array Value} {h : Heap} (hZ : Z.Warmed39 s.vm) (hw : ∀ d ∈ words, d.before a0 Z = true) {kI : Nat} (wi : (Jvm.Cond.instantiable ST kI).before a0 Z = true)
    {x b : Addr} {A : Cell} {z : Int32} {v0 c0 : Value} (E : RoadKit.Exa Z h x ST) (V : RoadKit.Fld Z h x ST "value" "[B" v0) (C : RoadKit.Fld Z h x ST "coder" "B" c0) (K : RoadKit.Arr Z h b A .char) (hty : Typed .char A) (S : RoadKit.Sta Z h ST "COMPACT_STRINGS" "Z" (.int z)) (hz : ¬ z = 0)
    (l0 : 0 < A.slots.size) (l2 : A.slots.size ≤ 536870912) (hp : ∀ i, i < A.slots.size → ¬ 255 < cv A i) (hfr : 4 ≤ R.frames) (hlo : W + 65 ≤ R.locals) :
    Back l R p e below s args New1.yN len W (fun P a => a = #[.ref x, .ref b] ∧ P.U.heap = h ∧ P.cells + 1 ≤ R.cells ∧ P.slots + A.slots.size ≤ R.slots)
      (fun P _ v B => ∃ L, Q Z x A h v B.U.heap L ∧ B.locs = P.locs ++ L ∧ B.cells = P.cells + 1 ∧ B.slots = P.slots + A.slots.size) := by
  intro m meth c P g ig mk a X hg hsize hdg hW hn hp'
  obtain ⟨rfl, rfl, r1, r2⟩ := hp'
  have al : Z.vm.Alike P.U.vm := hZ.alike.trans X.warmed.alike
  obtain ⟨D, cfV, kV, iV, fV, hD, gV, stV, knV, obV, asV, slV⟩ := id V
  obtain ⟨D', cfC, kC, iC, fC, hD', gC, stC, -, -, asC, slC⟩ := id C
  cases hD.symm.trans hD'
  obtain ⟨D2, kD, e1, e2, e3, e4, e5⟩ := id E
  cases hD.symm.trans e1
  obtain ⟨c2, k2, i1, i2, i3, -⟩ := Cond.instantiable_spec wi
  cases e2.symm.trans i1
  cases e3.symm.trans i2
  obtain ⟨kU, u1, u2⟩ := al.2.2 _ _ e3
  have hB : Blank ST x D P.U := ⟨hD, ⟨knV, fun q hq => by rw [hq] at obV; cases obV⟩, by rw [al.findClass]; exact e2, kU, u1, by rw [u2]; exact i3, by rw [u2]; exact e5 i3⟩
  have F1 : Found ST "value" "[B" fV P.U := ⟨SBG.found_only al ⟨cfV, kV, iV, gV⟩, stV⟩
  have F2 : Found ST "coder" "B" fC P.U := ⟨SBG.found_only al ⟨cfC, kC, iC, gC⟩, stC⟩
  have hA : Ch b A P.U := ⟨⟨K.1, State.isArrayOf_alike al K.2.1, K.2.2, by omega⟩, hty⟩
  have hS : StaticIs P.U ST "COMPACT_STRINGS" "Z" (.int z) := by
    obtain ⟨cfS, iS, kS, fS, st, cS, t1, t2, t3, t4, t5, t6, t7⟩ := S
    exact StaticIs.there (s := { Z with heap := P.U.heap }) ⟨cfS, iS, kS, fS, st, cS, t1, t2, t3, t4, t5, (fun q => by rw [q] at t6; cases t6), t7⟩ al rfl
  obtain ⟨v, B, X', ⟨⟨hv, E', V', q1, q2, q3, q4, q5, q6, q7, q8, q9, q10, q11⟩, hl, hc, hs⟩, st⟩ := New1.pays x D fV fC b A z (tab_of (moved hZ hw)) hfr hlo m meth c P g ig mk _ X hg hsize hdg hW hn ⟨r1, r2, rfl, hB, F1, F2, hA, hS, hz, l0, l2, hp⟩
  have al' : Z.vm.Alike B.U.vm := hZ.alike.trans X'.warmed.alike
  have hsz : E'.slots.size = D.slots.size := by
    obtain ⟨-, -, -, kB, w1, w2, w3⟩ := q1
    obtain ⟨kB', y1, y2⟩ := al'.2.2 _ _ e3
    rw [q2.2.1] at w1
    cases w1.symm.trans y1
    rw [w3, e5 i3, y2]
  refine ⟨v, B, X', ⟨_, ⟨hv, ?_, ⟨by omega, fun y cy hy hn' => q10 y cy (by simpa using hn') hy, fun y cy hy => ?_⟩, q11, ⟨E', _, q1.1, by rw [q2.2.1]; exact e2, by rw [q2.2.1]; exact e3, by rw [q2.1]; exact obV, fun _ => by rw [hsz]; exact e5 i3⟩,
    ⟨E', cfV, kV, iV, fV, q1.1, gV, stV, by rw [q2.1]; exact knV, by rw [q2.1]; exact obV, by rw [q2.2.1]; exact asV, q3⟩, ⟨E', cfC, kC, iC, fC, q1.1, gC, stC, by rw [q2.1]; exact knV, by rw [q2.1]; exact obV, by rw [q2.2.1]; exact asC, q4⟩,
    ⟨V', ⟨q5.1, State.isArrayOf_alike al'.symm q5.2.1, q5.2.2.1⟩, q6, by rw [← al'.findClass]; exact q7, q8, fun j hj => by have := q9 j hj; rwa [Nat.zero_add] at this⟩, fun O n d w F n1 n2 => ?_⟩, hl, hc, hs⟩, st⟩
  · intro y hy
    simp only [List.mem_cons, List.not_mem_nil, or_false] at hy
    rcases hy with rfl | rfl <;> rfl
  · by_cases q : y = x
    · subst q
      cases hD.symm.trans hy
      exact ⟨E', q1.1, q2.2.1, q2.1, hsz⟩
    · exact ⟨cy, q10 y cy q hy, rfl, rfl, rfl⟩
  · obtain ⟨D3, cf, k, i, f, g1, g2, g3, g4, g5, g6, g7⟩ := F
    cases hD.symm.trans g1
    simp only [RoadKit.slotOf, g2, gV, gC, Option.map_some, Option.getD_some] at n1 n2
    exact ⟨E', cf, k, i, f, q1.1, g2, g3, by rw [q2.1]; exact g4, by rw [q2.1]; exact g5, by rw [q2.2.1]; exact g6, by rw [q2.2.2 f.slot (by simp [n1, n2])]; exact g7⟩
end StrChars.Road
namespace StrChars.Road
open Jvm Sem ClassFile Op Lib Jvm.Stand Jvm.Free Jvm.Free.XT
/-- WHAT COMES BACK, the byte[] as a list of values -/
def QA (Z : State) (x : Addr) (zn : Int32) (cs : List Int32) (h : Heap) (v : Option Value) (h' : Heap) (L : List Loc) : Prop := v = none ∧ (∀ y ∈ L, y.base = x) ∧ RoadKit.Keep h h' [x] ∧ h'.size = h.size + 1 ∧ RoadKit.Exa Z h' x ST ∧ RoadKit.Fld Z h' x ST "value" "[B" (.ref h.size) ∧ RoadKit.Fld Z h' x ST "coder" "B" (.int 0) ∧
  (∃ kb, Z.vm.findClass "[B" = some kb ∧ RoadKit.Arv Z h' h.size kb .byte zn (cs.map fun c => .int (lo8 c)) (.int 0)) ∧
  ∀ (O n d : String) (w : Value), RoadKit.Fld Z h x O n d w → RoadKit.slotOf Z O n d ≠ RoadKit.slotOf Z ST "value" "[B" → RoadKit.slotOf Z O n d ≠ RoadKit.slotOf Z ST "coder" "B" → RoadKit.Fld Z h' x O n d w
/-- **new String(chars) AT A CALL, THE ARRAYS AS LISTS**: the char[] at b holds cs, not empty, no char above 255 -/
theorem backArv {p : Program} {l : Launch} {e : Env} {R : Room} {s : State} {args : Array Value} {below : List Frame} {len W : Nat} {Z : State} {a0 : Array Value} {h : Heap} (hZ : Z.Warmed39 s.vm) (hw : ∀ d ∈ words, d.before a0 Z = true) {kI : Nat} (wi : (Jvm.Cond.instantiable ST kI).before a0 Z = true)
    {x b : Addr} {k : ClassId} {zn z : Int32} {cs : List Int32} {dv v0 c0 : Value} (E : RoadKit.Exa Z h x ST) (V : RoadKit.Fld Z h x ST "value" "[B" v0) (C : RoadKit.Fld Z h x ST "coder" "B" c0) (K : RoadKit.Arv Z h b k .char zn (cs.map Value.int) dv) (S : RoadKit.Sta Z h ST "COMPACT_STRINGS" "Z" (.int z)) (hz : ¬ z = 0)
    (hlen : zn.toNatClampNeg = cs.length) (h0 : 0 < cs.length) (hbig : cs.length ≤ 536870912) (hall : ∀ c ∈ cs, ¬ 255 < c) (hfr : 4 ≤ R.frames) (hlo : W + 65 ≤ R.locals) :
    Back l R p e below s args New1.yN len W (fun P a => a = #[.ref x, .ref b] ∧ P.U.heap = h ∧ P.cells + 1 ≤ R.cells ∧ P.slots + cs.length ≤ R.slots)
      (fun P _ v B => ∃ L, QA Z x zn cs h v B.U.heap L ∧ B.locs = P.locs ++ L ∧ B.cells = P.cells + 1 ∧ B.slots = P.slots + cs.length) := by
  obtain ⟨A, K1, K2, K3, K4, K5, K6⟩ := K
  have e : A.slots.size = cs.length := K3.trans hlen
  have hat : ∀ (i : Nat) (hi : i < cs.length), A.slots[i]? = some (.int cs[i]) := fun i hi => by rw [K5 i (by omega)]; simp [List.getD_eq_getElem?_getD, hi]
  have hcv : ∀ (i : Nat) (hi : i < cs.length), cv A i = cs[i] := fun i hi => by unfold cv; rw [hat i hi]
  have hty : Typed .char A := fun i v hv => by
    have hi : i < A.slots.size := (Array.getElem?_eq_some_iff.mp hv).1
    have q := K5 i hi
    rw [hv] at q
    rw [Option.some.inj q]
    exact K6 i hi
  refine Back.mono (back hZ hw wi E V C K1 hty S hz (by omega) (by omega) (fun i hi => by rw [hcv i (by omega)]; exact hall _ (List.getElem_mem _)) hfr hlo) (fun P a hp => ⟨hp.1, hp.2.1, hp.2.2.1, by rw [e]; exact hp.2.2.2⟩) (fun P a v B hp hq => ?_)
  obtain ⟨L, ⟨q1, q2, q3, q4, q5, q6, q7, ⟨V', v1, v2, v3, v4, v5⟩, q9⟩, hl, hc, hs⟩ := hq
  refine ⟨L, ⟨q1, q2, q3, q4, q5, q6, q7, ⟨V'.cls, v3, V', v1, rfl, by rw [v4, e, hlen], K4, fun i hi => ?_, fun i hi => ?_⟩, q9⟩, hl, hc, by rw [hs, e]⟩
  · have hi' : i < cs.length := by omega
    rw [v5 i (by omega), hcv i hi']; simp [List.getD_eq_getElem?_getD, hi']
  · have hi' : i < cs.length := by omega
    simp only [List.getD_eq_getElem?_getD, List.getElem?_map, List.getElem?_eq_getElem hi', Option.map_some, Option.getD_some]
    exact fits_lo8 _
end StrChars.Road
namespace StrChars.Road
open Jvm Sem ClassFile Op Lib Jvm.Stand Jvm.Free Jvm.Free.XT
/-- WHAT COMES BACK, in the writer's own shape -/
def QV (Z : State) (x : Addr) (N : Int32) (bs : List Int32) (h : Heap) (n0 : Nat) (v : Option Value) (h' : Heap) (L : List Loc) : Prop := v = none ∧ RoadKit.Fr n0 L ∧ RoadKit.Keep h h' [x] ∧ RoadKit.Exa Z h' x ST ∧ RoadKit.Fld Z h' x ST "coder" "B" (.int 0) ∧
  ∃ (t : Addr) (kb : ClassId), n0 ≤ t ∧ h.size ≤ t ∧ ¬ t = x ∧ RoadKit.Fld Z h' x ST "value" "[B" (.ref t) ∧ RoadKit.Arv Z h' t kb .byte N (bs.map Value.int) (.int 0)
/-- **new String(chars) AT A CALL, FOR THE WRITER**: a char[] of n known ints, each 0 to 255 -/
theorem backV {p : Program} {l : Launch} {e : Env} {R : Room} {s : State} {args : Array Value} {below : List Frame} {len W : Nat} {Z : State} {a0 : Array Value} {h : Heap} (hZ : Z.Warmed39 s.vm) (hw : ∀ d ∈ words, d.before a0 Z = true) {kI : Nat} (wi : (Jvm.Cond.instantiable ST kI).before a0 Z = true)
    {x b : Addr} {kC : ClassId} {cs bs : List Int32} {d v0 c0 : Value} {z N : Int32} {n n0 : Nat} (hx0 : n0 ≤ x) (hh0 : n0 ≤ h.size) (E : RoadKit.Exa Z h x ST) (V : RoadKit.Fld Z h x ST "value" "[B" v0) (C : RoadKit.Fld Z h x ST "coder" "B" c0) (K : RoadKit.Arv Z h b kC .char N (cs.map Value.int) d) (S : RoadKit.Sta Z h ST "COMPACT_STRINGS" "Z" (.int z)) (hz : ¬ z = 0)
    (hn : cs.length = n) (hN : N = Int32.ofNat n) (l0 : 0 < n) (l2 : n ≤ 4000) (hp : ∀ c ∈ cs, ¬ c < 0 ∧ ¬ (255 : Int32) < c) (hb : bs = cs.map (fun c => c.toInt8.toInt32)) (hfr : 4 ≤ R.frames) (hlo : W + 65 ≤ R.locals) :
    Back l R p e below s args (⟨"java/lang/String", "<init>", "([C)V"⟩ : MethodName) len W (fun P a => a = #[.ref x, .ref b] ∧ P.U.heap = h ∧ P.cells + 1 ≤ R.cells ∧ P.slots + n ≤ R.slots)
      (fun P _ v B => ∃ L, QV Z x N bs h n0 v B.U.heap L ∧ B.locs = P.locs ++ L ∧ B.cells = P.cells + 1 ∧ B.slots = P.slots + n) := by
  subst hn hN hb
  refine Back.mono (backArv hZ hw wi E V C K S hz (n32 (by omega)) l0 (by omega) (fun c hc => (hp c hc).2) hfr hlo) (fun P a hp => hp) (fun P a v B hp hq => ?_)
  obtain ⟨L, ⟨q1, q2, q3, q4, q5, q6, q7, ⟨kb, v1, v2⟩, q9⟩, hl, hc, hs⟩ := hq
  exact ⟨L, ⟨q1, fun y hy => by rw [q2 y hy]; exact hx0, q3, q5, q7, h.size, kb, hh0, Nat.le_refl _, Nat.ne_of_gt E.lt, q6, by rw [List.map_map]; exact v2⟩, hl, hc, hs⟩
end StrChars.Road
namespace StrChars
open Jvm Sem ClassFile Op Lib Jvm.Stand Jvm.Free.XT Jvm.Free.ALB Jvm.Free.JM Jvm.Free
open Jvm.Lib.Cold (StaticIs)
def hi8 (x : Int32) : Int32 := lo8 (x >>> ((8 : Int32) &&& 31))
end StrChars
namespace StrChars.Road
open Jvm Sem ClassFile Op Lib Jvm.Stand Jvm.Free Jvm.Free.XT
open Jvm.Lib.Cold (StaticIs)
/-- the bytes of the chars cs, low before high -/
def wideBytes : List Int32 → List Value
  | [] => []
  | c :: cs => .int (lo8 c) :: .int (hi8 c) :: wideBytes cs
/-- an array of N2 bytes vs codes the chars cs by the coder cd -/
def CodA (cs : List Int32) (cd N2 : Int32) (vs : List Value) : Prop := (cd = 0 ∧ N2 = Int32.ofNat cs.length ∧ vs = (cs.map fun c => Value.int (lo8 c)) ∧ ∀ c ∈ cs, ¬ 255 < c) ∨ (cd = 1 ∧ N2 = Int32.ofNat (2 * cs.length) ∧ vs = wideBytes cs ∧ ∃ c ∈ cs, 255 < c)
end StrChars.Road
namespace StrChars.Road
open Jvm Sem ClassFile Op Lib Jvm.Stand Jvm.Free Jvm.Free.XT
open Jvm.Lib.Cold (StaticIs)
/-- what backV says of its String, as the contracts of this text ask it: cs's low bytes, coder 0 -/
theorem codOf {cs : List Int32} {n : Nat} (hn : cs.length = n) (hb : ∀ c ∈ cs, ¬ 255 < c) : CodA cs 0 (Int32.ofNat n) ((cs.map lo8).map Value.int) := Or.inl ⟨rfl, by rw [hn], by simp [List.map_map, Function.comp_def], hb⟩
end StrChars.Road
end Jvm.Pilot.@@N@@
namespace Jvm.Pilot.@@N@@
namespace W
open Jvm Jvm.ClassFile Sem Op Lib Jvm.Free Jvm.Stand Jvm.LawKit Jvm.RoadKit Bundle
/-! the run goes on from here and ends as P says -/
def Go (p : Program) (e : Env) (below : List Frame) (P : Outcome → State → Prop) (T : State) (f : JFrame) : Prop :=
  ∃ t o, Steps p.tables e below (T.setTop f) t ∧ t.status = .running ∧ Ended t below o ∧ P o t
theorem Go.of {p : Program} {e : Env} {below : List Frame} {P : Outcome → State → Prop} {T T' : State} {f f' : JFrame}
    (h : ∀ target, Steps p.tables e below (T'.setTop f') target → Steps p.tables e below (T.setTop f) target) (k : Go p e below P T' f') : Go p e below P T f := by
  obtain ⟨t, o, h1, h2⟩ := k
  exact ⟨t, o, h t h1, h2⟩
theorem Go.cast {p : Program} {e : Env} {below : List Frame} {P : Outcome → State → Prop} {T : State} {f f' : JFrame} (q : f = f') (k : Go p e below P T f') : Go p e below P T f := q ▸ k
/-! what has moved since h0: the old objects ws at the most, and new ones -/
def Mv (h0 h : Heap) (ws : List Addr) (L : List Loc) : Prop := Keep h0 h ws ∧ ∀ y ∈ L, y.base ∈ ws ∨ h0.size ≤ y.base
section Mvs
variable {h0 h h' : Heap} {ws ws' : List Addr} {L L' : List Loc} {a : Addr} {sl : Nat} {v : Value}
theorem Mv.refl (h : Heap) (ws : List Addr) : Mv h h ws [] := ⟨Keep.refl h ws, fun _ q => nomatch q⟩
theorem Mv.le (M : Mv h0 h ws L) : h0.size ≤ h.size := M.1.1
theorem Mv.ext (M : Mv h0 h ws L) (E : Ext h h') : Mv h0 h' ws L := ⟨M.1.ext E, M.2⟩
theorem Mv.wr (M : Mv h0 h ws L) (W : Wr h h' a sl v) (q : a ∈ ws ∨ h0.size ≤ a) : Mv h0 h' ws (L ++ [⟨a, sl⟩]) :=
  ⟨M.1.wr W q, fun y hy => (List.mem_append.mp hy).elim (M.2 y) fun z => by cases List.mem_singleton.mp z; exact q⟩
theorem Mv.app (M : Mv h0 h ws L) (M' : Mv h h' ws' L') (q : ∀ x ∈ ws', x ∈ ws ∨ h0.size ≤ x) : Mv h0 h' ws (L ++ L') :=
  ⟨M.1.trans M'.1 q, fun y hy => (List.mem_append.mp hy).elim (M.2 y) fun z => (M'.2 y z).elim (q _) fun r => Or.inr (Nat.le_trans M.1.1 r)⟩
theorem Mv.app0 (M : Mv h0 h ws L) (M' : Mv h h' [] L') : Mv h0 h' ws (L ++ L') := M.app M' fun _ q => nomatch q
theorem keepE (E : Ext h h') : Keep h h' [] := (Keep.refl h []).ext E
theorem Mv.fr (M : Mv h0 h [] L) : Fr h0.size L := fun y hy => (M.2 y hy).elim (fun q => nomatch q) id
theorem Mv.ofFr {n0 : Nat} (K : Keep h0 h ws) (F : ∀ y ∈ L, y.base ∈ ws) : Mv h0 h ws L := ⟨K, fun y hy => Or.inl (F y hy)⟩
end Mvs
theorem StaKeep {Z : State} {h h' : Heap} {C n d : String} {v : Value} {ws : List Addr} (F : Sta Z h C n d v) (K : Keep h h' ws) (q : ∀ x ∈ ws, ∀ c : Cell, h[x]? = some c → c.vm.isStatics = false) : Sta Z h' C n d v := by
  obtain ⟨cf, i, k, f, st, cell, h1, h2, h3, h4, h5, h6, h7⟩ := F
  refine ⟨cf, i, k, f, st, cell, h1, h2, h3, h4, K.2.1 _ _ h5 (fun z => ?_), h6, h7⟩
  rw [q st z cell h5] at h6; cases h6
theorem staExa {Z : State} {h : Heap} {a : Addr} {C : String} (F : Exa Z h a C) : ∀ c : Cell, h[a]? = some c → c.vm.isStatics = false := fun c hc => by
  obtain ⟨c', _, h1, -, -, h4, -⟩ := F; cases h1.symm.trans hc; exact h4
theorem staArv {Z : State} {h : Heap} {a : Addr} {k : ClassId} {ty : FieldType} {n : Int32} {vs : List Value} {d : Value} (F : Arv Z h a k ty n vs d) : ∀ c : Cell, h[a]? = some c → c.vm.isStatics = false := fun c hc => by
  obtain ⟨c', A, -⟩ := F; cases A.1.symm.trans hc; exact A.plain
/-! a contract -/
def MeetsW (l : Launch) (Z : State) (y : MethodName) (bytes : ByteArray) (maxL : Nat) (ret : Option FieldType) (rm : Room) (as : Array Value) (h0 : Heap) (Q : Option Value → Heap → List Loc → Prop) : Prop :=
  ∀ ws : List Jvm.Cond, MetFree l y (head1 (Jvm.Cond.code y bytes maxL ret :: ws) rm) (fun a U => a = as ∧ Z.Warmed39 U.vm ∧ U.heap = h0) (fun _ _ _ _ _ => True)
    (fun _ U o U' => ∃ v L, o = .returned v ∧ Q v U'.heap L ∧ FrameEnd U o U' L rm.cells rm.slots)
def Pu (h : Heap) (S : Option Value → Prop) (v : Option Value) (h' : Heap) (L : List Loc) : Prop := L = [] ∧ h' = h ∧ S v
theorem MeetsW.of {l : Launch} {Z : State} {y : MethodName} {bytes : ByteArray} {maxL : Nat} {ret : Option FieldType} {rm : Room} {as : Array Value} {h0 : Heap} {Q : Option Value → Heap → List Loc → Prop} (hpl : plainFor y = true)
    (body : ∀ (p : Program) (e : Env) (s : State) (m : MethodId) (below : List Frame) (meth : Method) (c : Code) (s₁ : State) (P : Outcome → State → Prop), p.tables.exec = Jvm.exec → c.code = bytes → c.maxLocals = maxL → Z.Warmed39 s.vm → s.vm.findClass y.cls = some m.cls → meth.name = y.name → meth.sig.returnType = ret → meth.locks = false →
      Stand p l e rm s m as below meth c s₁ [] 0 0 → s₁.heap = h0 → (∀ v t L, Q v t.heap L → FrameEnd s (.returned v) t L rm.cells rm.slots → P (.returned v) t) → Go p e below P s₁ (entryFrame m as maxL)) : MeetsW l Z y bytes maxL ret rm as h0 Q := by
  intro ws
  refine MetFree.of_bodySF hpl hisR ?_
  intro p e s m args below meth c s₁ Bd hml0 hP hK
  obtain ⟨rfl, hZ, hh⟩ := hP
  exact body p e s m below meth c s₁ _ Bd.exec Bd.bytes hml0 hZ (findClass_of_methodNamed Bd.named) (name_of_methodNamed Bd.named Bd.method).1 Bd.returns (BodyLoose.notSynchronized Bd) (Stand.of_body Bd) (by rw [← hh, Bd.state]; rfl) (fun v t L hq hf => ⟨v, L, rfl, hq, hf⟩)
/-! a call that comes back -/
def BK (l : Launch) (R : Room) (p : Program) (e : Env) (below : List Frame) (s : State) (args : Array Value) (y : MethodName) (W : Nat) (as : Array Value) (h : Heap) (C S : Nat) (Q : Option Value → Heap → List Loc → Prop) : Prop :=
  Back l R p e below s args y 3 W (fun A a => a = as ∧ A.U.heap = h ∧ A.cells + C ≤ R.cells ∧ A.slots + S ≤ R.slots)
    (fun A _ v B => ∃ L, Q v B.U.heap L ∧ B.locs = A.locs ++ L ∧ B.cells = A.cells + C ∧ B.slots = A.slots + S)
section Calls
variable {p : Program} {l : Launch} {e : Env} {R : Room} {s : State} {m : MethodId} {args : Array Value} {below : List Frame} {meth : Method} {c : Code} {T : State} {locs : List Loc} {cells slots : Nat} {Z : State} {a0 : Array Value} {h : Heap} {P : Outcome → State → Prop}
theorem standUp {C S : Nat} (X : Stand p l e R s m args below meth c T locs cells slots) (hc : cells ≤ C) (hs : slots ≤ S) : Stand p l e R s m args below meth c T locs C S :=
  ⟨X.admits, X.cas, X.clock, X.frames, X.room, X.hears, X.method, X.code, X.here, X.tail, X.warmed, X.limits, X.bytes, X.same.mono hc hs⟩
theorem MeetsW.bk {y : MethodName} {bytes : ByteArray} {maxL : Nat} {ret : Option FieldType} {rm : Room} {as : Array Value} {Q : Option Value → Heap → List Loc → Prop} {W : Nat} (M : MeetsW l Z y bytes maxL ret rm as h Q) (hZ : Z.Warmed39 s.vm)
    (wc : (Jvm.Cond.code y bytes maxL ret).before a0 Z = true) (wz : (Jvm.Cond.initialized y.cls).before a0 Z = true) (hf : rm.frames + 1 ≤ R.frames) (hl : W + (maxL + 11) + rm.locals ≤ R.locals) : BK l R p e below s args y W as h rm.cells rm.slots Q :=
  backOf (M []) hZ wc wz hf hl
theorem BK.mono {y : MethodName} {W : Nat} {as : Array Value} {C S : Nat} {Q Q' : Option Value → Heap → List Loc → Prop} (B : BK l R p e below s args y W as h C S Q) (q : ∀ v h' L, Q v h' L → Q' v h' L) : BK l R p e below s args y W as h C S Q' :=
  Back.mono B (fun _ _ z => z) (fun _ _ _ _ _ ⟨L, z, r⟩ => ⟨L, q _ _ _ z, r⟩)
theorem goS (X : Stand p l e R s m args below meth c T locs cells slots) (hx : p.tables.exec = Jvm.exec) (hZ : Z.Warmed39 s.vm) {own : String} {index : Nat} {y : MethodName} {bytes : ByteArray} {maxL : Nat} {ret : Option FieldType} (hown : s.vm.findClass own = some m.cls)
    (w1 : (Jvm.Cond.methodLink own index y).before a0 Z = true) (w2 : (Jvm.Cond.static y).before a0 Z = true) (w3 : (Jvm.Cond.initialized y.cls).before a0 Z = true) (w4 : (Jvm.Cond.code y bytes maxL ret).before a0 Z = true) (hy : y.cls ≠ "java/lang/invoke/MethodHandle" ∧ y.cls ≠ "java/lang/invoke/VarHandle")
    {W C S : Nat} {as : Array Value} {Q : Option Value → Heap → List Loc → Prop} (B : BK l R p e below s args y W as h C S Q) (eT : T.heap = h) {pc : Nat} {Ls : Array Slot} {st argsL rest : List Value} (hml : Ls.size = c.maxLocals)
    (hlen : ∀ sig, parseMethodDescriptor y.desc = some sig → argsL.length = sig.parameters.length) (hst : st = argsL.reverse ++ rest) (has : argsL.toArray = as) (hd : decode c.code pc = .ok (.invokestatic index, 3)) (hW : (rest.map fun v => v.category).sum ≤ W) (hc : cells + C ≤ R.cells) (hs : slots + S ≤ R.slots)
    (k : ∀ v T' L, Stand p l e R s m args below meth c T' (locs ++ L) (cells + C) (slots + S) → Q v T'.heap L → Go p e below P T' (mkF m (pc + 3) Ls (v.toList ++ rest))) : Go p e below P T (mkF m pc Ls st) := by
  obtain ⟨v, _, ⟨T', L', k', n'⟩, -, X', ⟨Lc, hQ, l1, l2, l3⟩, stp⟩ := Jvm.LawKit.callS X hx hown (mvT hZ w1) (mvT hZ w2) (mvT hZ w3) (mvT hZ w4) hy B (g := mkF m pc Ls st) rfl hml hlen hst (by show 2 * 0 + _ ≤ _; simpa using hW) hd (fun _ _ => ⟨has, eT, hc, hs⟩)
  dsimp only [Pt.U, Pt.locs, Pt.cells, Pt.slots] at X' l1 l2 l3 stp hQ
  subst l1 l2 l3
  exact Go.of stp (k v T' Lc X' hQ)
theorem goI (X : Stand p l e R s m args below meth c T locs cells slots) (hx : p.tables.exec = Jvm.exec) (hZ : Z.Warmed39 s.vm) {own : String} {index : Nat} {y : MethodName} {bytes : ByteArray} {maxL : Nat} (hn : y.name = "<init>") (hown : s.vm.findClass own = some m.cls)
    (w1 : (Jvm.Cond.methodLink own index y).before a0 Z = true) (w2 : (Jvm.Cond.instanceMethod y).before a0 Z = true) (w4 : (Jvm.Cond.code y bytes maxL none).before a0 Z = true) (hy : y.cls ≠ "java/lang/invoke/MethodHandle" ∧ y.cls ≠ "java/lang/invoke/VarHandle")
    {W C S : Nat} {as : Array Value} {Q : Option Value → Heap → List Loc → Prop} (B : BK l R p e below s args y W as h C S Q) (eT : T.heap = h) {pc : Nat} {Ls : Array Slot} {a : Addr} {st argsL rest : List Value} (hml : Ls.size = c.maxLocals)
    (hlen : ∀ sig, parseMethodDescriptor y.desc = some sig → argsL.length = sig.parameters.length) (hst : st = argsL.reverse ++ .ref a :: rest) (has : (.ref a :: argsL).toArray = as) (hd : decode c.code pc = .ok (.invokespecial index, 3)) (hW : (rest.map fun v => v.category).sum ≤ W) (hc : cells + C ≤ R.cells) (hs : slots + S ≤ R.slots)
    (k : ∀ v T' L, Stand p l e R s m args below meth c T' (locs ++ L) (cells + C) (slots + S) → Q v T'.heap L → Go p e below P T' (mkF m (pc + 3) Ls (v.toList ++ rest))) : Go p e below P T (mkF m pc Ls st) := by
  obtain ⟨v, _, ⟨T', L', k', n'⟩, -, X', ⟨Lc, hQ, l1, l2, l3⟩, stp⟩ := X.specialBack hx hn hown (mvT hZ w1) (mvT hZ w2) (mvT hZ w4) hy B (g := mkF m pc Ls st) rfl hml (Steps.refl _) hlen hst (by show 2 * 0 + _ ≤ _; simpa using hW) hd (fun _ _ => ⟨has, eT, hc, hs⟩)
  dsimp only [Pt.U, Pt.locs, Pt.cells, Pt.slots] at X' l1 l2 l3 stp hQ
  subst l1 l2 l3
  exact Go.of (fun _ z => stp.trans z) (k v T' Lc X' hQ)
theorem goV (X : Stand p l e R s m args below meth c T locs cells slots) (hx : p.tables.exec = Jvm.exec) (hZ : Z.Warmed39 s.vm) {own K : String} {index : Nat} {y z : MethodName} (hown : s.vm.findClass own = some m.cls)
    (w1 : (Jvm.Cond.methodLink own index y).before a0 Z = true) (w2 : (Jvm.Cond.declares y).before a0 Z = true) (hnf : NotFace s y) (w3 : (Jvm.Cond.selects K y z).before a0 Z = true) (w4 : (Jvm.Cond.instanceMethod z).before a0 Z = true) (hy : y.cls ≠ "java/lang/invoke/MethodHandle" ∧ y.cls ≠ "java/lang/invoke/VarHandle")
    {W C S : Nat} {as : Array Value} {Q : Option Value → Heap → List Loc → Prop} (B : BK l R p e below s args z W as h C S Q) (eT : T.heap = h) {b : Addr} (E : Exa Z h b K) {pc : Nat} {Ls : Array Slot} {st argsL rest : List Value} (hml : Ls.size = c.maxLocals)
    (hlen : ∀ sig, parseMethodDescriptor y.desc = some sig → argsL.length = sig.parameters.length) (hst : st = argsL.reverse ++ .ref b :: rest) (has : (.ref b :: argsL).toArray = as) (hd : decode c.code pc = .ok (.invokevirtual index, 3)) (hW : (rest.map fun v => v.category).sum ≤ W) (hc : cells + C ≤ R.cells) (hs : slots + S ≤ R.slots)
    (k : ∀ v T' L, Stand p l e R s m args below meth c T' (locs ++ L) (cells + C) (slots + S) → Q v T'.heap L → Go p e below P T' (mkF m (pc + 3) Ls (v.toList ++ rest))) : Go p e below P T (mkF m pc Ls st) := by
  obtain ⟨cq, kq, qa, -, qc⟩ := isOf hZ eT E
  obtain ⟨v, _, ⟨T', L', k', n'⟩, -, X', ⟨Lc, hQ, l1, l2, l3⟩, stp⟩ := X.virtualBack hx hown (mvT hZ w1) (mvT hZ w2) hnf (mvT hZ w3) (mvT hZ w4) hy B qa qc (g := mkF m pc Ls st) rfl hml (Steps.refl _) hlen hst (by show 2 * 0 + _ ≤ _; simpa using hW) hd (fun _ _ => ⟨has, eT, hc, hs⟩)
  dsimp only [Pt.U, Pt.locs, Pt.cells, Pt.slots] at X' l1 l2 l3 stp hQ
  subst l1 l2 l3
  exact Go.of (fun _ z => stp.trans z) (k v T' Lc X' hQ)
theorem goP (X : Stand p l e R s m args below meth c T locs cells slots) (hx : p.tables.exec = Jvm.exec) (hZ : Z.Warmed39 s.vm) {own : String} {index n : Nat} {y : MethodName} {bytes : ByteArray} {maxL : Nat} {ret : Option FieldType} (hown : s.vm.findClass own = some m.cls)
    (w1 : (Jvm.Cond.methodLink own index y).before a0 Z = true) (w2 : (Jvm.Cond.instanceMethod y).before a0 Z = true) (w3 : (Jvm.Cond.privateMethod y).before a0 Z = true) (w4 : (Jvm.Cond.code y bytes maxL ret).before a0 Z = true) (wi : (Jvm.Cond.instantiable y.cls n).before a0 Z = true) (hy : y.cls ≠ "java/lang/invoke/MethodHandle" ∧ y.cls ≠ "java/lang/invoke/VarHandle")
    {W C S : Nat} {as : Array Value} {Q : Option Value → Heap → List Loc → Prop} (B : BK l R p e below s args y W as h C S Q) (eT : T.heap = h) {b : Addr} {K : String} (E : Exa Z h b K) {pc : Nat} {Ls : Array Slot} {st argsL rest : List Value} (hml : Ls.size = c.maxLocals)
    (hlen : ∀ sig, parseMethodDescriptor y.desc = some sig → argsL.length = sig.parameters.length) (hst : st = argsL.reverse ++ .ref b :: rest) (has : (.ref b :: argsL).toArray = as) (hd : decode c.code pc = .ok (.invokevirtual index, 3)) (hW : (rest.map fun v => v.category).sum ≤ W) (hc : cells + C ≤ R.cells) (hs : slots + S ≤ R.slots)
    (k : ∀ v T' L, Stand p l e R s m args below meth c T' (locs ++ L) (cells + C) (slots + S) → Q v T'.heap L → Go p e below P T' (mkF m (pc + 3) Ls (v.toList ++ rest))) : Go p e below P T (mkF m pc Ls st) := by
  have hp := Cond.privateMethod_at (mvP hZ w3 (args := args))
  obtain ⟨ci, ki, i1, i2, i3, i4, i5, -⟩ := Cond.instantiable_spec (mvT hZ wi (args := args))
  have hsel : (Jvm.Cond.selects y.cls y y).before args s = true := Jvm.Stand.selects_self_of_private i1 i2 (Bool.or_eq_false_iff.mp i4).1 hp (mvT hZ w2) hy
  obtain ⟨cq, q1, q2⟩ := E.cell
  obtain ⟨v, _, ⟨T', L', k', n'⟩, -, X', ⟨Lc, hQ, l1, l2, l3⟩, stp⟩ := X.privateBack hx hown (mvT hZ w1) (mvT hZ w2) hsel hp (mvT hZ w4) hy B (g := mkF m pc Ls st) rfl hml (Steps.refl _) (by rw [eT]; exact q1) q2 hlen hst (by show 2 * 0 + _ ≤ _; simpa using hW) hd (fun _ _ => ⟨has, eT, hc, hs⟩)
  dsimp only [Pt.U, Pt.locs, Pt.cells, Pt.slots] at X' l1 l2 l3 stp hQ
  subst l1 l2 l3
  exact Go.of (fun _ z => stp.trans z) (k v T' Lc X' hQ)
/-! pure: what a contract 'Pu' gives -/
theorem standNil {L : List Loc} (X : Stand p l e R s m args below meth c T (locs ++ L) (cells + 0) (slots + 0)) (q : L = []) : Stand p l e R s m args below meth c T locs cells slots := by
  subst q; rw [List.append_nil] at X; exact X
/-! the end -/
theorem goRet0 (X : Stand p l e R s m args below meth c T locs cells slots) (hx : p.tables.exec = Jvm.exec) (hret : meth.sig.returnType = none) (hlk : meth.locks = false) {pc : Nat} {Ls : Array Slot} {C S : Nat} {Q : Option Value → Heap → List Loc → Prop}
    (hd : decode c.code pc = .ok (.return_, 1)) (K : ∀ v t L, Q v t.heap L → FrameEnd s (.returned v) t L C S → P (.returned v) t) (hc : cells ≤ C) (hs : slots ≤ S) (eT : T.heap = h) (hq : Q none h locs) : Go p e below P T (mkF m pc Ls []) := by
  obtain ⟨fs, hr, hrun, hended, hW, hsame⟩ := X.leave (v := none) (fun _ => rfl) hlk
  exact ⟨_, _, X.returnOut hx hret hd hr, hrun, hended, K _ _ _ (by rw [← eT] at hq; exact hq) ⟨⟨_, rfl⟩, hW, hsame.mono hc hs⟩⟩
theorem goRet (X : Stand p l e R s m args below meth c T locs cells slots) (hx : p.tables.exec = Jvm.exec) {t : FieldType} (hret : meth.sig.returnType = some t) (hlk : meth.locks = false) {pc : Nat} {Ls : Array Slot} {C S : Nat} {w : Value} {rest : List Value} {i : Instr} {Q : Option Value → Heap → List Loc → Prop}
    (hn : narrow t w = w) (hi : (i = .ireturn ∧ (t = .int ∨ t = .boolean ∨ t = .byte ∨ t = .char ∨ t = .short) ∧ ∃ z, w = .int z) ∨ (i = .lreturn ∧ t = .long ∧ ∃ z, w = .long z) ∨ (i = .dreturn ∧ t = .double ∧ ∃ z, w = .double z) ∨ (i = .freturn ∧ t = .float ∧ ∃ z, w = .float z) ∨ (i = .areturn ∧ t.isReference = true ∧ w.isRef = true))
    (hd : decode c.code pc = .ok (i, 1)) (K : ∀ v t L, Q v t.heap L → FrameEnd s (.returned v) t L C S → P (.returned v) t) (hc : cells ≤ C) (hs : slots ≤ S) (eT : T.heap = h) (hq : Q (some w) h locs) : Go p e below P T (mkF m pc Ls (w :: rest)) := by
  obtain ⟨fs, hr, hrun, hended, hW, hsame⟩ := X.leave (v := some w) (fun q => by rw [hret] at q; cases q) hlk
  exact ⟨_, _, retOut X hx hret hn hi hd hr, hrun, hended, K _ _ _ (by rw [← eT] at hq; exact hq) ⟨⟨_, rfl⟩, hW, hsame.mono hc hs⟩⟩
theorem goRetI (X : Stand p l e R s m args below meth c T locs cells slots) (hx : p.tables.exec = Jvm.exec) {t : FieldType} (hret : meth.sig.returnType = some t) (hlk : meth.locks = false) {pc : Nat} {Ls : Array Slot} {C S : Nat} {z : Int32} {rest : List Value} {Q : Option Value → Heap → List Loc → Prop}
    (hn : narrow t (.int z) = .int z) (ht : t = .int ∨ t = .boolean ∨ t = .byte ∨ t = .char ∨ t = .short) (hd : decode c.code pc = .ok (.ireturn, 1)) (K : ∀ v t L, Q v t.heap L → FrameEnd s (.returned v) t L C S → P (.returned v) t) (hc : cells ≤ C) (hs : slots ≤ S) (eT : T.heap = h) (hq : Q (some (.int z)) h locs) : Go p e below P T (mkF m pc Ls (.int z :: rest)) :=
  goRet X hx hret hlk hn (Or.inl ⟨rfl, ht, z, rfl⟩) hd K hc hs eT hq
theorem goRetJ (X : Stand p l e R s m args below meth c T locs cells slots) (hx : p.tables.exec = Jvm.exec) (hret : meth.sig.returnType = some .long) (hlk : meth.locks = false) {pc : Nat} {Ls : Array Slot} {C S : Nat} {z : Int64} {rest : List Value} {Q : Option Value → Heap → List Loc → Prop}
    (hd : decode c.code pc = .ok (.lreturn, 1)) (K : ∀ v t L, Q v t.heap L → FrameEnd s (.returned v) t L C S → P (.returned v) t) (hc : cells ≤ C) (hs : slots ≤ S) (eT : T.heap = h) (hq : Q (some (.long z)) h locs) : Go p e below P T (mkF m pc Ls (.long z :: rest)) :=
  goRet X hx hret hlk rfl (Or.inr (Or.inl ⟨rfl, rfl, z, rfl⟩)) hd K hc hs eT hq
theorem goRetR (X : Stand p l e R s m args below meth c T locs cells slots) (hx : p.tables.exec = Jvm.exec) {t : FieldType} (hret : meth.sig.returnType = some t) (ht : t.isReference = true) (hlk : meth.locks = false) {pc : Nat} {Ls : Array Slot} {C S : Nat} {w : Value} {rest : List Value} {Q : Option Value → Heap → List Loc → Prop}
    (hw : w.isRef = true) (hn : narrow t w = w) (hd : decode c.code pc = .ok (.areturn, 1)) (K : ∀ v t L, Q v t.heap L → FrameEnd s (.returned v) t L C S → P (.returned v) t) (hc : cells ≤ C) (hs : slots ≤ S) (eT : T.heap = h) (hq : Q (some w) h locs) : Go p e below P T (mkF m pc Ls (w :: rest)) :=
  goRet X hx hret hlk hn (Or.inr (Or.inr (Or.inr (Or.inr ⟨rfl, ht, hw⟩)))) hd K hc hs eT hq
theorem lremM {g : JFrame} {target : State} (X : Stand p l e R s m args below meth c T locs cells slots) (hx : p.tables.exec = Jvm.exec) (hg : g.method = m) {x y : Int64} {rest : List Value} (hd : decode c.code g.pc = .ok (.lrem, 1)) (hs : g.stack = .long y :: .long x :: rest) (hy : y ≠ 0)
    (hr : Steps p.tables e below (T.setTop { g with pc := g.pc + 1, stack := .long (x % y) :: rest }) target) : Steps p.tables e below (T.setTop g) target := by
  have q : x - x / y * y = x % y := lrem_mod x y
  exact XS.lrem X.here hx hg hd hs hy (by rw [q]; exact hr)
end Calls
theorem refcat {v : Value} (h : v.isRef = true) : v.category = 1 := by rcases ref_cases h with rfl | ⟨a, rfl⟩ <;> rfl
theorem narref {t : FieldType} {v : Value} (h : v.isRef = true) : narrow t v = v := by rcases ref_cases h with rfl | ⟨a, rfl⟩ <;> cases t <;> rfl
theorem fitrefO {C : String} {v : Value} (h : v.isRef = true) : fits (.object C) v = true := by rcases ref_cases h with rfl | ⟨a, rfl⟩ <;> rfl
theorem fitrefA {t : FieldType} {v : Value} (h : v.isRef = true) : fits (.array t) v = true := by rcases ref_cases h with rfl | ⟨a, rfl⟩ <;> rfl
/-! booleans -/
def bi (φ : Prop) [Decidable φ] : Int32 := if φ then 1 else 0
theorem bi_t {φ : Prop} [Decidable φ] (h : φ) : bi φ = 1 := if_pos h
theorem bi_f {φ : Prop} [Decidable φ] (h : ¬ φ) : bi φ = 0 := if_neg h
theorem bi_ne {φ : Prop} [Decidable φ] (h : φ) : ¬ bi φ = 0 := by rw [bi_t h]; decide
theorem narrow_bi {φ : Prop} [Decidable φ] : narrow .boolean (.int (bi φ)) = .int (bi φ) := by unfold bi; split <;> rfl
end W
end Jvm.Pilot.@@N@@
namespace Jvm.Pilot.@@N@@
namespace W
open Jvm Jvm.ClassFile Sem Op Lib Jvm.Free Jvm.Stand Jvm.LawKit Jvm.RoadKit Bundle
/-! a String by its chars -/
def Str (Z : State) (h : Heap) (a t : Addr) (cs : List Int32) : Prop := ∃ (kb : ClassId) (cd N : Int32) (vs : List Value), Exa Z h a "java/lang/String" ∧ Fld Z h a "java/lang/String" "value" "[B" (.ref t) ∧ Fld Z h a "java/lang/String" "coder" "B" (.int cd) ∧ Arv Z h t kb .byte N vs (.int 0) ∧ StrChars.Road.CodA cs cd N vs ∧ (∀ c ∈ cs, ¬ c < 0 ∧ ¬ (65535 : Int32) < c) ∧ cs.length ≤ 4000
section Strs
variable {Z : State} {h h' : Heap} {a t : Addr} {cs : List Int32} {ws : List Addr}
theorem Str.keep (F : Str Z h a t cs) (K : Keep h h' ws) (q : a ∉ ws) (r : t ∉ ws) : Str Z h' a t cs := by
  obtain ⟨kb, cd, N, vs, E, V, C, A, g⟩ := F
  exact ⟨kb, cd, N, vs, E.keep K, V.keep K q, C.keep K q, A.keep K r, g⟩
theorem Str.exa (F : Str Z h a t cs) : Exa Z h a "java/lang/String" := by obtain ⟨kb, cd, N, vs, E, -⟩ := F; exact E
theorem Str.lt1 (F : Str Z h a t cs) : a < h.size := F.exa.lt
theorem Str.lt2 (F : Str Z h a t cs) : t < h.size := by obtain ⟨kb, cd, N, vs, E, V, C, A, g⟩ := F; exact A.lt
end Strs
theorem up255 {cs : List Int32} (h : ∀ c ∈ cs, ¬ c < 0 ∧ ¬ (255 : Int32) < c) : ∀ c ∈ cs, ¬ c < 0 ∧ ¬ (65535 : Int32) < c := fun c hc => ⟨(h c hc).1, fun q => (h c hc).2 (by rw [Int32.lt_iff_toInt_lt] at q ⊢; have e1 : (65535 : Int32).toInt = 65535 := rfl; have e2 : (255 : Int32).toInt = 255 := rfl; omega)⟩
theorem nat32 {n : Nat} (h : n < 2 ^ 31) : (Int32.ofNat n).toNatClampNeg = n := by
  show (Int32.ofNat n).toInt.toNat = n
  rw [Int32.toInt_ofNat_of_lt h]; rfl
theorem str1 {Z : State} {h : Heap} {a t : Addr} {k : ClassId} {c : Int32} (hp : ¬ c < 0 ∧ ¬ (255 : Int32) < c) (E : Exa Z h a "java/lang/String") (V : Fld Z h a "java/lang/String" "value" "[B" (.ref t)) (C : Fld Z h a "java/lang/String" "coder" "B" (.int (0 : Int32))) (A : Arv Z h t k .byte (1 : Int32) [.int (c.toInt8.toInt32)] (.int (0 : Int32))) : Str Z h a t [c] := by
  have hq : ∀ d ∈ [c], ¬ d < 0 ∧ ¬ (255 : Int32) < d := fun d hd => by cases List.mem_singleton.mp hd; exact hp
  exact ⟨k, 0, 1, _, E, V, C, A, Or.inl ⟨rfl, rfl, rfl, fun d hd => (hq d hd).2⟩, up255 hq, by simp⟩
theorem nar_b (x : Int32) : nar .byte (x.toInt8.toInt32) = x.toInt8.toInt32 := by
  show x.toInt8.toInt32.toInt8.toInt32 = _
  simp
section StrCalls
variable {p : Program} {l : Launch} {e : Env} {R : Room} {s : State} {args : Array Value} {below : List Frame} {W : Nat} {Z : State} {a0 : Array Value} {h : Heap}
theorem newStr (hZ : Z.Warmed39 s.vm) (hw : ∀ d ∈ StrChars.Road.words, d.before a0 Z = true) {kI : Nat} (wi : (Jvm.Cond.instantiable "java/lang/String" kI).before a0 Z = true) {x b : Addr} {k : ClassId} {zn z : Int32} {cs : List Int32} {dv v0 c0 : Value} (E : Exa Z h x "java/lang/String") (V : Fld Z h x "java/lang/String" "value" "[B" v0) (C : Fld Z h x "java/lang/String" "coder" "B" c0)
    {vs : List Value} (A : Arv Z h b k .char zn vs dv) (hvs : vs = cs.map Value.int) (S : Sta Z h "java/lang/String" "COMPACT_STRINGS" "Z" (.int z)) (hz : ¬ z = 0) {n : Nat} (hn : cs.length = n) (hN : zn = Int32.ofNat n) (l0 : 0 < n) (l2 : n ≤ 4000) (hp : ∀ c ∈ cs, ¬ c < 0 ∧ ¬ (255 : Int32) < c) (hfr : 4 ≤ R.frames) (hlo : W + 65 ≤ R.locals) :
    BK l R p e below s args (⟨"java/lang/String", "<init>", "([C)V"⟩ : MethodName) W #[.ref x, .ref b] h 1 n (fun v h' L => v = none ∧ Mv h h' [x] L ∧ ∃ t, h.size ≤ t ∧ Str Z h' x t cs) := by
  subst hn hN hvs
  have hlen : (Int32.ofNat cs.length).toNatClampNeg = cs.length := nat32 (by omega)
  refine BK.mono (Q := StrChars.Road.QA Z x (Int32.ofNat cs.length) cs h) (StrChars.Road.backArv hZ hw wi E V C A S hz hlen l0 (by omega) (fun c hc => (hp c hc).2) hfr hlo) ?_
  intro v h' L hq
  obtain ⟨q1, q2, q3, q4, q5, q6, q7, ⟨kb, v1, v2⟩, q9⟩ := hq
  refine ⟨q1, ⟨q3, fun y hy => Or.inl (by rw [q2 y hy]; exact List.mem_singleton.mpr rfl)⟩, h.size, Nat.le_refl _, kb, 0, _, _, q5, q6, q7, v2, ?_, up255 hp, l2⟩
  have := StrChars.Road.codOf (cs := cs) rfl (fun c hc => (hp c hc).2)
  rw [List.map_map] at this
  exact this
end StrCalls
end W
end Jvm.Pilot.@@N@@
namespace Jvm.Pilot.@@N@@
open Jvm Jvm.ClassFile Sem Op Lib Jvm.Free Jvm.Stand Jvm.LawKit Jvm.RoadKit Bundle Jvm.Pilot.@@N@@.Jvm.D Jvm.Pilot.@@N@@.W
theorem m255 (x : Int32) : ¬ (x &&& (255 : Int32)).toUInt32.toUInt16.toUInt32.toInt32 < 0 ∧ ¬ (255 : Int32) < (x &&& (255 : Int32)).toUInt32.toUInt16.toUInt32.toInt32 := by
  rw [i2c_mask]
  have h := c_mask x 255 8 (by decide) (by decide)
  have e1 : (0 : Int32).toInt = 0 := by decide
  have e2 : (255 : Int32).toInt = 255 := by decide
  rw [Int32.lt_iff_toInt_lt, Int32.lt_iff_toInt_lt, h, e1, e2]; omega
theorem narC (x : Int32) : nar .char (x.toUInt32.toUInt16.toUInt32.toInt32) = x.toUInt32.toUInt16.toUInt32.toInt32 := by
  have h1 := c_i2c x
  have h2 := c_i2c (x.toUInt32.toUInt16.toUInt32.toInt32)
  show x.toUInt32.toUInt16.toUInt32.toInt32.toUInt32.toUInt16.toUInt32.toInt32 = x.toUInt32.toUInt16.toUInt32.toInt32
  apply Int32.toInt_inj.mp
  omega

theorem boolNar {p : Int32} (h : p = 0 ∨ p = 1) : narrow .boolean (.int p) = .int p ∧ fits .boolean (.int p) = true := by rcases h with rfl | rfl <;> decide
theorem m255s (x : Int32) : ¬ (((x.toUInt32 >>> ((8 : Int32) &&& 31).toUInt32).toInt32) &&& (255 : Int32)).toUInt32.toUInt16.toUInt32.toInt32 < 0 ∧ ¬ (255 : Int32) < (((x.toUInt32 >>> ((8 : Int32) &&& 31).toUInt32).toInt32) &&& (255 : Int32)).toUInt32.toUInt16.toUInt32.toInt32 := m255 _

theorem pn_java_lang_StringLatin1 : plainName "java/lang/StringLatin1" = true := by first | (simp [plainName, overriddenIn]; done) | decide +kernel
theorem ef_rm_canEncode (m : MethodId) (x0 : Int32)  : entryFrame m #[(.int x0)] 1 = mkF m 0 #[.val (.int x0)] [] := by first | (simp [entryFrame, mkF, argsToLocals, Value.category]; done) | rfl
theorem d_jdk_43_method_3_code_0 : decode jdk_43_method_3_code 0 = .ok (.iload_n 0, 1) := by decide +kernel
theorem d_jdk_43_method_3_code_1 : decode jdk_43_method_3_code 1 = .ok (.sipush 255, 3) := by decide +kernel
theorem d_jdk_43_method_3_code_4 : decode jdk_43_method_3_code 4 = .ok (.if_icmp .gt 7, 3) := by decide +kernel
theorem d_jdk_43_method_3_code_7 : decode jdk_43_method_3_code 7 = .ok (.iconst 1, 1) := by decide +kernel
theorem d_jdk_43_method_3_code_8 : decode jdk_43_method_3_code 8 = .ok (.goto 4, 3) := by decide +kernel
theorem d_jdk_43_method_3_code_12 : decode jdk_43_method_3_code 12 = .ok (.ireturn, 1) := by decide +kernel
set_option maxRecDepth 65536 in
set_option maxHeartbeats 40000000 in
theorem rm_canEncode (l : Launch) (Z : State) (a0 : Array Value) (hw : ∀ d ∈ tables_1, d.before a0 Z = true) (p1 : Int32) (h0 : Heap) (hp : ¬ (255 : Int32) < p1) :
    MeetsW l Z (⟨"java/lang/StringLatin1", "canEncode", "(C)Z"⟩ : MethodName) jdk_43_method_3_code 1 (some .boolean) ({ frames := 0, cells := 0, slots := 0, locals := 0 } : Room) #[(.int p1)] h0 (Pu h0 (fun v => v = some (.int 1))) := by
  refine MeetsW.of (plainFor_of_name pn_java_lang_StringLatin1) ?_
  intro p e s m below meth c s₁ P hx hby hml hZ hown hnm hret hlk X0 e0 K
  have M0 : Mv h0 h0 [] [] := Mv.refl _ _
  refine Go.cast (ef_rm_canEncode m p1 ) ?_
  refine Go.of (T' := s₁) (f' := (mkF m 1 #[.val (.int p1)] [(.int p1)])) (fun _ k => XS.iloadN X0.here hx rfl (hb hby d_jdk_43_method_3_code_0) rfl k) ?_
  refine Go.of (T' := s₁) (f' := (mkF m 4 #[.val (.int p1)] [(.int (255 : Int32)), (.int p1)])) (fun _ k => XS.sipush X0.here hx rfl (hb hby d_jdk_43_method_3_code_1) k) ?_
  have hc4 : ¬ ((255 : Int32) < p1) := hp
  refine Go.of (T' := s₁) (f' := (mkF m 7 #[.val (.int p1)] [])) (fun _ k => XS.icmpNo X0.here hx rfl (hb hby d_jdk_43_method_3_code_4) rfl (flt hc4).2.2.1 k) ?_
  refine Go.of (T' := s₁) (f' := (mkF m 8 #[.val (.int p1)] [(.int (1 : Int32))])) (fun _ k => XS.iconst X0.here hx rfl (hb hby d_jdk_43_method_3_code_7) k) ?_
  refine Go.of (T' := s₁) (f' := (mkF m 12 #[.val (.int p1)] [(.int (1 : Int32))])) (fun _ k => XS.goto X0.here hx rfl (pc0 := 8) (pc' := 12) rfl (hb hby d_jdk_43_method_3_code_8) (by decide) (by decide) k) ?_
  exact goRetI (Q := Pu h0 (fun v => v = some (.int 1))) X0 hx (t := .boolean) hret hlk rfl (by simp) (hb hby d_jdk_43_method_3_code_12) K (by decide) (by decide) e0 (⟨rfl, rfl, rfl⟩)
theorem ef_rm_toBytes1 (m : MethodId) (x0 : Int32)  : entryFrame m #[(.int x0)] 1 = mkF m 0 #[.val (.int x0)] [] := by first | (simp [entryFrame, mkF, argsToLocals, Value.category]; done) | rfl
theorem d_jdk_43_method_46_code_0 : decode jdk_43_method_46_code 0 = .ok (.iconst 1, 1) := by decide +kernel
theorem d_jdk_43_method_46_code_1 : decode jdk_43_method_46_code 1 = .ok (.newarray .byte, 2) := by decide +kernel
theorem d_jdk_43_method_46_code_3 : decode jdk_43_method_46_code 3 = .ok (.dup, 1) := by decide +kernel
theorem d_jdk_43_method_46_code_4 : decode jdk_43_method_46_code 4 = .ok (.iconst 0, 1) := by decide +kernel
theorem d_jdk_43_method_46_code_5 : decode jdk_43_method_46_code 5 = .ok (.iload_n 0, 1) := by decide +kernel
theorem d_jdk_43_method_46_code_6 : decode jdk_43_method_46_code 6 = .ok (.i2b, 1) := by decide +kernel
theorem d_jdk_43_method_46_code_7 : decode jdk_43_method_46_code 7 = .ok (.bastore, 1) := by decide +kernel
theorem d_jdk_43_method_46_code_8 : decode jdk_43_method_46_code 8 = .ok (.areturn, 1) := by decide +kernel
set_option maxRecDepth 65536 in
set_option maxHeartbeats 40000000 in
theorem rm_toBytes1 (l : Launch) (Z : State) (a0 : Array Value) (hw : ∀ d ∈ tables_1, d.before a0 Z = true) (p1 : Int32) (h0 : Heap)  :
    MeetsW l Z (⟨"java/lang/StringLatin1", "toBytes", "(C)[B"⟩ : MethodName) jdk_43_method_46_code 1 (some (.array .byte)) ({ frames := 0, cells := 1, slots := 1, locals := 0 } : Room) #[(.int p1)] h0 (fun v h L => Mv h0 h [] L ∧ ∃ (b : Addr) (k : ClassId), v = some (.ref b) ∧ h0.size ≤ b ∧ Arv Z h b k .byte (1 : Int32) [.int (p1.toInt8.toInt32)] (.int (0 : Int32))) := by
  refine MeetsW.of (plainFor_of_name pn_java_lang_StringLatin1) ?_
  intro p e s m below meth c s₁ P hx hby hml hZ hown hnm hret hlk X0 e0 K
  have M0 : Mv h0 h0 [] [] := Mv.refl _ _
  refine Go.cast (ef_rm_toBytes1 m p1 ) ?_
  refine Go.of (T' := s₁) (f' := (mkF m 1 #[.val (.int p1)] [(.int (1 : Int32))])) (fun _ k => XS.iconst X0.here hx rfl (hb hby d_jdk_43_method_46_code_0) k) ?_
  obtain ⟨T1, h1, k1, X1, e1, E1, A1, st1⟩ := newP X0 hx hZ (hw _ (List.mem_of_getElem? (i := 19) rfl)) e0 (g := (mkF m 1 #[.val (.int p1)] [(.int (1 : Int32))])) rfl (hb hby d_jdk_43_method_46_code_1) rfl (by decide) (cap := 1) (by decide) (by decide) (by decide) (by decide)
  obtain ⟨b1, g1⟩ : ∃ z, z = h0.size := ⟨_, rfl⟩
  rw [← g1] at A1 st1
  have fr_b1 : h0.size ≤ b1 := Nat.le_trans M0.le (Nat.le_of_eq g1.symm)
  have K1 := keepE E1
  have M1 := M0.ext E1
  have V_b1 : Arv Z h1 b1 k1 .byte (1 : Int32) [(.int (0 : Int32))] (.int (0 : Int32)) := (Arv.new A1 (by decide)).pad (pad_rep [] (.int (0 : Int32)) 1)
  refine Go.of (T' := T1) (f' := (mkF m 3 #[.val (.int p1)] [(.ref b1)])) st1 ?_
  refine Go.of (T' := T1) (f' := (mkF m 4 #[.val (.int p1)] [(.ref b1), (.ref b1)])) (fun _ k => XS.dup X1.here hx rfl (hb hby d_jdk_43_method_46_code_3) rfl rfl k) ?_
  refine Go.of (T' := T1) (f' := (mkF m 5 #[.val (.int p1)] [(.int (0 : Int32)), (.ref b1), (.ref b1)])) (fun _ k => XS.iconst X1.here hx rfl (hb hby d_jdk_43_method_46_code_4) k) ?_
  refine Go.of (T' := T1) (f' := (mkF m 6 #[.val (.int p1)] [(.int p1), (.int (0 : Int32)), (.ref b1), (.ref b1)])) (fun _ k => XS.iloadN X1.here hx rfl (hb hby d_jdk_43_method_46_code_5) rfl k) ?_
  refine Go.of (T' := T1) (f' := (mkF m 7 #[.val (.int p1)] [(.int (p1.toInt8.toInt32)), (.int (0 : Int32)), (.ref b1), (.ref b1)])) (fun _ k => XS.i2b X1.here hx rfl (hb hby d_jdk_43_method_46_code_6) rfl k) ?_
  obtain ⟨cl2, Ar2, cq2, Sz2, Nn2, Hs2, Gs2⟩ := id V_b1
  have hin2 : ¬ ((0 : Int32) < 0 ∨ cl2.slots.size ≤ ((0 : Int32)).toNatClampNeg) := inb_of Sz2 ⟨by decide, by decide⟩
  obtain ⟨T2, h2, X2, e2, W2, st2⟩ := stB X1 hx hZ e1 Ar2 (j := (0 : Int32)) hin2 (g := (mkF m 7 #[.val (.int p1)] [(.int (p1.toInt8.toInt32)), (.int (0 : Int32)), (.ref b1), (.ref b1)])) rfl rfl (hb hby d_jdk_43_method_46_code_7)
  have fq2 : fits .byte (.int (nar .byte (p1.toInt8.toInt32))) = true := fits_nar_byte _
  rw [show nar .byte (p1.toInt8.toInt32) = (p1.toInt8.toInt32) from nar_b _] at W2 fq2
  have V2 := Arv.set Ar2 cq2 Sz2 Nn2 Hs2 Gs2 fq2 W2 0 rfl (Nat.le_of_ble_eq_true rfl)
  have K2 := Keep.of_wr W2
  have M2 := M1.wr W2 (Or.inr fr_b1)
  replace V_b1 : Arv Z h2 b1 k1 .byte (1 : Int32) [(.int (p1.toInt8.toInt32))] (.int (0 : Int32)) := V2
  refine Go.of (T' := T2) (f' := (mkF m 8 #[.val (.int p1)] [(.ref b1)])) st2 ?_
  exact goRetR (Q := fun v h L => Mv h0 h [] L ∧ ∃ (b : Addr) (k : ClassId), v = some (.ref b) ∧ h0.size ≤ b ∧ Arv Z h b k .byte (1 : Int32) [.int (p1.toInt8.toInt32)] (.int (0 : Int32))) X2 hx hret rfl hlk rfl rfl (hb hby d_jdk_43_method_46_code_8) K (by decide) (by decide) e2 (⟨M2, b1, _, rfl, fr_b1, V_b1⟩)
theorem pn_java_lang_String : plainName "java/lang/String" = true := by first | (simp [plainName, overriddenIn]; done) | decide +kernel
theorem ef_rm_strB (m : MethodId) (x0 : Addr) (x1 : Addr) (x2 : Int32)  : entryFrame m #[(.ref x0), (.ref x1), (.int x2)] 3 = mkF m 0 #[.val (.ref x0), .val (.ref x1), .val (.int x2)] [] := by first | (simp [entryFrame, mkF, argsToLocals, Value.category]; done) | rfl
theorem d_jdk_42_method_151_code_0 : decode jdk_42_method_151_code 0 = .ok (.aload_n 0, 1) := by decide +kernel
theorem d_jdk_42_method_151_code_1 : decode jdk_42_method_151_code 1 = .ok (.invokespecial 1, 3) := by decide +kernel
theorem d_jdk_42_method_151_code_4 : decode jdk_42_method_151_code 4 = .ok (.aload_n 0, 1) := by decide +kernel
theorem d_jdk_42_method_151_code_5 : decode jdk_42_method_151_code 5 = .ok (.aload_n 1, 1) := by decide +kernel
theorem d_jdk_42_method_151_code_6 : decode jdk_42_method_151_code 6 = .ok (.putfield 9, 3) := by decide +kernel
theorem d_jdk_42_method_151_code_9 : decode jdk_42_method_151_code 9 = .ok (.aload_n 0, 1) := by decide +kernel
theorem d_jdk_42_method_151_code_10 : decode jdk_42_method_151_code 10 = .ok (.iload_n 2, 1) := by decide +kernel
theorem d_jdk_42_method_151_code_11 : decode jdk_42_method_151_code 11 = .ok (.putfield 15, 3) := by decide +kernel
theorem d_jdk_42_method_151_code_14 : decode jdk_42_method_151_code 14 = .ok (.return_, 1) := by decide +kernel
set_option maxRecDepth 65536 in
set_option maxHeartbeats 40000000 in
theorem rm_strB (l : Launch) (Z : State) (a0 : Array Value) (hw : ∀ d ∈ tables_1, d.before a0 Z = true) (a1 a2 : Addr) (v1 v2 : Value) (h0 : Heap) (E_a1 : Exa Z h0 a1 "java/lang/String") (F_value : Fld Z h0 a1 "java/lang/String" "value" "[B" v1) (F_coder : Fld Z h0 a1 "java/lang/String" "coder" "B" v2) :
    MeetsW l Z (⟨"java/lang/String", "<init>", "([BB)V"⟩ : MethodName) jdk_42_method_151_code 3 none ({ frames := 1, cells := 0, slots := 0, locals := 12 } : Room) #[(.ref a1), (.ref a2), (.int (0 : Int32))] h0 (fun v h L => v = none ∧ Mv h0 h [a1] L ∧ Exa Z h a1 "java/lang/String" ∧ Fld Z h a1 "java/lang/String" "value" "[B" (.ref a2) ∧ Fld Z h a1 "java/lang/String" "coder" "B" (.int (0 : Int32))) := by
  refine MeetsW.of (plainFor_of_name pn_java_lang_String) ?_
  intro p e s m below meth c s₁ P hx hby hml hZ hown hnm hret hlk X0 e0 K
  have M0 : Mv h0 h0 [a1] [] := Mv.refl _ _
  refine Go.cast (ef_rm_strB m a1 a2 (0 : Int32) ) ?_
  refine Go.of (T' := s₁) (f' := (mkF m 1 #[.val (.ref a1), .val (.ref a2), .val (.int (0 : Int32))] [(.ref a1)])) (fun _ k => XS.aloadN X0.here hx rfl (hb hby d_jdk_42_method_151_code_0) rfl rfl k) ?_
  obtain ⟨T1, X1, e1, st1⟩ := initO X0 hx hZ hown (hw _ (List.mem_of_getElem? (i := 11) rfl)) (hw _ (List.mem_of_getElem? (i := 12) rfl)) (hw _ (List.mem_of_getElem? (i := 13) rfl)) e0 (g := (mkF m 1 #[.val (.ref a1), .val (.ref a2), .val (.int (0 : Int32))] [(.ref a1)])) rfl (by rw [hml]; rfl) rfl (hb hby d_jdk_42_method_151_code_1) (by decide) (W := 0) (by show 2 * 0 + _ ≤ _; exact Nat.le_of_eq rfl) (by decide)
  refine Go.of (T' := T1) (f' := (mkF m 4 #[.val (.ref a1), .val (.ref a2), .val (.int (0 : Int32))] [])) st1 ?_
  refine Go.of (T' := T1) (f' := (mkF m 5 #[.val (.ref a1), .val (.ref a2), .val (.int (0 : Int32))] [(.ref a1)])) (fun _ k => XS.aloadN X1.here hx rfl (hb hby d_jdk_42_method_151_code_4) rfl rfl k) ?_
  refine Go.of (T' := T1) (f' := (mkF m 6 #[.val (.ref a1), .val (.ref a2), .val (.int (0 : Int32))] [(.ref a2), (.ref a1)])) (fun _ k => XS.aloadN X1.here hx rfl (hb hby d_jdk_42_method_151_code_5) rfl rfl k) ?_
  obtain ⟨T2, h2, X2, e2, W2, st2⟩ := putF X1 hx hZ hown (host := "") (Or.inl (hw _ (List.mem_of_getElem? (i := 28) rfl))) Via.refl e1 F_value E_a1 (Or.inr ⟨(hw _ (List.mem_of_getElem? (i := 29) rfl)), rfl, hnm⟩) (hw _ (List.mem_of_getElem? (i := 1) rfl)) (ty := (.array .byte)) (by decide) rfl rfl (g := (mkF m 6 #[.val (.ref a1), .val (.ref a2), .val (.int (0 : Int32))] [(.ref a2), (.ref a1)])) rfl rfl (hb hby d_jdk_42_method_151_code_6)
  have K2 := Keep.of_wr W2
  have M2 := M0.wr W2 (Or.inl (List.mem_of_getElem? (i := 0) rfl))
  replace F_value := F_value.same W2
  replace F_coder := F_coder.other W2 (Or.inr (slot_ne (Or.inr (hw _ (List.mem_of_getElem? (i := 27) rfl))) (Or.inr (hw _ (List.mem_of_getElem? (i := 29) rfl))) (by decide) (t := .byte) (t' := (.array .byte)) (by decide) (by decide)))
  replace E_a1 := E_a1.keep K2
  refine Go.of (T' := T2) (f' := (mkF m 9 #[.val (.ref a1), .val (.ref a2), .val (.int (0 : Int32))] [])) st2 ?_
  refine Go.of (T' := T2) (f' := (mkF m 10 #[.val (.ref a1), .val (.ref a2), .val (.int (0 : Int32))] [(.ref a1)])) (fun _ k => XS.aloadN X2.here hx rfl (hb hby d_jdk_42_method_151_code_9) rfl rfl k) ?_
  refine Go.of (T' := T2) (f' := (mkF m 11 #[.val (.ref a1), .val (.ref a2), .val (.int (0 : Int32))] [(.int (0 : Int32)), (.ref a1)])) (fun _ k => XS.iloadN X2.here hx rfl (hb hby d_jdk_42_method_151_code_10) rfl k) ?_
  obtain ⟨T3, h3, X3, e3, W3, st3⟩ := putF X2 hx hZ hown (host := "") (Or.inl (hw _ (List.mem_of_getElem? (i := 26) rfl))) Via.refl e2 F_coder E_a1 (Or.inr ⟨(hw _ (List.mem_of_getElem? (i := 27) rfl)), rfl, hnm⟩) (hw _ (List.mem_of_getElem? (i := 1) rfl)) (ty := .byte) (by decide) rfl rfl (g := (mkF m 11 #[.val (.ref a1), .val (.ref a2), .val (.int (0 : Int32))] [(.int (0 : Int32)), (.ref a1)])) rfl rfl (hb hby d_jdk_42_method_151_code_11)
  have K3 := Keep.of_wr W3
  have M3 := M2.wr W3 (Or.inl (List.mem_of_getElem? (i := 0) rfl))
  replace F_value := F_value.other W3 (Or.inr (slot_ne (Or.inr (hw _ (List.mem_of_getElem? (i := 29) rfl))) (Or.inr (hw _ (List.mem_of_getElem? (i := 27) rfl))) (by decide) (t := (.array .byte)) (t' := .byte) (by decide) (by decide)))
  replace F_coder := F_coder.same W3
  replace E_a1 := E_a1.keep K3
  refine Go.of (T' := T3) (f' := (mkF m 14 #[.val (.ref a1), .val (.ref a2), .val (.int (0 : Int32))] [])) st3 ?_
  exact goRet0 (Q := fun v h L => v = none ∧ Mv h0 h [a1] L ∧ Exa Z h a1 "java/lang/String" ∧ Fld Z h a1 "java/lang/String" "value" "[B" (.ref a2) ∧ Fld Z h a1 "java/lang/String" "coder" "B" (.int (0 : Int32))) X3 hx hret hlk (hb hby d_jdk_42_method_151_code_14) K (by decide) (by decide) e3 (⟨rfl, M3, E_a1, F_value, F_coder⟩)
theorem ef_rm_valueOf (m : MethodId) (x0 : Int32)  : entryFrame m #[(.int x0)] 1 = mkF m 0 #[.val (.int x0)] [] := by first | (simp [entryFrame, mkF, argsToLocals, Value.category]; done) | rfl
theorem d_jdk_42_method_139_code_0 : decode jdk_42_method_139_code 0 = .ok (.getstatic 38, 3) := by decide +kernel
theorem d_jdk_42_method_139_code_3 : decode jdk_42_method_139_code 3 = .ok (.ifCond .eq 23, 3) := by decide +kernel
theorem d_jdk_42_method_139_code_6 : decode jdk_42_method_139_code 6 = .ok (.iload_n 0, 1) := by decide +kernel
theorem d_jdk_42_method_139_code_7 : decode jdk_42_method_139_code 7 = .ok (.invokestatic 1015, 3) := by decide +kernel
theorem pd__C_Z : parseMethodDescriptor "(C)Z" = some ⟨[.char], some .boolean⟩ := by decide +kernel
theorem d_jdk_42_method_139_code_10 : decode jdk_42_method_139_code 10 = .ok (.ifCond .eq 16, 3) := by decide +kernel
theorem d_jdk_42_method_139_code_13 : decode jdk_42_method_139_code 13 = .ok (.new 10, 3) := by decide +kernel
theorem d_jdk_42_method_139_code_16 : decode jdk_42_method_139_code 16 = .ok (.dup, 1) := by decide +kernel
theorem d_jdk_42_method_139_code_17 : decode jdk_42_method_139_code 17 = .ok (.iload_n 0, 1) := by decide +kernel
theorem d_jdk_42_method_139_code_18 : decode jdk_42_method_139_code 18 = .ok (.invokestatic 1018, 3) := by decide +kernel
theorem pd__C__B : parseMethodDescriptor "(C)[B" = some ⟨[.char], some (.array .byte)⟩ := by decide +kernel
theorem d_jdk_42_method_139_code_21 : decode jdk_42_method_139_code 21 = .ok (.iconst 0, 1) := by decide +kernel
theorem d_jdk_42_method_139_code_22 : decode jdk_42_method_139_code 22 = .ok (.invokespecial 209, 3) := by decide +kernel
theorem pd___BB_V : parseMethodDescriptor "([BB)V" = some ⟨[(.array .byte), .byte], none⟩ := by decide +kernel
theorem d_jdk_42_method_139_code_25 : decode jdk_42_method_139_code 25 = .ok (.areturn, 1) := by decide +kernel
set_option maxRecDepth 65536 in
set_option maxHeartbeats 40000000 in
theorem rm_valueOf (l : Launch) (Z : State) (a0 : Array Value) (hw : ∀ d ∈ tables_1, d.before a0 Z = true) (p1 zc : Int32) (h0 : Heap) (hp : ¬ p1 < 0 ∧ ¬ (255 : Int32) < p1) (Z_cs : Sta Z h0 "java/lang/String" "COMPACT_STRINGS" "Z" (.int zc)) (hz : ¬ zc = 0) :
    MeetsW l Z (⟨"java/lang/String", "valueOf", "(C)Ljava/lang/String;"⟩ : MethodName) jdk_42_method_139_code 1 (some (.object "java/lang/String")) ({ frames := 2, cells := 2, slots := 5, locals := 27 } : Room) #[(.int p1)] h0 (fun v h L => Mv h0 h [] L ∧ ∃ a t : Addr, v = some (.ref a) ∧ h0.size ≤ a ∧ h0.size ≤ t ∧ a ≠ t ∧ Str Z h a t [p1]) := by
  refine MeetsW.of (plainFor_of_name pn_java_lang_String) ?_
  intro p e s m below meth c s₁ P hx hby hml hZ hown hnm hret hlk X0 e0 K
  have M0 : Mv h0 h0 [] [] := Mv.refl _ _
  refine Go.cast (ef_rm_valueOf m p1 ) ?_
  obtain ⟨T1, X1, e1, st1⟩ := getS2 X0 hx hZ hown (host := "") (Or.inl (hw _ (List.mem_of_getElem? (i := 14) rfl))) Via.refl e0 Z_cs (g := (mkF m 0 #[.val (.int p1)] [])) rfl (hb hby d_jdk_42_method_139_code_0)
  refine Go.of (T' := T1) (f' := (mkF m 3 #[.val (.int p1)] [(.int zc)])) st1 ?_
  have hc3 : ¬ (zc = (0 : Int32)) := hz
  refine Go.of (T' := T1) (f' := (mkF m 6 #[.val (.int p1)] [])) (fun _ k => XS.ifNo X1.here hx rfl (hb hby d_jdk_42_method_139_code_3) rfl ((if0 _ _).trans (feq hc3).1) k) ?_
  refine Go.of (T' := T1) (f' := (mkF m 7 #[.val (.int p1)] [(.int p1)])) (fun _ k => XS.iloadN X1.here hx rfl (hb hby d_jdk_42_method_139_code_6) rfl k) ?_
  refine goS X1 hx hZ hown (hw _ (List.mem_of_getElem? (i := 33) rfl)) (hw _ (List.mem_of_getElem? (i := 34) rfl)) (hw _ (List.mem_of_getElem? (i := 35) rfl)) (hw _ (List.mem_of_getElem? (i := 36) rfl)) (by decide) (C := 0) (S := 0) ((rm_canEncode l Z a0 hw p1 h0 hp.2).bk (W := 0) hZ (hw _ (List.mem_of_getElem? (i := 36) rfl)) (hw _ (List.mem_of_getElem? (i := 35) rfl)) (by decide) (by decide)) e1 (argsL := [(.int p1)]) (rest := []) (by rw [hml]; rfl) (lenOf pd__C_Z rfl) rfl rfl (hb hby d_jdk_42_method_139_code_7) (Nat.le_of_eq rfl) (by decide) (by decide) ?_
  intro v2 T2 L2 X2 hQ2
  obtain ⟨nq2, e2, rfl⟩ := hQ2
  replace X2 := standNil X2 nq2
  show Go p e below P T2 (mkF m 10 #[.val (.int p1)] [(.int (1 : Int32))])
  refine Go.of (T' := T2) (f' := (mkF m 13 #[.val (.int p1)] [])) (fun _ k => XS.ifNo X2.here hx rfl (hb hby d_jdk_42_method_139_code_10) rfl (by decide) k) ?_
  obtain ⟨T3, h3, X3, e3, E3, A3, D3, -, st3⟩ := newO X2 hx hZ hown (hw _ (List.mem_of_getElem? (i := 37) rfl)) (hw _ (List.mem_of_getElem? (i := 1) rfl)) (hw _ (List.mem_of_getElem? (i := 2) rfl)) e2 (g := (mkF m 13 #[.val (.int p1)] [])) rfl (hb hby d_jdk_42_method_139_code_13) (by decide) (by decide)
  obtain ⟨b3, g3⟩ : ∃ z, z = h0.size := ⟨_, rfl⟩
  rw [← g3] at A3 D3 st3
  have fr_b3 : h0.size ≤ b3 := Nat.le_trans M0.le (Nat.le_of_eq g3.symm)
  have K3 := keepE E3
  have M3 := M0.ext E3
  replace Z_cs := StaKeep Z_cs K3 all0
  have E_b3 := A3
  have F_coder_b3 : Fld Z h3 b3 "java/lang/String" "coder" "B" (.int (0 : Int32)) := D3 (Or.inr (hw _ (List.mem_of_getElem? (i := 27) rfl))) (ty := .byte) (by decide)
  have F_value_b3 : Fld Z h3 b3 "java/lang/String" "value" "[B" .null := D3 (Or.inr (hw _ (List.mem_of_getElem? (i := 29) rfl))) (ty := (.array .byte)) (by decide)
  refine Go.of (T' := T3) (f' := (mkF m 16 #[.val (.int p1)] [(.ref b3)])) st3 ?_
  refine Go.of (T' := T3) (f' := (mkF m 17 #[.val (.int p1)] [(.ref b3), (.ref b3)])) (fun _ k => XS.dup X3.here hx rfl (hb hby d_jdk_42_method_139_code_16) rfl rfl k) ?_
  refine Go.of (T' := T3) (f' := (mkF m 18 #[.val (.int p1)] [(.int p1), (.ref b3), (.ref b3)])) (fun _ k => XS.iloadN X3.here hx rfl (hb hby d_jdk_42_method_139_code_17) rfl k) ?_
  refine goS X3 hx hZ hown (hw _ (List.mem_of_getElem? (i := 38) rfl)) (hw _ (List.mem_of_getElem? (i := 39) rfl)) (hw _ (List.mem_of_getElem? (i := 35) rfl)) (hw _ (List.mem_of_getElem? (i := 40) rfl)) (by decide) (C := 1) (S := 1) ((rm_toBytes1 l Z a0 hw p1 h3).bk (W := 2) hZ (hw _ (List.mem_of_getElem? (i := 40) rfl)) (hw _ (List.mem_of_getElem? (i := 35) rfl)) (by decide) (by decide)) e3 (argsL := [(.int p1)]) (rest := [(.ref b3), (.ref b3)]) (by rw [hml]; rfl) (lenOf pd__C__B rfl) rfl rfl (hb hby d_jdk_42_method_139_code_18) (Nat.le_of_eq rfl) (by decide) (by decide) ?_
  intro v4 T4 L4 X4 hQ4
  obtain ⟨h4, e4⟩ : ∃ z, T4.heap = z := ⟨_, rfl⟩
  rw [e4] at hQ4
  obtain ⟨Mc4, b4, k4, rfl, le4, V_b4⟩ := hQ4
  have ne_b3_b4 : b3 ≠ b4 := Nat.ne_of_lt (Nat.lt_of_lt_of_le E_b3.lt le4)
  have fr_b4 : h0.size ≤ b4 := Nat.le_trans M3.le le4
  have M4 := M3.app0 Mc4
  replace Z_cs := StaKeep Z_cs Mc4.1 all0
  replace E_b3 := E_b3.keep Mc4.1
  replace F_coder_b3 := F_coder_b3.keep Mc4.1 nin0
  replace F_value_b3 := F_value_b3.keep Mc4.1 nin0
  show Go p e below P T4 (mkF m 21 #[.val (.int p1)] [(.ref b4), (.ref b3), (.ref b3)])
  refine Go.of (T' := T4) (f' := (mkF m 22 #[.val (.int p1)] [(.int (0 : Int32)), (.ref b4), (.ref b3), (.ref b3)])) (fun _ k => XS.iconst X4.here hx rfl (hb hby d_jdk_42_method_139_code_21) k) ?_
  refine goI X4 hx hZ rfl hown (hw _ (List.mem_of_getElem? (i := 41) rfl)) (hw _ (List.mem_of_getElem? (i := 42) rfl)) (hw _ (List.mem_of_getElem? (i := 43) rfl)) (by decide) (C := 0) (S := 0) ((rm_strB l Z a0 hw b3 b4 .null (.int (0 : Int32)) h4 E_b3 F_value_b3 F_coder_b3).bk (W := 1) hZ (hw _ (List.mem_of_getElem? (i := 43) rfl)) (hw _ (List.mem_of_getElem? (i := 2) rfl)) (by decide) (by decide)) e4 (argsL := [(.ref b4), (.int (0 : Int32))]) (rest := [(.ref b3)]) (by rw [hml]; rfl) (lenOf pd___BB_V rfl) rfl rfl (hb hby d_jdk_42_method_139_code_22) (Nat.le_of_eq rfl) (by decide) (by decide) ?_
  intro v5 T5 L5 X5 hQ5
  obtain ⟨h5, e5⟩ : ∃ z, T5.heap = z := ⟨_, rfl⟩
  rw [e5] at hQ5
  have E_b3_o := E_b3
  obtain ⟨rfl, Mc5, Ec5, Fc5, Gc5⟩ := hQ5
  have M5 := M4.app Mc5 (allS (Or.inr fr_b3) all0)
  replace Z_cs := StaKeep Z_cs Mc5.1 (allS (staExa E_b3_o) all0)
  replace V_b4 := V_b4.keep Mc5.1 (ninS (Ne.symm ne_b3_b4) nin0)
  replace E_b3 := Ec5
  have F_value_b3 := Fc5
  have F_coder_b3 := Gc5
  show Go p e below P T5 (mkF m 25 #[.val (.int p1)] [(.ref b3)])
  exact goRetR (Q := fun v h L => Mv h0 h [] L ∧ ∃ a t : Addr, v = some (.ref a) ∧ h0.size ≤ a ∧ h0.size ≤ t ∧ a ≠ t ∧ Str Z h a t [p1]) X5 hx hret rfl hlk rfl rfl (hb hby d_jdk_42_method_139_code_25) K (by decide) (by decide) e5 (⟨M5, b3, b4, rfl, fr_b3, fr_b4, ne_b3_b4, str1 hp E_b3 F_value_b3 F_coder_b3 V_b4⟩)
theorem pn_java_lang_Record : plainName "java/lang/Record" = true := by first | (simp [plainName, overriddenIn]; done) | decide +kernel
theorem ef_rm_record (m : MethodId) (x0 : Addr)  : entryFrame m #[(.ref x0)] 1 = mkF m 0 #[.val (.ref x0)] [] := by first | (simp [entryFrame, mkF, argsToLocals, Value.category]; done) | rfl
theorem d_jdk_30_method_1_code_0 : decode jdk_30_method_1_code 0 = .ok (.aload_n 0, 1) := by decide +kernel
theorem d_jdk_30_method_1_code_1 : decode jdk_30_method_1_code 1 = .ok (.invokespecial 1, 3) := by decide +kernel
theorem d_jdk_30_method_1_code_4 : decode jdk_30_method_1_code 4 = .ok (.return_, 1) := by decide +kernel
set_option maxRecDepth 65536 in
set_option maxHeartbeats 40000000 in
theorem rm_record (l : Launch) (Z : State) (a0 : Array Value) (hw : ∀ d ∈ tables_1, d.before a0 Z = true) (a1 : Addr) (h0 : Heap)  :
    MeetsW l Z (⟨"java/lang/Record", "<init>", "()V"⟩ : MethodName) jdk_30_method_1_code 1 none ({ frames := 1, cells := 0, slots := 0, locals := 12 } : Room) #[(.ref a1)] h0 (Pu h0 (fun v => v = none)) := by
  refine MeetsW.of (plainFor_of_name pn_java_lang_Record) ?_
  intro p e s m below meth c s₁ P hx hby hml hZ hown hnm hret hlk X0 e0 K
  have M0 : Mv h0 h0 [] [] := Mv.refl _ _
  refine Go.cast (ef_rm_record m a1 ) ?_
  refine Go.of (T' := s₁) (f' := (mkF m 1 #[.val (.ref a1)] [(.ref a1)])) (fun _ k => XS.aloadN X0.here hx rfl (hb hby d_jdk_30_method_1_code_0) rfl rfl k) ?_
  obtain ⟨T1, X1, e1, st1⟩ := initO X0 hx hZ hown (hw _ (List.mem_of_getElem? (i := 55) rfl)) (hw _ (List.mem_of_getElem? (i := 12) rfl)) (hw _ (List.mem_of_getElem? (i := 13) rfl)) e0 (g := (mkF m 1 #[.val (.ref a1)] [(.ref a1)])) rfl (by rw [hml]; rfl) rfl (hb hby d_jdk_30_method_1_code_1) (by decide) (W := 0) (by show 2 * 0 + _ ≤ _; exact Nat.le_of_eq rfl) (by decide)
  refine Go.of (T' := T1) (f' := (mkF m 4 #[.val (.ref a1)] [])) st1 ?_
  exact goRet0 (Q := Pu h0 (fun v => v = none)) X1 hx hret hlk (hb hby d_jdk_30_method_1_code_4) K (by decide) (by decide) e1 (⟨rfl, rfl, rfl⟩)
/-! an array of 256 references -/
def RefArr (Z : State) (h : Heap) (a : Addr) : Prop := ∃ cl : Cell, Arr Z h a cl (.object "java/lang/Integer") ∧ cl.slots.size = 256 ∧ ∀ j, j < 256 → ∃ b : Addr, cl.slots[j]? = some (.ref b)
theorem RefArr.keep {Z : State} {h h' : Heap} {a : Addr} {ws : List Addr} (F : RefArr Z h a) (K : Keep h h' ws) (q : a ∉ ws) : RefArr Z h' a := by
  obtain ⟨cl, A, r⟩ := F; exact ⟨cl, ⟨K.2.1 a cl A.1 q, A.2⟩, r⟩
theorem RefArr.lt1 {Z : State} {h : Heap} {a : Addr} (F : RefArr Z h a) : a < h.size := by obtain ⟨cl, A, r⟩ := F; exact A.lt
theorem fold_all {g : Nat → Option Bool} : ∀ (L : List Nat) (b : Option Bool), List.foldl (fun acc i => match acc with | some true => g i | x => x) b L = some true → b = some true ∧ ∀ i ∈ L, g i = some true
  | [], b, h => ⟨h, fun _ q => nomatch q⟩
  | i :: L, b, h => by
    obtain ⟨h1, h2⟩ := fold_all L _ h
    have hb : b = some true := by
      rcases b with _ | (_ | _)
      · cases h1
      · cases h1
      · rfl
    subst hb
    exact ⟨rfl, fun j hj => (List.mem_cons.mp hj).elim (fun e => e ▸ h1) (h2 j)⟩
theorem all_e {t : Term} {c : Jvm.Cond} {args : Array Value} {first s : State} {o : Option Outcome} {a : Addr} {cl : Cell} (h : (Jvm.Cond.all t c).value args first o s [] = some true) (ht : t.eval args first o [] s = some (.ref a)) (ha : s.arrayAt? a = some cl) :
    ∀ k, k < cl.slots.size → c.value args first o s [k] = some true := by
  simp only [Cond.value, ht, ha] at h
  intro k hk
  exact (fold_all (g := fun i => c.value args first o s [i]) _ _ h).2 k (List.mem_range.mpr hk)
theorem refArr_start {s : State} {args : Array Value} {t : Term} {a : Addr} {r : Jvm.Cond} (ev : t.eval args s none [] s = some (.ref a)) (ev1 : ∀ j, t.eval args s none [j] s = some (.ref a)) (h1 : (Jvm.Cond.arrayOf t (.object "java/lang/Integer")).before args s = true)
    (h2 : (Jvm.Cond.eq (Term.length t) (Term.int (256 : Int32))).before args s = true) (h3 : (Jvm.Cond.all t (Jvm.Cond.and (Jvm.Cond.exactly (Term.elem t (Term.index 0)) "java/lang/Integer") r)).before args s = true) : RefArr s s.heap a := by
  obtain ⟨cl, A⟩ := Arr.start ev (Cond.before_iff.mp h1)
  have ha := A.fin (Vm.Alike.refl _)
  have hs : cl.slots.size = 256 := by
    obtain ⟨x, y, e1, e2, -, -⟩ := cmp_v (Or.inl (Cond.before_iff.mp h2))
    have e3 := Cond.before_iff.mp h2
    simp only [Term.eval, ev, ha, Option.bind_eq_bind, Option.bind_some, Option.pure_def] at e1
    split at e1
    · rename_i hlt
      have e4 : (Term.length t).eval args s none [] s = some (.int cl.slots.size.toInt32) := len_f ev ha hlt
      have e5 := gotT (Cond.eq_ints e4 (Term.int_eval (256))) e3
      have e6 := len_toInt hlt
      rw [e5] at e6
      have : (256 : Int32).toInt = 256 := by decide
      omega
    · cases e1
  refine ⟨cl, A, hs, fun j hj => ?_⟩
  obtain ⟨g1, -⟩ := and_e (all_e (Cond.before_iff.mp h3) ev ha j (by omega))
  obtain ⟨b, e⟩ := exa_v g1
  have ev' := ev1 j
  obtain ⟨c', q1, q2⟩ := elem_at e ev' (show (Term.index 0).eval args s none [j] s = some (.int j.toInt32) from rfl)
  cases q1.symm.trans A.1
  have k : j.toInt32.toNatClampNeg = j := by
    show (Int32.ofNat j).toInt.toNat = j
    rw [Int32.toInt_ofNat_of_lt (by omega)]; rfl
  rw [k] at q2
  exact ⟨b, q2.2⟩
theorem cache_in {x : Int32} (h1 : ¬ x < (-128 : Int32)) (h2 : ¬ (127 : Int32) < x) : ¬ (x + (128 : Int32)) < 0 ∧ (x + (128 : Int32)).toNatClampNeg < 256 := by
  have a := c_iadd x 128
  have r := rng32 (x + 128)
  have e1 : (128 : Int32).toInt = 128 := by decide
  have e2 : (-128 : Int32).toInt = -128 := by decide
  have e3 : (127 : Int32).toInt = 127 := by decide
  have e4 : (0 : Int32).toInt = 0 := by decide
  rw [Int32.lt_iff_toInt_lt] at h1 h2 ⊢
  have k : (x + (128 : Int32)).toNatClampNeg = (x + (128 : Int32)).toInt.toNat := rfl
  omega

theorem pn_java_lang_Number : plainName "java/lang/Number" = true := by first | (simp [plainName, overriddenIn]; done) | decide +kernel
theorem ef_rm_number (m : MethodId) (x0 : Addr)  : entryFrame m #[(.ref x0)] 1 = mkF m 0 #[.val (.ref x0)] [] := by first | (simp [entryFrame, mkF, argsToLocals, Value.category]; done) | rfl
theorem d_jdk_18_method_1_code_0 : decode jdk_18_method_1_code 0 = .ok (.aload_n 0, 1) := by decide +kernel
theorem d_jdk_18_method_1_code_1 : decode jdk_18_method_1_code 1 = .ok (.invokespecial 1, 3) := by decide +kernel
theorem d_jdk_18_method_1_code_4 : decode jdk_18_method_1_code 4 = .ok (.return_, 1) := by decide +kernel
set_option maxRecDepth 65536 in
set_option maxHeartbeats 40000000 in
theorem rm_number (l : Launch) (Z : State) (a0 : Array Value) (hw : ∀ d ∈ tables_1, d.before a0 Z = true) (a1 : Addr) (h0 : Heap)  :
    MeetsW l Z (⟨"java/lang/Number", "<init>", "()V"⟩ : MethodName) jdk_18_method_1_code 1 none ({ frames := 1, cells := 0, slots := 0, locals := 12 } : Room) #[(.ref a1)] h0 (Pu h0 (fun v => v = none)) := by
  refine MeetsW.of (plainFor_of_name pn_java_lang_Number) ?_
  intro p e s m below meth c s₁ P hx hby hml hZ hown hnm hret hlk X0 e0 K
  have M0 : Mv h0 h0 [] [] := Mv.refl _ _
  refine Go.cast (ef_rm_number m a1 ) ?_
  refine Go.of (T' := s₁) (f' := (mkF m 1 #[.val (.ref a1)] [(.ref a1)])) (fun _ k => XS.aloadN X0.here hx rfl (hb hby d_jdk_18_method_1_code_0) rfl rfl k) ?_
  obtain ⟨T1, X1, e1, st1⟩ := initO X0 hx hZ hown (hw _ (List.mem_of_getElem? (i := 92) rfl)) (hw _ (List.mem_of_getElem? (i := 12) rfl)) (hw _ (List.mem_of_getElem? (i := 13) rfl)) e0 (g := (mkF m 1 #[.val (.ref a1)] [(.ref a1)])) rfl (by rw [hml]; rfl) rfl (hb hby d_jdk_18_method_1_code_1) (by decide) (W := 0) (by show 2 * 0 + _ ≤ _; exact Nat.le_of_eq rfl) (by decide)
  refine Go.of (T' := T1) (f' := (mkF m 4 #[.val (.ref a1)] [])) st1 ?_
  exact goRet0 (Q := Pu h0 (fun v => v = none)) X1 hx hret hlk (hb hby d_jdk_18_method_1_code_4) K (by decide) (by decide) e1 (⟨rfl, rfl, rfl⟩)
theorem pn_java_lang_Integer : plainName "java/lang/Integer" = true := by first | (simp [plainName, overriddenIn]; done) | decide +kernel
theorem ef_rm_integer (m : MethodId) (x0 : Addr) (x1 : Int32)  : entryFrame m #[(.ref x0), (.int x1)] 2 = mkF m 0 #[.val (.ref x0), .val (.int x1)] [] := by first | (simp [entryFrame, mkF, argsToLocals, Value.category]; done) | rfl
theorem d_jdk_33_method_23_code_0 : decode jdk_33_method_23_code 0 = .ok (.aload_n 0, 1) := by decide +kernel
theorem d_jdk_33_method_23_code_1 : decode jdk_33_method_23_code 1 = .ok (.invokespecial 202, 3) := by decide +kernel
theorem pd___V : parseMethodDescriptor "()V" = some ⟨[], none⟩ := by decide +kernel
theorem d_jdk_33_method_23_code_4 : decode jdk_33_method_23_code 4 = .ok (.aload_n 0, 1) := by decide +kernel
theorem d_jdk_33_method_23_code_5 : decode jdk_33_method_23_code 5 = .ok (.iload_n 1, 1) := by decide +kernel
theorem d_jdk_33_method_23_code_6 : decode jdk_33_method_23_code 6 = .ok (.putfield 205, 3) := by decide +kernel
theorem d_jdk_33_method_23_code_9 : decode jdk_33_method_23_code 9 = .ok (.return_, 1) := by decide +kernel
set_option maxRecDepth 65536 in
set_option maxHeartbeats 40000000 in
theorem rm_integer (l : Launch) (Z : State) (a0 : Array Value) (hw : ∀ d ∈ tables_1, d.before a0 Z = true) (a1 : Addr) (p2 : Int32) (h0 : Heap) (E_a1 : Exa Z h0 a1 "java/lang/Integer") (F_value : Fld Z h0 a1 "java/lang/Integer" "value" "I" (.int (0 : Int32)))  :
    MeetsW l Z (⟨"java/lang/Integer", "<init>", "(I)V"⟩ : MethodName) jdk_33_method_23_code 2 none ({ frames := 2, cells := 0, slots := 0, locals := 24 } : Room) #[(.ref a1), (.int p2)] h0 (fun v h L => v = none ∧ Mv h0 h [a1] L ∧ Exa Z h a1 "java/lang/Integer" ∧ Fld Z h a1 "java/lang/Integer" "value" "I" (.int p2)) := by
  refine MeetsW.of (plainFor_of_name pn_java_lang_Integer) ?_
  intro p e s m below meth c s₁ P hx hby hml hZ hown hnm hret hlk X0 e0 K
  have M0 : Mv h0 h0 [a1] [] := Mv.refl _ _
  refine Go.cast (ef_rm_integer m a1 p2 ) ?_
  refine Go.of (T' := s₁) (f' := (mkF m 1 #[.val (.ref a1), .val (.int p2)] [(.ref a1)])) (fun _ k => XS.aloadN X0.here hx rfl (hb hby d_jdk_33_method_23_code_0) rfl rfl k) ?_
  refine goI X0 hx hZ rfl hown (hw _ (List.mem_of_getElem? (i := 86) rfl)) (hw _ (List.mem_of_getElem? (i := 87) rfl)) (hw _ (List.mem_of_getElem? (i := 91) rfl)) (by decide) (C := 0) (S := 0) ((rm_number l Z a0 hw a1 h0 ).bk (W := 0) hZ (hw _ (List.mem_of_getElem? (i := 91) rfl)) (hw _ (List.mem_of_getElem? (i := 90) rfl)) (by decide) (by decide)) e0 (argsL := []) (rest := []) (by rw [hml]; rfl) (lenOf pd___V rfl) rfl rfl (hb hby d_jdk_33_method_23_code_1) (Nat.le_of_eq rfl) (by decide) (by decide) ?_
  intro v1 T1 L1 X1 hQ1
  obtain ⟨nq1, e1, rfl⟩ := hQ1
  replace X1 := standNil X1 nq1
  show Go p e below P T1 (mkF m 4 #[.val (.ref a1), .val (.int p2)] [])
  refine Go.of (T' := T1) (f' := (mkF m 5 #[.val (.ref a1), .val (.int p2)] [(.ref a1)])) (fun _ k => XS.aloadN X1.here hx rfl (hb hby d_jdk_33_method_23_code_4) rfl rfl k) ?_
  refine Go.of (T' := T1) (f' := (mkF m 6 #[.val (.ref a1), .val (.int p2)] [(.int p2), (.ref a1)])) (fun _ k => XS.iloadN X1.here hx rfl (hb hby d_jdk_33_method_23_code_5) rfl k) ?_
  obtain ⟨T2, h2, X2, e2, W2, st2⟩ := putF X1 hx hZ hown (host := "") (Or.inl (hw _ (List.mem_of_getElem? (i := 93) rfl))) Via.refl e1 F_value E_a1 (Or.inr ⟨(hw _ (List.mem_of_getElem? (i := 94) rfl)), rfl, hnm⟩) (hw _ (List.mem_of_getElem? (i := 81) rfl)) (ty := .int) (by decide) rfl rfl (g := (mkF m 6 #[.val (.ref a1), .val (.int p2)] [(.int p2), (.ref a1)])) rfl rfl (hb hby d_jdk_33_method_23_code_6)
  have K2 := Keep.of_wr W2
  have M2 := M0.wr W2 (Or.inl (List.mem_of_getElem? (i := 0) rfl))
  replace F_value := F_value.same W2
  replace E_a1 := E_a1.keep K2
  refine Go.of (T' := T2) (f' := (mkF m 9 #[.val (.ref a1), .val (.int p2)] [])) st2 ?_
  exact goRet0 (Q := fun v h L => v = none ∧ Mv h0 h [a1] L ∧ Exa Z h a1 "java/lang/Integer" ∧ Fld Z h a1 "java/lang/Integer" "value" "I" (.int p2)) X2 hx hret hlk (hb hby d_jdk_33_method_23_code_9) K (by decide) (by decide) e2 (⟨rfl, M2, E_a1, F_value⟩)
theorem ef_rm_box (m : MethodId) (x0 : Int32)  : entryFrame m #[(.int x0)] 1 = mkF m 0 #[.val (.int x0)] [] := by first | (simp [entryFrame, mkF, argsToLocals, Value.category]; done) | rfl
theorem d_jdk_33_method_22_code_0 : decode jdk_33_method_22_code 0 = .ok (.iload_n 0, 1) := by decide +kernel
theorem d_jdk_33_method_22_code_1 : decode jdk_33_method_22_code 1 = .ok (.bipush (-128), 2) := by decide +kernel
theorem d_jdk_33_method_22_code_3 : decode jdk_33_method_22_code 3 = .ok (.if_icmp .lt 20, 3) := by decide +kernel
theorem d_jdk_33_method_22_code_23 : decode jdk_33_method_22_code 23 = .ok (.new 1, 3) := by decide +kernel
theorem d_jdk_33_method_22_code_26 : decode jdk_33_method_22_code 26 = .ok (.dup, 1) := by decide +kernel
theorem d_jdk_33_method_22_code_27 : decode jdk_33_method_22_code 27 = .ok (.iload_n 0, 1) := by decide +kernel
theorem d_jdk_33_method_22_code_28 : decode jdk_33_method_22_code 28 = .ok (.invokespecial 199, 3) := by decide +kernel
theorem pd__I_V : parseMethodDescriptor "(I)V" = some ⟨[.int], none⟩ := by decide +kernel
theorem d_jdk_33_method_22_code_31 : decode jdk_33_method_22_code 31 = .ok (.areturn, 1) := by decide +kernel
theorem d_jdk_33_method_22_code_6 : decode jdk_33_method_22_code 6 = .ok (.iload_n 0, 1) := by decide +kernel
theorem d_jdk_33_method_22_code_7 : decode jdk_33_method_22_code 7 = .ok (.getstatic 191, 3) := by decide +kernel
theorem d_jdk_33_method_22_code_10 : decode jdk_33_method_22_code 10 = .ok (.if_icmp .gt 13, 3) := by decide +kernel
theorem d_jdk_33_method_22_code_13 : decode jdk_33_method_22_code 13 = .ok (.getstatic 195, 3) := by decide +kernel
theorem d_jdk_33_method_22_code_16 : decode jdk_33_method_22_code 16 = .ok (.iload_n 0, 1) := by decide +kernel
theorem d_jdk_33_method_22_code_17 : decode jdk_33_method_22_code 17 = .ok (.sipush 128, 3) := by decide +kernel
theorem d_jdk_33_method_22_code_20 : decode jdk_33_method_22_code 20 = .ok (.iadd, 1) := by decide +kernel
theorem d_jdk_33_method_22_code_21 : decode jdk_33_method_22_code 21 = .ok (.aaload, 1) := by decide +kernel
theorem d_jdk_33_method_22_code_22 : decode jdk_33_method_22_code 22 = .ok (.areturn, 1) := by decide +kernel
set_option maxRecDepth 65536 in
set_option maxHeartbeats 40000000 in
theorem rm_box (l : Launch) (Z : State) (a0 : Array Value) (hw : ∀ d ∈ tables_1, d.before a0 Z = true) (p1 : Int32) (ca : Addr) (h0 : Heap) (Z_high : Sta Z h0 "java/lang/Integer$IntegerCache" "high" "I" (.int (127 : Int32))) (Z_cache : Sta Z h0 "java/lang/Integer$IntegerCache" "cache" "[Ljava/lang/Integer;" (.ref ca)) (B_ca : RefArr Z h0 ca) :
    MeetsW l Z (⟨"java/lang/Integer", "valueOf", "(I)Ljava/lang/Integer;"⟩ : MethodName) jdk_33_method_22_code 1 (some (.object "java/lang/Integer")) ({ frames := 3, cells := 1, slots := 1, locals := 38 } : Room) #[(.int p1)] h0 (fun v h L => Mv h0 h [] L ∧ ∃ a : Addr, v = some (.ref a)) := by
  refine MeetsW.of (plainFor_of_name pn_java_lang_Integer) ?_
  intro p e s m below meth c s₁ P hx hby hml hZ hown hnm hret hlk X0 e0 K
  have M0 : Mv h0 h0 [] [] := Mv.refl _ _
  refine Go.cast (ef_rm_box m p1 ) ?_
  refine Go.of (T' := s₁) (f' := (mkF m 1 #[.val (.int p1)] [(.int p1)])) (fun _ k => XS.iloadN X0.here hx rfl (hb hby d_jdk_33_method_22_code_0) rfl k) ?_
  refine Go.of (T' := s₁) (f' := (mkF m 3 #[.val (.int p1)] [(.int (-128 : Int32)), (.int p1)])) (fun _ k => XS.bipush X0.here hx rfl (hb hby d_jdk_33_method_22_code_1) k) ?_
  by_cases hc3 : p1 < (-128 : Int32)
  ·
    refine Go.of (T' := s₁) (f' := (mkF m 23 #[.val (.int p1)] [])) (fun _ k => XS.icmpYes X0.here hx rfl (pc0 := 3) (pc' := 23) rfl (hb hby d_jdk_33_method_22_code_3) rfl (tlt hc3).1 (by decide) (by decide) k) ?_
    obtain ⟨T1, h1, X1, e1, E1, A1, D1, -, st1⟩ := newO X0 hx hZ hown (hw _ (List.mem_of_getElem? (i := 80) rfl)) (hw _ (List.mem_of_getElem? (i := 81) rfl)) (hw _ (List.mem_of_getElem? (i := 75) rfl)) e0 (g := (mkF m 23 #[.val (.int p1)] [])) rfl (hb hby d_jdk_33_method_22_code_23) (by decide) (by decide)
    obtain ⟨b1, g1⟩ : ∃ z, z = h0.size := ⟨_, rfl⟩
    rw [← g1] at A1 D1 st1
    have ne_ca_b1 : ca ≠ b1 := Nat.ne_of_lt (Nat.lt_of_lt_of_le B_ca.lt1 (Nat.le_of_eq g1.symm))
    have fr_b1 : h0.size ≤ b1 := Nat.le_trans M0.le (Nat.le_of_eq g1.symm)
    have K1 := keepE E1
    have M1 := M0.ext E1
    replace Z_high := StaKeep Z_high K1 all0
    replace Z_cache := StaKeep Z_cache K1 all0
    replace B_ca := B_ca.keep K1 nin0
    have E_b1 := A1
    have F_value_b1 : Fld Z h1 b1 "java/lang/Integer" "value" "I" (.int (0 : Int32)) := D1 (Or.inr (hw _ (List.mem_of_getElem? (i := 94) rfl))) (ty := .int) (by decide)
    refine Go.of (T' := T1) (f' := (mkF m 26 #[.val (.int p1)] [(.ref b1)])) st1 ?_
    refine Go.of (T' := T1) (f' := (mkF m 27 #[.val (.int p1)] [(.ref b1), (.ref b1)])) (fun _ k => XS.dup X1.here hx rfl (hb hby d_jdk_33_method_22_code_26) rfl rfl k) ?_
    refine Go.of (T' := T1) (f' := (mkF m 28 #[.val (.int p1)] [(.int p1), (.ref b1), (.ref b1)])) (fun _ k => XS.iloadN X1.here hx rfl (hb hby d_jdk_33_method_22_code_27) rfl k) ?_
    refine goI X1 hx hZ rfl hown (hw _ (List.mem_of_getElem? (i := 82) rfl)) (hw _ (List.mem_of_getElem? (i := 83) rfl)) (hw _ (List.mem_of_getElem? (i := 85) rfl)) (by decide) (C := 0) (S := 0) ((rm_integer l Z a0 hw b1 p1 h1 E_b1 F_value_b1 ).bk (W := 1) hZ (hw _ (List.mem_of_getElem? (i := 85) rfl)) (hw _ (List.mem_of_getElem? (i := 75) rfl)) (by decide) (by decide)) e1 (argsL := [(.int p1)]) (rest := [(.ref b1)]) (by rw [hml]; rfl) (lenOf pd__I_V rfl) rfl rfl (hb hby d_jdk_33_method_22_code_28) (Nat.le_of_eq rfl) (by decide) (by decide) ?_
    intro v2 T2 L2 X2 hQ2
    obtain ⟨h2, e2⟩ : ∃ z, T2.heap = z := ⟨_, rfl⟩
    rw [e2] at hQ2
    have E_b1_o := E_b1
    obtain ⟨rfl, Mc2, Ec2, Fc2_0⟩ := hQ2
    have M2 := M1.app Mc2 (allS (Or.inr fr_b1) all0)
    replace Z_high := StaKeep Z_high Mc2.1 (allS (staExa E_b1_o) all0)
    replace Z_cache := StaKeep Z_cache Mc2.1 (allS (staExa E_b1_o) all0)
    replace B_ca := B_ca.keep Mc2.1 (ninS ne_ca_b1 nin0)
    replace E_b1 := Ec2
    have F_value_b1 := Fc2_0
    show Go p e below P T2 (mkF m 31 #[.val (.int p1)] [(.ref b1)])
    exact goRetR (Q := fun v h L => Mv h0 h [] L ∧ ∃ a : Addr, v = some (.ref a)) X2 hx hret rfl hlk rfl rfl (hb hby d_jdk_33_method_22_code_31) K (by decide) (by decide) e2 (⟨M2, _, rfl⟩)
  ·
    refine Go.of (T' := s₁) (f' := (mkF m 6 #[.val (.int p1)] [])) (fun _ k => XS.icmpNo X0.here hx rfl (hb hby d_jdk_33_method_22_code_3) rfl (flt hc3).1 k) ?_
    refine Go.of (T' := s₁) (f' := (mkF m 7 #[.val (.int p1)] [(.int p1)])) (fun _ k => XS.iloadN X0.here hx rfl (hb hby d_jdk_33_method_22_code_6) rfl k) ?_
    obtain ⟨T3, X3, e3, st3⟩ := getS2 X0 hx hZ hown (host := "") (Or.inl (hw _ (List.mem_of_getElem? (i := 77) rfl))) Via.refl e0 Z_high (g := (mkF m 7 #[.val (.int p1)] [(.int p1)])) rfl (hb hby d_jdk_33_method_22_code_7)
    refine Go.of (T' := T3) (f' := (mkF m 10 #[.val (.int p1)] [(.int (127 : Int32)), (.int p1)])) st3 ?_
    by_cases hc10 : (127 : Int32) < p1
    ·
      refine Go.of (T' := T3) (f' := (mkF m 23 #[.val (.int p1)] [])) (fun _ k => XS.icmpYes X3.here hx rfl (pc0 := 10) (pc' := 23) rfl (hb hby d_jdk_33_method_22_code_10) rfl (tlt hc10).2.2.1 (by decide) (by decide) k) ?_
      obtain ⟨T4, h4, X4, e4, E4, A4, D4, -, st4⟩ := newO X3 hx hZ hown (hw _ (List.mem_of_getElem? (i := 80) rfl)) (hw _ (List.mem_of_getElem? (i := 81) rfl)) (hw _ (List.mem_of_getElem? (i := 75) rfl)) e3 (g := (mkF m 23 #[.val (.int p1)] [])) rfl (hb hby d_jdk_33_method_22_code_23) (by decide) (by decide)
      obtain ⟨b4, g4⟩ : ∃ z, z = h0.size := ⟨_, rfl⟩
      rw [← g4] at A4 D4 st4
      have ne_ca_b4 : ca ≠ b4 := Nat.ne_of_lt (Nat.lt_of_lt_of_le B_ca.lt1 (Nat.le_of_eq g4.symm))
      have fr_b4 : h0.size ≤ b4 := Nat.le_trans M0.le (Nat.le_of_eq g4.symm)
      have K4 := keepE E4
      have M4 := M0.ext E4
      replace Z_high := StaKeep Z_high K4 all0
      replace Z_cache := StaKeep Z_cache K4 all0
      replace B_ca := B_ca.keep K4 nin0
      have E_b4 := A4
      have F_value_b4 : Fld Z h4 b4 "java/lang/Integer" "value" "I" (.int (0 : Int32)) := D4 (Or.inr (hw _ (List.mem_of_getElem? (i := 94) rfl))) (ty := .int) (by decide)
      refine Go.of (T' := T4) (f' := (mkF m 26 #[.val (.int p1)] [(.ref b4)])) st4 ?_
      refine Go.of (T' := T4) (f' := (mkF m 27 #[.val (.int p1)] [(.ref b4), (.ref b4)])) (fun _ k => XS.dup X4.here hx rfl (hb hby d_jdk_33_method_22_code_26) rfl rfl k) ?_
      refine Go.of (T' := T4) (f' := (mkF m 28 #[.val (.int p1)] [(.int p1), (.ref b4), (.ref b4)])) (fun _ k => XS.iloadN X4.here hx rfl (hb hby d_jdk_33_method_22_code_27) rfl k) ?_
      refine goI X4 hx hZ rfl hown (hw _ (List.mem_of_getElem? (i := 82) rfl)) (hw _ (List.mem_of_getElem? (i := 83) rfl)) (hw _ (List.mem_of_getElem? (i := 85) rfl)) (by decide) (C := 0) (S := 0) ((rm_integer l Z a0 hw b4 p1 h4 E_b4 F_value_b4 ).bk (W := 1) hZ (hw _ (List.mem_of_getElem? (i := 85) rfl)) (hw _ (List.mem_of_getElem? (i := 75) rfl)) (by decide) (by decide)) e4 (argsL := [(.int p1)]) (rest := [(.ref b4)]) (by rw [hml]; rfl) (lenOf pd__I_V rfl) rfl rfl (hb hby d_jdk_33_method_22_code_28) (Nat.le_of_eq rfl) (by decide) (by decide) ?_
      intro v5 T5 L5 X5 hQ5
      obtain ⟨h5, e5⟩ : ∃ z, T5.heap = z := ⟨_, rfl⟩
      rw [e5] at hQ5
      have E_b4_o := E_b4
      obtain ⟨rfl, Mc5, Ec5, Fc5_0⟩ := hQ5
      have M5 := M4.app Mc5 (allS (Or.inr fr_b4) all0)
      replace Z_high := StaKeep Z_high Mc5.1 (allS (staExa E_b4_o) all0)
      replace Z_cache := StaKeep Z_cache Mc5.1 (allS (staExa E_b4_o) all0)
      replace B_ca := B_ca.keep Mc5.1 (ninS ne_ca_b4 nin0)
      replace E_b4 := Ec5
      have F_value_b4 := Fc5_0
      show Go p e below P T5 (mkF m 31 #[.val (.int p1)] [(.ref b4)])
      exact goRetR (Q := fun v h L => Mv h0 h [] L ∧ ∃ a : Addr, v = some (.ref a)) X5 hx hret rfl hlk rfl rfl (hb hby d_jdk_33_method_22_code_31) K (by decide) (by decide) e5 (⟨M5, _, rfl⟩)
    ·
      refine Go.of (T' := T3) (f' := (mkF m 13 #[.val (.int p1)] [])) (fun _ k => XS.icmpNo X3.here hx rfl (hb hby d_jdk_33_method_22_code_10) rfl (flt hc10).2.2.1 k) ?_
      obtain ⟨T6, X6, e6, st6⟩ := getS2 X3 hx hZ hown (host := "") (Or.inl (hw _ (List.mem_of_getElem? (i := 79) rfl))) Via.refl e3 Z_cache (g := (mkF m 13 #[.val (.int p1)] [])) rfl (hb hby d_jdk_33_method_22_code_13)
      refine Go.of (T' := T6) (f' := (mkF m 16 #[.val (.int p1)] [(.ref ca)])) st6 ?_
      refine Go.of (T' := T6) (f' := (mkF m 17 #[.val (.int p1)] [(.int p1), (.ref ca)])) (fun _ k => XS.iloadN X6.here hx rfl (hb hby d_jdk_33_method_22_code_16) rfl k) ?_
      refine Go.of (T' := T6) (f' := (mkF m 20 #[.val (.int p1)] [(.int (128 : Int32)), (.int p1), (.ref ca)])) (fun _ k => XS.sipush X6.here hx rfl (hb hby d_jdk_33_method_22_code_17) k) ?_
      refine Go.of (T' := T6) (f' := (mkF m 21 #[.val (.int p1)] [(.int (p1 + (128 : Int32))), (.ref ca)])) (fun _ k => XS.iadd X6.here hx rfl (hb hby d_jdk_33_method_22_code_20) rfl k) ?_
      obtain ⟨cl7, Ar7, Sz7, Hs7⟩ := id B_ca
      have ci := cache_in hc3 hc10
      have hin7 : ¬ ((p1 + (128 : Int32)) < 0 ∨ cl7.slots.size ≤ ((p1 + (128 : Int32))).toNatClampNeg) := fun q => q.elim ci.1 (fun r => by rw [Sz7] at r; omega)
      obtain ⟨bx, hat7⟩ := Hs7 _ ci.2
      refine Go.of (T' := T6) (f' := (mkF m 22 #[.val (.int p1)] [(.ref bx)])) (fun _ k => X6.aaload hx (j := (p1 + (128 : Int32))) (v := (.ref bx)) (by rw [e6]; exact Ar7.1) (State.isArrayOf_alike hZ.alike Ar7.2.1) rfl Ar7.2.2 hin7 hat7 (g := (mkF m 21 #[.val (.int p1)] [(.int (p1 + (128 : Int32))), (.ref ca)])) rfl rfl (hb hby d_jdk_33_method_22_code_21) _ k) ?_
      exact goRetR (Q := fun v h L => Mv h0 h [] L ∧ ∃ a : Addr, v = some (.ref a)) X6 hx hret rfl hlk rfl rfl (hb hby d_jdk_33_method_22_code_22) K (by decide) (by decide) e6 (⟨M0, _, rfl⟩)
theorem pn_com_example_stratify_stratify_Problem : plainName "com/example/stratify/stratify/Problem" = true := by first | (simp [plainName, overriddenIn]; done) | decide +kernel
theorem ef_rm_problem (m : MethodId) (x0 : Addr) (x1 : Value) (x2 : Int32) (x3 : Value) (x4 : Int32) (x5 : Value) (x6 : Value) (hx1 : x1.isRef = true) (hx3 : x3.isRef = true) (hx5 : x5.isRef = true) (hx6 : x6.isRef = true) : entryFrame m #[(.ref x0), x1, (.int x2), x3, (.int x4), x5, x6] 7 = mkF m 0 #[.val (.ref x0), .val x1, .val (.int x2), .val x3, .val (.int x4), .val x5, .val x6] [] := by
  all_goals (rcases ref_cases hx1 with rfl | ⟨z1, rfl⟩)
  all_goals (rcases ref_cases hx3 with rfl | ⟨z3, rfl⟩)
  all_goals (rcases ref_cases hx5 with rfl | ⟨z5, rfl⟩)
  all_goals (rcases ref_cases hx6 with rfl | ⟨z6, rfl⟩)
  all_goals first | (simp [entryFrame, mkF, argsToLocals, Value.category]; done) | rfl
theorem d_prog_33_method_1_code_0 : decode prog_33_method_1_code 0 = .ok (.aload_n 0, 1) := by decide +kernel
theorem d_prog_33_method_1_code_1 : decode prog_33_method_1_code 1 = .ok (.invokespecial 1, 3) := by decide +kernel
theorem d_prog_33_method_1_code_4 : decode prog_33_method_1_code 4 = .ok (.aload_n 0, 1) := by decide +kernel
theorem d_prog_33_method_1_code_5 : decode prog_33_method_1_code 5 = .ok (.aload_n 1, 1) := by decide +kernel
theorem d_prog_33_method_1_code_6 : decode prog_33_method_1_code 6 = .ok (.putfield 7, 3) := by decide +kernel
theorem d_prog_33_method_1_code_9 : decode prog_33_method_1_code 9 = .ok (.aload_n 0, 1) := by decide +kernel
theorem d_prog_33_method_1_code_10 : decode prog_33_method_1_code 10 = .ok (.iload_n 2, 1) := by decide +kernel
theorem d_prog_33_method_1_code_11 : decode prog_33_method_1_code 11 = .ok (.putfield 13, 3) := by decide +kernel
theorem d_prog_33_method_1_code_14 : decode prog_33_method_1_code 14 = .ok (.aload_n 0, 1) := by decide +kernel
theorem d_prog_33_method_1_code_15 : decode prog_33_method_1_code 15 = .ok (.aload_n 3, 1) := by decide +kernel
theorem d_prog_33_method_1_code_16 : decode prog_33_method_1_code 16 = .ok (.putfield 17, 3) := by decide +kernel
theorem d_prog_33_method_1_code_19 : decode prog_33_method_1_code 19 = .ok (.aload_n 0, 1) := by decide +kernel
theorem d_prog_33_method_1_code_20 : decode prog_33_method_1_code 20 = .ok (.iload 4, 2) := by decide +kernel
theorem d_prog_33_method_1_code_22 : decode prog_33_method_1_code 22 = .ok (.putfield 21, 3) := by decide +kernel
theorem d_prog_33_method_1_code_25 : decode prog_33_method_1_code 25 = .ok (.aload_n 0, 1) := by decide +kernel
theorem d_prog_33_method_1_code_26 : decode prog_33_method_1_code 26 = .ok (.aload 5, 2) := by decide +kernel
theorem d_prog_33_method_1_code_28 : decode prog_33_method_1_code 28 = .ok (.putfield 25, 3) := by decide +kernel
theorem d_prog_33_method_1_code_31 : decode prog_33_method_1_code 31 = .ok (.aload_n 0, 1) := by decide +kernel
theorem d_prog_33_method_1_code_32 : decode prog_33_method_1_code 32 = .ok (.aload 6, 2) := by decide +kernel
theorem d_prog_33_method_1_code_34 : decode prog_33_method_1_code 34 = .ok (.putfield 28, 3) := by decide +kernel
theorem d_prog_33_method_1_code_37 : decode prog_33_method_1_code 37 = .ok (.return_, 1) := by decide +kernel
set_option maxRecDepth 65536 in
set_option maxHeartbeats 40000000 in
theorem rm_problem (l : Launch) (Z : State) (a0 : Array Value) (hw : ∀ d ∈ tables_1, d.before a0 Z = true) (a1 : Addr) (v1 : Value) (p2 : Int32) (v3 : Value) (p4 : Int32) (v5 v6 : Value) (h0 : Heap) (E_a1 : Exa Z h0 a1 "com/example/stratify/stratify/Problem") (F_step : Fld Z h0 a1 "com/example/stratify/stratify/Problem" "step" "Ljava/lang/String;" .null) (F_rolledBack : Fld Z h0 a1 "com/example/stratify/stratify/Problem" "rolledBack" "Z" (.int (0 : Int32))) (F_statement : Fld Z h0 a1 "com/example/stratify/stratify/Problem" "statement" "Ljava/lang/Integer;" .null) (F_statements : Fld Z h0 a1 "com/example/stratify/stratify/Problem" "statements" "I" (.int (0 : Int32))) (F_sql : Fld Z h0 a1 "com/example/stratify/stratify/Problem" "sql" "Ljava/lang/String;" .null) (F_error : Fld Z h0 a1 "com/example/stratify/stratify/Problem" "error" "Ljava/lang/String;" .null) (hv1 : v1.isRef = true) (hp2 : p2 = 0 ∨ p2 = 1) (hv3 : v3.isRef = true) (hv5 : v5.isRef = true) (hv6 : v6.isRef = true) :
    MeetsW l Z (⟨"com/example/stratify/stratify/Problem", "<init>", "(Ljava/lang/String;ZLjava/lang/Integer;ILjava/lang/String;Ljava/lang/String;)V"⟩ : MethodName) prog_33_method_1_code 7 none ({ frames := 2, cells := 0, slots := 0, locals := 24 } : Room) #[(.ref a1), v1, (.int p2), v3, (.int p4), v5, v6] h0 (fun v h L => v = none ∧ Mv h0 h [a1] L ∧ Exa Z h a1 "com/example/stratify/stratify/Problem" ∧ Fld Z h a1 "com/example/stratify/stratify/Problem" "step" "Ljava/lang/String;" v1 ∧ Fld Z h a1 "com/example/stratify/stratify/Problem" "rolledBack" "Z" (.int p2) ∧ Fld Z h a1 "com/example/stratify/stratify/Problem" "statement" "Ljava/lang/Integer;" v3 ∧ Fld Z h a1 "com/example/stratify/stratify/Problem" "statements" "I" (.int p4) ∧ Fld Z h a1 "com/example/stratify/stratify/Problem" "sql" "Ljava/lang/String;" v5 ∧ Fld Z h a1 "com/example/stratify/stratify/Problem" "error" "Ljava/lang/String;" v6) := by
  refine MeetsW.of (plainFor_of_name pn_com_example_stratify_stratify_Problem) ?_
  intro p e s m below meth c s₁ P hx hby hml hZ hown hnm hret hlk X0 e0 K
  have M0 : Mv h0 h0 [a1] [] := Mv.refl _ _
  refine Go.cast (ef_rm_problem m a1 v1 p2 v3 p4 v5 v6 hv1 hv3 hv5 hv6) ?_
  refine Go.of (T' := s₁) (f' := (mkF m 1 #[.val (.ref a1), .val v1, .val (.int p2), .val v3, .val (.int p4), .val v5, .val v6] [(.ref a1)])) (fun _ k => XS.aloadN X0.here hx rfl (hb hby d_prog_33_method_1_code_0) rfl rfl k) ?_
  refine goI X0 hx hZ rfl hown (hw _ (List.mem_of_getElem? (i := 50) rfl)) (hw _ (List.mem_of_getElem? (i := 51) rfl)) (hw _ (List.mem_of_getElem? (i := 54) rfl)) (by decide) (C := 0) (S := 0) ((rm_record l Z a0 hw a1 h0 ).bk (W := 0) hZ (hw _ (List.mem_of_getElem? (i := 54) rfl)) (hw _ (List.mem_of_getElem? (i := 53) rfl)) (by decide) (by decide)) e0 (argsL := []) (rest := []) (by rw [hml]; rfl) (lenOf pd___V rfl) rfl rfl (hb hby d_prog_33_method_1_code_1) (Nat.le_of_eq rfl) (by decide) (by decide) ?_
  intro v1 T1 L1 X1 hQ1
  obtain ⟨nq1, e1, rfl⟩ := hQ1
  replace X1 := standNil X1 nq1
  show Go p e below P T1 (mkF m 4 #[.val (.ref a1), .val v1, .val (.int p2), .val v3, .val (.int p4), .val v5, .val v6] [])
  refine Go.of (T' := T1) (f' := (mkF m 5 #[.val (.ref a1), .val v1, .val (.int p2), .val v3, .val (.int p4), .val v5, .val v6] [(.ref a1)])) (fun _ k => XS.aloadN X1.here hx rfl (hb hby d_prog_33_method_1_code_4) rfl rfl k) ?_
  refine Go.of (T' := T1) (f' := (mkF m 6 #[.val (.ref a1), .val v1, .val (.int p2), .val v3, .val (.int p4), .val v5, .val v6] [v1, (.ref a1)])) (fun _ k => XS.aloadN X1.here hx rfl (hb hby d_prog_33_method_1_code_5) rfl hv1 k) ?_
  obtain ⟨T2, h2, X2, e2, W2, st2⟩ := putF X1 hx hZ hown (host := "") (Or.inl (hw _ (List.mem_of_getElem? (i := 56) rfl))) Via.refl e1 F_step E_a1 (Or.inr ⟨(hw _ (List.mem_of_getElem? (i := 57) rfl)), rfl, hnm⟩) (hw _ (List.mem_of_getElem? (i := 45) rfl)) (ty := (.object "java/lang/String")) (by decide) (narref hv1) (fitrefO hv1) (g := (mkF m 6 #[.val (.ref a1), .val v1, .val (.int p2), .val v3, .val (.int p4), .val v5, .val v6] [v1, (.ref a1)])) rfl rfl (hb hby d_prog_33_method_1_code_6)
  have K2 := Keep.of_wr W2
  have M2 := M0.wr W2 (Or.inl (List.mem_of_getElem? (i := 0) rfl))
  replace F_step := F_step.same W2
  replace F_rolledBack := F_rolledBack.other W2 (Or.inr (slot_ne (Or.inr (hw _ (List.mem_of_getElem? (i := 59) rfl))) (Or.inr (hw _ (List.mem_of_getElem? (i := 57) rfl))) (by decide) (t := .boolean) (t' := (.object "java/lang/String")) (by decide) (by decide)))
  replace F_statement := F_statement.other W2 (Or.inr (slot_ne (Or.inr (hw _ (List.mem_of_getElem? (i := 61) rfl))) (Or.inr (hw _ (List.mem_of_getElem? (i := 57) rfl))) (by decide) (t := (.object "java/lang/Integer")) (t' := (.object "java/lang/String")) (by decide) (by decide)))
  replace F_statements := F_statements.other W2 (Or.inr (slot_ne (Or.inr (hw _ (List.mem_of_getElem? (i := 63) rfl))) (Or.inr (hw _ (List.mem_of_getElem? (i := 57) rfl))) (by decide) (t := .int) (t' := (.object "java/lang/String")) (by decide) (by decide)))
  replace F_sql := F_sql.other W2 (Or.inr (slot_ne (Or.inr (hw _ (List.mem_of_getElem? (i := 65) rfl))) (Or.inr (hw _ (List.mem_of_getElem? (i := 57) rfl))) (by decide) (t := (.object "java/lang/String")) (t' := (.object "java/lang/String")) (by decide) (by decide)))
  replace F_error := F_error.other W2 (Or.inr (slot_ne (Or.inr (hw _ (List.mem_of_getElem? (i := 67) rfl))) (Or.inr (hw _ (List.mem_of_getElem? (i := 57) rfl))) (by decide) (t := (.object "java/lang/String")) (t' := (.object "java/lang/String")) (by decide) (by decide)))
  replace E_a1 := E_a1.keep K2
  refine Go.of (T' := T2) (f' := (mkF m 9 #[.val (.ref a1), .val v1, .val (.int p2), .val v3, .val (.int p4), .val v5, .val v6] [])) st2 ?_
  refine Go.of (T' := T2) (f' := (mkF m 10 #[.val (.ref a1), .val v1, .val (.int p2), .val v3, .val (.int p4), .val v5, .val v6] [(.ref a1)])) (fun _ k => XS.aloadN X2.here hx rfl (hb hby d_prog_33_method_1_code_9) rfl rfl k) ?_
  refine Go.of (T' := T2) (f' := (mkF m 11 #[.val (.ref a1), .val v1, .val (.int p2), .val v3, .val (.int p4), .val v5, .val v6] [(.int p2), (.ref a1)])) (fun _ k => XS.iloadN X2.here hx rfl (hb hby d_prog_33_method_1_code_10) rfl k) ?_
  obtain ⟨T3, h3, X3, e3, W3, st3⟩ := putFN X2 hx hZ hown (hw _ (List.mem_of_getElem? (i := 58) rfl)) Via.refl e2 F_rolledBack E_a1 (Or.inr ⟨(hw _ (List.mem_of_getElem? (i := 59) rfl)), rfl, hnm⟩) (hw _ (List.mem_of_getElem? (i := 45) rfl)) (ty := .boolean) (v' := (.int p2)) (by decide) (boolNar hp2).1 (boolNar hp2).2 (g := (mkF m 11 #[.val (.ref a1), .val v1, .val (.int p2), .val v3, .val (.int p4), .val v5, .val v6] [(.int p2), (.ref a1)])) rfl rfl (hb hby d_prog_33_method_1_code_11)
  have K3 := Keep.of_wr W3
  have M3 := M2.wr W3 (Or.inl (List.mem_of_getElem? (i := 0) rfl))
  replace F_step := F_step.other W3 (Or.inr (slot_ne (Or.inr (hw _ (List.mem_of_getElem? (i := 57) rfl))) (Or.inr (hw _ (List.mem_of_getElem? (i := 59) rfl))) (by decide) (t := (.object "java/lang/String")) (t' := .boolean) (by decide) (by decide)))
  replace F_rolledBack := F_rolledBack.same W3
  replace F_statement := F_statement.other W3 (Or.inr (slot_ne (Or.inr (hw _ (List.mem_of_getElem? (i := 61) rfl))) (Or.inr (hw _ (List.mem_of_getElem? (i := 59) rfl))) (by decide) (t := (.object "java/lang/Integer")) (t' := .boolean) (by decide) (by decide)))
  replace F_statements := F_statements.other W3 (Or.inr (slot_ne (Or.inr (hw _ (List.mem_of_getElem? (i := 63) rfl))) (Or.inr (hw _ (List.mem_of_getElem? (i := 59) rfl))) (by decide) (t := .int) (t' := .boolean) (by decide) (by decide)))
  replace F_sql := F_sql.other W3 (Or.inr (slot_ne (Or.inr (hw _ (List.mem_of_getElem? (i := 65) rfl))) (Or.inr (hw _ (List.mem_of_getElem? (i := 59) rfl))) (by decide) (t := (.object "java/lang/String")) (t' := .boolean) (by decide) (by decide)))
  replace F_error := F_error.other W3 (Or.inr (slot_ne (Or.inr (hw _ (List.mem_of_getElem? (i := 67) rfl))) (Or.inr (hw _ (List.mem_of_getElem? (i := 59) rfl))) (by decide) (t := (.object "java/lang/String")) (t' := .boolean) (by decide) (by decide)))
  replace E_a1 := E_a1.keep K3
  refine Go.of (T' := T3) (f' := (mkF m 14 #[.val (.ref a1), .val v1, .val (.int p2), .val v3, .val (.int p4), .val v5, .val v6] [])) st3 ?_
  refine Go.of (T' := T3) (f' := (mkF m 15 #[.val (.ref a1), .val v1, .val (.int p2), .val v3, .val (.int p4), .val v5, .val v6] [(.ref a1)])) (fun _ k => XS.aloadN X3.here hx rfl (hb hby d_prog_33_method_1_code_14) rfl rfl k) ?_
  refine Go.of (T' := T3) (f' := (mkF m 16 #[.val (.ref a1), .val v1, .val (.int p2), .val v3, .val (.int p4), .val v5, .val v6] [v3, (.ref a1)])) (fun _ k => XS.aloadN X3.here hx rfl (hb hby d_prog_33_method_1_code_15) rfl hv3 k) ?_
  obtain ⟨T4, h4, X4, e4, W4, st4⟩ := putF X3 hx hZ hown (host := "") (Or.inl (hw _ (List.mem_of_getElem? (i := 60) rfl))) Via.refl e3 F_statement E_a1 (Or.inr ⟨(hw _ (List.mem_of_getElem? (i := 61) rfl)), rfl, hnm⟩) (hw _ (List.mem_of_getElem? (i := 45) rfl)) (ty := (.object "java/lang/Integer")) (by decide) (narref hv3) (fitrefO hv3) (g := (mkF m 16 #[.val (.ref a1), .val v1, .val (.int p2), .val v3, .val (.int p4), .val v5, .val v6] [v3, (.ref a1)])) rfl rfl (hb hby d_prog_33_method_1_code_16)
  have K4 := Keep.of_wr W4
  have M4 := M3.wr W4 (Or.inl (List.mem_of_getElem? (i := 0) rfl))
  replace F_step := F_step.other W4 (Or.inr (slot_ne (Or.inr (hw _ (List.mem_of_getElem? (i := 57) rfl))) (Or.inr (hw _ (List.mem_of_getElem? (i := 61) rfl))) (by decide) (t := (.object "java/lang/String")) (t' := (.object "java/lang/Integer")) (by decide) (by decide)))
  replace F_rolledBack := F_rolledBack.other W4 (Or.inr (slot_ne (Or.inr (hw _ (List.mem_of_getElem? (i := 59) rfl))) (Or.inr (hw _ (List.mem_of_getElem? (i := 61) rfl))) (by decide) (t := .boolean) (t' := (.object "java/lang/Integer")) (by decide) (by decide)))
  replace F_statement := F_statement.same W4
  replace F_statements := F_statements.other W4 (Or.inr (slot_ne (Or.inr (hw _ (List.mem_of_getElem? (i := 63) rfl))) (Or.inr (hw _ (List.mem_of_getElem? (i := 61) rfl))) (by decide) (t := .int) (t' := (.object "java/lang/Integer")) (by decide) (by decide)))
  replace F_sql := F_sql.other W4 (Or.inr (slot_ne (Or.inr (hw _ (List.mem_of_getElem? (i := 65) rfl))) (Or.inr (hw _ (List.mem_of_getElem? (i := 61) rfl))) (by decide) (t := (.object "java/lang/String")) (t' := (.object "java/lang/Integer")) (by decide) (by decide)))
  replace F_error := F_error.other W4 (Or.inr (slot_ne (Or.inr (hw _ (List.mem_of_getElem? (i := 67) rfl))) (Or.inr (hw _ (List.mem_of_getElem? (i := 61) rfl))) (by decide) (t := (.object "java/lang/String")) (t' := (.object "java/lang/Integer")) (by decide) (by decide)))
  replace E_a1 := E_a1.keep K4
  refine Go.of (T' := T4) (f' := (mkF m 19 #[.val (.ref a1), .val v1, .val (.int p2), .val v3, .val (.int p4), .val v5, .val v6] [])) st4 ?_
  refine Go.of (T' := T4) (f' := (mkF m 20 #[.val (.ref a1), .val v1, .val (.int p2), .val v3, .val (.int p4), .val v5, .val v6] [(.ref a1)])) (fun _ k => XS.aloadN X4.here hx rfl (hb hby d_prog_33_method_1_code_19) rfl rfl k) ?_
  refine Go.of (T' := T4) (f' := (mkF m 22 #[.val (.ref a1), .val v1, .val (.int p2), .val v3, .val (.int p4), .val v5, .val v6] [(.int p4), (.ref a1)])) (fun _ k => XS.iload X4.here hx rfl (hb hby d_prog_33_method_1_code_20) rfl k) ?_
  obtain ⟨T5, h5, X5, e5, W5, st5⟩ := putF X4 hx hZ hown (host := "") (Or.inl (hw _ (List.mem_of_getElem? (i := 62) rfl))) Via.refl e4 F_statements E_a1 (Or.inr ⟨(hw _ (List.mem_of_getElem? (i := 63) rfl)), rfl, hnm⟩) (hw _ (List.mem_of_getElem? (i := 45) rfl)) (ty := .int) (by decide) rfl rfl (g := (mkF m 22 #[.val (.ref a1), .val v1, .val (.int p2), .val v3, .val (.int p4), .val v5, .val v6] [(.int p4), (.ref a1)])) rfl rfl (hb hby d_prog_33_method_1_code_22)
  have K5 := Keep.of_wr W5
  have M5 := M4.wr W5 (Or.inl (List.mem_of_getElem? (i := 0) rfl))
  replace F_step := F_step.other W5 (Or.inr (slot_ne (Or.inr (hw _ (List.mem_of_getElem? (i := 57) rfl))) (Or.inr (hw _ (List.mem_of_getElem? (i := 63) rfl))) (by decide) (t := (.object "java/lang/String")) (t' := .int) (by decide) (by decide)))
  replace F_rolledBack := F_rolledBack.other W5 (Or.inr (slot_ne (Or.inr (hw _ (List.mem_of_getElem? (i := 59) rfl))) (Or.inr (hw _ (List.mem_of_getElem? (i := 63) rfl))) (by decide) (t := .boolean) (t' := .int) (by decide) (by decide)))
  replace F_statement := F_statement.other W5 (Or.inr (slot_ne (Or.inr (hw _ (List.mem_of_getElem? (i := 61) rfl))) (Or.inr (hw _ (List.mem_of_getElem? (i := 63) rfl))) (by decide) (t := (.object "java/lang/Integer")) (t' := .int) (by decide) (by decide)))
  replace F_statements := F_statements.same W5
  replace F_sql := F_sql.other W5 (Or.inr (slot_ne (Or.inr (hw _ (List.mem_of_getElem? (i := 65) rfl))) (Or.inr (hw _ (List.mem_of_getElem? (i := 63) rfl))) (by decide) (t := (.object "java/lang/String")) (t' := .int) (by decide) (by decide)))
  replace F_error := F_error.other W5 (Or.inr (slot_ne (Or.inr (hw _ (List.mem_of_getElem? (i := 67) rfl))) (Or.inr (hw _ (List.mem_of_getElem? (i := 63) rfl))) (by decide) (t := (.object "java/lang/String")) (t' := .int) (by decide) (by decide)))
  replace E_a1 := E_a1.keep K5
  refine Go.of (T' := T5) (f' := (mkF m 25 #[.val (.ref a1), .val v1, .val (.int p2), .val v3, .val (.int p4), .val v5, .val v6] [])) st5 ?_
  refine Go.of (T' := T5) (f' := (mkF m 26 #[.val (.ref a1), .val v1, .val (.int p2), .val v3, .val (.int p4), .val v5, .val v6] [(.ref a1)])) (fun _ k => XS.aloadN X5.here hx rfl (hb hby d_prog_33_method_1_code_25) rfl rfl k) ?_
  refine Go.of (T' := T5) (f' := (mkF m 28 #[.val (.ref a1), .val v1, .val (.int p2), .val v3, .val (.int p4), .val v5, .val v6] [v5, (.ref a1)])) (fun _ k => XS.aload X5.here hx rfl (hb hby d_prog_33_method_1_code_26) rfl hv5 k) ?_
  obtain ⟨T6, h6, X6, e6, W6, st6⟩ := putF X5 hx hZ hown (host := "") (Or.inl (hw _ (List.mem_of_getElem? (i := 64) rfl))) Via.refl e5 F_sql E_a1 (Or.inr ⟨(hw _ (List.mem_of_getElem? (i := 65) rfl)), rfl, hnm⟩) (hw _ (List.mem_of_getElem? (i := 45) rfl)) (ty := (.object "java/lang/String")) (by decide) (narref hv5) (fitrefO hv5) (g := (mkF m 28 #[.val (.ref a1), .val v1, .val (.int p2), .val v3, .val (.int p4), .val v5, .val v6] [v5, (.ref a1)])) rfl rfl (hb hby d_prog_33_method_1_code_28)
  have K6 := Keep.of_wr W6
  have M6 := M5.wr W6 (Or.inl (List.mem_of_getElem? (i := 0) rfl))
  replace F_step := F_step.other W6 (Or.inr (slot_ne (Or.inr (hw _ (List.mem_of_getElem? (i := 57) rfl))) (Or.inr (hw _ (List.mem_of_getElem? (i := 65) rfl))) (by decide) (t := (.object "java/lang/String")) (t' := (.object "java/lang/String")) (by decide) (by decide)))
  replace F_rolledBack := F_rolledBack.other W6 (Or.inr (slot_ne (Or.inr (hw _ (List.mem_of_getElem? (i := 59) rfl))) (Or.inr (hw _ (List.mem_of_getElem? (i := 65) rfl))) (by decide) (t := .boolean) (t' := (.object "java/lang/String")) (by decide) (by decide)))
  replace F_statement := F_statement.other W6 (Or.inr (slot_ne (Or.inr (hw _ (List.mem_of_getElem? (i := 61) rfl))) (Or.inr (hw _ (List.mem_of_getElem? (i := 65) rfl))) (by decide) (t := (.object "java/lang/Integer")) (t' := (.object "java/lang/String")) (by decide) (by decide)))
  replace F_statements := F_statements.other W6 (Or.inr (slot_ne (Or.inr (hw _ (List.mem_of_getElem? (i := 63) rfl))) (Or.inr (hw _ (List.mem_of_getElem? (i := 65) rfl))) (by decide) (t := .int) (t' := (.object "java/lang/String")) (by decide) (by decide)))
  replace F_sql := F_sql.same W6
  replace F_error := F_error.other W6 (Or.inr (slot_ne (Or.inr (hw _ (List.mem_of_getElem? (i := 67) rfl))) (Or.inr (hw _ (List.mem_of_getElem? (i := 65) rfl))) (by decide) (t := (.object "java/lang/String")) (t' := (.object "java/lang/String")) (by decide) (by decide)))
  replace E_a1 := E_a1.keep K6
  refine Go.of (T' := T6) (f' := (mkF m 31 #[.val (.ref a1), .val v1, .val (.int p2), .val v3, .val (.int p4), .val v5, .val v6] [])) st6 ?_
  refine Go.of (T' := T6) (f' := (mkF m 32 #[.val (.ref a1), .val v1, .val (.int p2), .val v3, .val (.int p4), .val v5, .val v6] [(.ref a1)])) (fun _ k => XS.aloadN X6.here hx rfl (hb hby d_prog_33_method_1_code_31) rfl rfl k) ?_
  refine Go.of (T' := T6) (f' := (mkF m 34 #[.val (.ref a1), .val v1, .val (.int p2), .val v3, .val (.int p4), .val v5, .val v6] [v6, (.ref a1)])) (fun _ k => XS.aload X6.here hx rfl (hb hby d_prog_33_method_1_code_32) rfl hv6 k) ?_
  obtain ⟨T7, h7, X7, e7, W7, st7⟩ := putF X6 hx hZ hown (host := "") (Or.inl (hw _ (List.mem_of_getElem? (i := 66) rfl))) Via.refl e6 F_error E_a1 (Or.inr ⟨(hw _ (List.mem_of_getElem? (i := 67) rfl)), rfl, hnm⟩) (hw _ (List.mem_of_getElem? (i := 45) rfl)) (ty := (.object "java/lang/String")) (by decide) (narref hv6) (fitrefO hv6) (g := (mkF m 34 #[.val (.ref a1), .val v1, .val (.int p2), .val v3, .val (.int p4), .val v5, .val v6] [v6, (.ref a1)])) rfl rfl (hb hby d_prog_33_method_1_code_34)
  have K7 := Keep.of_wr W7
  have M7 := M6.wr W7 (Or.inl (List.mem_of_getElem? (i := 0) rfl))
  replace F_step := F_step.other W7 (Or.inr (slot_ne (Or.inr (hw _ (List.mem_of_getElem? (i := 57) rfl))) (Or.inr (hw _ (List.mem_of_getElem? (i := 67) rfl))) (by decide) (t := (.object "java/lang/String")) (t' := (.object "java/lang/String")) (by decide) (by decide)))
  replace F_rolledBack := F_rolledBack.other W7 (Or.inr (slot_ne (Or.inr (hw _ (List.mem_of_getElem? (i := 59) rfl))) (Or.inr (hw _ (List.mem_of_getElem? (i := 67) rfl))) (by decide) (t := .boolean) (t' := (.object "java/lang/String")) (by decide) (by decide)))
  replace F_statement := F_statement.other W7 (Or.inr (slot_ne (Or.inr (hw _ (List.mem_of_getElem? (i := 61) rfl))) (Or.inr (hw _ (List.mem_of_getElem? (i := 67) rfl))) (by decide) (t := (.object "java/lang/Integer")) (t' := (.object "java/lang/String")) (by decide) (by decide)))
  replace F_statements := F_statements.other W7 (Or.inr (slot_ne (Or.inr (hw _ (List.mem_of_getElem? (i := 63) rfl))) (Or.inr (hw _ (List.mem_of_getElem? (i := 67) rfl))) (by decide) (t := .int) (t' := (.object "java/lang/String")) (by decide) (by decide)))
  replace F_sql := F_sql.other W7 (Or.inr (slot_ne (Or.inr (hw _ (List.mem_of_getElem? (i := 65) rfl))) (Or.inr (hw _ (List.mem_of_getElem? (i := 67) rfl))) (by decide) (t := (.object "java/lang/String")) (t' := (.object "java/lang/String")) (by decide) (by decide)))
  replace F_error := F_error.same W7
  replace E_a1 := E_a1.keep K7
  refine Go.of (T' := T7) (f' := (mkF m 37 #[.val (.ref a1), .val v1, .val (.int p2), .val v3, .val (.int p4), .val v5, .val v6] [])) st7 ?_
  exact goRet0 (Q := fun v h L => v = none ∧ Mv h0 h [a1] L ∧ Exa Z h a1 "com/example/stratify/stratify/Problem" ∧ Fld Z h a1 "com/example/stratify/stratify/Problem" "step" "Ljava/lang/String;" v1 ∧ Fld Z h a1 "com/example/stratify/stratify/Problem" "rolledBack" "Z" (.int p2) ∧ Fld Z h a1 "com/example/stratify/stratify/Problem" "statement" "Ljava/lang/Integer;" v3 ∧ Fld Z h a1 "com/example/stratify/stratify/Problem" "statements" "I" (.int p4) ∧ Fld Z h a1 "com/example/stratify/stratify/Problem" "sql" "Ljava/lang/String;" v5 ∧ Fld Z h a1 "com/example/stratify/stratify/Problem" "error" "Ljava/lang/String;" v6) X7 hx hret hlk (hb hby d_prog_33_method_1_code_37) K (by decide) (by decide) e7 (⟨rfl, M7, E_a1, F_step, F_rolledBack, F_statement, F_statements, F_sql, F_error⟩)
theorem ef_rm_may1 (m : MethodId) (x0 : Addr)  : entryFrame m #[(.ref x0)] 1 = mkF m 0 #[.val (.ref x0)] [] := by first | (simp [entryFrame, mkF, argsToLocals, Value.category]; done) | rfl
theorem d_prog_33_method_3_code_0 : decode prog_33_method_3_code 0 = .ok (.aload_n 0, 1) := by decide +kernel
theorem d_prog_33_method_3_code_1 : decode prog_33_method_3_code 1 = .ok (.getfield 13, 3) := by decide +kernel
theorem d_prog_33_method_3_code_4 : decode prog_33_method_3_code 4 = .ok (.ifCond .ne 14, 3) := by decide +kernel
theorem d_prog_33_method_3_code_18 : decode prog_33_method_3_code 18 = .ok (.iconst 0, 1) := by decide +kernel
theorem d_prog_33_method_3_code_19 : decode prog_33_method_3_code 19 = .ok (.ireturn, 1) := by decide +kernel
set_option maxRecDepth 65536 in
set_option maxHeartbeats 40000000 in
theorem rm_may1 (l : Launch) (Z : State) (a0 : Array Value) (hw : ∀ d ∈ tables_1, d.before a0 Z = true) (a1 : Addr) (h0 : Heap) (F_rb : Fld Z h0 a1 "com/example/stratify/stratify/Problem" "rolledBack" "Z" (.int (1 : Int32))) :
    MeetsW l Z (⟨"com/example/stratify/stratify/Problem", "mayBeUnderWay", "()Z"⟩ : MethodName) prog_33_method_3_code 1 (some .boolean) ({ frames := 0, cells := 0, slots := 0, locals := 0 } : Room) #[(.ref a1)] h0 (Pu h0 (fun v => v = some (.int 0))) := by
  refine MeetsW.of (plainFor_of_name pn_com_example_stratify_stratify_Problem) ?_
  intro p e s m below meth c s₁ P hx hby hml hZ hown hnm hret hlk X0 e0 K
  have M0 : Mv h0 h0 [] [] := Mv.refl _ _
  refine Go.cast (ef_rm_may1 m a1 ) ?_
  refine Go.of (T' := s₁) (f' := (mkF m 1 #[.val (.ref a1)] [(.ref a1)])) (fun _ k => XS.aloadN X0.here hx rfl (hb hby d_prog_33_method_3_code_0) rfl rfl k) ?_
  obtain ⟨T1, X1, e1, st1⟩ := getF X0 hx hZ hown (host := "") (Or.inl (hw _ (List.mem_of_getElem? (i := 58) rfl))) Via.refl e0 F_rb (g := (mkF m 1 #[.val (.ref a1)] [(.ref a1)])) rfl rfl (hb hby d_prog_33_method_3_code_1)
  refine Go.of (T' := T1) (f' := (mkF m 4 #[.val (.ref a1)] [(.int (1 : Int32))])) st1 ?_
  refine Go.of (T' := T1) (f' := (mkF m 18 #[.val (.ref a1)] [])) (fun _ k => XS.ifYes X1.here hx rfl (pc0 := 4) (pc' := 18) rfl (hb hby d_prog_33_method_3_code_4) rfl (by decide) (by decide) (by decide) k) ?_
  refine Go.of (T' := T1) (f' := (mkF m 19 #[.val (.ref a1)] [(.int (0 : Int32))])) (fun _ k => XS.iconst X1.here hx rfl (hb hby d_prog_33_method_3_code_18) k) ?_
  exact goRetI (Q := Pu h0 (fun v => v = some (.int 0))) X1 hx (t := .boolean) hret hlk rfl (by simp) (hb hby d_prog_33_method_3_code_19) K (by decide) (by decide) e1 (⟨rfl, rfl, rfl⟩)
theorem ef_rm_may2 (m : MethodId) (x0 : Addr)  : entryFrame m #[(.ref x0)] 1 = mkF m 0 #[.val (.ref x0)] [] := by first | (simp [entryFrame, mkF, argsToLocals, Value.category]; done) | rfl
theorem d_prog_33_method_3_code_7 : decode prog_33_method_3_code 7 = .ok (.aload_n 0, 1) := by decide +kernel
theorem d_prog_33_method_3_code_8 : decode prog_33_method_3_code 8 = .ok (.getfield 17, 3) := by decide +kernel
theorem d_prog_33_method_3_code_11 : decode prog_33_method_3_code 11 = .ok (.ifnonnull 7, 3) := by decide +kernel
theorem d_prog_33_method_3_code_14 : decode prog_33_method_3_code 14 = .ok (.iconst 1, 1) := by decide +kernel
theorem d_prog_33_method_3_code_15 : decode prog_33_method_3_code 15 = .ok (.goto 4, 3) := by decide +kernel
set_option maxRecDepth 65536 in
set_option maxHeartbeats 40000000 in
theorem rm_may2 (l : Launch) (Z : State) (a0 : Array Value) (hw : ∀ d ∈ tables_1, d.before a0 Z = true) (a1 : Addr) (h0 : Heap) (F_rb : Fld Z h0 a1 "com/example/stratify/stratify/Problem" "rolledBack" "Z" (.int (0 : Int32))) (F_st : Fld Z h0 a1 "com/example/stratify/stratify/Problem" "statement" "Ljava/lang/Integer;" .null) :
    MeetsW l Z (⟨"com/example/stratify/stratify/Problem", "mayBeUnderWay", "()Z"⟩ : MethodName) prog_33_method_3_code 1 (some .boolean) ({ frames := 0, cells := 0, slots := 0, locals := 0 } : Room) #[(.ref a1)] h0 (Pu h0 (fun v => v = some (.int 1))) := by
  refine MeetsW.of (plainFor_of_name pn_com_example_stratify_stratify_Problem) ?_
  intro p e s m below meth c s₁ P hx hby hml hZ hown hnm hret hlk X0 e0 K
  have M0 : Mv h0 h0 [] [] := Mv.refl _ _
  refine Go.cast (ef_rm_may2 m a1 ) ?_
  refine Go.of (T' := s₁) (f' := (mkF m 1 #[.val (.ref a1)] [(.ref a1)])) (fun _ k => XS.aloadN X0.here hx rfl (hb hby d_prog_33_method_3_code_0) rfl rfl k) ?_
  obtain ⟨T1, X1, e1, st1⟩ := getF X0 hx hZ hown (host := "") (Or.inl (hw _ (List.mem_of_getElem? (i := 58) rfl))) Via.refl e0 F_rb (g := (mkF m 1 #[.val (.ref a1)] [(.ref a1)])) rfl rfl (hb hby d_prog_33_method_3_code_1)
  refine Go.of (T' := T1) (f' := (mkF m 4 #[.val (.ref a1)] [(.int (0 : Int32))])) st1 ?_
  refine Go.of (T' := T1) (f' := (mkF m 7 #[.val (.ref a1)] [])) (fun _ k => XS.ifNo X1.here hx rfl (hb hby d_prog_33_method_3_code_4) rfl (by decide) k) ?_
  refine Go.of (T' := T1) (f' := (mkF m 8 #[.val (.ref a1)] [(.ref a1)])) (fun _ k => XS.aloadN X1.here hx rfl (hb hby d_prog_33_method_3_code_7) rfl rfl k) ?_
  obtain ⟨T2, X2, e2, st2⟩ := getF X1 hx hZ hown (host := "") (Or.inl (hw _ (List.mem_of_getElem? (i := 60) rfl))) Via.refl e1 F_st (g := (mkF m 8 #[.val (.ref a1)] [(.ref a1)])) rfl rfl (hb hby d_prog_33_method_3_code_8)
  refine Go.of (T' := T2) (f' := (mkF m 11 #[.val (.ref a1)] [.null])) st2 ?_
  refine Go.of (T' := T2) (f' := (mkF m 14 #[.val (.ref a1)] [])) (fun _ k => XS.ifnonnullNo X2.here hx rfl (hb hby d_prog_33_method_3_code_11) rfl k) ?_
  refine Go.of (T' := T2) (f' := (mkF m 15 #[.val (.ref a1)] [(.int (1 : Int32))])) (fun _ k => XS.iconst X2.here hx rfl (hb hby d_prog_33_method_3_code_14) k) ?_
  refine Go.of (T' := T2) (f' := (mkF m 19 #[.val (.ref a1)] [(.int (1 : Int32))])) (fun _ k => XS.goto X2.here hx rfl (pc0 := 15) (pc' := 19) rfl (hb hby d_prog_33_method_3_code_15) (by decide) (by decide) k) ?_
  exact goRetI (Q := Pu h0 (fun v => v = some (.int 1))) X2 hx (t := .boolean) hret hlk rfl (by simp) (hb hby d_prog_33_method_3_code_19) K (by decide) (by decide) e2 (⟨rfl, rfl, rfl⟩)
theorem ef_rm_may3 (m : MethodId) (x0 : Addr)  : entryFrame m #[(.ref x0)] 1 = mkF m 0 #[.val (.ref x0)] [] := by first | (simp [entryFrame, mkF, argsToLocals, Value.category]; done) | rfl
set_option maxRecDepth 65536 in
set_option maxHeartbeats 40000000 in
theorem rm_may3 (l : Launch) (Z : State) (a0 : Array Value) (hw : ∀ d ∈ tables_1, d.before a0 Z = true) (a1 a2 : Addr) (h0 : Heap) (F_rb : Fld Z h0 a1 "com/example/stratify/stratify/Problem" "rolledBack" "Z" (.int (0 : Int32))) (F_st : Fld Z h0 a1 "com/example/stratify/stratify/Problem" "statement" "Ljava/lang/Integer;" (.ref a2)) :
    MeetsW l Z (⟨"com/example/stratify/stratify/Problem", "mayBeUnderWay", "()Z"⟩ : MethodName) prog_33_method_3_code 1 (some .boolean) ({ frames := 0, cells := 0, slots := 0, locals := 0 } : Room) #[(.ref a1)] h0 (Pu h0 (fun v => v = some (.int 0))) := by
  refine MeetsW.of (plainFor_of_name pn_com_example_stratify_stratify_Problem) ?_
  intro p e s m below meth c s₁ P hx hby hml hZ hown hnm hret hlk X0 e0 K
  have M0 : Mv h0 h0 [] [] := Mv.refl _ _
  refine Go.cast (ef_rm_may3 m a1 ) ?_
  refine Go.of (T' := s₁) (f' := (mkF m 1 #[.val (.ref a1)] [(.ref a1)])) (fun _ k => XS.aloadN X0.here hx rfl (hb hby d_prog_33_method_3_code_0) rfl rfl k) ?_
  obtain ⟨T1, X1, e1, st1⟩ := getF X0 hx hZ hown (host := "") (Or.inl (hw _ (List.mem_of_getElem? (i := 58) rfl))) Via.refl e0 F_rb (g := (mkF m 1 #[.val (.ref a1)] [(.ref a1)])) rfl rfl (hb hby d_prog_33_method_3_code_1)
  refine Go.of (T' := T1) (f' := (mkF m 4 #[.val (.ref a1)] [(.int (0 : Int32))])) st1 ?_
  refine Go.of (T' := T1) (f' := (mkF m 7 #[.val (.ref a1)] [])) (fun _ k => XS.ifNo X1.here hx rfl (hb hby d_prog_33_method_3_code_4) rfl (by decide) k) ?_
  refine Go.of (T' := T1) (f' := (mkF m 8 #[.val (.ref a1)] [(.ref a1)])) (fun _ k => XS.aloadN X1.here hx rfl (hb hby d_prog_33_method_3_code_7) rfl rfl k) ?_
  obtain ⟨T2, X2, e2, st2⟩ := getF X1 hx hZ hown (host := "") (Or.inl (hw _ (List.mem_of_getElem? (i := 60) rfl))) Via.refl e1 F_st (g := (mkF m 8 #[.val (.ref a1)] [(.ref a1)])) rfl rfl (hb hby d_prog_33_method_3_code_8)
  refine Go.of (T' := T2) (f' := (mkF m 11 #[.val (.ref a1)] [(.ref a2)])) st2 ?_
  refine Go.of (T' := T2) (f' := (mkF m 18 #[.val (.ref a1)] [])) (fun _ k => XS.ifnonnullYes X2.here hx rfl (pc0 := 11) (pc' := 18) rfl (hb hby d_prog_33_method_3_code_11) rfl (by decide) (by decide) k) ?_
  refine Go.of (T' := T2) (f' := (mkF m 19 #[.val (.ref a1)] [(.int (0 : Int32))])) (fun _ k => XS.iconst X2.here hx rfl (hb hby d_prog_33_method_3_code_18) k) ?_
  exact goRetI (Q := Pu h0 (fun v => v = some (.int 0))) X2 hx (t := .boolean) hret hlk rfl (by simp) (hb hby d_prog_33_method_3_code_19) K (by decide) (by decide) e2 (⟨rfl, rfl, rfl⟩)
theorem pn_com_example_stratify_stratify_ProblemMayBeUnderWayPinLaw : plainName "com/example/stratify/stratify/ProblemMayBeUnderWayPinLaw" = true := by first | (simp [plainName, overriddenIn]; done) | decide +kernel
theorem ef_rm_law (m : MethodId) (x0 : Int32) (x1 : Int32) (x2 : Int32) (x3 : Int32) (x4 : Int32)  : entryFrame m #[(.int x0), (.int x1), (.int x2), (.int x3), (.int x4)] maxLocals = mkF m 0 #[.val (.int x0), .val (.int x1), .val (.int x2), .val (.int x3), .val (.int x4), .unset, .unset, .unset, .unset, .unset, .unset, .unset, .unset] [] := by first | (simp [entryFrame, mkF, argsToLocals, Value.category, maxLocals]; done) | rfl
theorem pd__Ljava_lang_String_ZLjava_lang_Integer_ILjava_lang_String_Ljava_lang_String__V : parseMethodDescriptor "(Ljava/lang/String;ZLjava/lang/Integer;ILjava/lang/String;Ljava/lang/String;)V" = some ⟨[(.object "java/lang/String"), .boolean, (.object "java/lang/Integer"), .int, (.object "java/lang/String"), (.object "java/lang/String")], none⟩ := by decide +kernel
theorem pd___Z : parseMethodDescriptor "()Z" = some ⟨[], some .boolean⟩ := by decide +kernel
theorem pd__C_Ljava_lang_String_ : parseMethodDescriptor "(C)Ljava/lang/String;" = some ⟨[.char], some (.object "java/lang/String")⟩ := by decide +kernel
theorem hw_words {Z : State} {a0 : Array Value} (hw : ∀ d ∈ tables_1, d.before a0 Z = true) : ∀ d ∈ StrChars.Road.words, d.before a0 Z = true := fun d hd => hw d ((by decide +kernel : ∀ d ∈ StrChars.Road.words, d ∈ tables_1) d hd)
theorem pd___C_V : parseMethodDescriptor "([C)V" = some ⟨[(.array .char)], none⟩ := by decide +kernel
theorem pd__I_Ljava_lang_Integer_ : parseMethodDescriptor "(I)Ljava/lang/Integer;" = some ⟨[.int], some (.object "java/lang/Integer")⟩ := by decide +kernel
set_option maxRecDepth 65536 in
set_option maxHeartbeats 40000000 in
theorem rm_law (l : Launch) (Z : State) (a0 : Array Value) (hw : ∀ d ∈ tables_1, d.before a0 Z = true) (p1 p2 p3 p4 p5 zc : Int32) (ca : Addr) (h0 : Heap) (Z_cs : Sta Z h0 "java/lang/String" "COMPACT_STRINGS" "Z" (.int zc)) (hz : ¬ zc = 0) (Z_high : Sta Z h0 "java/lang/Integer$IntegerCache" "high" "I" (.int (127 : Int32))) (Z_cache : Sta Z h0 "java/lang/Integer$IntegerCache" "cache" "[Ljava/lang/Integer;" (.ref ca)) (B_ca : RefArr Z h0 ca) :
    MeetsW l Z x code maxLocals ret room_1 #[(.int p1), (.int p2), (.int p3), (.int p4), (.int p5)] h0 (fun v h L => v = some (.int 1) ∧ Mv h0 h [] L) := by
  refine MeetsW.of (plainFor_of_name pn_com_example_stratify_stratify_ProblemMayBeUnderWayPinLaw) ?_
  intro p e s m below meth c s₁ P hx hby hml hZ hown hnm hret hlk X0 e0 K
  replace hown : s.vm.findClass "com/example/stratify/stratify/ProblemMayBeUnderWayPinLaw" = some m.cls := hown
  have M0 : Mv h0 h0 [] [] := Mv.refl _ _
  refine Go.cast (ef_rm_law m p1 p2 p3 p4 p5 ) ?_
  refine Go.of (T' := s₁) (f' := (mkF m 1 #[.val (.int p1), .val (.int p2), .val (.int p3), .val (.int p4), .val (.int p5), .unset, .unset, .unset, .unset, .unset, .unset, .unset, .unset] [(.int p1)])) (fun _ k => XS.iloadN X0.here hx rfl (hb hby at_0) rfl k) ?_
  refine Go.of (T' := s₁) (f' := (mkF m 2 #[.val (.int p1), .val (.int p2), .val (.int p3), .val (.int p4), .val (.int p5), .unset, .unset, .unset, .unset, .unset, .unset, .unset, .unset] [(.int (1 : Int32)), (.int p1)])) (fun _ k => XS.iconst X0.here hx rfl (hb hby at_1) k) ?_
  refine Go.of (T' := s₁) (f' := (mkF m 3 #[.val (.int p1), .val (.int p2), .val (.int p3), .val (.int p4), .val (.int p5), .unset, .unset, .unset, .unset, .unset, .unset, .unset, .unset] [(.int (p1 &&& (1 : Int32)))])) (fun _ k => XS.iand X0.here hx rfl (hb hby at_2) rfl k) ?_
  by_cases hc3 : (p1 &&& (1 : Int32)) = (0 : Int32)
  ·
    refine Go.of (T' := s₁) (f' := (mkF m 10 #[.val (.int p1), .val (.int p2), .val (.int p3), .val (.int p4), .val (.int p5), .unset, .unset, .unset, .unset, .unset, .unset, .unset, .unset] [])) (fun _ k => XS.ifYes X0.here hx rfl (pc0 := 3) (pc' := 10) rfl (hb hby at_3) rfl ((if0 _ _).trans (teq hc3).1) (by decide) (by decide) k) ?_
    refine Go.of (T' := s₁) (f' := (mkF m 11 #[.val (.int p1), .val (.int p2), .val (.int p3), .val (.int p4), .val (.int p5), .unset, .unset, .unset, .unset, .unset, .unset, .unset, .unset] [(.int (0 : Int32))])) (fun _ k => XS.iconst X0.here hx rfl (hb hby at_10) k) ?_
    refine Go.of (T' := s₁) (f' := (mkF m 13 #[.val (.int p1), .val (.int p2), .val (.int p3), .val (.int p4), .val (.int p5), .val (.int (0 : Int32)), .unset, .unset, .unset, .unset, .unset, .unset, .unset] [])) (fun _ k => XS.istore X0.here hx rfl (hb hby at_11) rfl (l' := #[.val (.int p1), .val (.int p2), .val (.int p3), .val (.int p4), .val (.int p5), .val (.int (0 : Int32)), .unset, .unset, .unset, .unset, .unset, .unset, .unset]) rfl k) ?_
    refine Go.of (T' := s₁) (f' := (mkF m 14 #[.val (.int p1), .val (.int p2), .val (.int p3), .val (.int p4), .val (.int p5), .val (.int (0 : Int32)), .unset, .unset, .unset, .unset, .unset, .unset, .unset] [(.int p1)])) (fun _ k => XS.iloadN X0.here hx rfl (hb hby at_13) rfl k) ?_
    refine Go.of (T' := s₁) (f' := (mkF m 15 #[.val (.int p1), .val (.int p2), .val (.int p3), .val (.int p4), .val (.int p5), .val (.int (0 : Int32)), .unset, .unset, .unset, .unset, .unset, .unset, .unset] [(.int (2 : Int32)), (.int p1)])) (fun _ k => XS.iconst X0.here hx rfl (hb hby at_14) k) ?_
    refine Go.of (T' := s₁) (f' := (mkF m 16 #[.val (.int p1), .val (.int p2), .val (.int p3), .val (.int p4), .val (.int p5), .val (.int (0 : Int32)), .unset, .unset, .unset, .unset, .unset, .unset, .unset] [(.int (p1 &&& (2 : Int32)))])) (fun _ k => XS.iand X0.here hx rfl (hb hby at_15) rfl k) ?_
    by_cases hc16 : (p1 &&& (2 : Int32)) = (0 : Int32)
    ·
      refine Go.of (T' := s₁) (f' := (mkF m 23 #[.val (.int p1), .val (.int p2), .val (.int p3), .val (.int p4), .val (.int p5), .val (.int (0 : Int32)), .unset, .unset, .unset, .unset, .unset, .unset, .unset] [])) (fun _ k => XS.ifYes X0.here hx rfl (pc0 := 16) (pc' := 23) rfl (hb hby at_16) rfl ((if0 _ _).trans (teq hc16).1) (by decide) (by decide) k) ?_
      refine Go.of (T' := s₁) (f' := (mkF m 24 #[.val (.int p1), .val (.int p2), .val (.int p3), .val (.int p4), .val (.int p5), .val (.int (0 : Int32)), .unset, .unset, .unset, .unset, .unset, .unset, .unset] [(.int (0 : Int32))])) (fun _ k => XS.iconst X0.here hx rfl (hb hby at_23) k) ?_
      refine Go.of (T' := s₁) (f' := (mkF m 26 #[.val (.int p1), .val (.int p2), .val (.int p3), .val (.int p4), .val (.int p5), .val (.int (0 : Int32)), .val (.int (0 : Int32)), .unset, .unset, .unset, .unset, .unset, .unset] [])) (fun _ k => XS.istore X0.here hx rfl (hb hby at_24) rfl (l' := #[.val (.int p1), .val (.int p2), .val (.int p3), .val (.int p4), .val (.int p5), .val (.int (0 : Int32)), .val (.int (0 : Int32)), .unset, .unset, .unset, .unset, .unset, .unset]) rfl k) ?_
      refine Go.of (T' := s₁) (f' := (mkF m 28 #[.val (.int p1), .val (.int p2), .val (.int p3), .val (.int p4), .val (.int p5), .val (.int (0 : Int32)), .val (.int (0 : Int32)), .unset, .unset, .unset, .unset, .unset, .unset] [(.int (0 : Int32))])) (fun _ k => XS.iload X0.here hx rfl (hb hby at_26) rfl k) ?_
      refine Go.of (T' := s₁) (f' := (mkF m 38 #[.val (.int p1), .val (.int p2), .val (.int p3), .val (.int p4), .val (.int p5), .val (.int (0 : Int32)), .val (.int (0 : Int32)), .unset, .unset, .unset, .unset, .unset, .unset] [])) (fun _ k => XS.ifYes X0.here hx rfl (pc0 := 28) (pc' := 38) rfl (hb hby at_28) rfl (by decide) (by decide) (by decide) k) ?_
      refine Go.of (T' := s₁) (f' := (mkF m 39 #[.val (.int p1), .val (.int p2), .val (.int p3), .val (.int p4), .val (.int p5), .val (.int (0 : Int32)), .val (.int (0 : Int32)), .unset, .unset, .unset, .unset, .unset, .unset] [.null])) (fun _ k => XS.aconstNull X0.here hx rfl (hb hby at_38) k) ?_
      refine Go.of (T' := s₁) (f' := (mkF m 41 #[.val (.int p1), .val (.int p2), .val (.int p3), .val (.int p4), .val (.int p5), .val (.int (0 : Int32)), .val (.int (0 : Int32)), .val .null, .unset, .unset, .unset, .unset, .unset] [])) (fun _ k => XS.astore X0.here hx rfl (hb hby at_39) rfl rfl (l' := #[.val (.int p1), .val (.int p2), .val (.int p3), .val (.int p4), .val (.int p5), .val (.int (0 : Int32)), .val (.int (0 : Int32)), .val .null, .unset, .unset, .unset, .unset, .unset]) rfl k) ?_
      have J1 : ∀ (Tj1 : State) (hj1 : Heap) (Lj1 : List Loc) (vj41 : Value), Stand p l e room_1 s m #[(.int p1), (.int p2), (.int p3), (.int p4), (.int p5)] below meth c Tj1 Lj1 3 8 → Tj1.heap = hj1 → Mv h0 hj1 [] Lj1 → Sta Z hj1 "java/lang/String" "COMPACT_STRINGS" "Z" (.int zc) → Sta Z hj1 "java/lang/Integer$IntegerCache" "high" "I" (.int (127 : Int32)) → Sta Z hj1 "java/lang/Integer$IntegerCache" "cache" "[Ljava/lang/Integer;" (.ref ca) → RefArr Z hj1 ca → vj41.isRef = true → Go p e below P Tj1 (mkF m 82 #[.val (.int p1), .val (.int p2), .val (.int p3), .val (.int p4), .val (.int p5), .val (.int (0 : Int32)), .val (.int (0 : Int32)), .val .null, .unset, .unset, .unset, .unset, .unset] [vj41]) := by
        intro Tj1 hj1 Lj1 vj41 Xj1 ej1 Mj1 Z_cs Z_high Z_cache B_ca hvj41
        refine Go.of (T' := Tj1) (f' := (mkF m 84 #[.val (.int p1), .val (.int p2), .val (.int p3), .val (.int p4), .val (.int p5), .val (.int (0 : Int32)), .val (.int (0 : Int32)), .val .null, .val vj41, .unset, .unset, .unset, .unset] [])) (fun _ k => XS.astore Xj1.here hx rfl (hb hby at_82) rfl hvj41 (l' := #[.val (.int p1), .val (.int p2), .val (.int p3), .val (.int p4), .val (.int p5), .val (.int (0 : Int32)), .val (.int (0 : Int32)), .val .null, .val vj41, .unset, .unset, .unset, .unset]) (by first | rfl | exact XS.store1 rfl (Or.inl rfl) (refcat hvj41)) k) ?_
        have J2 : ∀ (Tj2 : State) (hj2 : Heap) (Lj2 : List Loc) (vj84 : Value), Stand p l e room_1 s m #[(.int p1), (.int p2), (.int p3), (.int p4), (.int p5)] below meth c Tj2 Lj2 6 16 → Tj2.heap = hj2 → Mv h0 hj2 [] Lj2 → Sta Z hj2 "java/lang/String" "COMPACT_STRINGS" "Z" (.int zc) → Sta Z hj2 "java/lang/Integer$IntegerCache" "high" "I" (.int (127 : Int32)) → Sta Z hj2 "java/lang/Integer$IntegerCache" "cache" "[Ljava/lang/Integer;" (.ref ca) → RefArr Z hj2 ca → vj84.isRef = true → Go p e below P Tj2 (mkF m 105 #[.val (.int p1), .val (.int p2), .val (.int p3), .val (.int p4), .val (.int p5), .val (.int (0 : Int32)), .val (.int (0 : Int32)), .val .null, .val vj41, .unset, .unset, .unset, .unset] [vj84]) := by
          intro Tj2 hj2 Lj2 vj84 Xj2 ej2 Mj2 Z_cs Z_high Z_cache B_ca hvj84
          refine Go.of (T' := Tj2) (f' := (mkF m 107 #[.val (.int p1), .val (.int p2), .val (.int p3), .val (.int p4), .val (.int p5), .val (.int (0 : Int32)), .val (.int (0 : Int32)), .val .null, .val vj41, .val vj84, .unset, .unset, .unset] [])) (fun _ k => XS.astore Xj2.here hx rfl (hb hby at_105) rfl hvj84 (l' := #[.val (.int p1), .val (.int p2), .val (.int p3), .val (.int p4), .val (.int p5), .val (.int (0 : Int32)), .val (.int (0 : Int32)), .val .null, .val vj41, .val vj84, .unset, .unset, .unset]) (by first | rfl | exact XS.store1 rfl (Or.inl rfl) (refcat hvj84)) k) ?_
          have J3 : ∀ (Tj3 : State) (hj3 : Heap) (Lj3 : List Loc) (vj107 : Value), Stand p l e room_1 s m #[(.int p1), (.int p2), (.int p3), (.int p4), (.int p5)] below meth c Tj3 Lj3 9 24 → Tj3.heap = hj3 → Mv h0 hj3 [] Lj3 → Sta Z hj3 "java/lang/String" "COMPACT_STRINGS" "Z" (.int zc) → Sta Z hj3 "java/lang/Integer$IntegerCache" "high" "I" (.int (127 : Int32)) → Sta Z hj3 "java/lang/Integer$IntegerCache" "cache" "[Ljava/lang/Integer;" (.ref ca) → RefArr Z hj3 ca → vj107.isRef = true → Go p e below P Tj3 (mkF m 131 #[.val (.int p1), .val (.int p2), .val (.int p3), .val (.int p4), .val (.int p5), .val (.int (0 : Int32)), .val (.int (0 : Int32)), .val .null, .val vj41, .val vj84, .unset, .unset, .unset] [vj107]) := by
            intro Tj3 hj3 Lj3 vj107 Xj3 ej3 Mj3 Z_cs Z_high Z_cache B_ca hvj107
            refine Go.of (T' := Tj3) (f' := (mkF m 133 #[.val (.int p1), .val (.int p2), .val (.int p3), .val (.int p4), .val (.int p5), .val (.int (0 : Int32)), .val (.int (0 : Int32)), .val .null, .val vj41, .val vj84, .val vj107, .unset, .unset] [])) (fun _ k => XS.astore Xj3.here hx rfl (hb hby at_131) rfl hvj107 (l' := #[.val (.int p1), .val (.int p2), .val (.int p3), .val (.int p4), .val (.int p5), .val (.int (0 : Int32)), .val (.int (0 : Int32)), .val .null, .val vj41, .val vj84, .val vj107, .unset, .unset]) (by first | rfl | exact XS.store1 rfl (Or.inl rfl) (refcat hvj107)) k) ?_
            obtain ⟨T4, h4, X4, e4, E4, A4, D4, -, st4⟩ := newO Xj3 hx hZ hown (hw _ (List.mem_of_getElem? (i := 44) rfl)) (hw _ (List.mem_of_getElem? (i := 45) rfl)) (hw _ (List.mem_of_getElem? (i := 46) rfl)) ej3 (g := (mkF m 133 #[.val (.int p1), .val (.int p2), .val (.int p3), .val (.int p4), .val (.int p5), .val (.int (0 : Int32)), .val (.int (0 : Int32)), .val .null, .val vj41, .val vj84, .val vj107, .unset, .unset] [])) rfl (hb hby at_133) (by decide) (by decide)
            obtain ⟨b4, g4⟩ : ∃ z, z = hj3.size := ⟨_, rfl⟩
            rw [← g4] at A4 D4 st4
            have ne_ca_b4 : ca ≠ b4 := Nat.ne_of_lt (Nat.lt_of_lt_of_le B_ca.lt1 (Nat.le_of_eq g4.symm))
            have fr_b4 : h0.size ≤ b4 := Nat.le_trans Mj3.le (Nat.le_of_eq g4.symm)
            have K4 := keepE E4
            have M4 := Mj3.ext E4
            replace Z_cs := StaKeep Z_cs K4 all0
            replace Z_high := StaKeep Z_high K4 all0
            replace Z_cache := StaKeep Z_cache K4 all0
            replace B_ca := B_ca.keep K4 nin0
            have E_b4 := A4
            have F_step_b4 : Fld Z h4 b4 "com/example/stratify/stratify/Problem" "step" "Ljava/lang/String;" .null := D4 (Or.inr (hw _ (List.mem_of_getElem? (i := 57) rfl))) (ty := (.object "java/lang/String")) (by decide)
            have F_rolledBack_b4 : Fld Z h4 b4 "com/example/stratify/stratify/Problem" "rolledBack" "Z" (.int (0 : Int32)) := D4 (Or.inr (hw _ (List.mem_of_getElem? (i := 59) rfl))) (ty := .boolean) (by decide)
            have F_statement_b4 : Fld Z h4 b4 "com/example/stratify/stratify/Problem" "statement" "Ljava/lang/Integer;" .null := D4 (Or.inr (hw _ (List.mem_of_getElem? (i := 61) rfl))) (ty := (.object "java/lang/Integer")) (by decide)
            have F_statements_b4 : Fld Z h4 b4 "com/example/stratify/stratify/Problem" "statements" "I" (.int (0 : Int32)) := D4 (Or.inr (hw _ (List.mem_of_getElem? (i := 63) rfl))) (ty := .int) (by decide)
            have F_sql_b4 : Fld Z h4 b4 "com/example/stratify/stratify/Problem" "sql" "Ljava/lang/String;" .null := D4 (Or.inr (hw _ (List.mem_of_getElem? (i := 65) rfl))) (ty := (.object "java/lang/String")) (by decide)
            have F_error_b4 : Fld Z h4 b4 "com/example/stratify/stratify/Problem" "error" "Ljava/lang/String;" .null := D4 (Or.inr (hw _ (List.mem_of_getElem? (i := 67) rfl))) (ty := (.object "java/lang/String")) (by decide)
            refine Go.of (T' := T4) (f' := (mkF m 136 #[.val (.int p1), .val (.int p2), .val (.int p3), .val (.int p4), .val (.int p5), .val (.int (0 : Int32)), .val (.int (0 : Int32)), .val .null, .val vj41, .val vj84, .val vj107, .unset, .unset] [(.ref b4)])) st4 ?_
            refine Go.of (T' := T4) (f' := (mkF m 137 #[.val (.int p1), .val (.int p2), .val (.int p3), .val (.int p4), .val (.int p5), .val (.int (0 : Int32)), .val (.int (0 : Int32)), .val .null, .val vj41, .val vj84, .val vj107, .unset, .unset] [(.ref b4), (.ref b4)])) (fun _ k => XS.dup X4.here hx rfl (hb hby at_136) rfl rfl k) ?_
            refine Go.of (T' := T4) (f' := (mkF m 139 #[.val (.int p1), .val (.int p2), .val (.int p3), .val (.int p4), .val (.int p5), .val (.int (0 : Int32)), .val (.int (0 : Int32)), .val .null, .val vj41, .val vj84, .val vj107, .unset, .unset] [vj41, (.ref b4), (.ref b4)])) (fun _ k => XS.aload X4.here hx rfl (hb hby at_137) rfl hvj41 k) ?_
            refine Go.of (T' := T4) (f' := (mkF m 141 #[.val (.int p1), .val (.int p2), .val (.int p3), .val (.int p4), .val (.int p5), .val (.int (0 : Int32)), .val (.int (0 : Int32)), .val .null, .val vj41, .val vj84, .val vj107, .unset, .unset] [(.int (0 : Int32)), vj41, (.ref b4), (.ref b4)])) (fun _ k => XS.iload X4.here hx rfl (hb hby at_139) rfl k) ?_
            refine Go.of (T' := T4) (f' := (mkF m 143 #[.val (.int p1), .val (.int p2), .val (.int p3), .val (.int p4), .val (.int p5), .val (.int (0 : Int32)), .val (.int (0 : Int32)), .val .null, .val vj41, .val vj84, .val vj107, .unset, .unset] [.null, (.int (0 : Int32)), vj41, (.ref b4), (.ref b4)])) (fun _ k => XS.aload X4.here hx rfl (hb hby at_141) rfl rfl k) ?_
            refine Go.of (T' := T4) (f' := (mkF m 144 #[.val (.int p1), .val (.int p2), .val (.int p3), .val (.int p4), .val (.int p5), .val (.int (0 : Int32)), .val (.int (0 : Int32)), .val .null, .val vj41, .val vj84, .val vj107, .unset, .unset] [(.int p3), .null, (.int (0 : Int32)), vj41, (.ref b4), (.ref b4)])) (fun _ k => XS.iloadN X4.here hx rfl (hb hby at_143) rfl k) ?_
            refine Go.of (T' := T4) (f' := (mkF m 146 #[.val (.int p1), .val (.int p2), .val (.int p3), .val (.int p4), .val (.int p5), .val (.int (0 : Int32)), .val (.int (0 : Int32)), .val .null, .val vj41, .val vj84, .val vj107, .unset, .unset] [vj84, (.int p3), .null, (.int (0 : Int32)), vj41, (.ref b4), (.ref b4)])) (fun _ k => XS.aload X4.here hx rfl (hb hby at_144) rfl hvj84 k) ?_
            refine Go.of (T' := T4) (f' := (mkF m 148 #[.val (.int p1), .val (.int p2), .val (.int p3), .val (.int p4), .val (.int p5), .val (.int (0 : Int32)), .val (.int (0 : Int32)), .val .null, .val vj41, .val vj84, .val vj107, .unset, .unset] [vj107, vj84, (.int p3), .null, (.int (0 : Int32)), vj41, (.ref b4), (.ref b4)])) (fun _ k => XS.aload X4.here hx rfl (hb hby at_146) rfl hvj107 k) ?_
            refine goI X4 hx hZ rfl hown (hw _ (List.mem_of_getElem? (i := 47) rfl)) (hw _ (List.mem_of_getElem? (i := 48) rfl)) (hw _ (List.mem_of_getElem? (i := 49) rfl)) (by decide) (C := 0) (S := 0) ((rm_problem l Z a0 hw b4 vj41 (0 : Int32) .null p3 vj84 vj107 h4 E_b4 F_step_b4 F_rolledBack_b4 F_statement_b4 F_statements_b4 F_sql_b4 F_error_b4 hvj41 (by simp) rfl hvj84 hvj107).bk (W := 1) hZ (hw _ (List.mem_of_getElem? (i := 49) rfl)) (hw _ (List.mem_of_getElem? (i := 46) rfl)) (by decide) (by decide)) e4 (argsL := [vj41, (.int (0 : Int32)), .null, (.int p3), vj84, vj107]) (rest := [(.ref b4)]) (by rw [hml]; rfl) (lenOf pd__Ljava_lang_String_ZLjava_lang_Integer_ILjava_lang_String_Ljava_lang_String__V rfl) rfl rfl (hb hby at_148) (Nat.le_of_eq rfl) (by decide) (by decide) ?_
            intro v5 T5 L5 X5 hQ5
            obtain ⟨h5, e5⟩ : ∃ z, T5.heap = z := ⟨_, rfl⟩
            rw [e5] at hQ5
            have E_b4_o := E_b4
            obtain ⟨rfl, Mc5, Ec5, Fc5_0, Fc5_1, Fc5_2, Fc5_3, Fc5_4, Fc5_5⟩ := hQ5
            have M5 := M4.app Mc5 (allS (Or.inr fr_b4) all0)
            replace Z_cs := StaKeep Z_cs Mc5.1 (allS (staExa E_b4_o) all0)
            replace Z_high := StaKeep Z_high Mc5.1 (allS (staExa E_b4_o) all0)
            replace Z_cache := StaKeep Z_cache Mc5.1 (allS (staExa E_b4_o) all0)
            replace B_ca := B_ca.keep Mc5.1 (ninS ne_ca_b4 nin0)
            replace E_b4 := Ec5
            have F_step_b4 := Fc5_0
            have F_rolledBack_b4 := Fc5_1
            have F_statement_b4 := Fc5_2
            have F_statements_b4 := Fc5_3
            have F_sql_b4 := Fc5_4
            have F_error_b4 := Fc5_5
            show Go p e below P T5 (mkF m 151 #[.val (.int p1), .val (.int p2), .val (.int p3), .val (.int p4), .val (.int p5), .val (.int (0 : Int32)), .val (.int (0 : Int32)), .val .null, .val vj41, .val vj84, .val vj107, .unset, .unset] [(.ref b4)])
            refine Go.of (T' := T5) (f' := (mkF m 153 #[.val (.int p1), .val (.int p2), .val (.int p3), .val (.int p4), .val (.int p5), .val (.int (0 : Int32)), .val (.int (0 : Int32)), .val .null, .val vj41, .val vj84, .val vj107, .val (.ref b4), .unset] [])) (fun _ k => XS.astore X5.here hx rfl (hb hby at_151) rfl rfl (l' := #[.val (.int p1), .val (.int p2), .val (.int p3), .val (.int p4), .val (.int p5), .val (.int (0 : Int32)), .val (.int (0 : Int32)), .val .null, .val vj41, .val vj84, .val vj107, .val (.ref b4), .unset]) rfl k) ?_
            refine Go.of (T' := T5) (f' := (mkF m 155 #[.val (.int p1), .val (.int p2), .val (.int p3), .val (.int p4), .val (.int p5), .val (.int (0 : Int32)), .val (.int (0 : Int32)), .val .null, .val vj41, .val vj84, .val vj107, .val (.ref b4), .unset] [(.int (0 : Int32))])) (fun _ k => XS.iload X5.here hx rfl (hb hby at_153) rfl k) ?_
            refine Go.of (T' := T5) (f' := (mkF m 164 #[.val (.int p1), .val (.int p2), .val (.int p3), .val (.int p4), .val (.int p5), .val (.int (0 : Int32)), .val (.int (0 : Int32)), .val .null, .val vj41, .val vj84, .val vj107, .val (.ref b4), .unset] [])) (fun _ k => XS.ifYes X5.here hx rfl (pc0 := 155) (pc' := 164) rfl (hb hby at_155) rfl (by decide) (by decide) (by decide) k) ?_
            refine Go.of (T' := T5) (f' := (mkF m 166 #[.val (.int p1), .val (.int p2), .val (.int p3), .val (.int p4), .val (.int p5), .val (.int (0 : Int32)), .val (.int (0 : Int32)), .val .null, .val vj41, .val vj84, .val vj107, .val (.ref b4), .unset] [(.int (0 : Int32))])) (fun _ k => XS.iload X5.here hx rfl (hb hby at_164) rfl k) ?_
            refine Go.of (T' := T5) (f' := (mkF m 175 #[.val (.int p1), .val (.int p2), .val (.int p3), .val (.int p4), .val (.int p5), .val (.int (0 : Int32)), .val (.int (0 : Int32)), .val .null, .val vj41, .val vj84, .val vj107, .val (.ref b4), .unset] [])) (fun _ k => XS.ifYes X5.here hx rfl (pc0 := 166) (pc' := 175) rfl (hb hby at_166) rfl (by decide) (by decide) (by decide) k) ?_
            refine Go.of (T' := T5) (f' := (mkF m 176 #[.val (.int p1), .val (.int p2), .val (.int p3), .val (.int p4), .val (.int p5), .val (.int (0 : Int32)), .val (.int (0 : Int32)), .val .null, .val vj41, .val vj84, .val vj107, .val (.ref b4), .unset] [(.int (1 : Int32))])) (fun _ k => XS.iconst X5.here hx rfl (hb hby at_175) k) ?_
            refine Go.of (T' := T5) (f' := (mkF m 178 #[.val (.int p1), .val (.int p2), .val (.int p3), .val (.int p4), .val (.int p5), .val (.int (0 : Int32)), .val (.int (0 : Int32)), .val .null, .val vj41, .val vj84, .val vj107, .val (.ref b4), .val (.int (1 : Int32))] [])) (fun _ k => XS.istore X5.here hx rfl (hb hby at_176) rfl (l' := #[.val (.int p1), .val (.int p2), .val (.int p3), .val (.int p4), .val (.int p5), .val (.int (0 : Int32)), .val (.int (0 : Int32)), .val .null, .val vj41, .val vj84, .val vj107, .val (.ref b4), .val (.int (1 : Int32))]) rfl k) ?_
            refine Go.of (T' := T5) (f' := (mkF m 180 #[.val (.int p1), .val (.int p2), .val (.int p3), .val (.int p4), .val (.int p5), .val (.int (0 : Int32)), .val (.int (0 : Int32)), .val .null, .val vj41, .val vj84, .val vj107, .val (.ref b4), .val (.int (1 : Int32))] [(.ref b4)])) (fun _ k => XS.aload X5.here hx rfl (hb hby at_178) rfl rfl k) ?_
            refine goV X5 hx hZ (y := (⟨"com/example/stratify/stratify/Problem", "mayBeUnderWay", "()Z"⟩ : MethodName)) (z := (⟨"com/example/stratify/stratify/Problem", "mayBeUnderWay", "()Z"⟩ : MethodName)) hown (hw _ (List.mem_of_getElem? (i := 68) rfl)) (hw _ (List.mem_of_getElem? (i := 69) rfl)) (notFace_of_selects (args := #[]) (mvT hZ (hw _ (List.mem_of_getElem? (i := 71) rfl)))) (hw _ (List.mem_of_getElem? (i := 71) rfl)) (hw _ (List.mem_of_getElem? (i := 70) rfl)) (by decide) (C := 0) (S := 0) ((rm_may2 l Z a0 hw b4  h5 F_rolledBack_b4 F_statement_b4).bk (W := 0) hZ (hw _ (List.mem_of_getElem? (i := 72) rfl)) (hw _ (List.mem_of_getElem? (i := 46) rfl)) (by decide) (by decide)) e5 E_b4 (argsL := []) (rest := []) (by rw [hml]; rfl) (lenOf pd___Z rfl) rfl rfl (hb hby at_180) (Nat.le_of_eq rfl) (by decide) (by decide) ?_
            intro v6 T6 L6 X6 hQ6
            obtain ⟨nq6, e6, rfl⟩ := hQ6
            replace X6 := standNil X6 nq6
            show Go p e below P T6 (mkF m 183 #[.val (.int p1), .val (.int p2), .val (.int p3), .val (.int p4), .val (.int p5), .val (.int (0 : Int32)), .val (.int (0 : Int32)), .val .null, .val vj41, .val vj84, .val vj107, .val (.ref b4), .val (.int (1 : Int32))] [(.int (1 : Int32))])
            refine Go.of (T' := T6) (f' := (mkF m 185 #[.val (.int p1), .val (.int p2), .val (.int p3), .val (.int p4), .val (.int p5), .val (.int (0 : Int32)), .val (.int (0 : Int32)), .val .null, .val vj41, .val vj84, .val vj107, .val (.ref b4), .val (.int (1 : Int32))] [(.int (1 : Int32)), (.int (1 : Int32))])) (fun _ k => XS.iload X6.here hx rfl (hb hby at_183) rfl k) ?_
            refine Go.of (T' := T6) (f' := (mkF m 188 #[.val (.int p1), .val (.int p2), .val (.int p3), .val (.int p4), .val (.int p5), .val (.int (0 : Int32)), .val (.int (0 : Int32)), .val .null, .val vj41, .val vj84, .val vj107, .val (.ref b4), .val (.int (1 : Int32))] [])) (fun _ k => XS.icmpNo X6.here hx rfl (hb hby at_185) rfl (by decide) k) ?_
            refine Go.of (T' := T6) (f' := (mkF m 189 #[.val (.int p1), .val (.int p2), .val (.int p3), .val (.int p4), .val (.int p5), .val (.int (0 : Int32)), .val (.int (0 : Int32)), .val .null, .val vj41, .val vj84, .val vj107, .val (.ref b4), .val (.int (1 : Int32))] [(.int (1 : Int32))])) (fun _ k => XS.iconst X6.here hx rfl (hb hby at_188) k) ?_
            refine Go.of (T' := T6) (f' := (mkF m 193 #[.val (.int p1), .val (.int p2), .val (.int p3), .val (.int p4), .val (.int p5), .val (.int (0 : Int32)), .val (.int (0 : Int32)), .val .null, .val vj41, .val vj84, .val vj107, .val (.ref b4), .val (.int (1 : Int32))] [(.int (1 : Int32))])) (fun _ k => XS.goto X6.here hx rfl (pc0 := 189) (pc' := 193) rfl (hb hby at_189) (by decide) (by decide) k) ?_
            exact goRetI (Q := fun v h L => v = some (.int 1) ∧ Mv h0 h [] L) X6 hx (t := .boolean) hret hlk rfl (by simp) (hb hby at_193) K (by decide) (by decide) e6 (⟨rfl, M5⟩)
          refine Go.of (T' := Tj2) (f' := (mkF m 108 #[.val (.int p1), .val (.int p2), .val (.int p3), .val (.int p4), .val (.int p5), .val (.int (0 : Int32)), .val (.int (0 : Int32)), .val .null, .val vj41, .val vj84, .unset, .unset, .unset] [(.int p1)])) (fun _ k => XS.iloadN Xj2.here hx rfl (hb hby at_107) rfl k) ?_
          refine Go.of (T' := Tj2) (f' := (mkF m 110 #[.val (.int p1), .val (.int p2), .val (.int p3), .val (.int p4), .val (.int p5), .val (.int (0 : Int32)), .val (.int (0 : Int32)), .val .null, .val vj41, .val vj84, .unset, .unset, .unset] [(.int (16 : Int32)), (.int p1)])) (fun _ k => XS.bipush Xj2.here hx rfl (hb hby at_108) k) ?_
          refine Go.of (T' := Tj2) (f' := (mkF m 111 #[.val (.int p1), .val (.int p2), .val (.int p3), .val (.int p4), .val (.int p5), .val (.int (0 : Int32)), .val (.int (0 : Int32)), .val .null, .val vj41, .val vj84, .unset, .unset, .unset] [(.int (p1 &&& (16 : Int32)))])) (fun _ k => XS.iand Xj2.here hx rfl (hb hby at_110) rfl k) ?_
          by_cases hc111 : (p1 &&& (16 : Int32)) = (0 : Int32)
          ·
            refine Go.of (T' := Tj2) (f' := (mkF m 118 #[.val (.int p1), .val (.int p2), .val (.int p3), .val (.int p4), .val (.int p5), .val (.int (0 : Int32)), .val (.int (0 : Int32)), .val .null, .val vj41, .val vj84, .unset, .unset, .unset] [])) (fun _ k => XS.ifYes Xj2.here hx rfl (pc0 := 111) (pc' := 118) rfl (hb hby at_111) rfl ((if0 _ _).trans (teq hc111).1) (by decide) (by decide) k) ?_
            refine Go.of (T' := Tj2) (f' := (mkF m 120 #[.val (.int p1), .val (.int p2), .val (.int p3), .val (.int p4), .val (.int p5), .val (.int (0 : Int32)), .val (.int (0 : Int32)), .val .null, .val vj41, .val vj84, .unset, .unset, .unset] [(.int p5)])) (fun _ k => XS.iload Xj2.here hx rfl (hb hby at_118) rfl k) ?_
            refine Go.of (T' := Tj2) (f' := (mkF m 122 #[.val (.int p1), .val (.int p2), .val (.int p3), .val (.int p4), .val (.int p5), .val (.int (0 : Int32)), .val (.int (0 : Int32)), .val .null, .val vj41, .val vj84, .unset, .unset, .unset] [(.int (8 : Int32)), (.int p5)])) (fun _ k => XS.bipush Xj2.here hx rfl (hb hby at_120) k) ?_
            refine Go.of (T' := Tj2) (f' := (mkF m 123 #[.val (.int p1), .val (.int p2), .val (.int p3), .val (.int p4), .val (.int p5), .val (.int (0 : Int32)), .val (.int (0 : Int32)), .val .null, .val vj41, .val vj84, .unset, .unset, .unset] [(.int ((p5.toUInt32 >>> ((8 : Int32) &&& 31).toUInt32).toInt32))])) (fun _ k => XS.iushr Xj2.here hx rfl (hb hby at_122) rfl k) ?_
            refine Go.of (T' := Tj2) (f' := (mkF m 126 #[.val (.int p1), .val (.int p2), .val (.int p3), .val (.int p4), .val (.int p5), .val (.int (0 : Int32)), .val (.int (0 : Int32)), .val .null, .val vj41, .val vj84, .unset, .unset, .unset] [(.int (255 : Int32)), (.int ((p5.toUInt32 >>> ((8 : Int32) &&& 31).toUInt32).toInt32))])) (fun _ k => XS.sipush Xj2.here hx rfl (hb hby at_123) k) ?_
            refine Go.of (T' := Tj2) (f' := (mkF m 127 #[.val (.int p1), .val (.int p2), .val (.int p3), .val (.int p4), .val (.int p5), .val (.int (0 : Int32)), .val (.int (0 : Int32)), .val .null, .val vj41, .val vj84, .unset, .unset, .unset] [(.int (((p5.toUInt32 >>> ((8 : Int32) &&& 31).toUInt32).toInt32) &&& (255 : Int32)))])) (fun _ k => XS.iand Xj2.here hx rfl (hb hby at_126) rfl k) ?_
            refine Go.of (T' := Tj2) (f' := (mkF m 128 #[.val (.int p1), .val (.int p2), .val (.int p3), .val (.int p4), .val (.int p5), .val (.int (0 : Int32)), .val (.int (0 : Int32)), .val .null, .val vj41, .val vj84, .unset, .unset, .unset] [(.int ((((p5.toUInt32 >>> ((8 : Int32) &&& 31).toUInt32).toInt32) &&& (255 : Int32)).toUInt32.toUInt16.toUInt32.toInt32))])) (fun _ k => XS.i2c Xj2.here hx rfl (hb hby at_127) rfl k) ?_
            refine goS Xj2 hx hZ hown (hw _ (List.mem_of_getElem? (i := 30) rfl)) (hw _ (List.mem_of_getElem? (i := 31) rfl)) (hw _ (List.mem_of_getElem? (i := 2) rfl)) (hw _ (List.mem_of_getElem? (i := 32) rfl)) (by decide) (C := 2) (S := 5) ((rm_valueOf l Z a0 hw ((((p5.toUInt32 >>> ((8 : Int32) &&& 31).toUInt32).toInt32) &&& (255 : Int32)).toUInt32.toUInt16.toUInt32.toInt32) zc hj2 (m255 _) Z_cs hz).bk (W := 0) hZ (hw _ (List.mem_of_getElem? (i := 32) rfl)) (hw _ (List.mem_of_getElem? (i := 2) rfl)) (by decide) (by decide)) ej2 (argsL := [(.int ((((p5.toUInt32 >>> ((8 : Int32) &&& 31).toUInt32).toInt32) &&& (255 : Int32)).toUInt32.toUInt16.toUInt32.toInt32))]) (rest := []) (by rw [hml]; rfl) (lenOf pd__C_Ljava_lang_String_ rfl) rfl rfl (hb hby at_128) (Nat.le_of_eq rfl) (by decide) (by decide) ?_
            intro v7 T7 L7 X7 hQ7
            obtain ⟨h7, e7⟩ : ∃ z, T7.heap = z := ⟨_, rfl⟩
            rw [e7] at hQ7
            obtain ⟨Mc7, a7, t7, rfl, le7, lf7, ne_a7_t7, S_a7⟩ := hQ7
            have ne_ca_a7 : ca ≠ a7 := Nat.ne_of_lt (Nat.lt_of_lt_of_le B_ca.lt1 le7)
            have fr_a7 : h0.size ≤ a7 := Nat.le_trans Mj2.le le7
            have ne_ca_t7 : ca ≠ t7 := Nat.ne_of_lt (Nat.lt_of_lt_of_le B_ca.lt1 lf7)
            have fr_t7 : h0.size ≤ t7 := Nat.le_trans Mj2.le lf7
            have M7 := Mj2.app0 Mc7
            replace Z_cs := StaKeep Z_cs Mc7.1 all0
            replace Z_high := StaKeep Z_high Mc7.1 all0
            replace Z_cache := StaKeep Z_cache Mc7.1 all0
            replace B_ca := B_ca.keep Mc7.1 nin0
            show Go p e below P T7 (mkF m 131 #[.val (.int p1), .val (.int p2), .val (.int p3), .val (.int p4), .val (.int p5), .val (.int (0 : Int32)), .val (.int (0 : Int32)), .val .null, .val vj41, .val vj84, .unset, .unset, .unset] [(.ref a7)])
            exact J3 T7 h7 _ (.ref a7) (standUp X7 (by decide) (by decide)) e7 M7 Z_cs Z_high Z_cache B_ca rfl
          ·
            refine Go.of (T' := Tj2) (f' := (mkF m 114 #[.val (.int p1), .val (.int p2), .val (.int p3), .val (.int p4), .val (.int p5), .val (.int (0 : Int32)), .val (.int (0 : Int32)), .val .null, .val vj41, .val vj84, .unset, .unset, .unset] [])) (fun _ k => XS.ifNo Xj2.here hx rfl (hb hby at_111) rfl ((if0 _ _).trans (feq hc111).1) k) ?_
            refine Go.of (T' := Tj2) (f' := (mkF m 115 #[.val (.int p1), .val (.int p2), .val (.int p3), .val (.int p4), .val (.int p5), .val (.int (0 : Int32)), .val (.int (0 : Int32)), .val .null, .val vj41, .val vj84, .unset, .unset, .unset] [.null])) (fun _ k => XS.aconstNull Xj2.here hx rfl (hb hby at_114) k) ?_
            refine Go.of (T' := Tj2) (f' := (mkF m 131 #[.val (.int p1), .val (.int p2), .val (.int p3), .val (.int p4), .val (.int p5), .val (.int (0 : Int32)), .val (.int (0 : Int32)), .val .null, .val vj41, .val vj84, .unset, .unset, .unset] [.null])) (fun _ k => XS.goto Xj2.here hx rfl (pc0 := 115) (pc' := 131) rfl (hb hby at_115) (by decide) (by decide) k) ?_
            exact J3 Tj2 hj2 _ .null (standUp Xj2 (by decide) (by decide)) ej2 Mj2 Z_cs Z_high Z_cache B_ca rfl
        refine Go.of (T' := Tj1) (f' := (mkF m 85 #[.val (.int p1), .val (.int p2), .val (.int p3), .val (.int p4), .val (.int p5), .val (.int (0 : Int32)), .val (.int (0 : Int32)), .val .null, .val vj41, .unset, .unset, .unset, .unset] [(.int p1)])) (fun _ k => XS.iloadN Xj1.here hx rfl (hb hby at_84) rfl k) ?_
        refine Go.of (T' := Tj1) (f' := (mkF m 87 #[.val (.int p1), .val (.int p2), .val (.int p3), .val (.int p4), .val (.int p5), .val (.int (0 : Int32)), .val (.int (0 : Int32)), .val .null, .val vj41, .unset, .unset, .unset, .unset] [(.int (8 : Int32)), (.int p1)])) (fun _ k => XS.bipush Xj1.here hx rfl (hb hby at_85) k) ?_
        refine Go.of (T' := Tj1) (f' := (mkF m 88 #[.val (.int p1), .val (.int p2), .val (.int p3), .val (.int p4), .val (.int p5), .val (.int (0 : Int32)), .val (.int (0 : Int32)), .val .null, .val vj41, .unset, .unset, .unset, .unset] [(.int (p1 &&& (8 : Int32)))])) (fun _ k => XS.iand Xj1.here hx rfl (hb hby at_87) rfl k) ?_
        by_cases hc88 : (p1 &&& (8 : Int32)) = (0 : Int32)
        ·
          refine Go.of (T' := Tj1) (f' := (mkF m 95 #[.val (.int p1), .val (.int p2), .val (.int p3), .val (.int p4), .val (.int p5), .val (.int (0 : Int32)), .val (.int (0 : Int32)), .val .null, .val vj41, .unset, .unset, .unset, .unset] [])) (fun _ k => XS.ifYes Xj1.here hx rfl (pc0 := 88) (pc' := 95) rfl (hb hby at_88) rfl ((if0 _ _).trans (teq hc88).1) (by decide) (by decide) k) ?_
          refine Go.of (T' := Tj1) (f' := (mkF m 97 #[.val (.int p1), .val (.int p2), .val (.int p3), .val (.int p4), .val (.int p5), .val (.int (0 : Int32)), .val (.int (0 : Int32)), .val .null, .val vj41, .unset, .unset, .unset, .unset] [(.int p5)])) (fun _ k => XS.iload Xj1.here hx rfl (hb hby at_95) rfl k) ?_
          refine Go.of (T' := Tj1) (f' := (mkF m 100 #[.val (.int p1), .val (.int p2), .val (.int p3), .val (.int p4), .val (.int p5), .val (.int (0 : Int32)), .val (.int (0 : Int32)), .val .null, .val vj41, .unset, .unset, .unset, .unset] [(.int (255 : Int32)), (.int p5)])) (fun _ k => XS.sipush Xj1.here hx rfl (hb hby at_97) k) ?_
          refine Go.of (T' := Tj1) (f' := (mkF m 101 #[.val (.int p1), .val (.int p2), .val (.int p3), .val (.int p4), .val (.int p5), .val (.int (0 : Int32)), .val (.int (0 : Int32)), .val .null, .val vj41, .unset, .unset, .unset, .unset] [(.int (p5 &&& (255 : Int32)))])) (fun _ k => XS.iand Xj1.here hx rfl (hb hby at_100) rfl k) ?_
          refine Go.of (T' := Tj1) (f' := (mkF m 102 #[.val (.int p1), .val (.int p2), .val (.int p3), .val (.int p4), .val (.int p5), .val (.int (0 : Int32)), .val (.int (0 : Int32)), .val .null, .val vj41, .unset, .unset, .unset, .unset] [(.int ((p5 &&& (255 : Int32)).toUInt32.toUInt16.toUInt32.toInt32))])) (fun _ k => XS.i2c Xj1.here hx rfl (hb hby at_101) rfl k) ?_
          refine goS Xj1 hx hZ hown (hw _ (List.mem_of_getElem? (i := 30) rfl)) (hw _ (List.mem_of_getElem? (i := 31) rfl)) (hw _ (List.mem_of_getElem? (i := 2) rfl)) (hw _ (List.mem_of_getElem? (i := 32) rfl)) (by decide) (C := 2) (S := 5) ((rm_valueOf l Z a0 hw ((p5 &&& (255 : Int32)).toUInt32.toUInt16.toUInt32.toInt32) zc hj1 (m255 _) Z_cs hz).bk (W := 0) hZ (hw _ (List.mem_of_getElem? (i := 32) rfl)) (hw _ (List.mem_of_getElem? (i := 2) rfl)) (by decide) (by decide)) ej1 (argsL := [(.int ((p5 &&& (255 : Int32)).toUInt32.toUInt16.toUInt32.toInt32))]) (rest := []) (by rw [hml]; rfl) (lenOf pd__C_Ljava_lang_String_ rfl) rfl rfl (hb hby at_102) (Nat.le_of_eq rfl) (by decide) (by decide) ?_
          intro v8 T8 L8 X8 hQ8
          obtain ⟨h8, e8⟩ : ∃ z, T8.heap = z := ⟨_, rfl⟩
          rw [e8] at hQ8
          obtain ⟨Mc8, a8, t8, rfl, le8, lf8, ne_a8_t8, S_a8⟩ := hQ8
          have ne_ca_a8 : ca ≠ a8 := Nat.ne_of_lt (Nat.lt_of_lt_of_le B_ca.lt1 le8)
          have fr_a8 : h0.size ≤ a8 := Nat.le_trans Mj1.le le8
          have ne_ca_t8 : ca ≠ t8 := Nat.ne_of_lt (Nat.lt_of_lt_of_le B_ca.lt1 lf8)
          have fr_t8 : h0.size ≤ t8 := Nat.le_trans Mj1.le lf8
          have M8 := Mj1.app0 Mc8
          replace Z_cs := StaKeep Z_cs Mc8.1 all0
          replace Z_high := StaKeep Z_high Mc8.1 all0
          replace Z_cache := StaKeep Z_cache Mc8.1 all0
          replace B_ca := B_ca.keep Mc8.1 nin0
          show Go p e below P T8 (mkF m 105 #[.val (.int p1), .val (.int p2), .val (.int p3), .val (.int p4), .val (.int p5), .val (.int (0 : Int32)), .val (.int (0 : Int32)), .val .null, .val vj41, .unset, .unset, .unset, .unset] [(.ref a8)])
          exact J2 T8 h8 _ (.ref a8) (standUp X8 (by decide) (by decide)) e8 M8 Z_cs Z_high Z_cache B_ca rfl
        ·
          refine Go.of (T' := Tj1) (f' := (mkF m 91 #[.val (.int p1), .val (.int p2), .val (.int p3), .val (.int p4), .val (.int p5), .val (.int (0 : Int32)), .val (.int (0 : Int32)), .val .null, .val vj41, .unset, .unset, .unset, .unset] [])) (fun _ k => XS.ifNo Xj1.here hx rfl (hb hby at_88) rfl ((if0 _ _).trans (feq hc88).1) k) ?_
          refine Go.of (T' := Tj1) (f' := (mkF m 92 #[.val (.int p1), .val (.int p2), .val (.int p3), .val (.int p4), .val (.int p5), .val (.int (0 : Int32)), .val (.int (0 : Int32)), .val .null, .val vj41, .unset, .unset, .unset, .unset] [.null])) (fun _ k => XS.aconstNull Xj1.here hx rfl (hb hby at_91) k) ?_
          refine Go.of (T' := Tj1) (f' := (mkF m 105 #[.val (.int p1), .val (.int p2), .val (.int p3), .val (.int p4), .val (.int p5), .val (.int (0 : Int32)), .val (.int (0 : Int32)), .val .null, .val vj41, .unset, .unset, .unset, .unset] [.null])) (fun _ k => XS.goto Xj1.here hx rfl (pc0 := 92) (pc' := 105) rfl (hb hby at_92) (by decide) (by decide) k) ?_
          exact J2 Tj1 hj1 _ .null (standUp Xj1 (by decide) (by decide)) ej1 Mj1 Z_cs Z_high Z_cache B_ca rfl
      refine Go.of (T' := s₁) (f' := (mkF m 42 #[.val (.int p1), .val (.int p2), .val (.int p3), .val (.int p4), .val (.int p5), .val (.int (0 : Int32)), .val (.int (0 : Int32)), .val .null, .unset, .unset, .unset, .unset, .unset] [(.int p1)])) (fun _ k => XS.iloadN X0.here hx rfl (hb hby at_41) rfl k) ?_
      refine Go.of (T' := s₁) (f' := (mkF m 43 #[.val (.int p1), .val (.int p2), .val (.int p3), .val (.int p4), .val (.int p5), .val (.int (0 : Int32)), .val (.int (0 : Int32)), .val .null, .unset, .unset, .unset, .unset, .unset] [(.int (4 : Int32)), (.int p1)])) (fun _ k => XS.iconst X0.here hx rfl (hb hby at_42) k) ?_
      refine Go.of (T' := s₁) (f' := (mkF m 44 #[.val (.int p1), .val (.int p2), .val (.int p3), .val (.int p4), .val (.int p5), .val (.int (0 : Int32)), .val (.int (0 : Int32)), .val .null, .unset, .unset, .unset, .unset, .unset] [(.int (p1 &&& (4 : Int32)))])) (fun _ k => XS.iand X0.here hx rfl (hb hby at_43) rfl k) ?_
      by_cases hc44 : (p1 &&& (4 : Int32)) = (0 : Int32)
      ·
        refine Go.of (T' := s₁) (f' := (mkF m 51 #[.val (.int p1), .val (.int p2), .val (.int p3), .val (.int p4), .val (.int p5), .val (.int (0 : Int32)), .val (.int (0 : Int32)), .val .null, .unset, .unset, .unset, .unset, .unset] [])) (fun _ k => XS.ifYes X0.here hx rfl (pc0 := 44) (pc' := 51) rfl (hb hby at_44) rfl ((if0 _ _).trans (teq hc44).1) (by decide) (by decide) k) ?_
        obtain ⟨T9, h9, X9, e9, E9, A9, D9, -, st9⟩ := newO X0 hx hZ hown (hw _ (List.mem_of_getElem? (i := 0) rfl)) (hw _ (List.mem_of_getElem? (i := 1) rfl)) (hw _ (List.mem_of_getElem? (i := 2) rfl)) e0 (g := (mkF m 51 #[.val (.int p1), .val (.int p2), .val (.int p3), .val (.int p4), .val (.int p5), .val (.int (0 : Int32)), .val (.int (0 : Int32)), .val .null, .unset, .unset, .unset, .unset, .unset] [])) rfl (hb hby at_51) (by decide) (by decide)
        obtain ⟨b9, g9⟩ : ∃ z, z = h0.size := ⟨_, rfl⟩
        rw [← g9] at A9 D9 st9
        have ne_ca_b9 : ca ≠ b9 := Nat.ne_of_lt (Nat.lt_of_lt_of_le B_ca.lt1 (Nat.le_of_eq g9.symm))
        have fr_b9 : h0.size ≤ b9 := Nat.le_trans M0.le (Nat.le_of_eq g9.symm)
        have K9 := keepE E9
        have M9 := M0.ext E9
        replace Z_cs := StaKeep Z_cs K9 all0
        replace Z_high := StaKeep Z_high K9 all0
        replace Z_cache := StaKeep Z_cache K9 all0
        replace B_ca := B_ca.keep K9 nin0
        have E_b9 := A9
        have F_coder_b9 : Fld Z h9 b9 "java/lang/String" "coder" "B" (.int (0 : Int32)) := D9 (Or.inr (hw _ (List.mem_of_getElem? (i := 27) rfl))) (ty := .byte) (by decide)
        have F_value_b9 : Fld Z h9 b9 "java/lang/String" "value" "[B" .null := D9 (Or.inr (hw _ (List.mem_of_getElem? (i := 29) rfl))) (ty := (.array .byte)) (by decide)
        refine Go.of (T' := T9) (f' := (mkF m 54 #[.val (.int p1), .val (.int p2), .val (.int p3), .val (.int p4), .val (.int p5), .val (.int (0 : Int32)), .val (.int (0 : Int32)), .val .null, .unset, .unset, .unset, .unset, .unset] [(.ref b9)])) st9 ?_
        refine Go.of (T' := T9) (f' := (mkF m 55 #[.val (.int p1), .val (.int p2), .val (.int p3), .val (.int p4), .val (.int p5), .val (.int (0 : Int32)), .val (.int (0 : Int32)), .val .null, .unset, .unset, .unset, .unset, .unset] [(.ref b9), (.ref b9)])) (fun _ k => XS.dup X9.here hx rfl (hb hby at_54) rfl rfl k) ?_
        refine Go.of (T' := T9) (f' := (mkF m 56 #[.val (.int p1), .val (.int p2), .val (.int p3), .val (.int p4), .val (.int p5), .val (.int (0 : Int32)), .val (.int (0 : Int32)), .val .null, .unset, .unset, .unset, .unset, .unset] [(.int (2 : Int32)), (.ref b9), (.ref b9)])) (fun _ k => XS.iconst X9.here hx rfl (hb hby at_55) k) ?_
        obtain ⟨T10, h10, k10, X10, e10, E10, A10, st10⟩ := newP X9 hx hZ (hw _ (List.mem_of_getElem? (i := 3) rfl)) e9 (g := (mkF m 56 #[.val (.int p1), .val (.int p2), .val (.int p3), .val (.int p4), .val (.int p5), .val (.int (0 : Int32)), .val (.int (0 : Int32)), .val .null, .unset, .unset, .unset, .unset, .unset] [(.int (2 : Int32)), (.ref b9), (.ref b9)])) rfl (hb hby at_56) rfl (by decide) (cap := 2) (by decide) (by decide) (by decide) (by decide)
        obtain ⟨b10, g10⟩ : ∃ z, z = h9.size := ⟨_, rfl⟩
        rw [← g10] at A10 st10
        have ne_ca_b10 : ca ≠ b10 := Nat.ne_of_lt (Nat.lt_of_lt_of_le B_ca.lt1 (Nat.le_of_eq g10.symm))
        have ne_b9_b10 : b9 ≠ b10 := Nat.ne_of_lt (Nat.lt_of_lt_of_le E_b9.lt (Nat.le_of_eq g10.symm))
        have fr_b10 : h0.size ≤ b10 := Nat.le_trans M9.le (Nat.le_of_eq g10.symm)
        have K10 := keepE E10
        have M10 := M9.ext E10
        replace Z_cs := StaKeep Z_cs K10 all0
        replace Z_high := StaKeep Z_high K10 all0
        replace Z_cache := StaKeep Z_cache K10 all0
        replace B_ca := B_ca.keep K10 nin0
        replace E_b9 := E_b9.keep K10
        replace F_coder_b9 := F_coder_b9.keep K10 nin0
        replace F_value_b9 := F_value_b9.keep K10 nin0
        have V_b10 : Arv Z h10 b10 k10 .char (2 : Int32) [(.int (0 : Int32)), (.int (0 : Int32))] (.int (0 : Int32)) := (Arv.new A10 (by decide)).pad (pad_rep [] (.int (0 : Int32)) 2)
        refine Go.of (T' := T10) (f' := (mkF m 58 #[.val (.int p1), .val (.int p2), .val (.int p3), .val (.int p4), .val (.int p5), .val (.int (0 : Int32)), .val (.int (0 : Int32)), .val .null, .unset, .unset, .unset, .unset, .unset] [(.ref b10), (.ref b9), (.ref b9)])) st10 ?_
        refine Go.of (T' := T10) (f' := (mkF m 59 #[.val (.int p1), .val (.int p2), .val (.int p3), .val (.int p4), .val (.int p5), .val (.int (0 : Int32)), .val (.int (0 : Int32)), .val .null, .unset, .unset, .unset, .unset, .unset] [(.ref b10), (.ref b10), (.ref b9), (.ref b9)])) (fun _ k => XS.dup X10.here hx rfl (hb hby at_58) rfl rfl k) ?_
        refine Go.of (T' := T10) (f' := (mkF m 60 #[.val (.int p1), .val (.int p2), .val (.int p3), .val (.int p4), .val (.int p5), .val (.int (0 : Int32)), .val (.int (0 : Int32)), .val .null, .unset, .unset, .unset, .unset, .unset] [(.int (0 : Int32)), (.ref b10), (.ref b10), (.ref b9), (.ref b9)])) (fun _ k => XS.iconst X10.here hx rfl (hb hby at_59) k) ?_
        refine Go.of (T' := T10) (f' := (mkF m 61 #[.val (.int p1), .val (.int p2), .val (.int p3), .val (.int p4), .val (.int p5), .val (.int (0 : Int32)), .val (.int (0 : Int32)), .val .null, .unset, .unset, .unset, .unset, .unset] [(.int p4), (.int (0 : Int32)), (.ref b10), (.ref b10), (.ref b9), (.ref b9)])) (fun _ k => XS.iloadN X10.here hx rfl (hb hby at_60) rfl k) ?_
        refine Go.of (T' := T10) (f' := (mkF m 64 #[.val (.int p1), .val (.int p2), .val (.int p3), .val (.int p4), .val (.int p5), .val (.int (0 : Int32)), .val (.int (0 : Int32)), .val .null, .unset, .unset, .unset, .unset, .unset] [(.int (255 : Int32)), (.int p4), (.int (0 : Int32)), (.ref b10), (.ref b10), (.ref b9), (.ref b9)])) (fun _ k => XS.sipush X10.here hx rfl (hb hby at_61) k) ?_
        refine Go.of (T' := T10) (f' := (mkF m 65 #[.val (.int p1), .val (.int p2), .val (.int p3), .val (.int p4), .val (.int p5), .val (.int (0 : Int32)), .val (.int (0 : Int32)), .val .null, .unset, .unset, .unset, .unset, .unset] [(.int (p4 &&& (255 : Int32))), (.int (0 : Int32)), (.ref b10), (.ref b10), (.ref b9), (.ref b9)])) (fun _ k => XS.iand X10.here hx rfl (hb hby at_64) rfl k) ?_
        refine Go.of (T' := T10) (f' := (mkF m 66 #[.val (.int p1), .val (.int p2), .val (.int p3), .val (.int p4), .val (.int p5), .val (.int (0 : Int32)), .val (.int (0 : Int32)), .val .null, .unset, .unset, .unset, .unset, .unset] [(.int ((p4 &&& (255 : Int32)).toUInt32.toUInt16.toUInt32.toInt32)), (.int (0 : Int32)), (.ref b10), (.ref b10), (.ref b9), (.ref b9)])) (fun _ k => XS.i2c X10.here hx rfl (hb hby at_65) rfl k) ?_
        obtain ⟨cl11, Ar11, cq11, Sz11, Nn11, Hs11, Gs11⟩ := id V_b10
        have hin11 : ¬ ((0 : Int32) < 0 ∨ cl11.slots.size ≤ ((0 : Int32)).toNatClampNeg) := inb_of Sz11 ⟨by decide, by decide⟩
        obtain ⟨T11, h11, X11, e11, W11, st11⟩ := stC X10 hx hZ e10 Ar11 (j := (0 : Int32)) hin11 (g := (mkF m 66 #[.val (.int p1), .val (.int p2), .val (.int p3), .val (.int p4), .val (.int p5), .val (.int (0 : Int32)), .val (.int (0 : Int32)), .val .null, .unset, .unset, .unset, .unset, .unset] [(.int ((p4 &&& (255 : Int32)).toUInt32.toUInt16.toUInt32.toInt32)), (.int (0 : Int32)), (.ref b10), (.ref b10), (.ref b9), (.ref b9)])) rfl rfl (hb hby at_66)
        have fq11 : fits .char (.int (nar .char ((p4 &&& (255 : Int32)).toUInt32.toUInt16.toUInt32.toInt32))) = true := fits_nar_char _
        rw [show nar .char ((p4 &&& (255 : Int32)).toUInt32.toUInt16.toUInt32.toInt32) = ((p4 &&& (255 : Int32)).toUInt32.toUInt16.toUInt32.toInt32) from narC _] at W11 fq11
        have V11 := Arv.set Ar11 cq11 Sz11 Nn11 Hs11 Gs11 fq11 W11 0 rfl (Nat.le_of_ble_eq_true rfl)
        have V_b10_o := V_b10
        have K11 := Keep.of_wr W11
        have M11 := M10.wr W11 (Or.inr fr_b10)
        replace Z_cs := StaKeep Z_cs K11 (allS (staArv V_b10_o) all0)
        replace Z_high := StaKeep Z_high K11 (allS (staArv V_b10_o) all0)
        replace Z_cache := StaKeep Z_cache K11 (allS (staArv V_b10_o) all0)
        replace B_ca := B_ca.keep K11 (ninS ne_ca_b10 nin0)
        replace E_b9 := E_b9.keep K11
        replace F_coder_b9 := F_coder_b9.keep K11 (ninS ne_b9_b10 nin0)
        replace F_value_b9 := F_value_b9.keep K11 (ninS ne_b9_b10 nin0)
        replace V_b10 : Arv Z h11 b10 k10 .char (2 : Int32) [(.int ((p4 &&& (255 : Int32)).toUInt32.toUInt16.toUInt32.toInt32)), (.int (0 : Int32))] (.int (0 : Int32)) := V11
        refine Go.of (T' := T11) (f' := (mkF m 67 #[.val (.int p1), .val (.int p2), .val (.int p3), .val (.int p4), .val (.int p5), .val (.int (0 : Int32)), .val (.int (0 : Int32)), .val .null, .unset, .unset, .unset, .unset, .unset] [(.ref b10), (.ref b9), (.ref b9)])) st11 ?_
        refine Go.of (T' := T11) (f' := (mkF m 68 #[.val (.int p1), .val (.int p2), .val (.int p3), .val (.int p4), .val (.int p5), .val (.int (0 : Int32)), .val (.int (0 : Int32)), .val .null, .unset, .unset, .unset, .unset, .unset] [(.ref b10), (.ref b10), (.ref b9), (.ref b9)])) (fun _ k => XS.dup X11.here hx rfl (hb hby at_67) rfl rfl k) ?_
        refine Go.of (T' := T11) (f' := (mkF m 69 #[.val (.int p1), .val (.int p2), .val (.int p3), .val (.int p4), .val (.int p5), .val (.int (0 : Int32)), .val (.int (0 : Int32)), .val .null, .unset, .unset, .unset, .unset, .unset] [(.int (1 : Int32)), (.ref b10), (.ref b10), (.ref b9), (.ref b9)])) (fun _ k => XS.iconst X11.here hx rfl (hb hby at_68) k) ?_
        refine Go.of (T' := T11) (f' := (mkF m 70 #[.val (.int p1), .val (.int p2), .val (.int p3), .val (.int p4), .val (.int p5), .val (.int (0 : Int32)), .val (.int (0 : Int32)), .val .null, .unset, .unset, .unset, .unset, .unset] [(.int p4), (.int (1 : Int32)), (.ref b10), (.ref b10), (.ref b9), (.ref b9)])) (fun _ k => XS.iloadN X11.here hx rfl (hb hby at_69) rfl k) ?_
        refine Go.of (T' := T11) (f' := (mkF m 72 #[.val (.int p1), .val (.int p2), .val (.int p3), .val (.int p4), .val (.int p5), .val (.int (0 : Int32)), .val (.int (0 : Int32)), .val .null, .unset, .unset, .unset, .unset, .unset] [(.int (8 : Int32)), (.int p4), (.int (1 : Int32)), (.ref b10), (.ref b10), (.ref b9), (.ref b9)])) (fun _ k => XS.bipush X11.here hx rfl (hb hby at_70) k) ?_
        refine Go.of (T' := T11) (f' := (mkF m 73 #[.val (.int p1), .val (.int p2), .val (.int p3), .val (.int p4), .val (.int p5), .val (.int (0 : Int32)), .val (.int (0 : Int32)), .val .null, .unset, .unset, .unset, .unset, .unset] [(.int ((p4.toUInt32 >>> ((8 : Int32) &&& 31).toUInt32).toInt32)), (.int (1 : Int32)), (.ref b10), (.ref b10), (.ref b9), (.ref b9)])) (fun _ k => XS.iushr X11.here hx rfl (hb hby at_72) rfl k) ?_
        refine Go.of (T' := T11) (f' := (mkF m 76 #[.val (.int p1), .val (.int p2), .val (.int p3), .val (.int p4), .val (.int p5), .val (.int (0 : Int32)), .val (.int (0 : Int32)), .val .null, .unset, .unset, .unset, .unset, .unset] [(.int (255 : Int32)), (.int ((p4.toUInt32 >>> ((8 : Int32) &&& 31).toUInt32).toInt32)), (.int (1 : Int32)), (.ref b10), (.ref b10), (.ref b9), (.ref b9)])) (fun _ k => XS.sipush X11.here hx rfl (hb hby at_73) k) ?_
        refine Go.of (T' := T11) (f' := (mkF m 77 #[.val (.int p1), .val (.int p2), .val (.int p3), .val (.int p4), .val (.int p5), .val (.int (0 : Int32)), .val (.int (0 : Int32)), .val .null, .unset, .unset, .unset, .unset, .unset] [(.int (((p4.toUInt32 >>> ((8 : Int32) &&& 31).toUInt32).toInt32) &&& (255 : Int32))), (.int (1 : Int32)), (.ref b10), (.ref b10), (.ref b9), (.ref b9)])) (fun _ k => XS.iand X11.here hx rfl (hb hby at_76) rfl k) ?_
        refine Go.of (T' := T11) (f' := (mkF m 78 #[.val (.int p1), .val (.int p2), .val (.int p3), .val (.int p4), .val (.int p5), .val (.int (0 : Int32)), .val (.int (0 : Int32)), .val .null, .unset, .unset, .unset, .unset, .unset] [(.int ((((p4.toUInt32 >>> ((8 : Int32) &&& 31).toUInt32).toInt32) &&& (255 : Int32)).toUInt32.toUInt16.toUInt32.toInt32)), (.int (1 : Int32)), (.ref b10), (.ref b10), (.ref b9), (.ref b9)])) (fun _ k => XS.i2c X11.here hx rfl (hb hby at_77) rfl k) ?_
        obtain ⟨cl12, Ar12, cq12, Sz12, Nn12, Hs12, Gs12⟩ := id V_b10
        have hin12 : ¬ ((1 : Int32) < 0 ∨ cl12.slots.size ≤ ((1 : Int32)).toNatClampNeg) := inb_of Sz12 ⟨by decide, by decide⟩
        obtain ⟨T12, h12, X12, e12, W12, st12⟩ := stC X11 hx hZ e11 Ar12 (j := (1 : Int32)) hin12 (g := (mkF m 78 #[.val (.int p1), .val (.int p2), .val (.int p3), .val (.int p4), .val (.int p5), .val (.int (0 : Int32)), .val (.int (0 : Int32)), .val .null, .unset, .unset, .unset, .unset, .unset] [(.int ((((p4.toUInt32 >>> ((8 : Int32) &&& 31).toUInt32).toInt32) &&& (255 : Int32)).toUInt32.toUInt16.toUInt32.toInt32)), (.int (1 : Int32)), (.ref b10), (.ref b10), (.ref b9), (.ref b9)])) rfl rfl (hb hby at_78)
        have fq12 : fits .char (.int (nar .char ((((p4.toUInt32 >>> ((8 : Int32) &&& 31).toUInt32).toInt32) &&& (255 : Int32)).toUInt32.toUInt16.toUInt32.toInt32))) = true := fits_nar_char _
        rw [show nar .char ((((p4.toUInt32 >>> ((8 : Int32) &&& 31).toUInt32).toInt32) &&& (255 : Int32)).toUInt32.toUInt16.toUInt32.toInt32) = ((((p4.toUInt32 >>> ((8 : Int32) &&& 31).toUInt32).toInt32) &&& (255 : Int32)).toUInt32.toUInt16.toUInt32.toInt32) from narC _] at W12 fq12
        have V12 := Arv.set Ar12 cq12 Sz12 Nn12 Hs12 Gs12 fq12 W12 1 rfl (Nat.le_of_ble_eq_true rfl)
        have V_b10_o := V_b10
        have K12 := Keep.of_wr W12
        have M12 := M11.wr W12 (Or.inr fr_b10)
        replace Z_cs := StaKeep Z_cs K12 (allS (staArv V_b10_o) all0)
        replace Z_high := StaKeep Z_high K12 (allS (staArv V_b10_o) all0)
        replace Z_cache := StaKeep Z_cache K12 (allS (staArv V_b10_o) all0)
        replace B_ca := B_ca.keep K12 (ninS ne_ca_b10 nin0)
        replace E_b9 := E_b9.keep K12
        replace F_coder_b9 := F_coder_b9.keep K12 (ninS ne_b9_b10 nin0)
        replace F_value_b9 := F_value_b9.keep K12 (ninS ne_b9_b10 nin0)
        replace V_b10 : Arv Z h12 b10 k10 .char (2 : Int32) [(.int ((p4 &&& (255 : Int32)).toUInt32.toUInt16.toUInt32.toInt32)), (.int ((((p4.toUInt32 >>> ((8 : Int32) &&& 31).toUInt32).toInt32) &&& (255 : Int32)).toUInt32.toUInt16.toUInt32.toInt32))] (.int (0 : Int32)) := V12
        refine Go.of (T' := T12) (f' := (mkF m 79 #[.val (.int p1), .val (.int p2), .val (.int p3), .val (.int p4), .val (.int p5), .val (.int (0 : Int32)), .val (.int (0 : Int32)), .val .null, .unset, .unset, .unset, .unset, .unset] [(.ref b10), (.ref b9), (.ref b9)])) st12 ?_
        refine goI X12 hx hZ rfl hown (hw _ (List.mem_of_getElem? (i := 4) rfl)) (hw _ (List.mem_of_getElem? (i := 5) rfl)) (hw _ (List.mem_of_getElem? (i := 6) rfl)) (by decide) (C := 1) (S := 2) (newStr (W := 1) hZ (hw_words hw) (hw _ (List.mem_of_getElem? (i := 1) rfl)) (cs := [((p4 &&& (255 : Int32)).toUInt32.toUInt16.toUInt32.toInt32), ((((p4.toUInt32 >>> ((8 : Int32) &&& 31).toUInt32).toInt32) &&& (255 : Int32)).toUInt32.toUInt16.toUInt32.toInt32)]) E_b9 F_value_b9 F_coder_b9 V_b10 rfl Z_cs hz (n := 2) rfl rfl (by decide) (by decide) (by intro c hc; simp only [List.mem_cons, List.not_mem_nil, or_false] at hc; rcases hc with rfl | rfl <;> exact m255 _) (by decide) (by decide)) e12 (argsL := [(.ref b10)]) (rest := [(.ref b9)]) (by rw [hml]; rfl) (lenOf pd___C_V rfl) rfl rfl (hb hby at_79) (Nat.le_of_eq rfl) (by decide) (by decide) ?_
        intro v13 T13 L13 X13 hQ13
        obtain ⟨h13, e13⟩ : ∃ z, T13.heap = z := ⟨_, rfl⟩
        rw [e13] at hQ13
        have E_b9_o := E_b9
        obtain ⟨rfl, Mc13, t13, le13, S13⟩ := hQ13
        have ne_ca_t13 : ca ≠ t13 := Nat.ne_of_lt (Nat.lt_of_lt_of_le B_ca.lt1 le13)
        have ne_b9_t13 : b9 ≠ t13 := Nat.ne_of_lt (Nat.lt_of_lt_of_le E_b9.lt le13)
        have ne_b10_t13 : b10 ≠ t13 := Nat.ne_of_lt (Nat.lt_of_lt_of_le V_b10.lt le13)
        have fr_t13 : h0.size ≤ t13 := Nat.le_trans M12.le le13
        have M13 := M12.app Mc13 (allS (Or.inr fr_b9) all0)
        replace Z_cs := StaKeep Z_cs Mc13.1 (allS (staExa E_b9_o) all0)
        replace Z_high := StaKeep Z_high Mc13.1 (allS (staExa E_b9_o) all0)
        replace Z_cache := StaKeep Z_cache Mc13.1 (allS (staExa E_b9_o) all0)
        replace B_ca := B_ca.keep Mc13.1 (ninS ne_ca_b9 nin0)
        replace E_b9 := E_b9.keep Mc13.1
        replace V_b10 := V_b10.keep Mc13.1 (ninS (Ne.symm ne_b9_b10) nin0)
        have S_b9 := S13
        show Go p e below P T13 (mkF m 82 #[.val (.int p1), .val (.int p2), .val (.int p3), .val (.int p4), .val (.int p5), .val (.int (0 : Int32)), .val (.int (0 : Int32)), .val .null, .unset, .unset, .unset, .unset, .unset] [(.ref b9)])
        exact J1 T13 h13 _ (.ref b9) (standUp X13 (by decide) (by decide)) e13 M13 Z_cs Z_high Z_cache B_ca rfl
      ·
        refine Go.of (T' := s₁) (f' := (mkF m 47 #[.val (.int p1), .val (.int p2), .val (.int p3), .val (.int p4), .val (.int p5), .val (.int (0 : Int32)), .val (.int (0 : Int32)), .val .null, .unset, .unset, .unset, .unset, .unset] [])) (fun _ k => XS.ifNo X0.here hx rfl (hb hby at_44) rfl ((if0 _ _).trans (feq hc44).1) k) ?_
        refine Go.of (T' := s₁) (f' := (mkF m 48 #[.val (.int p1), .val (.int p2), .val (.int p3), .val (.int p4), .val (.int p5), .val (.int (0 : Int32)), .val (.int (0 : Int32)), .val .null, .unset, .unset, .unset, .unset, .unset] [.null])) (fun _ k => XS.aconstNull X0.here hx rfl (hb hby at_47) k) ?_
        refine Go.of (T' := s₁) (f' := (mkF m 82 #[.val (.int p1), .val (.int p2), .val (.int p3), .val (.int p4), .val (.int p5), .val (.int (0 : Int32)), .val (.int (0 : Int32)), .val .null, .unset, .unset, .unset, .unset, .unset] [.null])) (fun _ k => XS.goto X0.here hx rfl (pc0 := 48) (pc' := 82) rfl (hb hby at_48) (by decide) (by decide) k) ?_
        exact J1 s₁ h0 _ .null (standUp X0 (by decide) (by decide)) e0 M0 Z_cs Z_high Z_cache B_ca rfl
    ·
      refine Go.of (T' := s₁) (f' := (mkF m 19 #[.val (.int p1), .val (.int p2), .val (.int p3), .val (.int p4), .val (.int p5), .val (.int (0 : Int32)), .unset, .unset, .unset, .unset, .unset, .unset, .unset] [])) (fun _ k => XS.ifNo X0.here hx rfl (hb hby at_16) rfl ((if0 _ _).trans (feq hc16).1) k) ?_
      refine Go.of (T' := s₁) (f' := (mkF m 20 #[.val (.int p1), .val (.int p2), .val (.int p3), .val (.int p4), .val (.int p5), .val (.int (0 : Int32)), .unset, .unset, .unset, .unset, .unset, .unset, .unset] [(.int (1 : Int32))])) (fun _ k => XS.iconst X0.here hx rfl (hb hby at_19) k) ?_
      refine Go.of (T' := s₁) (f' := (mkF m 24 #[.val (.int p1), .val (.int p2), .val (.int p3), .val (.int p4), .val (.int p5), .val (.int (0 : Int32)), .unset, .unset, .unset, .unset, .unset, .unset, .unset] [(.int (1 : Int32))])) (fun _ k => XS.goto X0.here hx rfl (pc0 := 20) (pc' := 24) rfl (hb hby at_20) (by decide) (by decide) k) ?_
      refine Go.of (T' := s₁) (f' := (mkF m 26 #[.val (.int p1), .val (.int p2), .val (.int p3), .val (.int p4), .val (.int p5), .val (.int (0 : Int32)), .val (.int (1 : Int32)), .unset, .unset, .unset, .unset, .unset, .unset] [])) (fun _ k => XS.istore X0.here hx rfl (hb hby at_24) rfl (l' := #[.val (.int p1), .val (.int p2), .val (.int p3), .val (.int p4), .val (.int p5), .val (.int (0 : Int32)), .val (.int (1 : Int32)), .unset, .unset, .unset, .unset, .unset, .unset]) rfl k) ?_
      refine Go.of (T' := s₁) (f' := (mkF m 28 #[.val (.int p1), .val (.int p2), .val (.int p3), .val (.int p4), .val (.int p5), .val (.int (0 : Int32)), .val (.int (1 : Int32)), .unset, .unset, .unset, .unset, .unset, .unset] [(.int (1 : Int32))])) (fun _ k => XS.iload X0.here hx rfl (hb hby at_26) rfl k) ?_
      refine Go.of (T' := s₁) (f' := (mkF m 31 #[.val (.int p1), .val (.int p2), .val (.int p3), .val (.int p4), .val (.int p5), .val (.int (0 : Int32)), .val (.int (1 : Int32)), .unset, .unset, .unset, .unset, .unset, .unset] [])) (fun _ k => XS.ifNo X0.here hx rfl (hb hby at_28) rfl (by decide) k) ?_
      refine Go.of (T' := s₁) (f' := (mkF m 32 #[.val (.int p1), .val (.int p2), .val (.int p3), .val (.int p4), .val (.int p5), .val (.int (0 : Int32)), .val (.int (1 : Int32)), .unset, .unset, .unset, .unset, .unset, .unset] [(.int p2)])) (fun _ k => XS.iloadN X0.here hx rfl (hb hby at_31) rfl k) ?_
      refine goS X0 hx hZ hown (hw _ (List.mem_of_getElem? (i := 73) rfl)) (hw _ (List.mem_of_getElem? (i := 74) rfl)) (hw _ (List.mem_of_getElem? (i := 75) rfl)) (hw _ (List.mem_of_getElem? (i := 76) rfl)) (by decide) (C := 1) (S := 1) ((rm_box l Z a0 hw p2 ca h0 Z_high Z_cache B_ca).bk (W := 0) hZ (hw _ (List.mem_of_getElem? (i := 76) rfl)) (hw _ (List.mem_of_getElem? (i := 75) rfl)) (by decide) (by decide)) e0 (argsL := [(.int p2)]) (rest := []) (by rw [hml]; rfl) (lenOf pd__I_Ljava_lang_Integer_ rfl) rfl rfl (hb hby at_32) (Nat.le_of_eq rfl) (by decide) (by decide) ?_
      intro v14 T14 L14 X14 hQ14
      obtain ⟨h14, e14⟩ : ∃ z, T14.heap = z := ⟨_, rfl⟩
      rw [e14] at hQ14
      obtain ⟨Mc14, ia14, rfl⟩ := hQ14
      have M14 := M0.app0 Mc14
      replace Z_cs := StaKeep Z_cs Mc14.1 all0
      replace Z_high := StaKeep Z_high Mc14.1 all0
      replace Z_cache := StaKeep Z_cache Mc14.1 all0
      replace B_ca := B_ca.keep Mc14.1 nin0
      show Go p e below P T14 (mkF m 35 #[.val (.int p1), .val (.int p2), .val (.int p3), .val (.int p4), .val (.int p5), .val (.int (0 : Int32)), .val (.int (1 : Int32)), .unset, .unset, .unset, .unset, .unset, .unset] [(.ref ia14)])
      refine Go.of (T' := T14) (f' := (mkF m 39 #[.val (.int p1), .val (.int p2), .val (.int p3), .val (.int p4), .val (.int p5), .val (.int (0 : Int32)), .val (.int (1 : Int32)), .unset, .unset, .unset, .unset, .unset, .unset] [(.ref ia14)])) (fun _ k => XS.goto X14.here hx rfl (pc0 := 35) (pc' := 39) rfl (hb hby at_35) (by decide) (by decide) k) ?_
      refine Go.of (T' := T14) (f' := (mkF m 41 #[.val (.int p1), .val (.int p2), .val (.int p3), .val (.int p4), .val (.int p5), .val (.int (0 : Int32)), .val (.int (1 : Int32)), .val (.ref ia14), .unset, .unset, .unset, .unset, .unset] [])) (fun _ k => XS.astore X14.here hx rfl (hb hby at_39) rfl rfl (l' := #[.val (.int p1), .val (.int p2), .val (.int p3), .val (.int p4), .val (.int p5), .val (.int (0 : Int32)), .val (.int (1 : Int32)), .val (.ref ia14), .unset, .unset, .unset, .unset, .unset]) rfl k) ?_
      have J15 : ∀ (Tj15 : State) (hj15 : Heap) (Lj15 : List Loc) (vj41 : Value), Stand p l e room_1 s m #[(.int p1), (.int p2), (.int p3), (.int p4), (.int p5)] below meth c Tj15 Lj15 4 9 → Tj15.heap = hj15 → Mv h0 hj15 [] Lj15 → Sta Z hj15 "java/lang/String" "COMPACT_STRINGS" "Z" (.int zc) → Sta Z hj15 "java/lang/Integer$IntegerCache" "high" "I" (.int (127 : Int32)) → Sta Z hj15 "java/lang/Integer$IntegerCache" "cache" "[Ljava/lang/Integer;" (.ref ca) → RefArr Z hj15 ca → vj41.isRef = true → Go p e below P Tj15 (mkF m 82 #[.val (.int p1), .val (.int p2), .val (.int p3), .val (.int p4), .val (.int p5), .val (.int (0 : Int32)), .val (.int (1 : Int32)), .val (.ref ia14), .unset, .unset, .unset, .unset, .unset] [vj41]) := by
        intro Tj15 hj15 Lj15 vj41 Xj15 ej15 Mj15 Z_cs Z_high Z_cache B_ca hvj41
        refine Go.of (T' := Tj15) (f' := (mkF m 84 #[.val (.int p1), .val (.int p2), .val (.int p3), .val (.int p4), .val (.int p5), .val (.int (0 : Int32)), .val (.int (1 : Int32)), .val (.ref ia14), .val vj41, .unset, .unset, .unset, .unset] [])) (fun _ k => XS.astore Xj15.here hx rfl (hb hby at_82) rfl hvj41 (l' := #[.val (.int p1), .val (.int p2), .val (.int p3), .val (.int p4), .val (.int p5), .val (.int (0 : Int32)), .val (.int (1 : Int32)), .val (.ref ia14), .val vj41, .unset, .unset, .unset, .unset]) (by first | rfl | exact XS.store1 rfl (Or.inl rfl) (refcat hvj41)) k) ?_
        have J16 : ∀ (Tj16 : State) (hj16 : Heap) (Lj16 : List Loc) (vj84 : Value), Stand p l e room_1 s m #[(.int p1), (.int p2), (.int p3), (.int p4), (.int p5)] below meth c Tj16 Lj16 7 17 → Tj16.heap = hj16 → Mv h0 hj16 [] Lj16 → Sta Z hj16 "java/lang/String" "COMPACT_STRINGS" "Z" (.int zc) → Sta Z hj16 "java/lang/Integer$IntegerCache" "high" "I" (.int (127 : Int32)) → Sta Z hj16 "java/lang/Integer$IntegerCache" "cache" "[Ljava/lang/Integer;" (.ref ca) → RefArr Z hj16 ca → vj84.isRef = true → Go p e below P Tj16 (mkF m 105 #[.val (.int p1), .val (.int p2), .val (.int p3), .val (.int p4), .val (.int p5), .val (.int (0 : Int32)), .val (.int (1 : Int32)), .val (.ref ia14), .val vj41, .unset, .unset, .unset, .unset] [vj84]) := by
          intro Tj16 hj16 Lj16 vj84 Xj16 ej16 Mj16 Z_cs Z_high Z_cache B_ca hvj84
          refine Go.of (T' := Tj16) (f' := (mkF m 107 #[.val (.int p1), .val (.int p2), .val (.int p3), .val (.int p4), .val (.int p5), .val (.int (0 : Int32)), .val (.int (1 : Int32)), .val (.ref ia14), .val vj41, .val vj84, .unset, .unset, .unset] [])) (fun _ k => XS.astore Xj16.here hx rfl (hb hby at_105) rfl hvj84 (l' := #[.val (.int p1), .val (.int p2), .val (.int p3), .val (.int p4), .val (.int p5), .val (.int (0 : Int32)), .val (.int (1 : Int32)), .val (.ref ia14), .val vj41, .val vj84, .unset, .unset, .unset]) (by first | rfl | exact XS.store1 rfl (Or.inl rfl) (refcat hvj84)) k) ?_
          have J17 : ∀ (Tj17 : State) (hj17 : Heap) (Lj17 : List Loc) (vj107 : Value), Stand p l e room_1 s m #[(.int p1), (.int p2), (.int p3), (.int p4), (.int p5)] below meth c Tj17 Lj17 10 25 → Tj17.heap = hj17 → Mv h0 hj17 [] Lj17 → Sta Z hj17 "java/lang/String" "COMPACT_STRINGS" "Z" (.int zc) → Sta Z hj17 "java/lang/Integer$IntegerCache" "high" "I" (.int (127 : Int32)) → Sta Z hj17 "java/lang/Integer$IntegerCache" "cache" "[Ljava/lang/Integer;" (.ref ca) → RefArr Z hj17 ca → vj107.isRef = true → Go p e below P Tj17 (mkF m 131 #[.val (.int p1), .val (.int p2), .val (.int p3), .val (.int p4), .val (.int p5), .val (.int (0 : Int32)), .val (.int (1 : Int32)), .val (.ref ia14), .val vj41, .val vj84, .unset, .unset, .unset] [vj107]) := by
            intro Tj17 hj17 Lj17 vj107 Xj17 ej17 Mj17 Z_cs Z_high Z_cache B_ca hvj107
            refine Go.of (T' := Tj17) (f' := (mkF m 133 #[.val (.int p1), .val (.int p2), .val (.int p3), .val (.int p4), .val (.int p5), .val (.int (0 : Int32)), .val (.int (1 : Int32)), .val (.ref ia14), .val vj41, .val vj84, .val vj107, .unset, .unset] [])) (fun _ k => XS.astore Xj17.here hx rfl (hb hby at_131) rfl hvj107 (l' := #[.val (.int p1), .val (.int p2), .val (.int p3), .val (.int p4), .val (.int p5), .val (.int (0 : Int32)), .val (.int (1 : Int32)), .val (.ref ia14), .val vj41, .val vj84, .val vj107, .unset, .unset]) (by first | rfl | exact XS.store1 rfl (Or.inl rfl) (refcat hvj107)) k) ?_
            obtain ⟨T18, h18, X18, e18, E18, A18, D18, -, st18⟩ := newO Xj17 hx hZ hown (hw _ (List.mem_of_getElem? (i := 44) rfl)) (hw _ (List.mem_of_getElem? (i := 45) rfl)) (hw _ (List.mem_of_getElem? (i := 46) rfl)) ej17 (g := (mkF m 133 #[.val (.int p1), .val (.int p2), .val (.int p3), .val (.int p4), .val (.int p5), .val (.int (0 : Int32)), .val (.int (1 : Int32)), .val (.ref ia14), .val vj41, .val vj84, .val vj107, .unset, .unset] [])) rfl (hb hby at_133) (by decide) (by decide)
            obtain ⟨b18, g18⟩ : ∃ z, z = hj17.size := ⟨_, rfl⟩
            rw [← g18] at A18 D18 st18
            have ne_ca_b18 : ca ≠ b18 := Nat.ne_of_lt (Nat.lt_of_lt_of_le B_ca.lt1 (Nat.le_of_eq g18.symm))
            have fr_b18 : h0.size ≤ b18 := Nat.le_trans Mj17.le (Nat.le_of_eq g18.symm)
            have K18 := keepE E18
            have M18 := Mj17.ext E18
            replace Z_cs := StaKeep Z_cs K18 all0
            replace Z_high := StaKeep Z_high K18 all0
            replace Z_cache := StaKeep Z_cache K18 all0
            replace B_ca := B_ca.keep K18 nin0
            have E_b18 := A18
            have F_step_b18 : Fld Z h18 b18 "com/example/stratify/stratify/Problem" "step" "Ljava/lang/String;" .null := D18 (Or.inr (hw _ (List.mem_of_getElem? (i := 57) rfl))) (ty := (.object "java/lang/String")) (by decide)
            have F_rolledBack_b18 : Fld Z h18 b18 "com/example/stratify/stratify/Problem" "rolledBack" "Z" (.int (0 : Int32)) := D18 (Or.inr (hw _ (List.mem_of_getElem? (i := 59) rfl))) (ty := .boolean) (by decide)
            have F_statement_b18 : Fld Z h18 b18 "com/example/stratify/stratify/Problem" "statement" "Ljava/lang/Integer;" .null := D18 (Or.inr (hw _ (List.mem_of_getElem? (i := 61) rfl))) (ty := (.object "java/lang/Integer")) (by decide)
            have F_statements_b18 : Fld Z h18 b18 "com/example/stratify/stratify/Problem" "statements" "I" (.int (0 : Int32)) := D18 (Or.inr (hw _ (List.mem_of_getElem? (i := 63) rfl))) (ty := .int) (by decide)
            have F_sql_b18 : Fld Z h18 b18 "com/example/stratify/stratify/Problem" "sql" "Ljava/lang/String;" .null := D18 (Or.inr (hw _ (List.mem_of_getElem? (i := 65) rfl))) (ty := (.object "java/lang/String")) (by decide)
            have F_error_b18 : Fld Z h18 b18 "com/example/stratify/stratify/Problem" "error" "Ljava/lang/String;" .null := D18 (Or.inr (hw _ (List.mem_of_getElem? (i := 67) rfl))) (ty := (.object "java/lang/String")) (by decide)
            refine Go.of (T' := T18) (f' := (mkF m 136 #[.val (.int p1), .val (.int p2), .val (.int p3), .val (.int p4), .val (.int p5), .val (.int (0 : Int32)), .val (.int (1 : Int32)), .val (.ref ia14), .val vj41, .val vj84, .val vj107, .unset, .unset] [(.ref b18)])) st18 ?_
            refine Go.of (T' := T18) (f' := (mkF m 137 #[.val (.int p1), .val (.int p2), .val (.int p3), .val (.int p4), .val (.int p5), .val (.int (0 : Int32)), .val (.int (1 : Int32)), .val (.ref ia14), .val vj41, .val vj84, .val vj107, .unset, .unset] [(.ref b18), (.ref b18)])) (fun _ k => XS.dup X18.here hx rfl (hb hby at_136) rfl rfl k) ?_
            refine Go.of (T' := T18) (f' := (mkF m 139 #[.val (.int p1), .val (.int p2), .val (.int p3), .val (.int p4), .val (.int p5), .val (.int (0 : Int32)), .val (.int (1 : Int32)), .val (.ref ia14), .val vj41, .val vj84, .val vj107, .unset, .unset] [vj41, (.ref b18), (.ref b18)])) (fun _ k => XS.aload X18.here hx rfl (hb hby at_137) rfl hvj41 k) ?_
            refine Go.of (T' := T18) (f' := (mkF m 141 #[.val (.int p1), .val (.int p2), .val (.int p3), .val (.int p4), .val (.int p5), .val (.int (0 : Int32)), .val (.int (1 : Int32)), .val (.ref ia14), .val vj41, .val vj84, .val vj107, .unset, .unset] [(.int (0 : Int32)), vj41, (.ref b18), (.ref b18)])) (fun _ k => XS.iload X18.here hx rfl (hb hby at_139) rfl k) ?_
            refine Go.of (T' := T18) (f' := (mkF m 143 #[.val (.int p1), .val (.int p2), .val (.int p3), .val (.int p4), .val (.int p5), .val (.int (0 : Int32)), .val (.int (1 : Int32)), .val (.ref ia14), .val vj41, .val vj84, .val vj107, .unset, .unset] [(.ref ia14), (.int (0 : Int32)), vj41, (.ref b18), (.ref b18)])) (fun _ k => XS.aload X18.here hx rfl (hb hby at_141) rfl rfl k) ?_
            refine Go.of (T' := T18) (f' := (mkF m 144 #[.val (.int p1), .val (.int p2), .val (.int p3), .val (.int p4), .val (.int p5), .val (.int (0 : Int32)), .val (.int (1 : Int32)), .val (.ref ia14), .val vj41, .val vj84, .val vj107, .unset, .unset] [(.int p3), (.ref ia14), (.int (0 : Int32)), vj41, (.ref b18), (.ref b18)])) (fun _ k => XS.iloadN X18.here hx rfl (hb hby at_143) rfl k) ?_
            refine Go.of (T' := T18) (f' := (mkF m 146 #[.val (.int p1), .val (.int p2), .val (.int p3), .val (.int p4), .val (.int p5), .val (.int (0 : Int32)), .val (.int (1 : Int32)), .val (.ref ia14), .val vj41, .val vj84, .val vj107, .unset, .unset] [vj84, (.int p3), (.ref ia14), (.int (0 : Int32)), vj41, (.ref b18), (.ref b18)])) (fun _ k => XS.aload X18.here hx rfl (hb hby at_144) rfl hvj84 k) ?_
            refine Go.of (T' := T18) (f' := (mkF m 148 #[.val (.int p1), .val (.int p2), .val (.int p3), .val (.int p4), .val (.int p5), .val (.int (0 : Int32)), .val (.int (1 : Int32)), .val (.ref ia14), .val vj41, .val vj84, .val vj107, .unset, .unset] [vj107, vj84, (.int p3), (.ref ia14), (.int (0 : Int32)), vj41, (.ref b18), (.ref b18)])) (fun _ k => XS.aload X18.here hx rfl (hb hby at_146) rfl hvj107 k) ?_
            refine goI X18 hx hZ rfl hown (hw _ (List.mem_of_getElem? (i := 47) rfl)) (hw _ (List.mem_of_getElem? (i := 48) rfl)) (hw _ (List.mem_of_getElem? (i := 49) rfl)) (by decide) (C := 0) (S := 0) ((rm_problem l Z a0 hw b18 vj41 (0 : Int32) (.ref ia14) p3 vj84 vj107 h18 E_b18 F_step_b18 F_rolledBack_b18 F_statement_b18 F_statements_b18 F_sql_b18 F_error_b18 hvj41 (by simp) rfl hvj84 hvj107).bk (W := 1) hZ (hw _ (List.mem_of_getElem? (i := 49) rfl)) (hw _ (List.mem_of_getElem? (i := 46) rfl)) (by decide) (by decide)) e18 (argsL := [vj41, (.int (0 : Int32)), (.ref ia14), (.int p3), vj84, vj107]) (rest := [(.ref b18)]) (by rw [hml]; rfl) (lenOf pd__Ljava_lang_String_ZLjava_lang_Integer_ILjava_lang_String_Ljava_lang_String__V rfl) rfl rfl (hb hby at_148) (Nat.le_of_eq rfl) (by decide) (by decide) ?_
            intro v19 T19 L19 X19 hQ19
            obtain ⟨h19, e19⟩ : ∃ z, T19.heap = z := ⟨_, rfl⟩
            rw [e19] at hQ19
            have E_b18_o := E_b18
            obtain ⟨rfl, Mc19, Ec19, Fc19_0, Fc19_1, Fc19_2, Fc19_3, Fc19_4, Fc19_5⟩ := hQ19
            have M19 := M18.app Mc19 (allS (Or.inr fr_b18) all0)
            replace Z_cs := StaKeep Z_cs Mc19.1 (allS (staExa E_b18_o) all0)
            replace Z_high := StaKeep Z_high Mc19.1 (allS (staExa E_b18_o) all0)
            replace Z_cache := StaKeep Z_cache Mc19.1 (allS (staExa E_b18_o) all0)
            replace B_ca := B_ca.keep Mc19.1 (ninS ne_ca_b18 nin0)
            replace E_b18 := Ec19
            have F_step_b18 := Fc19_0
            have F_rolledBack_b18 := Fc19_1
            have F_statement_b18 := Fc19_2
            have F_statements_b18 := Fc19_3
            have F_sql_b18 := Fc19_4
            have F_error_b18 := Fc19_5
            show Go p e below P T19 (mkF m 151 #[.val (.int p1), .val (.int p2), .val (.int p3), .val (.int p4), .val (.int p5), .val (.int (0 : Int32)), .val (.int (1 : Int32)), .val (.ref ia14), .val vj41, .val vj84, .val vj107, .unset, .unset] [(.ref b18)])
            refine Go.of (T' := T19) (f' := (mkF m 153 #[.val (.int p1), .val (.int p2), .val (.int p3), .val (.int p4), .val (.int p5), .val (.int (0 : Int32)), .val (.int (1 : Int32)), .val (.ref ia14), .val vj41, .val vj84, .val vj107, .val (.ref b18), .unset] [])) (fun _ k => XS.astore X19.here hx rfl (hb hby at_151) rfl rfl (l' := #[.val (.int p1), .val (.int p2), .val (.int p3), .val (.int p4), .val (.int p5), .val (.int (0 : Int32)), .val (.int (1 : Int32)), .val (.ref ia14), .val vj41, .val vj84, .val vj107, .val (.ref b18), .unset]) rfl k) ?_
            refine Go.of (T' := T19) (f' := (mkF m 155 #[.val (.int p1), .val (.int p2), .val (.int p3), .val (.int p4), .val (.int p5), .val (.int (0 : Int32)), .val (.int (1 : Int32)), .val (.ref ia14), .val vj41, .val vj84, .val vj107, .val (.ref b18), .unset] [(.int (0 : Int32))])) (fun _ k => XS.iload X19.here hx rfl (hb hby at_153) rfl k) ?_
            refine Go.of (T' := T19) (f' := (mkF m 164 #[.val (.int p1), .val (.int p2), .val (.int p3), .val (.int p4), .val (.int p5), .val (.int (0 : Int32)), .val (.int (1 : Int32)), .val (.ref ia14), .val vj41, .val vj84, .val vj107, .val (.ref b18), .unset] [])) (fun _ k => XS.ifYes X19.here hx rfl (pc0 := 155) (pc' := 164) rfl (hb hby at_155) rfl (by decide) (by decide) (by decide) k) ?_
            refine Go.of (T' := T19) (f' := (mkF m 166 #[.val (.int p1), .val (.int p2), .val (.int p3), .val (.int p4), .val (.int p5), .val (.int (0 : Int32)), .val (.int (1 : Int32)), .val (.ref ia14), .val vj41, .val vj84, .val vj107, .val (.ref b18), .unset] [(.int (1 : Int32))])) (fun _ k => XS.iload X19.here hx rfl (hb hby at_164) rfl k) ?_
            refine Go.of (T' := T19) (f' := (mkF m 169 #[.val (.int p1), .val (.int p2), .val (.int p3), .val (.int p4), .val (.int p5), .val (.int (0 : Int32)), .val (.int (1 : Int32)), .val (.ref ia14), .val vj41, .val vj84, .val vj107, .val (.ref b18), .unset] [])) (fun _ k => XS.ifNo X19.here hx rfl (hb hby at_166) rfl (by decide) k) ?_
            refine Go.of (T' := T19) (f' := (mkF m 170 #[.val (.int p1), .val (.int p2), .val (.int p3), .val (.int p4), .val (.int p5), .val (.int (0 : Int32)), .val (.int (1 : Int32)), .val (.ref ia14), .val vj41, .val vj84, .val vj107, .val (.ref b18), .unset] [(.int (0 : Int32))])) (fun _ k => XS.iconst X19.here hx rfl (hb hby at_169) k) ?_
            refine Go.of (T' := T19) (f' := (mkF m 172 #[.val (.int p1), .val (.int p2), .val (.int p3), .val (.int p4), .val (.int p5), .val (.int (0 : Int32)), .val (.int (1 : Int32)), .val (.ref ia14), .val vj41, .val vj84, .val vj107, .val (.ref b18), .val (.int (0 : Int32))] [])) (fun _ k => XS.istore X19.here hx rfl (hb hby at_170) rfl (l' := #[.val (.int p1), .val (.int p2), .val (.int p3), .val (.int p4), .val (.int p5), .val (.int (0 : Int32)), .val (.int (1 : Int32)), .val (.ref ia14), .val vj41, .val vj84, .val vj107, .val (.ref b18), .val (.int (0 : Int32))]) rfl k) ?_
            refine Go.of (T' := T19) (f' := (mkF m 178 #[.val (.int p1), .val (.int p2), .val (.int p3), .val (.int p4), .val (.int p5), .val (.int (0 : Int32)), .val (.int (1 : Int32)), .val (.ref ia14), .val vj41, .val vj84, .val vj107, .val (.ref b18), .val (.int (0 : Int32))] [])) (fun _ k => XS.goto X19.here hx rfl (pc0 := 172) (pc' := 178) rfl (hb hby at_172) (by decide) (by decide) k) ?_
            refine Go.of (T' := T19) (f' := (mkF m 180 #[.val (.int p1), .val (.int p2), .val (.int p3), .val (.int p4), .val (.int p5), .val (.int (0 : Int32)), .val (.int (1 : Int32)), .val (.ref ia14), .val vj41, .val vj84, .val vj107, .val (.ref b18), .val (.int (0 : Int32))] [(.ref b18)])) (fun _ k => XS.aload X19.here hx rfl (hb hby at_178) rfl rfl k) ?_
            refine goV X19 hx hZ (y := (⟨"com/example/stratify/stratify/Problem", "mayBeUnderWay", "()Z"⟩ : MethodName)) (z := (⟨"com/example/stratify/stratify/Problem", "mayBeUnderWay", "()Z"⟩ : MethodName)) hown (hw _ (List.mem_of_getElem? (i := 68) rfl)) (hw _ (List.mem_of_getElem? (i := 69) rfl)) (notFace_of_selects (args := #[]) (mvT hZ (hw _ (List.mem_of_getElem? (i := 71) rfl)))) (hw _ (List.mem_of_getElem? (i := 71) rfl)) (hw _ (List.mem_of_getElem? (i := 70) rfl)) (by decide) (C := 0) (S := 0) ((rm_may3 l Z a0 hw b18 ia14 h19 F_rolledBack_b18 F_statement_b18).bk (W := 0) hZ (hw _ (List.mem_of_getElem? (i := 72) rfl)) (hw _ (List.mem_of_getElem? (i := 46) rfl)) (by decide) (by decide)) e19 E_b18 (argsL := []) (rest := []) (by rw [hml]; rfl) (lenOf pd___Z rfl) rfl rfl (hb hby at_180) (Nat.le_of_eq rfl) (by decide) (by decide) ?_
            intro v20 T20 L20 X20 hQ20
            obtain ⟨nq20, e20, rfl⟩ := hQ20
            replace X20 := standNil X20 nq20
            show Go p e below P T20 (mkF m 183 #[.val (.int p1), .val (.int p2), .val (.int p3), .val (.int p4), .val (.int p5), .val (.int (0 : Int32)), .val (.int (1 : Int32)), .val (.ref ia14), .val vj41, .val vj84, .val vj107, .val (.ref b18), .val (.int (0 : Int32))] [(.int (0 : Int32))])
            refine Go.of (T' := T20) (f' := (mkF m 185 #[.val (.int p1), .val (.int p2), .val (.int p3), .val (.int p4), .val (.int p5), .val (.int (0 : Int32)), .val (.int (1 : Int32)), .val (.ref ia14), .val vj41, .val vj84, .val vj107, .val (.ref b18), .val (.int (0 : Int32))] [(.int (0 : Int32)), (.int (0 : Int32))])) (fun _ k => XS.iload X20.here hx rfl (hb hby at_183) rfl k) ?_
            refine Go.of (T' := T20) (f' := (mkF m 188 #[.val (.int p1), .val (.int p2), .val (.int p3), .val (.int p4), .val (.int p5), .val (.int (0 : Int32)), .val (.int (1 : Int32)), .val (.ref ia14), .val vj41, .val vj84, .val vj107, .val (.ref b18), .val (.int (0 : Int32))] [])) (fun _ k => XS.icmpNo X20.here hx rfl (hb hby at_185) rfl (by decide) k) ?_
            refine Go.of (T' := T20) (f' := (mkF m 189 #[.val (.int p1), .val (.int p2), .val (.int p3), .val (.int p4), .val (.int p5), .val (.int (0 : Int32)), .val (.int (1 : Int32)), .val (.ref ia14), .val vj41, .val vj84, .val vj107, .val (.ref b18), .val (.int (0 : Int32))] [(.int (1 : Int32))])) (fun _ k => XS.iconst X20.here hx rfl (hb hby at_188) k) ?_
            refine Go.of (T' := T20) (f' := (mkF m 193 #[.val (.int p1), .val (.int p2), .val (.int p3), .val (.int p4), .val (.int p5), .val (.int (0 : Int32)), .val (.int (1 : Int32)), .val (.ref ia14), .val vj41, .val vj84, .val vj107, .val (.ref b18), .val (.int (0 : Int32))] [(.int (1 : Int32))])) (fun _ k => XS.goto X20.here hx rfl (pc0 := 189) (pc' := 193) rfl (hb hby at_189) (by decide) (by decide) k) ?_
            exact goRetI (Q := fun v h L => v = some (.int 1) ∧ Mv h0 h [] L) X20 hx (t := .boolean) hret hlk rfl (by simp) (hb hby at_193) K (by decide) (by decide) e20 (⟨rfl, M19⟩)
          refine Go.of (T' := Tj16) (f' := (mkF m 108 #[.val (.int p1), .val (.int p2), .val (.int p3), .val (.int p4), .val (.int p5), .val (.int (0 : Int32)), .val (.int (1 : Int32)), .val (.ref ia14), .val vj41, .val vj84, .unset, .unset, .unset] [(.int p1)])) (fun _ k => XS.iloadN Xj16.here hx rfl (hb hby at_107) rfl k) ?_
          refine Go.of (T' := Tj16) (f' := (mkF m 110 #[.val (.int p1), .val (.int p2), .val (.int p3), .val (.int p4), .val (.int p5), .val (.int (0 : Int32)), .val (.int (1 : Int32)), .val (.ref ia14), .val vj41, .val vj84, .unset, .unset, .unset] [(.int (16 : Int32)), (.int p1)])) (fun _ k => XS.bipush Xj16.here hx rfl (hb hby at_108) k) ?_
          refine Go.of (T' := Tj16) (f' := (mkF m 111 #[.val (.int p1), .val (.int p2), .val (.int p3), .val (.int p4), .val (.int p5), .val (.int (0 : Int32)), .val (.int (1 : Int32)), .val (.ref ia14), .val vj41, .val vj84, .unset, .unset, .unset] [(.int (p1 &&& (16 : Int32)))])) (fun _ k => XS.iand Xj16.here hx rfl (hb hby at_110) rfl k) ?_
          by_cases hc111 : (p1 &&& (16 : Int32)) = (0 : Int32)
          ·
            refine Go.of (T' := Tj16) (f' := (mkF m 118 #[.val (.int p1), .val (.int p2), .val (.int p3), .val (.int p4), .val (.int p5), .val (.int (0 : Int32)), .val (.int (1 : Int32)), .val (.ref ia14), .val vj41, .val vj84, .unset, .unset, .unset] [])) (fun _ k => XS.ifYes Xj16.here hx rfl (pc0 := 111) (pc' := 118) rfl (hb hby at_111) rfl ((if0 _ _).trans (teq hc111).1) (by decide) (by decide) k) ?_
            refine Go.of (T' := Tj16) (f' := (mkF m 120 #[.val (.int p1), .val (.int p2), .val (.int p3), .val (.int p4), .val (.int p5), .val (.int (0 : Int32)), .val (.int (1 : Int32)), .val (.ref ia14), .val vj41, .val vj84, .unset, .unset, .unset] [(.int p5)])) (fun _ k => XS.iload Xj16.here hx rfl (hb hby at_118) rfl k) ?_
            refine Go.of (T' := Tj16) (f' := (mkF m 122 #[.val (.int p1), .val (.int p2), .val (.int p3), .val (.int p4), .val (.int p5), .val (.int (0 : Int32)), .val (.int (1 : Int32)), .val (.ref ia14), .val vj41, .val vj84, .unset, .unset, .unset] [(.int (8 : Int32)), (.int p5)])) (fun _ k => XS.bipush Xj16.here hx rfl (hb hby at_120) k) ?_
            refine Go.of (T' := Tj16) (f' := (mkF m 123 #[.val (.int p1), .val (.int p2), .val (.int p3), .val (.int p4), .val (.int p5), .val (.int (0 : Int32)), .val (.int (1 : Int32)), .val (.ref ia14), .val vj41, .val vj84, .unset, .unset, .unset] [(.int ((p5.toUInt32 >>> ((8 : Int32) &&& 31).toUInt32).toInt32))])) (fun _ k => XS.iushr Xj16.here hx rfl (hb hby at_122) rfl k) ?_
            refine Go.of (T' := Tj16) (f' := (mkF m 126 #[.val (.int p1), .val (.int p2), .val (.int p3), .val (.int p4), .val (.int p5), .val (.int (0 : Int32)), .val (.int (1 : Int32)), .val (.ref ia14), .val vj41, .val vj84, .unset, .unset, .unset] [(.int (255 : Int32)), (.int ((p5.toUInt32 >>> ((8 : Int32) &&& 31).toUInt32).toInt32))])) (fun _ k => XS.sipush Xj16.here hx rfl (hb hby at_123) k) ?_
            refine Go.of (T' := Tj16) (f' := (mkF m 127 #[.val (.int p1), .val (.int p2), .val (.int p3), .val (.int p4), .val (.int p5), .val (.int (0 : Int32)), .val (.int (1 : Int32)), .val (.ref ia14), .val vj41, .val vj84, .unset, .unset, .unset] [(.int (((p5.toUInt32 >>> ((8 : Int32) &&& 31).toUInt32).toInt32) &&& (255 : Int32)))])) (fun _ k => XS.iand Xj16.here hx rfl (hb hby at_126) rfl k) ?_
            refine Go.of (T' := Tj16) (f' := (mkF m 128 #[.val (.int p1), .val (.int p2), .val (.int p3), .val (.int p4), .val (.int p5), .val (.int (0 : Int32)), .val (.int (1 : Int32)), .val (.ref ia14), .val vj41, .val vj84, .unset, .unset, .unset] [(.int ((((p5.toUInt32 >>> ((8 : Int32) &&& 31).toUInt32).toInt32) &&& (255 : Int32)).toUInt32.toUInt16.toUInt32.toInt32))])) (fun _ k => XS.i2c Xj16.here hx rfl (hb hby at_127) rfl k) ?_
            refine goS Xj16 hx hZ hown (hw _ (List.mem_of_getElem? (i := 30) rfl)) (hw _ (List.mem_of_getElem? (i := 31) rfl)) (hw _ (List.mem_of_getElem? (i := 2) rfl)) (hw _ (List.mem_of_getElem? (i := 32) rfl)) (by decide) (C := 2) (S := 5) ((rm_valueOf l Z a0 hw ((((p5.toUInt32 >>> ((8 : Int32) &&& 31).toUInt32).toInt32) &&& (255 : Int32)).toUInt32.toUInt16.toUInt32.toInt32) zc hj16 (m255 _) Z_cs hz).bk (W := 0) hZ (hw _ (List.mem_of_getElem? (i := 32) rfl)) (hw _ (List.mem_of_getElem? (i := 2) rfl)) (by decide) (by decide)) ej16 (argsL := [(.int ((((p5.toUInt32 >>> ((8 : Int32) &&& 31).toUInt32).toInt32) &&& (255 : Int32)).toUInt32.toUInt16.toUInt32.toInt32))]) (rest := []) (by rw [hml]; rfl) (lenOf pd__C_Ljava_lang_String_ rfl) rfl rfl (hb hby at_128) (Nat.le_of_eq rfl) (by decide) (by decide) ?_
            intro v21 T21 L21 X21 hQ21
            obtain ⟨h21, e21⟩ : ∃ z, T21.heap = z := ⟨_, rfl⟩
            rw [e21] at hQ21
            obtain ⟨Mc21, a21, t21, rfl, le21, lf21, ne_a21_t21, S_a21⟩ := hQ21
            have ne_ca_a21 : ca ≠ a21 := Nat.ne_of_lt (Nat.lt_of_lt_of_le B_ca.lt1 le21)
            have fr_a21 : h0.size ≤ a21 := Nat.le_trans Mj16.le le21
            have ne_ca_t21 : ca ≠ t21 := Nat.ne_of_lt (Nat.lt_of_lt_of_le B_ca.lt1 lf21)
            have fr_t21 : h0.size ≤ t21 := Nat.le_trans Mj16.le lf21
            have M21 := Mj16.app0 Mc21
            replace Z_cs := StaKeep Z_cs Mc21.1 all0
            replace Z_high := StaKeep Z_high Mc21.1 all0
            replace Z_cache := StaKeep Z_cache Mc21.1 all0
            replace B_ca := B_ca.keep Mc21.1 nin0
            show Go p e below P T21 (mkF m 131 #[.val (.int p1), .val (.int p2), .val (.int p3), .val (.int p4), .val (.int p5), .val (.int (0 : Int32)), .val (.int (1 : Int32)), .val (.ref ia14), .val vj41, .val vj84, .unset, .unset, .unset] [(.ref a21)])
            exact J17 T21 h21 _ (.ref a21) (standUp X21 (by decide) (by decide)) e21 M21 Z_cs Z_high Z_cache B_ca rfl
          ·
            refine Go.of (T' := Tj16) (f' := (mkF m 114 #[.val (.int p1), .val (.int p2), .val (.int p3), .val (.int p4), .val (.int p5), .val (.int (0 : Int32)), .val (.int (1 : Int32)), .val (.ref ia14), .val vj41, .val vj84, .unset, .unset, .unset] [])) (fun _ k => XS.ifNo Xj16.here hx rfl (hb hby at_111) rfl ((if0 _ _).trans (feq hc111).1) k) ?_
            refine Go.of (T' := Tj16) (f' := (mkF m 115 #[.val (.int p1), .val (.int p2), .val (.int p3), .val (.int p4), .val (.int p5), .val (.int (0 : Int32)), .val (.int (1 : Int32)), .val (.ref ia14), .val vj41, .val vj84, .unset, .unset, .unset] [.null])) (fun _ k => XS.aconstNull Xj16.here hx rfl (hb hby at_114) k) ?_
            refine Go.of (T' := Tj16) (f' := (mkF m 131 #[.val (.int p1), .val (.int p2), .val (.int p3), .val (.int p4), .val (.int p5), .val (.int (0 : Int32)), .val (.int (1 : Int32)), .val (.ref ia14), .val vj41, .val vj84, .unset, .unset, .unset] [.null])) (fun _ k => XS.goto Xj16.here hx rfl (pc0 := 115) (pc' := 131) rfl (hb hby at_115) (by decide) (by decide) k) ?_
            exact J17 Tj16 hj16 _ .null (standUp Xj16 (by decide) (by decide)) ej16 Mj16 Z_cs Z_high Z_cache B_ca rfl
        refine Go.of (T' := Tj15) (f' := (mkF m 85 #[.val (.int p1), .val (.int p2), .val (.int p3), .val (.int p4), .val (.int p5), .val (.int (0 : Int32)), .val (.int (1 : Int32)), .val (.ref ia14), .val vj41, .unset, .unset, .unset, .unset] [(.int p1)])) (fun _ k => XS.iloadN Xj15.here hx rfl (hb hby at_84) rfl k) ?_
        refine Go.of (T' := Tj15) (f' := (mkF m 87 #[.val (.int p1), .val (.int p2), .val (.int p3), .val (.int p4), .val (.int p5), .val (.int (0 : Int32)), .val (.int (1 : Int32)), .val (.ref ia14), .val vj41, .unset, .unset, .unset, .unset] [(.int (8 : Int32)), (.int p1)])) (fun _ k => XS.bipush Xj15.here hx rfl (hb hby at_85) k) ?_
        refine Go.of (T' := Tj15) (f' := (mkF m 88 #[.val (.int p1), .val (.int p2), .val (.int p3), .val (.int p4), .val (.int p5), .val (.int (0 : Int32)), .val (.int (1 : Int32)), .val (.ref ia14), .val vj41, .unset, .unset, .unset, .unset] [(.int (p1 &&& (8 : Int32)))])) (fun _ k => XS.iand Xj15.here hx rfl (hb hby at_87) rfl k) ?_
        by_cases hc88 : (p1 &&& (8 : Int32)) = (0 : Int32)
        ·
          refine Go.of (T' := Tj15) (f' := (mkF m 95 #[.val (.int p1), .val (.int p2), .val (.int p3), .val (.int p4), .val (.int p5), .val (.int (0 : Int32)), .val (.int (1 : Int32)), .val (.ref ia14), .val vj41, .unset, .unset, .unset, .unset] [])) (fun _ k => XS.ifYes Xj15.here hx rfl (pc0 := 88) (pc' := 95) rfl (hb hby at_88) rfl ((if0 _ _).trans (teq hc88).1) (by decide) (by decide) k) ?_
          refine Go.of (T' := Tj15) (f' := (mkF m 97 #[.val (.int p1), .val (.int p2), .val (.int p3), .val (.int p4), .val (.int p5), .val (.int (0 : Int32)), .val (.int (1 : Int32)), .val (.ref ia14), .val vj41, .unset, .unset, .unset, .unset] [(.int p5)])) (fun _ k => XS.iload Xj15.here hx rfl (hb hby at_95) rfl k) ?_
          refine Go.of (T' := Tj15) (f' := (mkF m 100 #[.val (.int p1), .val (.int p2), .val (.int p3), .val (.int p4), .val (.int p5), .val (.int (0 : Int32)), .val (.int (1 : Int32)), .val (.ref ia14), .val vj41, .unset, .unset, .unset, .unset] [(.int (255 : Int32)), (.int p5)])) (fun _ k => XS.sipush Xj15.here hx rfl (hb hby at_97) k) ?_
          refine Go.of (T' := Tj15) (f' := (mkF m 101 #[.val (.int p1), .val (.int p2), .val (.int p3), .val (.int p4), .val (.int p5), .val (.int (0 : Int32)), .val (.int (1 : Int32)), .val (.ref ia14), .val vj41, .unset, .unset, .unset, .unset] [(.int (p5 &&& (255 : Int32)))])) (fun _ k => XS.iand Xj15.here hx rfl (hb hby at_100) rfl k) ?_
          refine Go.of (T' := Tj15) (f' := (mkF m 102 #[.val (.int p1), .val (.int p2), .val (.int p3), .val (.int p4), .val (.int p5), .val (.int (0 : Int32)), .val (.int (1 : Int32)), .val (.ref ia14), .val vj41, .unset, .unset, .unset, .unset] [(.int ((p5 &&& (255 : Int32)).toUInt32.toUInt16.toUInt32.toInt32))])) (fun _ k => XS.i2c Xj15.here hx rfl (hb hby at_101) rfl k) ?_
          refine goS Xj15 hx hZ hown (hw _ (List.mem_of_getElem? (i := 30) rfl)) (hw _ (List.mem_of_getElem? (i := 31) rfl)) (hw _ (List.mem_of_getElem? (i := 2) rfl)) (hw _ (List.mem_of_getElem? (i := 32) rfl)) (by decide) (C := 2) (S := 5) ((rm_valueOf l Z a0 hw ((p5 &&& (255 : Int32)).toUInt32.toUInt16.toUInt32.toInt32) zc hj15 (m255 _) Z_cs hz).bk (W := 0) hZ (hw _ (List.mem_of_getElem? (i := 32) rfl)) (hw _ (List.mem_of_getElem? (i := 2) rfl)) (by decide) (by decide)) ej15 (argsL := [(.int ((p5 &&& (255 : Int32)).toUInt32.toUInt16.toUInt32.toInt32))]) (rest := []) (by rw [hml]; rfl) (lenOf pd__C_Ljava_lang_String_ rfl) rfl rfl (hb hby at_102) (Nat.le_of_eq rfl) (by decide) (by decide) ?_
          intro v22 T22 L22 X22 hQ22
          obtain ⟨h22, e22⟩ : ∃ z, T22.heap = z := ⟨_, rfl⟩
          rw [e22] at hQ22
          obtain ⟨Mc22, a22, t22, rfl, le22, lf22, ne_a22_t22, S_a22⟩ := hQ22
          have ne_ca_a22 : ca ≠ a22 := Nat.ne_of_lt (Nat.lt_of_lt_of_le B_ca.lt1 le22)
          have fr_a22 : h0.size ≤ a22 := Nat.le_trans Mj15.le le22
          have ne_ca_t22 : ca ≠ t22 := Nat.ne_of_lt (Nat.lt_of_lt_of_le B_ca.lt1 lf22)
          have fr_t22 : h0.size ≤ t22 := Nat.le_trans Mj15.le lf22
          have M22 := Mj15.app0 Mc22
          replace Z_cs := StaKeep Z_cs Mc22.1 all0
          replace Z_high := StaKeep Z_high Mc22.1 all0
          replace Z_cache := StaKeep Z_cache Mc22.1 all0
          replace B_ca := B_ca.keep Mc22.1 nin0
          show Go p e below P T22 (mkF m 105 #[.val (.int p1), .val (.int p2), .val (.int p3), .val (.int p4), .val (.int p5), .val (.int (0 : Int32)), .val (.int (1 : Int32)), .val (.ref ia14), .val vj41, .unset, .unset, .unset, .unset] [(.ref a22)])
          exact J16 T22 h22 _ (.ref a22) (standUp X22 (by decide) (by decide)) e22 M22 Z_cs Z_high Z_cache B_ca rfl
        ·
          refine Go.of (T' := Tj15) (f' := (mkF m 91 #[.val (.int p1), .val (.int p2), .val (.int p3), .val (.int p4), .val (.int p5), .val (.int (0 : Int32)), .val (.int (1 : Int32)), .val (.ref ia14), .val vj41, .unset, .unset, .unset, .unset] [])) (fun _ k => XS.ifNo Xj15.here hx rfl (hb hby at_88) rfl ((if0 _ _).trans (feq hc88).1) k) ?_
          refine Go.of (T' := Tj15) (f' := (mkF m 92 #[.val (.int p1), .val (.int p2), .val (.int p3), .val (.int p4), .val (.int p5), .val (.int (0 : Int32)), .val (.int (1 : Int32)), .val (.ref ia14), .val vj41, .unset, .unset, .unset, .unset] [.null])) (fun _ k => XS.aconstNull Xj15.here hx rfl (hb hby at_91) k) ?_
          refine Go.of (T' := Tj15) (f' := (mkF m 105 #[.val (.int p1), .val (.int p2), .val (.int p3), .val (.int p4), .val (.int p5), .val (.int (0 : Int32)), .val (.int (1 : Int32)), .val (.ref ia14), .val vj41, .unset, .unset, .unset, .unset] [.null])) (fun _ k => XS.goto Xj15.here hx rfl (pc0 := 92) (pc' := 105) rfl (hb hby at_92) (by decide) (by decide) k) ?_
          exact J16 Tj15 hj15 _ .null (standUp Xj15 (by decide) (by decide)) ej15 Mj15 Z_cs Z_high Z_cache B_ca rfl
      refine Go.of (T' := T14) (f' := (mkF m 42 #[.val (.int p1), .val (.int p2), .val (.int p3), .val (.int p4), .val (.int p5), .val (.int (0 : Int32)), .val (.int (1 : Int32)), .val (.ref ia14), .unset, .unset, .unset, .unset, .unset] [(.int p1)])) (fun _ k => XS.iloadN X14.here hx rfl (hb hby at_41) rfl k) ?_
      refine Go.of (T' := T14) (f' := (mkF m 43 #[.val (.int p1), .val (.int p2), .val (.int p3), .val (.int p4), .val (.int p5), .val (.int (0 : Int32)), .val (.int (1 : Int32)), .val (.ref ia14), .unset, .unset, .unset, .unset, .unset] [(.int (4 : Int32)), (.int p1)])) (fun _ k => XS.iconst X14.here hx rfl (hb hby at_42) k) ?_
      refine Go.of (T' := T14) (f' := (mkF m 44 #[.val (.int p1), .val (.int p2), .val (.int p3), .val (.int p4), .val (.int p5), .val (.int (0 : Int32)), .val (.int (1 : Int32)), .val (.ref ia14), .unset, .unset, .unset, .unset, .unset] [(.int (p1 &&& (4 : Int32)))])) (fun _ k => XS.iand X14.here hx rfl (hb hby at_43) rfl k) ?_
      by_cases hc44 : (p1 &&& (4 : Int32)) = (0 : Int32)
      ·
        refine Go.of (T' := T14) (f' := (mkF m 51 #[.val (.int p1), .val (.int p2), .val (.int p3), .val (.int p4), .val (.int p5), .val (.int (0 : Int32)), .val (.int (1 : Int32)), .val (.ref ia14), .unset, .unset, .unset, .unset, .unset] [])) (fun _ k => XS.ifYes X14.here hx rfl (pc0 := 44) (pc' := 51) rfl (hb hby at_44) rfl ((if0 _ _).trans (teq hc44).1) (by decide) (by decide) k) ?_
        obtain ⟨T23, h23, X23, e23, E23, A23, D23, -, st23⟩ := newO X14 hx hZ hown (hw _ (List.mem_of_getElem? (i := 0) rfl)) (hw _ (List.mem_of_getElem? (i := 1) rfl)) (hw _ (List.mem_of_getElem? (i := 2) rfl)) e14 (g := (mkF m 51 #[.val (.int p1), .val (.int p2), .val (.int p3), .val (.int p4), .val (.int p5), .val (.int (0 : Int32)), .val (.int (1 : Int32)), .val (.ref ia14), .unset, .unset, .unset, .unset, .unset] [])) rfl (hb hby at_51) (by decide) (by decide)
        obtain ⟨b23, g23⟩ : ∃ z, z = h14.size := ⟨_, rfl⟩
        rw [← g23] at A23 D23 st23
        have ne_ca_b23 : ca ≠ b23 := Nat.ne_of_lt (Nat.lt_of_lt_of_le B_ca.lt1 (Nat.le_of_eq g23.symm))
        have fr_b23 : h0.size ≤ b23 := Nat.le_trans M14.le (Nat.le_of_eq g23.symm)
        have K23 := keepE E23
        have M23 := M14.ext E23
        replace Z_cs := StaKeep Z_cs K23 all0
        replace Z_high := StaKeep Z_high K23 all0
        replace Z_cache := StaKeep Z_cache K23 all0
        replace B_ca := B_ca.keep K23 nin0
        have E_b23 := A23
        have F_coder_b23 : Fld Z h23 b23 "java/lang/String" "coder" "B" (.int (0 : Int32)) := D23 (Or.inr (hw _ (List.mem_of_getElem? (i := 27) rfl))) (ty := .byte) (by decide)
        have F_value_b23 : Fld Z h23 b23 "java/lang/String" "value" "[B" .null := D23 (Or.inr (hw _ (List.mem_of_getElem? (i := 29) rfl))) (ty := (.array .byte)) (by decide)
        refine Go.of (T' := T23) (f' := (mkF m 54 #[.val (.int p1), .val (.int p2), .val (.int p3), .val (.int p4), .val (.int p5), .val (.int (0 : Int32)), .val (.int (1 : Int32)), .val (.ref ia14), .unset, .unset, .unset, .unset, .unset] [(.ref b23)])) st23 ?_
        refine Go.of (T' := T23) (f' := (mkF m 55 #[.val (.int p1), .val (.int p2), .val (.int p3), .val (.int p4), .val (.int p5), .val (.int (0 : Int32)), .val (.int (1 : Int32)), .val (.ref ia14), .unset, .unset, .unset, .unset, .unset] [(.ref b23), (.ref b23)])) (fun _ k => XS.dup X23.here hx rfl (hb hby at_54) rfl rfl k) ?_
        refine Go.of (T' := T23) (f' := (mkF m 56 #[.val (.int p1), .val (.int p2), .val (.int p3), .val (.int p4), .val (.int p5), .val (.int (0 : Int32)), .val (.int (1 : Int32)), .val (.ref ia14), .unset, .unset, .unset, .unset, .unset] [(.int (2 : Int32)), (.ref b23), (.ref b23)])) (fun _ k => XS.iconst X23.here hx rfl (hb hby at_55) k) ?_
        obtain ⟨T24, h24, k24, X24, e24, E24, A24, st24⟩ := newP X23 hx hZ (hw _ (List.mem_of_getElem? (i := 3) rfl)) e23 (g := (mkF m 56 #[.val (.int p1), .val (.int p2), .val (.int p3), .val (.int p4), .val (.int p5), .val (.int (0 : Int32)), .val (.int (1 : Int32)), .val (.ref ia14), .unset, .unset, .unset, .unset, .unset] [(.int (2 : Int32)), (.ref b23), (.ref b23)])) rfl (hb hby at_56) rfl (by decide) (cap := 2) (by decide) (by decide) (by decide) (by decide)
        obtain ⟨b24, g24⟩ : ∃ z, z = h23.size := ⟨_, rfl⟩
        rw [← g24] at A24 st24
        have ne_ca_b24 : ca ≠ b24 := Nat.ne_of_lt (Nat.lt_of_lt_of_le B_ca.lt1 (Nat.le_of_eq g24.symm))
        have ne_b23_b24 : b23 ≠ b24 := Nat.ne_of_lt (Nat.lt_of_lt_of_le E_b23.lt (Nat.le_of_eq g24.symm))
        have fr_b24 : h0.size ≤ b24 := Nat.le_trans M23.le (Nat.le_of_eq g24.symm)
        have K24 := keepE E24
        have M24 := M23.ext E24
        replace Z_cs := StaKeep Z_cs K24 all0
        replace Z_high := StaKeep Z_high K24 all0
        replace Z_cache := StaKeep Z_cache K24 all0
        replace B_ca := B_ca.keep K24 nin0
        replace E_b23 := E_b23.keep K24
        replace F_coder_b23 := F_coder_b23.keep K24 nin0
        replace F_value_b23 := F_value_b23.keep K24 nin0
        have V_b24 : Arv Z h24 b24 k24 .char (2 : Int32) [(.int (0 : Int32)), (.int (0 : Int32))] (.int (0 : Int32)) := (Arv.new A24 (by decide)).pad (pad_rep [] (.int (0 : Int32)) 2)
        refine Go.of (T' := T24) (f' := (mkF m 58 #[.val (.int p1), .val (.int p2), .val (.int p3), .val (.int p4), .val (.int p5), .val (.int (0 : Int32)), .val (.int (1 : Int32)), .val (.ref ia14), .unset, .unset, .unset, .unset, .unset] [(.ref b24), (.ref b23), (.ref b23)])) st24 ?_
        refine Go.of (T' := T24) (f' := (mkF m 59 #[.val (.int p1), .val (.int p2), .val (.int p3), .val (.int p4), .val (.int p5), .val (.int (0 : Int32)), .val (.int (1 : Int32)), .val (.ref ia14), .unset, .unset, .unset, .unset, .unset] [(.ref b24), (.ref b24), (.ref b23), (.ref b23)])) (fun _ k => XS.dup X24.here hx rfl (hb hby at_58) rfl rfl k) ?_
        refine Go.of (T' := T24) (f' := (mkF m 60 #[.val (.int p1), .val (.int p2), .val (.int p3), .val (.int p4), .val (.int p5), .val (.int (0 : Int32)), .val (.int (1 : Int32)), .val (.ref ia14), .unset, .unset, .unset, .unset, .unset] [(.int (0 : Int32)), (.ref b24), (.ref b24), (.ref b23), (.ref b23)])) (fun _ k => XS.iconst X24.here hx rfl (hb hby at_59) k) ?_
        refine Go.of (T' := T24) (f' := (mkF m 61 #[.val (.int p1), .val (.int p2), .val (.int p3), .val (.int p4), .val (.int p5), .val (.int (0 : Int32)), .val (.int (1 : Int32)), .val (.ref ia14), .unset, .unset, .unset, .unset, .unset] [(.int p4), (.int (0 : Int32)), (.ref b24), (.ref b24), (.ref b23), (.ref b23)])) (fun _ k => XS.iloadN X24.here hx rfl (hb hby at_60) rfl k) ?_
        refine Go.of (T' := T24) (f' := (mkF m 64 #[.val (.int p1), .val (.int p2), .val (.int p3), .val (.int p4), .val (.int p5), .val (.int (0 : Int32)), .val (.int (1 : Int32)), .val (.ref ia14), .unset, .unset, .unset, .unset, .unset] [(.int (255 : Int32)), (.int p4), (.int (0 : Int32)), (.ref b24), (.ref b24), (.ref b23), (.ref b23)])) (fun _ k => XS.sipush X24.here hx rfl (hb hby at_61) k) ?_
        refine Go.of (T' := T24) (f' := (mkF m 65 #[.val (.int p1), .val (.int p2), .val (.int p3), .val (.int p4), .val (.int p5), .val (.int (0 : Int32)), .val (.int (1 : Int32)), .val (.ref ia14), .unset, .unset, .unset, .unset, .unset] [(.int (p4 &&& (255 : Int32))), (.int (0 : Int32)), (.ref b24), (.ref b24), (.ref b23), (.ref b23)])) (fun _ k => XS.iand X24.here hx rfl (hb hby at_64) rfl k) ?_
        refine Go.of (T' := T24) (f' := (mkF m 66 #[.val (.int p1), .val (.int p2), .val (.int p3), .val (.int p4), .val (.int p5), .val (.int (0 : Int32)), .val (.int (1 : Int32)), .val (.ref ia14), .unset, .unset, .unset, .unset, .unset] [(.int ((p4 &&& (255 : Int32)).toUInt32.toUInt16.toUInt32.toInt32)), (.int (0 : Int32)), (.ref b24), (.ref b24), (.ref b23), (.ref b23)])) (fun _ k => XS.i2c X24.here hx rfl (hb hby at_65) rfl k) ?_
        obtain ⟨cl25, Ar25, cq25, Sz25, Nn25, Hs25, Gs25⟩ := id V_b24
        have hin25 : ¬ ((0 : Int32) < 0 ∨ cl25.slots.size ≤ ((0 : Int32)).toNatClampNeg) := inb_of Sz25 ⟨by decide, by decide⟩
        obtain ⟨T25, h25, X25, e25, W25, st25⟩ := stC X24 hx hZ e24 Ar25 (j := (0 : Int32)) hin25 (g := (mkF m 66 #[.val (.int p1), .val (.int p2), .val (.int p3), .val (.int p4), .val (.int p5), .val (.int (0 : Int32)), .val (.int (1 : Int32)), .val (.ref ia14), .unset, .unset, .unset, .unset, .unset] [(.int ((p4 &&& (255 : Int32)).toUInt32.toUInt16.toUInt32.toInt32)), (.int (0 : Int32)), (.ref b24), (.ref b24), (.ref b23), (.ref b23)])) rfl rfl (hb hby at_66)
        have fq25 : fits .char (.int (nar .char ((p4 &&& (255 : Int32)).toUInt32.toUInt16.toUInt32.toInt32))) = true := fits_nar_char _
        rw [show nar .char ((p4 &&& (255 : Int32)).toUInt32.toUInt16.toUInt32.toInt32) = ((p4 &&& (255 : Int32)).toUInt32.toUInt16.toUInt32.toInt32) from narC _] at W25 fq25
        have V25 := Arv.set Ar25 cq25 Sz25 Nn25 Hs25 Gs25 fq25 W25 0 rfl (Nat.le_of_ble_eq_true rfl)
        have V_b24_o := V_b24
        have K25 := Keep.of_wr W25
        have M25 := M24.wr W25 (Or.inr fr_b24)
        replace Z_cs := StaKeep Z_cs K25 (allS (staArv V_b24_o) all0)
        replace Z_high := StaKeep Z_high K25 (allS (staArv V_b24_o) all0)
        replace Z_cache := StaKeep Z_cache K25 (allS (staArv V_b24_o) all0)
        replace B_ca := B_ca.keep K25 (ninS ne_ca_b24 nin0)
        replace E_b23 := E_b23.keep K25
        replace F_coder_b23 := F_coder_b23.keep K25 (ninS ne_b23_b24 nin0)
        replace F_value_b23 := F_value_b23.keep K25 (ninS ne_b23_b24 nin0)
        replace V_b24 : Arv Z h25 b24 k24 .char (2 : Int32) [(.int ((p4 &&& (255 : Int32)).toUInt32.toUInt16.toUInt32.toInt32)), (.int (0 : Int32))] (.int (0 : Int32)) := V25
        refine Go.of (T' := T25) (f' := (mkF m 67 #[.val (.int p1), .val (.int p2), .val (.int p3), .val (.int p4), .val (.int p5), .val (.int (0 : Int32)), .val (.int (1 : Int32)), .val (.ref ia14), .unset, .unset, .unset, .unset, .unset] [(.ref b24), (.ref b23), (.ref b23)])) st25 ?_
        refine Go.of (T' := T25) (f' := (mkF m 68 #[.val (.int p1), .val (.int p2), .val (.int p3), .val (.int p4), .val (.int p5), .val (.int (0 : Int32)), .val (.int (1 : Int32)), .val (.ref ia14), .unset, .unset, .unset, .unset, .unset] [(.ref b24), (.ref b24), (.ref b23), (.ref b23)])) (fun _ k => XS.dup X25.here hx rfl (hb hby at_67) rfl rfl k) ?_
        refine Go.of (T' := T25) (f' := (mkF m 69 #[.val (.int p1), .val (.int p2), .val (.int p3), .val (.int p4), .val (.int p5), .val (.int (0 : Int32)), .val (.int (1 : Int32)), .val (.ref ia14), .unset, .unset, .unset, .unset, .unset] [(.int (1 : Int32)), (.ref b24), (.ref b24), (.ref b23), (.ref b23)])) (fun _ k => XS.iconst X25.here hx rfl (hb hby at_68) k) ?_
        refine Go.of (T' := T25) (f' := (mkF m 70 #[.val (.int p1), .val (.int p2), .val (.int p3), .val (.int p4), .val (.int p5), .val (.int (0 : Int32)), .val (.int (1 : Int32)), .val (.ref ia14), .unset, .unset, .unset, .unset, .unset] [(.int p4), (.int (1 : Int32)), (.ref b24), (.ref b24), (.ref b23), (.ref b23)])) (fun _ k => XS.iloadN X25.here hx rfl (hb hby at_69) rfl k) ?_
        refine Go.of (T' := T25) (f' := (mkF m 72 #[.val (.int p1), .val (.int p2), .val (.int p3), .val (.int p4), .val (.int p5), .val (.int (0 : Int32)), .val (.int (1 : Int32)), .val (.ref ia14), .unset, .unset, .unset, .unset, .unset] [(.int (8 : Int32)), (.int p4), (.int (1 : Int32)), (.ref b24), (.ref b24), (.ref b23), (.ref b23)])) (fun _ k => XS.bipush X25.here hx rfl (hb hby at_70) k) ?_
        refine Go.of (T' := T25) (f' := (mkF m 73 #[.val (.int p1), .val (.int p2), .val (.int p3), .val (.int p4), .val (.int p5), .val (.int (0 : Int32)), .val (.int (1 : Int32)), .val (.ref ia14), .unset, .unset, .unset, .unset, .unset] [(.int ((p4.toUInt32 >>> ((8 : Int32) &&& 31).toUInt32).toInt32)), (.int (1 : Int32)), (.ref b24), (.ref b24), (.ref b23), (.ref b23)])) (fun _ k => XS.iushr X25.here hx rfl (hb hby at_72) rfl k) ?_
        refine Go.of (T' := T25) (f' := (mkF m 76 #[.val (.int p1), .val (.int p2), .val (.int p3), .val (.int p4), .val (.int p5), .val (.int (0 : Int32)), .val (.int (1 : Int32)), .val (.ref ia14), .unset, .unset, .unset, .unset, .unset] [(.int (255 : Int32)), (.int ((p4.toUInt32 >>> ((8 : Int32) &&& 31).toUInt32).toInt32)), (.int (1 : Int32)), (.ref b24), (.ref b24), (.ref b23), (.ref b23)])) (fun _ k => XS.sipush X25.here hx rfl (hb hby at_73) k) ?_
        refine Go.of (T' := T25) (f' := (mkF m 77 #[.val (.int p1), .val (.int p2), .val (.int p3), .val (.int p4), .val (.int p5), .val (.int (0 : Int32)), .val (.int (1 : Int32)), .val (.ref ia14), .unset, .unset, .unset, .unset, .unset] [(.int (((p4.toUInt32 >>> ((8 : Int32) &&& 31).toUInt32).toInt32) &&& (255 : Int32))), (.int (1 : Int32)), (.ref b24), (.ref b24), (.ref b23), (.ref b23)])) (fun _ k => XS.iand X25.here hx rfl (hb hby at_76) rfl k) ?_
        refine Go.of (T' := T25) (f' := (mkF m 78 #[.val (.int p1), .val (.int p2), .val (.int p3), .val (.int p4), .val (.int p5), .val (.int (0 : Int32)), .val (.int (1 : Int32)), .val (.ref ia14), .unset, .unset, .unset, .unset, .unset] [(.int ((((p4.toUInt32 >>> ((8 : Int32) &&& 31).toUInt32).toInt32) &&& (255 : Int32)).toUInt32.toUInt16.toUInt32.toInt32)), (.int (1 : Int32)), (.ref b24), (.ref b24), (.ref b23), (.ref b23)])) (fun _ k => XS.i2c X25.here hx rfl (hb hby at_77) rfl k) ?_
        obtain ⟨cl26, Ar26, cq26, Sz26, Nn26, Hs26, Gs26⟩ := id V_b24
        have hin26 : ¬ ((1 : Int32) < 0 ∨ cl26.slots.size ≤ ((1 : Int32)).toNatClampNeg) := inb_of Sz26 ⟨by decide, by decide⟩
        obtain ⟨T26, h26, X26, e26, W26, st26⟩ := stC X25 hx hZ e25 Ar26 (j := (1 : Int32)) hin26 (g := (mkF m 78 #[.val (.int p1), .val (.int p2), .val (.int p3), .val (.int p4), .val (.int p5), .val (.int (0 : Int32)), .val (.int (1 : Int32)), .val (.ref ia14), .unset, .unset, .unset, .unset, .unset] [(.int ((((p4.toUInt32 >>> ((8 : Int32) &&& 31).toUInt32).toInt32) &&& (255 : Int32)).toUInt32.toUInt16.toUInt32.toInt32)), (.int (1 : Int32)), (.ref b24), (.ref b24), (.ref b23), (.ref b23)])) rfl rfl (hb hby at_78)
        have fq26 : fits .char (.int (nar .char ((((p4.toUInt32 >>> ((8 : Int32) &&& 31).toUInt32).toInt32) &&& (255 : Int32)).toUInt32.toUInt16.toUInt32.toInt32))) = true := fits_nar_char _
        rw [show nar .char ((((p4.toUInt32 >>> ((8 : Int32) &&& 31).toUInt32).toInt32) &&& (255 : Int32)).toUInt32.toUInt16.toUInt32.toInt32) = ((((p4.toUInt32 >>> ((8 : Int32) &&& 31).toUInt32).toInt32) &&& (255 : Int32)).toUInt32.toUInt16.toUInt32.toInt32) from narC _] at W26 fq26
        have V26 := Arv.set Ar26 cq26 Sz26 Nn26 Hs26 Gs26 fq26 W26 1 rfl (Nat.le_of_ble_eq_true rfl)
        have V_b24_o := V_b24
        have K26 := Keep.of_wr W26
        have M26 := M25.wr W26 (Or.inr fr_b24)
        replace Z_cs := StaKeep Z_cs K26 (allS (staArv V_b24_o) all0)
        replace Z_high := StaKeep Z_high K26 (allS (staArv V_b24_o) all0)
        replace Z_cache := StaKeep Z_cache K26 (allS (staArv V_b24_o) all0)
        replace B_ca := B_ca.keep K26 (ninS ne_ca_b24 nin0)
        replace E_b23 := E_b23.keep K26
        replace F_coder_b23 := F_coder_b23.keep K26 (ninS ne_b23_b24 nin0)
        replace F_value_b23 := F_value_b23.keep K26 (ninS ne_b23_b24 nin0)
        replace V_b24 : Arv Z h26 b24 k24 .char (2 : Int32) [(.int ((p4 &&& (255 : Int32)).toUInt32.toUInt16.toUInt32.toInt32)), (.int ((((p4.toUInt32 >>> ((8 : Int32) &&& 31).toUInt32).toInt32) &&& (255 : Int32)).toUInt32.toUInt16.toUInt32.toInt32))] (.int (0 : Int32)) := V26
        refine Go.of (T' := T26) (f' := (mkF m 79 #[.val (.int p1), .val (.int p2), .val (.int p3), .val (.int p4), .val (.int p5), .val (.int (0 : Int32)), .val (.int (1 : Int32)), .val (.ref ia14), .unset, .unset, .unset, .unset, .unset] [(.ref b24), (.ref b23), (.ref b23)])) st26 ?_
        refine goI X26 hx hZ rfl hown (hw _ (List.mem_of_getElem? (i := 4) rfl)) (hw _ (List.mem_of_getElem? (i := 5) rfl)) (hw _ (List.mem_of_getElem? (i := 6) rfl)) (by decide) (C := 1) (S := 2) (newStr (W := 1) hZ (hw_words hw) (hw _ (List.mem_of_getElem? (i := 1) rfl)) (cs := [((p4 &&& (255 : Int32)).toUInt32.toUInt16.toUInt32.toInt32), ((((p4.toUInt32 >>> ((8 : Int32) &&& 31).toUInt32).toInt32) &&& (255 : Int32)).toUInt32.toUInt16.toUInt32.toInt32)]) E_b23 F_value_b23 F_coder_b23 V_b24 rfl Z_cs hz (n := 2) rfl rfl (by decide) (by decide) (by intro c hc; simp only [List.mem_cons, List.not_mem_nil, or_false] at hc; rcases hc with rfl | rfl <;> exact m255 _) (by decide) (by decide)) e26 (argsL := [(.ref b24)]) (rest := [(.ref b23)]) (by rw [hml]; rfl) (lenOf pd___C_V rfl) rfl rfl (hb hby at_79) (Nat.le_of_eq rfl) (by decide) (by decide) ?_
        intro v27 T27 L27 X27 hQ27
        obtain ⟨h27, e27⟩ : ∃ z, T27.heap = z := ⟨_, rfl⟩
        rw [e27] at hQ27
        have E_b23_o := E_b23
        obtain ⟨rfl, Mc27, t27, le27, S27⟩ := hQ27
        have ne_ca_t27 : ca ≠ t27 := Nat.ne_of_lt (Nat.lt_of_lt_of_le B_ca.lt1 le27)
        have ne_b23_t27 : b23 ≠ t27 := Nat.ne_of_lt (Nat.lt_of_lt_of_le E_b23.lt le27)
        have ne_b24_t27 : b24 ≠ t27 := Nat.ne_of_lt (Nat.lt_of_lt_of_le V_b24.lt le27)
        have fr_t27 : h0.size ≤ t27 := Nat.le_trans M26.le le27
        have M27 := M26.app Mc27 (allS (Or.inr fr_b23) all0)
        replace Z_cs := StaKeep Z_cs Mc27.1 (allS (staExa E_b23_o) all0)
        replace Z_high := StaKeep Z_high Mc27.1 (allS (staExa E_b23_o) all0)
        replace Z_cache := StaKeep Z_cache Mc27.1 (allS (staExa E_b23_o) all0)
        replace B_ca := B_ca.keep Mc27.1 (ninS ne_ca_b23 nin0)
        replace E_b23 := E_b23.keep Mc27.1
        replace V_b24 := V_b24.keep Mc27.1 (ninS (Ne.symm ne_b23_b24) nin0)
        have S_b23 := S27
        show Go p e below P T27 (mkF m 82 #[.val (.int p1), .val (.int p2), .val (.int p3), .val (.int p4), .val (.int p5), .val (.int (0 : Int32)), .val (.int (1 : Int32)), .val (.ref ia14), .unset, .unset, .unset, .unset, .unset] [(.ref b23)])
        exact J15 T27 h27 _ (.ref b23) (standUp X27 (by decide) (by decide)) e27 M27 Z_cs Z_high Z_cache B_ca rfl
      ·
        refine Go.of (T' := T14) (f' := (mkF m 47 #[.val (.int p1), .val (.int p2), .val (.int p3), .val (.int p4), .val (.int p5), .val (.int (0 : Int32)), .val (.int (1 : Int32)), .val (.ref ia14), .unset, .unset, .unset, .unset, .unset] [])) (fun _ k => XS.ifNo X14.here hx rfl (hb hby at_44) rfl ((if0 _ _).trans (feq hc44).1) k) ?_
        refine Go.of (T' := T14) (f' := (mkF m 48 #[.val (.int p1), .val (.int p2), .val (.int p3), .val (.int p4), .val (.int p5), .val (.int (0 : Int32)), .val (.int (1 : Int32)), .val (.ref ia14), .unset, .unset, .unset, .unset, .unset] [.null])) (fun _ k => XS.aconstNull X14.here hx rfl (hb hby at_47) k) ?_
        refine Go.of (T' := T14) (f' := (mkF m 82 #[.val (.int p1), .val (.int p2), .val (.int p3), .val (.int p4), .val (.int p5), .val (.int (0 : Int32)), .val (.int (1 : Int32)), .val (.ref ia14), .unset, .unset, .unset, .unset, .unset] [.null])) (fun _ k => XS.goto X14.here hx rfl (pc0 := 48) (pc' := 82) rfl (hb hby at_48) (by decide) (by decide) k) ?_
        exact J15 T14 h14 _ .null (standUp X14 (by decide) (by decide)) e14 M14 Z_cs Z_high Z_cache B_ca rfl
  ·
    refine Go.of (T' := s₁) (f' := (mkF m 6 #[.val (.int p1), .val (.int p2), .val (.int p3), .val (.int p4), .val (.int p5), .unset, .unset, .unset, .unset, .unset, .unset, .unset, .unset] [])) (fun _ k => XS.ifNo X0.here hx rfl (hb hby at_3) rfl ((if0 _ _).trans (feq hc3).1) k) ?_
    refine Go.of (T' := s₁) (f' := (mkF m 7 #[.val (.int p1), .val (.int p2), .val (.int p3), .val (.int p4), .val (.int p5), .unset, .unset, .unset, .unset, .unset, .unset, .unset, .unset] [(.int (1 : Int32))])) (fun _ k => XS.iconst X0.here hx rfl (hb hby at_6) k) ?_
    refine Go.of (T' := s₁) (f' := (mkF m 11 #[.val (.int p1), .val (.int p2), .val (.int p3), .val (.int p4), .val (.int p5), .unset, .unset, .unset, .unset, .unset, .unset, .unset, .unset] [(.int (1 : Int32))])) (fun _ k => XS.goto X0.here hx rfl (pc0 := 7) (pc' := 11) rfl (hb hby at_7) (by decide) (by decide) k) ?_
    refine Go.of (T' := s₁) (f' := (mkF m 13 #[.val (.int p1), .val (.int p2), .val (.int p3), .val (.int p4), .val (.int p5), .val (.int (1 : Int32)), .unset, .unset, .unset, .unset, .unset, .unset, .unset] [])) (fun _ k => XS.istore X0.here hx rfl (hb hby at_11) rfl (l' := #[.val (.int p1), .val (.int p2), .val (.int p3), .val (.int p4), .val (.int p5), .val (.int (1 : Int32)), .unset, .unset, .unset, .unset, .unset, .unset, .unset]) rfl k) ?_
    refine Go.of (T' := s₁) (f' := (mkF m 14 #[.val (.int p1), .val (.int p2), .val (.int p3), .val (.int p4), .val (.int p5), .val (.int (1 : Int32)), .unset, .unset, .unset, .unset, .unset, .unset, .unset] [(.int p1)])) (fun _ k => XS.iloadN X0.here hx rfl (hb hby at_13) rfl k) ?_
    refine Go.of (T' := s₁) (f' := (mkF m 15 #[.val (.int p1), .val (.int p2), .val (.int p3), .val (.int p4), .val (.int p5), .val (.int (1 : Int32)), .unset, .unset, .unset, .unset, .unset, .unset, .unset] [(.int (2 : Int32)), (.int p1)])) (fun _ k => XS.iconst X0.here hx rfl (hb hby at_14) k) ?_
    refine Go.of (T' := s₁) (f' := (mkF m 16 #[.val (.int p1), .val (.int p2), .val (.int p3), .val (.int p4), .val (.int p5), .val (.int (1 : Int32)), .unset, .unset, .unset, .unset, .unset, .unset, .unset] [(.int (p1 &&& (2 : Int32)))])) (fun _ k => XS.iand X0.here hx rfl (hb hby at_15) rfl k) ?_
    by_cases hc16 : (p1 &&& (2 : Int32)) = (0 : Int32)
    ·
      refine Go.of (T' := s₁) (f' := (mkF m 23 #[.val (.int p1), .val (.int p2), .val (.int p3), .val (.int p4), .val (.int p5), .val (.int (1 : Int32)), .unset, .unset, .unset, .unset, .unset, .unset, .unset] [])) (fun _ k => XS.ifYes X0.here hx rfl (pc0 := 16) (pc' := 23) rfl (hb hby at_16) rfl ((if0 _ _).trans (teq hc16).1) (by decide) (by decide) k) ?_
      refine Go.of (T' := s₁) (f' := (mkF m 24 #[.val (.int p1), .val (.int p2), .val (.int p3), .val (.int p4), .val (.int p5), .val (.int (1 : Int32)), .unset, .unset, .unset, .unset, .unset, .unset, .unset] [(.int (0 : Int32))])) (fun _ k => XS.iconst X0.here hx rfl (hb hby at_23) k) ?_
      refine Go.of (T' := s₁) (f' := (mkF m 26 #[.val (.int p1), .val (.int p2), .val (.int p3), .val (.int p4), .val (.int p5), .val (.int (1 : Int32)), .val (.int (0 : Int32)), .unset, .unset, .unset, .unset, .unset, .unset] [])) (fun _ k => XS.istore X0.here hx rfl (hb hby at_24) rfl (l' := #[.val (.int p1), .val (.int p2), .val (.int p3), .val (.int p4), .val (.int p5), .val (.int (1 : Int32)), .val (.int (0 : Int32)), .unset, .unset, .unset, .unset, .unset, .unset]) rfl k) ?_
      refine Go.of (T' := s₁) (f' := (mkF m 28 #[.val (.int p1), .val (.int p2), .val (.int p3), .val (.int p4), .val (.int p5), .val (.int (1 : Int32)), .val (.int (0 : Int32)), .unset, .unset, .unset, .unset, .unset, .unset] [(.int (0 : Int32))])) (fun _ k => XS.iload X0.here hx rfl (hb hby at_26) rfl k) ?_
      refine Go.of (T' := s₁) (f' := (mkF m 38 #[.val (.int p1), .val (.int p2), .val (.int p3), .val (.int p4), .val (.int p5), .val (.int (1 : Int32)), .val (.int (0 : Int32)), .unset, .unset, .unset, .unset, .unset, .unset] [])) (fun _ k => XS.ifYes X0.here hx rfl (pc0 := 28) (pc' := 38) rfl (hb hby at_28) rfl (by decide) (by decide) (by decide) k) ?_
      refine Go.of (T' := s₁) (f' := (mkF m 39 #[.val (.int p1), .val (.int p2), .val (.int p3), .val (.int p4), .val (.int p5), .val (.int (1 : Int32)), .val (.int (0 : Int32)), .unset, .unset, .unset, .unset, .unset, .unset] [.null])) (fun _ k => XS.aconstNull X0.here hx rfl (hb hby at_38) k) ?_
      refine Go.of (T' := s₁) (f' := (mkF m 41 #[.val (.int p1), .val (.int p2), .val (.int p3), .val (.int p4), .val (.int p5), .val (.int (1 : Int32)), .val (.int (0 : Int32)), .val .null, .unset, .unset, .unset, .unset, .unset] [])) (fun _ k => XS.astore X0.here hx rfl (hb hby at_39) rfl rfl (l' := #[.val (.int p1), .val (.int p2), .val (.int p3), .val (.int p4), .val (.int p5), .val (.int (1 : Int32)), .val (.int (0 : Int32)), .val .null, .unset, .unset, .unset, .unset, .unset]) rfl k) ?_
      have J28 : ∀ (Tj28 : State) (hj28 : Heap) (Lj28 : List Loc) (vj41 : Value), Stand p l e room_1 s m #[(.int p1), (.int p2), (.int p3), (.int p4), (.int p5)] below meth c Tj28 Lj28 3 8 → Tj28.heap = hj28 → Mv h0 hj28 [] Lj28 → Sta Z hj28 "java/lang/String" "COMPACT_STRINGS" "Z" (.int zc) → Sta Z hj28 "java/lang/Integer$IntegerCache" "high" "I" (.int (127 : Int32)) → Sta Z hj28 "java/lang/Integer$IntegerCache" "cache" "[Ljava/lang/Integer;" (.ref ca) → RefArr Z hj28 ca → vj41.isRef = true → Go p e below P Tj28 (mkF m 82 #[.val (.int p1), .val (.int p2), .val (.int p3), .val (.int p4), .val (.int p5), .val (.int (1 : Int32)), .val (.int (0 : Int32)), .val .null, .unset, .unset, .unset, .unset, .unset] [vj41]) := by
        intro Tj28 hj28 Lj28 vj41 Xj28 ej28 Mj28 Z_cs Z_high Z_cache B_ca hvj41
        refine Go.of (T' := Tj28) (f' := (mkF m 84 #[.val (.int p1), .val (.int p2), .val (.int p3), .val (.int p4), .val (.int p5), .val (.int (1 : Int32)), .val (.int (0 : Int32)), .val .null, .val vj41, .unset, .unset, .unset, .unset] [])) (fun _ k => XS.astore Xj28.here hx rfl (hb hby at_82) rfl hvj41 (l' := #[.val (.int p1), .val (.int p2), .val (.int p3), .val (.int p4), .val (.int p5), .val (.int (1 : Int32)), .val (.int (0 : Int32)), .val .null, .val vj41, .unset, .unset, .unset, .unset]) (by first | rfl | exact XS.store1 rfl (Or.inl rfl) (refcat hvj41)) k) ?_
        have J29 : ∀ (Tj29 : State) (hj29 : Heap) (Lj29 : List Loc) (vj84 : Value), Stand p l e room_1 s m #[(.int p1), (.int p2), (.int p3), (.int p4), (.int p5)] below meth c Tj29 Lj29 6 16 → Tj29.heap = hj29 → Mv h0 hj29 [] Lj29 → Sta Z hj29 "java/lang/String" "COMPACT_STRINGS" "Z" (.int zc) → Sta Z hj29 "java/lang/Integer$IntegerCache" "high" "I" (.int (127 : Int32)) → Sta Z hj29 "java/lang/Integer$IntegerCache" "cache" "[Ljava/lang/Integer;" (.ref ca) → RefArr Z hj29 ca → vj84.isRef = true → Go p e below P Tj29 (mkF m 105 #[.val (.int p1), .val (.int p2), .val (.int p3), .val (.int p4), .val (.int p5), .val (.int (1 : Int32)), .val (.int (0 : Int32)), .val .null, .val vj41, .unset, .unset, .unset, .unset] [vj84]) := by
          intro Tj29 hj29 Lj29 vj84 Xj29 ej29 Mj29 Z_cs Z_high Z_cache B_ca hvj84
          refine Go.of (T' := Tj29) (f' := (mkF m 107 #[.val (.int p1), .val (.int p2), .val (.int p3), .val (.int p4), .val (.int p5), .val (.int (1 : Int32)), .val (.int (0 : Int32)), .val .null, .val vj41, .val vj84, .unset, .unset, .unset] [])) (fun _ k => XS.astore Xj29.here hx rfl (hb hby at_105) rfl hvj84 (l' := #[.val (.int p1), .val (.int p2), .val (.int p3), .val (.int p4), .val (.int p5), .val (.int (1 : Int32)), .val (.int (0 : Int32)), .val .null, .val vj41, .val vj84, .unset, .unset, .unset]) (by first | rfl | exact XS.store1 rfl (Or.inl rfl) (refcat hvj84)) k) ?_
          have J30 : ∀ (Tj30 : State) (hj30 : Heap) (Lj30 : List Loc) (vj107 : Value), Stand p l e room_1 s m #[(.int p1), (.int p2), (.int p3), (.int p4), (.int p5)] below meth c Tj30 Lj30 9 24 → Tj30.heap = hj30 → Mv h0 hj30 [] Lj30 → Sta Z hj30 "java/lang/String" "COMPACT_STRINGS" "Z" (.int zc) → Sta Z hj30 "java/lang/Integer$IntegerCache" "high" "I" (.int (127 : Int32)) → Sta Z hj30 "java/lang/Integer$IntegerCache" "cache" "[Ljava/lang/Integer;" (.ref ca) → RefArr Z hj30 ca → vj107.isRef = true → Go p e below P Tj30 (mkF m 131 #[.val (.int p1), .val (.int p2), .val (.int p3), .val (.int p4), .val (.int p5), .val (.int (1 : Int32)), .val (.int (0 : Int32)), .val .null, .val vj41, .val vj84, .unset, .unset, .unset] [vj107]) := by
            intro Tj30 hj30 Lj30 vj107 Xj30 ej30 Mj30 Z_cs Z_high Z_cache B_ca hvj107
            refine Go.of (T' := Tj30) (f' := (mkF m 133 #[.val (.int p1), .val (.int p2), .val (.int p3), .val (.int p4), .val (.int p5), .val (.int (1 : Int32)), .val (.int (0 : Int32)), .val .null, .val vj41, .val vj84, .val vj107, .unset, .unset] [])) (fun _ k => XS.astore Xj30.here hx rfl (hb hby at_131) rfl hvj107 (l' := #[.val (.int p1), .val (.int p2), .val (.int p3), .val (.int p4), .val (.int p5), .val (.int (1 : Int32)), .val (.int (0 : Int32)), .val .null, .val vj41, .val vj84, .val vj107, .unset, .unset]) (by first | rfl | exact XS.store1 rfl (Or.inl rfl) (refcat hvj107)) k) ?_
            obtain ⟨T31, h31, X31, e31, E31, A31, D31, -, st31⟩ := newO Xj30 hx hZ hown (hw _ (List.mem_of_getElem? (i := 44) rfl)) (hw _ (List.mem_of_getElem? (i := 45) rfl)) (hw _ (List.mem_of_getElem? (i := 46) rfl)) ej30 (g := (mkF m 133 #[.val (.int p1), .val (.int p2), .val (.int p3), .val (.int p4), .val (.int p5), .val (.int (1 : Int32)), .val (.int (0 : Int32)), .val .null, .val vj41, .val vj84, .val vj107, .unset, .unset] [])) rfl (hb hby at_133) (by decide) (by decide)
            obtain ⟨b31, g31⟩ : ∃ z, z = hj30.size := ⟨_, rfl⟩
            rw [← g31] at A31 D31 st31
            have ne_ca_b31 : ca ≠ b31 := Nat.ne_of_lt (Nat.lt_of_lt_of_le B_ca.lt1 (Nat.le_of_eq g31.symm))
            have fr_b31 : h0.size ≤ b31 := Nat.le_trans Mj30.le (Nat.le_of_eq g31.symm)
            have K31 := keepE E31
            have M31 := Mj30.ext E31
            replace Z_cs := StaKeep Z_cs K31 all0
            replace Z_high := StaKeep Z_high K31 all0
            replace Z_cache := StaKeep Z_cache K31 all0
            replace B_ca := B_ca.keep K31 nin0
            have E_b31 := A31
            have F_step_b31 : Fld Z h31 b31 "com/example/stratify/stratify/Problem" "step" "Ljava/lang/String;" .null := D31 (Or.inr (hw _ (List.mem_of_getElem? (i := 57) rfl))) (ty := (.object "java/lang/String")) (by decide)
            have F_rolledBack_b31 : Fld Z h31 b31 "com/example/stratify/stratify/Problem" "rolledBack" "Z" (.int (0 : Int32)) := D31 (Or.inr (hw _ (List.mem_of_getElem? (i := 59) rfl))) (ty := .boolean) (by decide)
            have F_statement_b31 : Fld Z h31 b31 "com/example/stratify/stratify/Problem" "statement" "Ljava/lang/Integer;" .null := D31 (Or.inr (hw _ (List.mem_of_getElem? (i := 61) rfl))) (ty := (.object "java/lang/Integer")) (by decide)
            have F_statements_b31 : Fld Z h31 b31 "com/example/stratify/stratify/Problem" "statements" "I" (.int (0 : Int32)) := D31 (Or.inr (hw _ (List.mem_of_getElem? (i := 63) rfl))) (ty := .int) (by decide)
            have F_sql_b31 : Fld Z h31 b31 "com/example/stratify/stratify/Problem" "sql" "Ljava/lang/String;" .null := D31 (Or.inr (hw _ (List.mem_of_getElem? (i := 65) rfl))) (ty := (.object "java/lang/String")) (by decide)
            have F_error_b31 : Fld Z h31 b31 "com/example/stratify/stratify/Problem" "error" "Ljava/lang/String;" .null := D31 (Or.inr (hw _ (List.mem_of_getElem? (i := 67) rfl))) (ty := (.object "java/lang/String")) (by decide)
            refine Go.of (T' := T31) (f' := (mkF m 136 #[.val (.int p1), .val (.int p2), .val (.int p3), .val (.int p4), .val (.int p5), .val (.int (1 : Int32)), .val (.int (0 : Int32)), .val .null, .val vj41, .val vj84, .val vj107, .unset, .unset] [(.ref b31)])) st31 ?_
            refine Go.of (T' := T31) (f' := (mkF m 137 #[.val (.int p1), .val (.int p2), .val (.int p3), .val (.int p4), .val (.int p5), .val (.int (1 : Int32)), .val (.int (0 : Int32)), .val .null, .val vj41, .val vj84, .val vj107, .unset, .unset] [(.ref b31), (.ref b31)])) (fun _ k => XS.dup X31.here hx rfl (hb hby at_136) rfl rfl k) ?_
            refine Go.of (T' := T31) (f' := (mkF m 139 #[.val (.int p1), .val (.int p2), .val (.int p3), .val (.int p4), .val (.int p5), .val (.int (1 : Int32)), .val (.int (0 : Int32)), .val .null, .val vj41, .val vj84, .val vj107, .unset, .unset] [vj41, (.ref b31), (.ref b31)])) (fun _ k => XS.aload X31.here hx rfl (hb hby at_137) rfl hvj41 k) ?_
            refine Go.of (T' := T31) (f' := (mkF m 141 #[.val (.int p1), .val (.int p2), .val (.int p3), .val (.int p4), .val (.int p5), .val (.int (1 : Int32)), .val (.int (0 : Int32)), .val .null, .val vj41, .val vj84, .val vj107, .unset, .unset] [(.int (1 : Int32)), vj41, (.ref b31), (.ref b31)])) (fun _ k => XS.iload X31.here hx rfl (hb hby at_139) rfl k) ?_
            refine Go.of (T' := T31) (f' := (mkF m 143 #[.val (.int p1), .val (.int p2), .val (.int p3), .val (.int p4), .val (.int p5), .val (.int (1 : Int32)), .val (.int (0 : Int32)), .val .null, .val vj41, .val vj84, .val vj107, .unset, .unset] [.null, (.int (1 : Int32)), vj41, (.ref b31), (.ref b31)])) (fun _ k => XS.aload X31.here hx rfl (hb hby at_141) rfl rfl k) ?_
            refine Go.of (T' := T31) (f' := (mkF m 144 #[.val (.int p1), .val (.int p2), .val (.int p3), .val (.int p4), .val (.int p5), .val (.int (1 : Int32)), .val (.int (0 : Int32)), .val .null, .val vj41, .val vj84, .val vj107, .unset, .unset] [(.int p3), .null, (.int (1 : Int32)), vj41, (.ref b31), (.ref b31)])) (fun _ k => XS.iloadN X31.here hx rfl (hb hby at_143) rfl k) ?_
            refine Go.of (T' := T31) (f' := (mkF m 146 #[.val (.int p1), .val (.int p2), .val (.int p3), .val (.int p4), .val (.int p5), .val (.int (1 : Int32)), .val (.int (0 : Int32)), .val .null, .val vj41, .val vj84, .val vj107, .unset, .unset] [vj84, (.int p3), .null, (.int (1 : Int32)), vj41, (.ref b31), (.ref b31)])) (fun _ k => XS.aload X31.here hx rfl (hb hby at_144) rfl hvj84 k) ?_
            refine Go.of (T' := T31) (f' := (mkF m 148 #[.val (.int p1), .val (.int p2), .val (.int p3), .val (.int p4), .val (.int p5), .val (.int (1 : Int32)), .val (.int (0 : Int32)), .val .null, .val vj41, .val vj84, .val vj107, .unset, .unset] [vj107, vj84, (.int p3), .null, (.int (1 : Int32)), vj41, (.ref b31), (.ref b31)])) (fun _ k => XS.aload X31.here hx rfl (hb hby at_146) rfl hvj107 k) ?_
            refine goI X31 hx hZ rfl hown (hw _ (List.mem_of_getElem? (i := 47) rfl)) (hw _ (List.mem_of_getElem? (i := 48) rfl)) (hw _ (List.mem_of_getElem? (i := 49) rfl)) (by decide) (C := 0) (S := 0) ((rm_problem l Z a0 hw b31 vj41 (1 : Int32) .null p3 vj84 vj107 h31 E_b31 F_step_b31 F_rolledBack_b31 F_statement_b31 F_statements_b31 F_sql_b31 F_error_b31 hvj41 (by simp) rfl hvj84 hvj107).bk (W := 1) hZ (hw _ (List.mem_of_getElem? (i := 49) rfl)) (hw _ (List.mem_of_getElem? (i := 46) rfl)) (by decide) (by decide)) e31 (argsL := [vj41, (.int (1 : Int32)), .null, (.int p3), vj84, vj107]) (rest := [(.ref b31)]) (by rw [hml]; rfl) (lenOf pd__Ljava_lang_String_ZLjava_lang_Integer_ILjava_lang_String_Ljava_lang_String__V rfl) rfl rfl (hb hby at_148) (Nat.le_of_eq rfl) (by decide) (by decide) ?_
            intro v32 T32 L32 X32 hQ32
            obtain ⟨h32, e32⟩ : ∃ z, T32.heap = z := ⟨_, rfl⟩
            rw [e32] at hQ32
            have E_b31_o := E_b31
            obtain ⟨rfl, Mc32, Ec32, Fc32_0, Fc32_1, Fc32_2, Fc32_3, Fc32_4, Fc32_5⟩ := hQ32
            have M32 := M31.app Mc32 (allS (Or.inr fr_b31) all0)
            replace Z_cs := StaKeep Z_cs Mc32.1 (allS (staExa E_b31_o) all0)
            replace Z_high := StaKeep Z_high Mc32.1 (allS (staExa E_b31_o) all0)
            replace Z_cache := StaKeep Z_cache Mc32.1 (allS (staExa E_b31_o) all0)
            replace B_ca := B_ca.keep Mc32.1 (ninS ne_ca_b31 nin0)
            replace E_b31 := Ec32
            have F_step_b31 := Fc32_0
            have F_rolledBack_b31 := Fc32_1
            have F_statement_b31 := Fc32_2
            have F_statements_b31 := Fc32_3
            have F_sql_b31 := Fc32_4
            have F_error_b31 := Fc32_5
            show Go p e below P T32 (mkF m 151 #[.val (.int p1), .val (.int p2), .val (.int p3), .val (.int p4), .val (.int p5), .val (.int (1 : Int32)), .val (.int (0 : Int32)), .val .null, .val vj41, .val vj84, .val vj107, .unset, .unset] [(.ref b31)])
            refine Go.of (T' := T32) (f' := (mkF m 153 #[.val (.int p1), .val (.int p2), .val (.int p3), .val (.int p4), .val (.int p5), .val (.int (1 : Int32)), .val (.int (0 : Int32)), .val .null, .val vj41, .val vj84, .val vj107, .val (.ref b31), .unset] [])) (fun _ k => XS.astore X32.here hx rfl (hb hby at_151) rfl rfl (l' := #[.val (.int p1), .val (.int p2), .val (.int p3), .val (.int p4), .val (.int p5), .val (.int (1 : Int32)), .val (.int (0 : Int32)), .val .null, .val vj41, .val vj84, .val vj107, .val (.ref b31), .unset]) rfl k) ?_
            refine Go.of (T' := T32) (f' := (mkF m 155 #[.val (.int p1), .val (.int p2), .val (.int p3), .val (.int p4), .val (.int p5), .val (.int (1 : Int32)), .val (.int (0 : Int32)), .val .null, .val vj41, .val vj84, .val vj107, .val (.ref b31), .unset] [(.int (1 : Int32))])) (fun _ k => XS.iload X32.here hx rfl (hb hby at_153) rfl k) ?_
            refine Go.of (T' := T32) (f' := (mkF m 158 #[.val (.int p1), .val (.int p2), .val (.int p3), .val (.int p4), .val (.int p5), .val (.int (1 : Int32)), .val (.int (0 : Int32)), .val .null, .val vj41, .val vj84, .val vj107, .val (.ref b31), .unset] [])) (fun _ k => XS.ifNo X32.here hx rfl (hb hby at_155) rfl (by decide) k) ?_
            refine Go.of (T' := T32) (f' := (mkF m 159 #[.val (.int p1), .val (.int p2), .val (.int p3), .val (.int p4), .val (.int p5), .val (.int (1 : Int32)), .val (.int (0 : Int32)), .val .null, .val vj41, .val vj84, .val vj107, .val (.ref b31), .unset] [(.int (0 : Int32))])) (fun _ k => XS.iconst X32.here hx rfl (hb hby at_158) k) ?_
            refine Go.of (T' := T32) (f' := (mkF m 161 #[.val (.int p1), .val (.int p2), .val (.int p3), .val (.int p4), .val (.int p5), .val (.int (1 : Int32)), .val (.int (0 : Int32)), .val .null, .val vj41, .val vj84, .val vj107, .val (.ref b31), .val (.int (0 : Int32))] [])) (fun _ k => XS.istore X32.here hx rfl (hb hby at_159) rfl (l' := #[.val (.int p1), .val (.int p2), .val (.int p3), .val (.int p4), .val (.int p5), .val (.int (1 : Int32)), .val (.int (0 : Int32)), .val .null, .val vj41, .val vj84, .val vj107, .val (.ref b31), .val (.int (0 : Int32))]) rfl k) ?_
            refine Go.of (T' := T32) (f' := (mkF m 178 #[.val (.int p1), .val (.int p2), .val (.int p3), .val (.int p4), .val (.int p5), .val (.int (1 : Int32)), .val (.int (0 : Int32)), .val .null, .val vj41, .val vj84, .val vj107, .val (.ref b31), .val (.int (0 : Int32))] [])) (fun _ k => XS.goto X32.here hx rfl (pc0 := 161) (pc' := 178) rfl (hb hby at_161) (by decide) (by decide) k) ?_
            refine Go.of (T' := T32) (f' := (mkF m 180 #[.val (.int p1), .val (.int p2), .val (.int p3), .val (.int p4), .val (.int p5), .val (.int (1 : Int32)), .val (.int (0 : Int32)), .val .null, .val vj41, .val vj84, .val vj107, .val (.ref b31), .val (.int (0 : Int32))] [(.ref b31)])) (fun _ k => XS.aload X32.here hx rfl (hb hby at_178) rfl rfl k) ?_
            refine goV X32 hx hZ (y := (⟨"com/example/stratify/stratify/Problem", "mayBeUnderWay", "()Z"⟩ : MethodName)) (z := (⟨"com/example/stratify/stratify/Problem", "mayBeUnderWay", "()Z"⟩ : MethodName)) hown (hw _ (List.mem_of_getElem? (i := 68) rfl)) (hw _ (List.mem_of_getElem? (i := 69) rfl)) (notFace_of_selects (args := #[]) (mvT hZ (hw _ (List.mem_of_getElem? (i := 71) rfl)))) (hw _ (List.mem_of_getElem? (i := 71) rfl)) (hw _ (List.mem_of_getElem? (i := 70) rfl)) (by decide) (C := 0) (S := 0) ((rm_may1 l Z a0 hw b31  h32 F_rolledBack_b31).bk (W := 0) hZ (hw _ (List.mem_of_getElem? (i := 72) rfl)) (hw _ (List.mem_of_getElem? (i := 46) rfl)) (by decide) (by decide)) e32 E_b31 (argsL := []) (rest := []) (by rw [hml]; rfl) (lenOf pd___Z rfl) rfl rfl (hb hby at_180) (Nat.le_of_eq rfl) (by decide) (by decide) ?_
            intro v33 T33 L33 X33 hQ33
            obtain ⟨nq33, e33, rfl⟩ := hQ33
            replace X33 := standNil X33 nq33
            show Go p e below P T33 (mkF m 183 #[.val (.int p1), .val (.int p2), .val (.int p3), .val (.int p4), .val (.int p5), .val (.int (1 : Int32)), .val (.int (0 : Int32)), .val .null, .val vj41, .val vj84, .val vj107, .val (.ref b31), .val (.int (0 : Int32))] [(.int (0 : Int32))])
            refine Go.of (T' := T33) (f' := (mkF m 185 #[.val (.int p1), .val (.int p2), .val (.int p3), .val (.int p4), .val (.int p5), .val (.int (1 : Int32)), .val (.int (0 : Int32)), .val .null, .val vj41, .val vj84, .val vj107, .val (.ref b31), .val (.int (0 : Int32))] [(.int (0 : Int32)), (.int (0 : Int32))])) (fun _ k => XS.iload X33.here hx rfl (hb hby at_183) rfl k) ?_
            refine Go.of (T' := T33) (f' := (mkF m 188 #[.val (.int p1), .val (.int p2), .val (.int p3), .val (.int p4), .val (.int p5), .val (.int (1 : Int32)), .val (.int (0 : Int32)), .val .null, .val vj41, .val vj84, .val vj107, .val (.ref b31), .val (.int (0 : Int32))] [])) (fun _ k => XS.icmpNo X33.here hx rfl (hb hby at_185) rfl (by decide) k) ?_
            refine Go.of (T' := T33) (f' := (mkF m 189 #[.val (.int p1), .val (.int p2), .val (.int p3), .val (.int p4), .val (.int p5), .val (.int (1 : Int32)), .val (.int (0 : Int32)), .val .null, .val vj41, .val vj84, .val vj107, .val (.ref b31), .val (.int (0 : Int32))] [(.int (1 : Int32))])) (fun _ k => XS.iconst X33.here hx rfl (hb hby at_188) k) ?_
            refine Go.of (T' := T33) (f' := (mkF m 193 #[.val (.int p1), .val (.int p2), .val (.int p3), .val (.int p4), .val (.int p5), .val (.int (1 : Int32)), .val (.int (0 : Int32)), .val .null, .val vj41, .val vj84, .val vj107, .val (.ref b31), .val (.int (0 : Int32))] [(.int (1 : Int32))])) (fun _ k => XS.goto X33.here hx rfl (pc0 := 189) (pc' := 193) rfl (hb hby at_189) (by decide) (by decide) k) ?_
            exact goRetI (Q := fun v h L => v = some (.int 1) ∧ Mv h0 h [] L) X33 hx (t := .boolean) hret hlk rfl (by simp) (hb hby at_193) K (by decide) (by decide) e33 (⟨rfl, M32⟩)
          refine Go.of (T' := Tj29) (f' := (mkF m 108 #[.val (.int p1), .val (.int p2), .val (.int p3), .val (.int p4), .val (.int p5), .val (.int (1 : Int32)), .val (.int (0 : Int32)), .val .null, .val vj41, .val vj84, .unset, .unset, .unset] [(.int p1)])) (fun _ k => XS.iloadN Xj29.here hx rfl (hb hby at_107) rfl k) ?_
          refine Go.of (T' := Tj29) (f' := (mkF m 110 #[.val (.int p1), .val (.int p2), .val (.int p3), .val (.int p4), .val (.int p5), .val (.int (1 : Int32)), .val (.int (0 : Int32)), .val .null, .val vj41, .val vj84, .unset, .unset, .unset] [(.int (16 : Int32)), (.int p1)])) (fun _ k => XS.bipush Xj29.here hx rfl (hb hby at_108) k) ?_
          refine Go.of (T' := Tj29) (f' := (mkF m 111 #[.val (.int p1), .val (.int p2), .val (.int p3), .val (.int p4), .val (.int p5), .val (.int (1 : Int32)), .val (.int (0 : Int32)), .val .null, .val vj41, .val vj84, .unset, .unset, .unset] [(.int (p1 &&& (16 : Int32)))])) (fun _ k => XS.iand Xj29.here hx rfl (hb hby at_110) rfl k) ?_
          by_cases hc111 : (p1 &&& (16 : Int32)) = (0 : Int32)
          ·
            refine Go.of (T' := Tj29) (f' := (mkF m 118 #[.val (.int p1), .val (.int p2), .val (.int p3), .val (.int p4), .val (.int p5), .val (.int (1 : Int32)), .val (.int (0 : Int32)), .val .null, .val vj41, .val vj84, .unset, .unset, .unset] [])) (fun _ k => XS.ifYes Xj29.here hx rfl (pc0 := 111) (pc' := 118) rfl (hb hby at_111) rfl ((if0 _ _).trans (teq hc111).1) (by decide) (by decide) k) ?_
            refine Go.of (T' := Tj29) (f' := (mkF m 120 #[.val (.int p1), .val (.int p2), .val (.int p3), .val (.int p4), .val (.int p5), .val (.int (1 : Int32)), .val (.int (0 : Int32)), .val .null, .val vj41, .val vj84, .unset, .unset, .unset] [(.int p5)])) (fun _ k => XS.iload Xj29.here hx rfl (hb hby at_118) rfl k) ?_
            refine Go.of (T' := Tj29) (f' := (mkF m 122 #[.val (.int p1), .val (.int p2), .val (.int p3), .val (.int p4), .val (.int p5), .val (.int (1 : Int32)), .val (.int (0 : Int32)), .val .null, .val vj41, .val vj84, .unset, .unset, .unset] [(.int (8 : Int32)), (.int p5)])) (fun _ k => XS.bipush Xj29.here hx rfl (hb hby at_120) k) ?_
            refine Go.of (T' := Tj29) (f' := (mkF m 123 #[.val (.int p1), .val (.int p2), .val (.int p3), .val (.int p4), .val (.int p5), .val (.int (1 : Int32)), .val (.int (0 : Int32)), .val .null, .val vj41, .val vj84, .unset, .unset, .unset] [(.int ((p5.toUInt32 >>> ((8 : Int32) &&& 31).toUInt32).toInt32))])) (fun _ k => XS.iushr Xj29.here hx rfl (hb hby at_122) rfl k) ?_
            refine Go.of (T' := Tj29) (f' := (mkF m 126 #[.val (.int p1), .val (.int p2), .val (.int p3), .val (.int p4), .val (.int p5), .val (.int (1 : Int32)), .val (.int (0 : Int32)), .val .null, .val vj41, .val vj84, .unset, .unset, .unset] [(.int (255 : Int32)), (.int ((p5.toUInt32 >>> ((8 : Int32) &&& 31).toUInt32).toInt32))])) (fun _ k => XS.sipush Xj29.here hx rfl (hb hby at_123) k) ?_
            refine Go.of (T' := Tj29) (f' := (mkF m 127 #[.val (.int p1), .val (.int p2), .val (.int p3), .val (.int p4), .val (.int p5), .val (.int (1 : Int32)), .val (.int (0 : Int32)), .val .null, .val vj41, .val vj84, .unset, .unset, .unset] [(.int (((p5.toUInt32 >>> ((8 : Int32) &&& 31).toUInt32).toInt32) &&& (255 : Int32)))])) (fun _ k => XS.iand Xj29.here hx rfl (hb hby at_126) rfl k) ?_
            refine Go.of (T' := Tj29) (f' := (mkF m 128 #[.val (.int p1), .val (.int p2), .val (.int p3), .val (.int p4), .val (.int p5), .val (.int (1 : Int32)), .val (.int (0 : Int32)), .val .null, .val vj41, .val vj84, .unset, .unset, .unset] [(.int ((((p5.toUInt32 >>> ((8 : Int32) &&& 31).toUInt32).toInt32) &&& (255 : Int32)).toUInt32.toUInt16.toUInt32.toInt32))])) (fun _ k => XS.i2c Xj29.here hx rfl (hb hby at_127) rfl k) ?_
            refine goS Xj29 hx hZ hown (hw _ (List.mem_of_getElem? (i := 30) rfl)) (hw _ (List.mem_of_getElem? (i := 31) rfl)) (hw _ (List.mem_of_getElem? (i := 2) rfl)) (hw _ (List.mem_of_getElem? (i := 32) rfl)) (by decide) (C := 2) (S := 5) ((rm_valueOf l Z a0 hw ((((p5.toUInt32 >>> ((8 : Int32) &&& 31).toUInt32).toInt32) &&& (255 : Int32)).toUInt32.toUInt16.toUInt32.toInt32) zc hj29 (m255 _) Z_cs hz).bk (W := 0) hZ (hw _ (List.mem_of_getElem? (i := 32) rfl)) (hw _ (List.mem_of_getElem? (i := 2) rfl)) (by decide) (by decide)) ej29 (argsL := [(.int ((((p5.toUInt32 >>> ((8 : Int32) &&& 31).toUInt32).toInt32) &&& (255 : Int32)).toUInt32.toUInt16.toUInt32.toInt32))]) (rest := []) (by rw [hml]; rfl) (lenOf pd__C_Ljava_lang_String_ rfl) rfl rfl (hb hby at_128) (Nat.le_of_eq rfl) (by decide) (by decide) ?_
            intro v34 T34 L34 X34 hQ34
            obtain ⟨h34, e34⟩ : ∃ z, T34.heap = z := ⟨_, rfl⟩
            rw [e34] at hQ34
            obtain ⟨Mc34, a34, t34, rfl, le34, lf34, ne_a34_t34, S_a34⟩ := hQ34
            have ne_ca_a34 : ca ≠ a34 := Nat.ne_of_lt (Nat.lt_of_lt_of_le B_ca.lt1 le34)
            have fr_a34 : h0.size ≤ a34 := Nat.le_trans Mj29.le le34
            have ne_ca_t34 : ca ≠ t34 := Nat.ne_of_lt (Nat.lt_of_lt_of_le B_ca.lt1 lf34)
            have fr_t34 : h0.size ≤ t34 := Nat.le_trans Mj29.le lf34
            have M34 := Mj29.app0 Mc34
            replace Z_cs := StaKeep Z_cs Mc34.1 all0
            replace Z_high := StaKeep Z_high Mc34.1 all0
            replace Z_cache := StaKeep Z_cache Mc34.1 all0
            replace B_ca := B_ca.keep Mc34.1 nin0
            show Go p e below P T34 (mkF m 131 #[.val (.int p1), .val (.int p2), .val (.int p3), .val (.int p4), .val (.int p5), .val (.int (1 : Int32)), .val (.int (0 : Int32)), .val .null, .val vj41, .val vj84, .unset, .unset, .unset] [(.ref a34)])
            exact J30 T34 h34 _ (.ref a34) (standUp X34 (by decide) (by decide)) e34 M34 Z_cs Z_high Z_cache B_ca rfl
          ·
            refine Go.of (T' := Tj29) (f' := (mkF m 114 #[.val (.int p1), .val (.int p2), .val (.int p3), .val (.int p4), .val (.int p5), .val (.int (1 : Int32)), .val (.int (0 : Int32)), .val .null, .val vj41, .val vj84, .unset, .unset, .unset] [])) (fun _ k => XS.ifNo Xj29.here hx rfl (hb hby at_111) rfl ((if0 _ _).trans (feq hc111).1) k) ?_
            refine Go.of (T' := Tj29) (f' := (mkF m 115 #[.val (.int p1), .val (.int p2), .val (.int p3), .val (.int p4), .val (.int p5), .val (.int (1 : Int32)), .val (.int (0 : Int32)), .val .null, .val vj41, .val vj84, .unset, .unset, .unset] [.null])) (fun _ k => XS.aconstNull Xj29.here hx rfl (hb hby at_114) k) ?_
            refine Go.of (T' := Tj29) (f' := (mkF m 131 #[.val (.int p1), .val (.int p2), .val (.int p3), .val (.int p4), .val (.int p5), .val (.int (1 : Int32)), .val (.int (0 : Int32)), .val .null, .val vj41, .val vj84, .unset, .unset, .unset] [.null])) (fun _ k => XS.goto Xj29.here hx rfl (pc0 := 115) (pc' := 131) rfl (hb hby at_115) (by decide) (by decide) k) ?_
            exact J30 Tj29 hj29 _ .null (standUp Xj29 (by decide) (by decide)) ej29 Mj29 Z_cs Z_high Z_cache B_ca rfl
        refine Go.of (T' := Tj28) (f' := (mkF m 85 #[.val (.int p1), .val (.int p2), .val (.int p3), .val (.int p4), .val (.int p5), .val (.int (1 : Int32)), .val (.int (0 : Int32)), .val .null, .val vj41, .unset, .unset, .unset, .unset] [(.int p1)])) (fun _ k => XS.iloadN Xj28.here hx rfl (hb hby at_84) rfl k) ?_
        refine Go.of (T' := Tj28) (f' := (mkF m 87 #[.val (.int p1), .val (.int p2), .val (.int p3), .val (.int p4), .val (.int p5), .val (.int (1 : Int32)), .val (.int (0 : Int32)), .val .null, .val vj41, .unset, .unset, .unset, .unset] [(.int (8 : Int32)), (.int p1)])) (fun _ k => XS.bipush Xj28.here hx rfl (hb hby at_85) k) ?_
        refine Go.of (T' := Tj28) (f' := (mkF m 88 #[.val (.int p1), .val (.int p2), .val (.int p3), .val (.int p4), .val (.int p5), .val (.int (1 : Int32)), .val (.int (0 : Int32)), .val .null, .val vj41, .unset, .unset, .unset, .unset] [(.int (p1 &&& (8 : Int32)))])) (fun _ k => XS.iand Xj28.here hx rfl (hb hby at_87) rfl k) ?_
        by_cases hc88 : (p1 &&& (8 : Int32)) = (0 : Int32)
        ·
          refine Go.of (T' := Tj28) (f' := (mkF m 95 #[.val (.int p1), .val (.int p2), .val (.int p3), .val (.int p4), .val (.int p5), .val (.int (1 : Int32)), .val (.int (0 : Int32)), .val .null, .val vj41, .unset, .unset, .unset, .unset] [])) (fun _ k => XS.ifYes Xj28.here hx rfl (pc0 := 88) (pc' := 95) rfl (hb hby at_88) rfl ((if0 _ _).trans (teq hc88).1) (by decide) (by decide) k) ?_
          refine Go.of (T' := Tj28) (f' := (mkF m 97 #[.val (.int p1), .val (.int p2), .val (.int p3), .val (.int p4), .val (.int p5), .val (.int (1 : Int32)), .val (.int (0 : Int32)), .val .null, .val vj41, .unset, .unset, .unset, .unset] [(.int p5)])) (fun _ k => XS.iload Xj28.here hx rfl (hb hby at_95) rfl k) ?_
          refine Go.of (T' := Tj28) (f' := (mkF m 100 #[.val (.int p1), .val (.int p2), .val (.int p3), .val (.int p4), .val (.int p5), .val (.int (1 : Int32)), .val (.int (0 : Int32)), .val .null, .val vj41, .unset, .unset, .unset, .unset] [(.int (255 : Int32)), (.int p5)])) (fun _ k => XS.sipush Xj28.here hx rfl (hb hby at_97) k) ?_
          refine Go.of (T' := Tj28) (f' := (mkF m 101 #[.val (.int p1), .val (.int p2), .val (.int p3), .val (.int p4), .val (.int p5), .val (.int (1 : Int32)), .val (.int (0 : Int32)), .val .null, .val vj41, .unset, .unset, .unset, .unset] [(.int (p5 &&& (255 : Int32)))])) (fun _ k => XS.iand Xj28.here hx rfl (hb hby at_100) rfl k) ?_
          refine Go.of (T' := Tj28) (f' := (mkF m 102 #[.val (.int p1), .val (.int p2), .val (.int p3), .val (.int p4), .val (.int p5), .val (.int (1 : Int32)), .val (.int (0 : Int32)), .val .null, .val vj41, .unset, .unset, .unset, .unset] [(.int ((p5 &&& (255 : Int32)).toUInt32.toUInt16.toUInt32.toInt32))])) (fun _ k => XS.i2c Xj28.here hx rfl (hb hby at_101) rfl k) ?_
          refine goS Xj28 hx hZ hown (hw _ (List.mem_of_getElem? (i := 30) rfl)) (hw _ (List.mem_of_getElem? (i := 31) rfl)) (hw _ (List.mem_of_getElem? (i := 2) rfl)) (hw _ (List.mem_of_getElem? (i := 32) rfl)) (by decide) (C := 2) (S := 5) ((rm_valueOf l Z a0 hw ((p5 &&& (255 : Int32)).toUInt32.toUInt16.toUInt32.toInt32) zc hj28 (m255 _) Z_cs hz).bk (W := 0) hZ (hw _ (List.mem_of_getElem? (i := 32) rfl)) (hw _ (List.mem_of_getElem? (i := 2) rfl)) (by decide) (by decide)) ej28 (argsL := [(.int ((p5 &&& (255 : Int32)).toUInt32.toUInt16.toUInt32.toInt32))]) (rest := []) (by rw [hml]; rfl) (lenOf pd__C_Ljava_lang_String_ rfl) rfl rfl (hb hby at_102) (Nat.le_of_eq rfl) (by decide) (by decide) ?_
          intro v35 T35 L35 X35 hQ35
          obtain ⟨h35, e35⟩ : ∃ z, T35.heap = z := ⟨_, rfl⟩
          rw [e35] at hQ35
          obtain ⟨Mc35, a35, t35, rfl, le35, lf35, ne_a35_t35, S_a35⟩ := hQ35
          have ne_ca_a35 : ca ≠ a35 := Nat.ne_of_lt (Nat.lt_of_lt_of_le B_ca.lt1 le35)
          have fr_a35 : h0.size ≤ a35 := Nat.le_trans Mj28.le le35
          have ne_ca_t35 : ca ≠ t35 := Nat.ne_of_lt (Nat.lt_of_lt_of_le B_ca.lt1 lf35)
          have fr_t35 : h0.size ≤ t35 := Nat.le_trans Mj28.le lf35
          have M35 := Mj28.app0 Mc35
          replace Z_cs := StaKeep Z_cs Mc35.1 all0
          replace Z_high := StaKeep Z_high Mc35.1 all0
          replace Z_cache := StaKeep Z_cache Mc35.1 all0
          replace B_ca := B_ca.keep Mc35.1 nin0
          show Go p e below P T35 (mkF m 105 #[.val (.int p1), .val (.int p2), .val (.int p3), .val (.int p4), .val (.int p5), .val (.int (1 : Int32)), .val (.int (0 : Int32)), .val .null, .val vj41, .unset, .unset, .unset, .unset] [(.ref a35)])
          exact J29 T35 h35 _ (.ref a35) (standUp X35 (by decide) (by decide)) e35 M35 Z_cs Z_high Z_cache B_ca rfl
        ·
          refine Go.of (T' := Tj28) (f' := (mkF m 91 #[.val (.int p1), .val (.int p2), .val (.int p3), .val (.int p4), .val (.int p5), .val (.int (1 : Int32)), .val (.int (0 : Int32)), .val .null, .val vj41, .unset, .unset, .unset, .unset] [])) (fun _ k => XS.ifNo Xj28.here hx rfl (hb hby at_88) rfl ((if0 _ _).trans (feq hc88).1) k) ?_
          refine Go.of (T' := Tj28) (f' := (mkF m 92 #[.val (.int p1), .val (.int p2), .val (.int p3), .val (.int p4), .val (.int p5), .val (.int (1 : Int32)), .val (.int (0 : Int32)), .val .null, .val vj41, .unset, .unset, .unset, .unset] [.null])) (fun _ k => XS.aconstNull Xj28.here hx rfl (hb hby at_91) k) ?_
          refine Go.of (T' := Tj28) (f' := (mkF m 105 #[.val (.int p1), .val (.int p2), .val (.int p3), .val (.int p4), .val (.int p5), .val (.int (1 : Int32)), .val (.int (0 : Int32)), .val .null, .val vj41, .unset, .unset, .unset, .unset] [.null])) (fun _ k => XS.goto Xj28.here hx rfl (pc0 := 92) (pc' := 105) rfl (hb hby at_92) (by decide) (by decide) k) ?_
          exact J29 Tj28 hj28 _ .null (standUp Xj28 (by decide) (by decide)) ej28 Mj28 Z_cs Z_high Z_cache B_ca rfl
      refine Go.of (T' := s₁) (f' := (mkF m 42 #[.val (.int p1), .val (.int p2), .val (.int p3), .val (.int p4), .val (.int p5), .val (.int (1 : Int32)), .val (.int (0 : Int32)), .val .null, .unset, .unset, .unset, .unset, .unset] [(.int p1)])) (fun _ k => XS.iloadN X0.here hx rfl (hb hby at_41) rfl k) ?_
      refine Go.of (T' := s₁) (f' := (mkF m 43 #[.val (.int p1), .val (.int p2), .val (.int p3), .val (.int p4), .val (.int p5), .val (.int (1 : Int32)), .val (.int (0 : Int32)), .val .null, .unset, .unset, .unset, .unset, .unset] [(.int (4 : Int32)), (.int p1)])) (fun _ k => XS.iconst X0.here hx rfl (hb hby at_42) k) ?_
      refine Go.of (T' := s₁) (f' := (mkF m 44 #[.val (.int p1), .val (.int p2), .val (.int p3), .val (.int p4), .val (.int p5), .val (.int (1 : Int32)), .val (.int (0 : Int32)), .val .null, .unset, .unset, .unset, .unset, .unset] [(.int (p1 &&& (4 : Int32)))])) (fun _ k => XS.iand X0.here hx rfl (hb hby at_43) rfl k) ?_
      by_cases hc44 : (p1 &&& (4 : Int32)) = (0 : Int32)
      ·
        refine Go.of (T' := s₁) (f' := (mkF m 51 #[.val (.int p1), .val (.int p2), .val (.int p3), .val (.int p4), .val (.int p5), .val (.int (1 : Int32)), .val (.int (0 : Int32)), .val .null, .unset, .unset, .unset, .unset, .unset] [])) (fun _ k => XS.ifYes X0.here hx rfl (pc0 := 44) (pc' := 51) rfl (hb hby at_44) rfl ((if0 _ _).trans (teq hc44).1) (by decide) (by decide) k) ?_
        obtain ⟨T36, h36, X36, e36, E36, A36, D36, -, st36⟩ := newO X0 hx hZ hown (hw _ (List.mem_of_getElem? (i := 0) rfl)) (hw _ (List.mem_of_getElem? (i := 1) rfl)) (hw _ (List.mem_of_getElem? (i := 2) rfl)) e0 (g := (mkF m 51 #[.val (.int p1), .val (.int p2), .val (.int p3), .val (.int p4), .val (.int p5), .val (.int (1 : Int32)), .val (.int (0 : Int32)), .val .null, .unset, .unset, .unset, .unset, .unset] [])) rfl (hb hby at_51) (by decide) (by decide)
        obtain ⟨b36, g36⟩ : ∃ z, z = h0.size := ⟨_, rfl⟩
        rw [← g36] at A36 D36 st36
        have ne_ca_b36 : ca ≠ b36 := Nat.ne_of_lt (Nat.lt_of_lt_of_le B_ca.lt1 (Nat.le_of_eq g36.symm))
        have fr_b36 : h0.size ≤ b36 := Nat.le_trans M0.le (Nat.le_of_eq g36.symm)
        have K36 := keepE E36
        have M36 := M0.ext E36
        replace Z_cs := StaKeep Z_cs K36 all0
        replace Z_high := StaKeep Z_high K36 all0
        replace Z_cache := StaKeep Z_cache K36 all0
        replace B_ca := B_ca.keep K36 nin0
        have E_b36 := A36
        have F_coder_b36 : Fld Z h36 b36 "java/lang/String" "coder" "B" (.int (0 : Int32)) := D36 (Or.inr (hw _ (List.mem_of_getElem? (i := 27) rfl))) (ty := .byte) (by decide)
        have F_value_b36 : Fld Z h36 b36 "java/lang/String" "value" "[B" .null := D36 (Or.inr (hw _ (List.mem_of_getElem? (i := 29) rfl))) (ty := (.array .byte)) (by decide)
        refine Go.of (T' := T36) (f' := (mkF m 54 #[.val (.int p1), .val (.int p2), .val (.int p3), .val (.int p4), .val (.int p5), .val (.int (1 : Int32)), .val (.int (0 : Int32)), .val .null, .unset, .unset, .unset, .unset, .unset] [(.ref b36)])) st36 ?_
        refine Go.of (T' := T36) (f' := (mkF m 55 #[.val (.int p1), .val (.int p2), .val (.int p3), .val (.int p4), .val (.int p5), .val (.int (1 : Int32)), .val (.int (0 : Int32)), .val .null, .unset, .unset, .unset, .unset, .unset] [(.ref b36), (.ref b36)])) (fun _ k => XS.dup X36.here hx rfl (hb hby at_54) rfl rfl k) ?_
        refine Go.of (T' := T36) (f' := (mkF m 56 #[.val (.int p1), .val (.int p2), .val (.int p3), .val (.int p4), .val (.int p5), .val (.int (1 : Int32)), .val (.int (0 : Int32)), .val .null, .unset, .unset, .unset, .unset, .unset] [(.int (2 : Int32)), (.ref b36), (.ref b36)])) (fun _ k => XS.iconst X36.here hx rfl (hb hby at_55) k) ?_
        obtain ⟨T37, h37, k37, X37, e37, E37, A37, st37⟩ := newP X36 hx hZ (hw _ (List.mem_of_getElem? (i := 3) rfl)) e36 (g := (mkF m 56 #[.val (.int p1), .val (.int p2), .val (.int p3), .val (.int p4), .val (.int p5), .val (.int (1 : Int32)), .val (.int (0 : Int32)), .val .null, .unset, .unset, .unset, .unset, .unset] [(.int (2 : Int32)), (.ref b36), (.ref b36)])) rfl (hb hby at_56) rfl (by decide) (cap := 2) (by decide) (by decide) (by decide) (by decide)
        obtain ⟨b37, g37⟩ : ∃ z, z = h36.size := ⟨_, rfl⟩
        rw [← g37] at A37 st37
        have ne_ca_b37 : ca ≠ b37 := Nat.ne_of_lt (Nat.lt_of_lt_of_le B_ca.lt1 (Nat.le_of_eq g37.symm))
        have ne_b36_b37 : b36 ≠ b37 := Nat.ne_of_lt (Nat.lt_of_lt_of_le E_b36.lt (Nat.le_of_eq g37.symm))
        have fr_b37 : h0.size ≤ b37 := Nat.le_trans M36.le (Nat.le_of_eq g37.symm)
        have K37 := keepE E37
        have M37 := M36.ext E37
        replace Z_cs := StaKeep Z_cs K37 all0
        replace Z_high := StaKeep Z_high K37 all0
        replace Z_cache := StaKeep Z_cache K37 all0
        replace B_ca := B_ca.keep K37 nin0
        replace E_b36 := E_b36.keep K37
        replace F_coder_b36 := F_coder_b36.keep K37 nin0
        replace F_value_b36 := F_value_b36.keep K37 nin0
        have V_b37 : Arv Z h37 b37 k37 .char (2 : Int32) [(.int (0 : Int32)), (.int (0 : Int32))] (.int (0 : Int32)) := (Arv.new A37 (by decide)).pad (pad_rep [] (.int (0 : Int32)) 2)
        refine Go.of (T' := T37) (f' := (mkF m 58 #[.val (.int p1), .val (.int p2), .val (.int p3), .val (.int p4), .val (.int p5), .val (.int (1 : Int32)), .val (.int (0 : Int32)), .val .null, .unset, .unset, .unset, .unset, .unset] [(.ref b37), (.ref b36), (.ref b36)])) st37 ?_
        refine Go.of (T' := T37) (f' := (mkF m 59 #[.val (.int p1), .val (.int p2), .val (.int p3), .val (.int p4), .val (.int p5), .val (.int (1 : Int32)), .val (.int (0 : Int32)), .val .null, .unset, .unset, .unset, .unset, .unset] [(.ref b37), (.ref b37), (.ref b36), (.ref b36)])) (fun _ k => XS.dup X37.here hx rfl (hb hby at_58) rfl rfl k) ?_
        refine Go.of (T' := T37) (f' := (mkF m 60 #[.val (.int p1), .val (.int p2), .val (.int p3), .val (.int p4), .val (.int p5), .val (.int (1 : Int32)), .val (.int (0 : Int32)), .val .null, .unset, .unset, .unset, .unset, .unset] [(.int (0 : Int32)), (.ref b37), (.ref b37), (.ref b36), (.ref b36)])) (fun _ k => XS.iconst X37.here hx rfl (hb hby at_59) k) ?_
        refine Go.of (T' := T37) (f' := (mkF m 61 #[.val (.int p1), .val (.int p2), .val (.int p3), .val (.int p4), .val (.int p5), .val (.int (1 : Int32)), .val (.int (0 : Int32)), .val .null, .unset, .unset, .unset, .unset, .unset] [(.int p4), (.int (0 : Int32)), (.ref b37), (.ref b37), (.ref b36), (.ref b36)])) (fun _ k => XS.iloadN X37.here hx rfl (hb hby at_60) rfl k) ?_
        refine Go.of (T' := T37) (f' := (mkF m 64 #[.val (.int p1), .val (.int p2), .val (.int p3), .val (.int p4), .val (.int p5), .val (.int (1 : Int32)), .val (.int (0 : Int32)), .val .null, .unset, .unset, .unset, .unset, .unset] [(.int (255 : Int32)), (.int p4), (.int (0 : Int32)), (.ref b37), (.ref b37), (.ref b36), (.ref b36)])) (fun _ k => XS.sipush X37.here hx rfl (hb hby at_61) k) ?_
        refine Go.of (T' := T37) (f' := (mkF m 65 #[.val (.int p1), .val (.int p2), .val (.int p3), .val (.int p4), .val (.int p5), .val (.int (1 : Int32)), .val (.int (0 : Int32)), .val .null, .unset, .unset, .unset, .unset, .unset] [(.int (p4 &&& (255 : Int32))), (.int (0 : Int32)), (.ref b37), (.ref b37), (.ref b36), (.ref b36)])) (fun _ k => XS.iand X37.here hx rfl (hb hby at_64) rfl k) ?_
        refine Go.of (T' := T37) (f' := (mkF m 66 #[.val (.int p1), .val (.int p2), .val (.int p3), .val (.int p4), .val (.int p5), .val (.int (1 : Int32)), .val (.int (0 : Int32)), .val .null, .unset, .unset, .unset, .unset, .unset] [(.int ((p4 &&& (255 : Int32)).toUInt32.toUInt16.toUInt32.toInt32)), (.int (0 : Int32)), (.ref b37), (.ref b37), (.ref b36), (.ref b36)])) (fun _ k => XS.i2c X37.here hx rfl (hb hby at_65) rfl k) ?_
        obtain ⟨cl38, Ar38, cq38, Sz38, Nn38, Hs38, Gs38⟩ := id V_b37
        have hin38 : ¬ ((0 : Int32) < 0 ∨ cl38.slots.size ≤ ((0 : Int32)).toNatClampNeg) := inb_of Sz38 ⟨by decide, by decide⟩
        obtain ⟨T38, h38, X38, e38, W38, st38⟩ := stC X37 hx hZ e37 Ar38 (j := (0 : Int32)) hin38 (g := (mkF m 66 #[.val (.int p1), .val (.int p2), .val (.int p3), .val (.int p4), .val (.int p5), .val (.int (1 : Int32)), .val (.int (0 : Int32)), .val .null, .unset, .unset, .unset, .unset, .unset] [(.int ((p4 &&& (255 : Int32)).toUInt32.toUInt16.toUInt32.toInt32)), (.int (0 : Int32)), (.ref b37), (.ref b37), (.ref b36), (.ref b36)])) rfl rfl (hb hby at_66)
        have fq38 : fits .char (.int (nar .char ((p4 &&& (255 : Int32)).toUInt32.toUInt16.toUInt32.toInt32))) = true := fits_nar_char _
        rw [show nar .char ((p4 &&& (255 : Int32)).toUInt32.toUInt16.toUInt32.toInt32) = ((p4 &&& (255 : Int32)).toUInt32.toUInt16.toUInt32.toInt32) from narC _] at W38 fq38
        have V38 := Arv.set Ar38 cq38 Sz38 Nn38 Hs38 Gs38 fq38 W38 0 rfl (Nat.le_of_ble_eq_true rfl)
        have V_b37_o := V_b37
        have K38 := Keep.of_wr W38
        have M38 := M37.wr W38 (Or.inr fr_b37)
        replace Z_cs := StaKeep Z_cs K38 (allS (staArv V_b37_o) all0)
        replace Z_high := StaKeep Z_high K38 (allS (staArv V_b37_o) all0)
        replace Z_cache := StaKeep Z_cache K38 (allS (staArv V_b37_o) all0)
        replace B_ca := B_ca.keep K38 (ninS ne_ca_b37 nin0)
        replace E_b36 := E_b36.keep K38
        replace F_coder_b36 := F_coder_b36.keep K38 (ninS ne_b36_b37 nin0)
        replace F_value_b36 := F_value_b36.keep K38 (ninS ne_b36_b37 nin0)
        replace V_b37 : Arv Z h38 b37 k37 .char (2 : Int32) [(.int ((p4 &&& (255 : Int32)).toUInt32.toUInt16.toUInt32.toInt32)), (.int (0 : Int32))] (.int (0 : Int32)) := V38
        refine Go.of (T' := T38) (f' := (mkF m 67 #[.val (.int p1), .val (.int p2), .val (.int p3), .val (.int p4), .val (.int p5), .val (.int (1 : Int32)), .val (.int (0 : Int32)), .val .null, .unset, .unset, .unset, .unset, .unset] [(.ref b37), (.ref b36), (.ref b36)])) st38 ?_
        refine Go.of (T' := T38) (f' := (mkF m 68 #[.val (.int p1), .val (.int p2), .val (.int p3), .val (.int p4), .val (.int p5), .val (.int (1 : Int32)), .val (.int (0 : Int32)), .val .null, .unset, .unset, .unset, .unset, .unset] [(.ref b37), (.ref b37), (.ref b36), (.ref b36)])) (fun _ k => XS.dup X38.here hx rfl (hb hby at_67) rfl rfl k) ?_
        refine Go.of (T' := T38) (f' := (mkF m 69 #[.val (.int p1), .val (.int p2), .val (.int p3), .val (.int p4), .val (.int p5), .val (.int (1 : Int32)), .val (.int (0 : Int32)), .val .null, .unset, .unset, .unset, .unset, .unset] [(.int (1 : Int32)), (.ref b37), (.ref b37), (.ref b36), (.ref b36)])) (fun _ k => XS.iconst X38.here hx rfl (hb hby at_68) k) ?_
        refine Go.of (T' := T38) (f' := (mkF m 70 #[.val (.int p1), .val (.int p2), .val (.int p3), .val (.int p4), .val (.int p5), .val (.int (1 : Int32)), .val (.int (0 : Int32)), .val .null, .unset, .unset, .unset, .unset, .unset] [(.int p4), (.int (1 : Int32)), (.ref b37), (.ref b37), (.ref b36), (.ref b36)])) (fun _ k => XS.iloadN X38.here hx rfl (hb hby at_69) rfl k) ?_
        refine Go.of (T' := T38) (f' := (mkF m 72 #[.val (.int p1), .val (.int p2), .val (.int p3), .val (.int p4), .val (.int p5), .val (.int (1 : Int32)), .val (.int (0 : Int32)), .val .null, .unset, .unset, .unset, .unset, .unset] [(.int (8 : Int32)), (.int p4), (.int (1 : Int32)), (.ref b37), (.ref b37), (.ref b36), (.ref b36)])) (fun _ k => XS.bipush X38.here hx rfl (hb hby at_70) k) ?_
        refine Go.of (T' := T38) (f' := (mkF m 73 #[.val (.int p1), .val (.int p2), .val (.int p3), .val (.int p4), .val (.int p5), .val (.int (1 : Int32)), .val (.int (0 : Int32)), .val .null, .unset, .unset, .unset, .unset, .unset] [(.int ((p4.toUInt32 >>> ((8 : Int32) &&& 31).toUInt32).toInt32)), (.int (1 : Int32)), (.ref b37), (.ref b37), (.ref b36), (.ref b36)])) (fun _ k => XS.iushr X38.here hx rfl (hb hby at_72) rfl k) ?_
        refine Go.of (T' := T38) (f' := (mkF m 76 #[.val (.int p1), .val (.int p2), .val (.int p3), .val (.int p4), .val (.int p5), .val (.int (1 : Int32)), .val (.int (0 : Int32)), .val .null, .unset, .unset, .unset, .unset, .unset] [(.int (255 : Int32)), (.int ((p4.toUInt32 >>> ((8 : Int32) &&& 31).toUInt32).toInt32)), (.int (1 : Int32)), (.ref b37), (.ref b37), (.ref b36), (.ref b36)])) (fun _ k => XS.sipush X38.here hx rfl (hb hby at_73) k) ?_
        refine Go.of (T' := T38) (f' := (mkF m 77 #[.val (.int p1), .val (.int p2), .val (.int p3), .val (.int p4), .val (.int p5), .val (.int (1 : Int32)), .val (.int (0 : Int32)), .val .null, .unset, .unset, .unset, .unset, .unset] [(.int (((p4.toUInt32 >>> ((8 : Int32) &&& 31).toUInt32).toInt32) &&& (255 : Int32))), (.int (1 : Int32)), (.ref b37), (.ref b37), (.ref b36), (.ref b36)])) (fun _ k => XS.iand X38.here hx rfl (hb hby at_76) rfl k) ?_
        refine Go.of (T' := T38) (f' := (mkF m 78 #[.val (.int p1), .val (.int p2), .val (.int p3), .val (.int p4), .val (.int p5), .val (.int (1 : Int32)), .val (.int (0 : Int32)), .val .null, .unset, .unset, .unset, .unset, .unset] [(.int ((((p4.toUInt32 >>> ((8 : Int32) &&& 31).toUInt32).toInt32) &&& (255 : Int32)).toUInt32.toUInt16.toUInt32.toInt32)), (.int (1 : Int32)), (.ref b37), (.ref b37), (.ref b36), (.ref b36)])) (fun _ k => XS.i2c X38.here hx rfl (hb hby at_77) rfl k) ?_
        obtain ⟨cl39, Ar39, cq39, Sz39, Nn39, Hs39, Gs39⟩ := id V_b37
        have hin39 : ¬ ((1 : Int32) < 0 ∨ cl39.slots.size ≤ ((1 : Int32)).toNatClampNeg) := inb_of Sz39 ⟨by decide, by decide⟩
        obtain ⟨T39, h39, X39, e39, W39, st39⟩ := stC X38 hx hZ e38 Ar39 (j := (1 : Int32)) hin39 (g := (mkF m 78 #[.val (.int p1), .val (.int p2), .val (.int p3), .val (.int p4), .val (.int p5), .val (.int (1 : Int32)), .val (.int (0 : Int32)), .val .null, .unset, .unset, .unset, .unset, .unset] [(.int ((((p4.toUInt32 >>> ((8 : Int32) &&& 31).toUInt32).toInt32) &&& (255 : Int32)).toUInt32.toUInt16.toUInt32.toInt32)), (.int (1 : Int32)), (.ref b37), (.ref b37), (.ref b36), (.ref b36)])) rfl rfl (hb hby at_78)
        have fq39 : fits .char (.int (nar .char ((((p4.toUInt32 >>> ((8 : Int32) &&& 31).toUInt32).toInt32) &&& (255 : Int32)).toUInt32.toUInt16.toUInt32.toInt32))) = true := fits_nar_char _
        rw [show nar .char ((((p4.toUInt32 >>> ((8 : Int32) &&& 31).toUInt32).toInt32) &&& (255 : Int32)).toUInt32.toUInt16.toUInt32.toInt32) = ((((p4.toUInt32 >>> ((8 : Int32) &&& 31).toUInt32).toInt32) &&& (255 : Int32)).toUInt32.toUInt16.toUInt32.toInt32) from narC _] at W39 fq39
        have V39 := Arv.set Ar39 cq39 Sz39 Nn39 Hs39 Gs39 fq39 W39 1 rfl (Nat.le_of_ble_eq_true rfl)
        have V_b37_o := V_b37
        have K39 := Keep.of_wr W39
        have M39 := M38.wr W39 (Or.inr fr_b37)
        replace Z_cs := StaKeep Z_cs K39 (allS (staArv V_b37_o) all0)
        replace Z_high := StaKeep Z_high K39 (allS (staArv V_b37_o) all0)
        replace Z_cache := StaKeep Z_cache K39 (allS (staArv V_b37_o) all0)
        replace B_ca := B_ca.keep K39 (ninS ne_ca_b37 nin0)
        replace E_b36 := E_b36.keep K39
        replace F_coder_b36 := F_coder_b36.keep K39 (ninS ne_b36_b37 nin0)
        replace F_value_b36 := F_value_b36.keep K39 (ninS ne_b36_b37 nin0)
        replace V_b37 : Arv Z h39 b37 k37 .char (2 : Int32) [(.int ((p4 &&& (255 : Int32)).toUInt32.toUInt16.toUInt32.toInt32)), (.int ((((p4.toUInt32 >>> ((8 : Int32) &&& 31).toUInt32).toInt32) &&& (255 : Int32)).toUInt32.toUInt16.toUInt32.toInt32))] (.int (0 : Int32)) := V39
        refine Go.of (T' := T39) (f' := (mkF m 79 #[.val (.int p1), .val (.int p2), .val (.int p3), .val (.int p4), .val (.int p5), .val (.int (1 : Int32)), .val (.int (0 : Int32)), .val .null, .unset, .unset, .unset, .unset, .unset] [(.ref b37), (.ref b36), (.ref b36)])) st39 ?_
        refine goI X39 hx hZ rfl hown (hw _ (List.mem_of_getElem? (i := 4) rfl)) (hw _ (List.mem_of_getElem? (i := 5) rfl)) (hw _ (List.mem_of_getElem? (i := 6) rfl)) (by decide) (C := 1) (S := 2) (newStr (W := 1) hZ (hw_words hw) (hw _ (List.mem_of_getElem? (i := 1) rfl)) (cs := [((p4 &&& (255 : Int32)).toUInt32.toUInt16.toUInt32.toInt32), ((((p4.toUInt32 >>> ((8 : Int32) &&& 31).toUInt32).toInt32) &&& (255 : Int32)).toUInt32.toUInt16.toUInt32.toInt32)]) E_b36 F_value_b36 F_coder_b36 V_b37 rfl Z_cs hz (n := 2) rfl rfl (by decide) (by decide) (by intro c hc; simp only [List.mem_cons, List.not_mem_nil, or_false] at hc; rcases hc with rfl | rfl <;> exact m255 _) (by decide) (by decide)) e39 (argsL := [(.ref b37)]) (rest := [(.ref b36)]) (by rw [hml]; rfl) (lenOf pd___C_V rfl) rfl rfl (hb hby at_79) (Nat.le_of_eq rfl) (by decide) (by decide) ?_
        intro v40 T40 L40 X40 hQ40
        obtain ⟨h40, e40⟩ : ∃ z, T40.heap = z := ⟨_, rfl⟩
        rw [e40] at hQ40
        have E_b36_o := E_b36
        obtain ⟨rfl, Mc40, t40, le40, S40⟩ := hQ40
        have ne_ca_t40 : ca ≠ t40 := Nat.ne_of_lt (Nat.lt_of_lt_of_le B_ca.lt1 le40)
        have ne_b36_t40 : b36 ≠ t40 := Nat.ne_of_lt (Nat.lt_of_lt_of_le E_b36.lt le40)
        have ne_b37_t40 : b37 ≠ t40 := Nat.ne_of_lt (Nat.lt_of_lt_of_le V_b37.lt le40)
        have fr_t40 : h0.size ≤ t40 := Nat.le_trans M39.le le40
        have M40 := M39.app Mc40 (allS (Or.inr fr_b36) all0)
        replace Z_cs := StaKeep Z_cs Mc40.1 (allS (staExa E_b36_o) all0)
        replace Z_high := StaKeep Z_high Mc40.1 (allS (staExa E_b36_o) all0)
        replace Z_cache := StaKeep Z_cache Mc40.1 (allS (staExa E_b36_o) all0)
        replace B_ca := B_ca.keep Mc40.1 (ninS ne_ca_b36 nin0)
        replace E_b36 := E_b36.keep Mc40.1
        replace V_b37 := V_b37.keep Mc40.1 (ninS (Ne.symm ne_b36_b37) nin0)
        have S_b36 := S40
        show Go p e below P T40 (mkF m 82 #[.val (.int p1), .val (.int p2), .val (.int p3), .val (.int p4), .val (.int p5), .val (.int (1 : Int32)), .val (.int (0 : Int32)), .val .null, .unset, .unset, .unset, .unset, .unset] [(.ref b36)])
        exact J28 T40 h40 _ (.ref b36) (standUp X40 (by decide) (by decide)) e40 M40 Z_cs Z_high Z_cache B_ca rfl
      ·
        refine Go.of (T' := s₁) (f' := (mkF m 47 #[.val (.int p1), .val (.int p2), .val (.int p3), .val (.int p4), .val (.int p5), .val (.int (1 : Int32)), .val (.int (0 : Int32)), .val .null, .unset, .unset, .unset, .unset, .unset] [])) (fun _ k => XS.ifNo X0.here hx rfl (hb hby at_44) rfl ((if0 _ _).trans (feq hc44).1) k) ?_
        refine Go.of (T' := s₁) (f' := (mkF m 48 #[.val (.int p1), .val (.int p2), .val (.int p3), .val (.int p4), .val (.int p5), .val (.int (1 : Int32)), .val (.int (0 : Int32)), .val .null, .unset, .unset, .unset, .unset, .unset] [.null])) (fun _ k => XS.aconstNull X0.here hx rfl (hb hby at_47) k) ?_
        refine Go.of (T' := s₁) (f' := (mkF m 82 #[.val (.int p1), .val (.int p2), .val (.int p3), .val (.int p4), .val (.int p5), .val (.int (1 : Int32)), .val (.int (0 : Int32)), .val .null, .unset, .unset, .unset, .unset, .unset] [.null])) (fun _ k => XS.goto X0.here hx rfl (pc0 := 48) (pc' := 82) rfl (hb hby at_48) (by decide) (by decide) k) ?_
        exact J28 s₁ h0 _ .null (standUp X0 (by decide) (by decide)) e0 M0 Z_cs Z_high Z_cache B_ca rfl
    ·
      refine Go.of (T' := s₁) (f' := (mkF m 19 #[.val (.int p1), .val (.int p2), .val (.int p3), .val (.int p4), .val (.int p5), .val (.int (1 : Int32)), .unset, .unset, .unset, .unset, .unset, .unset, .unset] [])) (fun _ k => XS.ifNo X0.here hx rfl (hb hby at_16) rfl ((if0 _ _).trans (feq hc16).1) k) ?_
      refine Go.of (T' := s₁) (f' := (mkF m 20 #[.val (.int p1), .val (.int p2), .val (.int p3), .val (.int p4), .val (.int p5), .val (.int (1 : Int32)), .unset, .unset, .unset, .unset, .unset, .unset, .unset] [(.int (1 : Int32))])) (fun _ k => XS.iconst X0.here hx rfl (hb hby at_19) k) ?_
      refine Go.of (T' := s₁) (f' := (mkF m 24 #[.val (.int p1), .val (.int p2), .val (.int p3), .val (.int p4), .val (.int p5), .val (.int (1 : Int32)), .unset, .unset, .unset, .unset, .unset, .unset, .unset] [(.int (1 : Int32))])) (fun _ k => XS.goto X0.here hx rfl (pc0 := 20) (pc' := 24) rfl (hb hby at_20) (by decide) (by decide) k) ?_
      refine Go.of (T' := s₁) (f' := (mkF m 26 #[.val (.int p1), .val (.int p2), .val (.int p3), .val (.int p4), .val (.int p5), .val (.int (1 : Int32)), .val (.int (1 : Int32)), .unset, .unset, .unset, .unset, .unset, .unset] [])) (fun _ k => XS.istore X0.here hx rfl (hb hby at_24) rfl (l' := #[.val (.int p1), .val (.int p2), .val (.int p3), .val (.int p4), .val (.int p5), .val (.int (1 : Int32)), .val (.int (1 : Int32)), .unset, .unset, .unset, .unset, .unset, .unset]) rfl k) ?_
      refine Go.of (T' := s₁) (f' := (mkF m 28 #[.val (.int p1), .val (.int p2), .val (.int p3), .val (.int p4), .val (.int p5), .val (.int (1 : Int32)), .val (.int (1 : Int32)), .unset, .unset, .unset, .unset, .unset, .unset] [(.int (1 : Int32))])) (fun _ k => XS.iload X0.here hx rfl (hb hby at_26) rfl k) ?_
      refine Go.of (T' := s₁) (f' := (mkF m 31 #[.val (.int p1), .val (.int p2), .val (.int p3), .val (.int p4), .val (.int p5), .val (.int (1 : Int32)), .val (.int (1 : Int32)), .unset, .unset, .unset, .unset, .unset, .unset] [])) (fun _ k => XS.ifNo X0.here hx rfl (hb hby at_28) rfl (by decide) k) ?_
      refine Go.of (T' := s₁) (f' := (mkF m 32 #[.val (.int p1), .val (.int p2), .val (.int p3), .val (.int p4), .val (.int p5), .val (.int (1 : Int32)), .val (.int (1 : Int32)), .unset, .unset, .unset, .unset, .unset, .unset] [(.int p2)])) (fun _ k => XS.iloadN X0.here hx rfl (hb hby at_31) rfl k) ?_
      refine goS X0 hx hZ hown (hw _ (List.mem_of_getElem? (i := 73) rfl)) (hw _ (List.mem_of_getElem? (i := 74) rfl)) (hw _ (List.mem_of_getElem? (i := 75) rfl)) (hw _ (List.mem_of_getElem? (i := 76) rfl)) (by decide) (C := 1) (S := 1) ((rm_box l Z a0 hw p2 ca h0 Z_high Z_cache B_ca).bk (W := 0) hZ (hw _ (List.mem_of_getElem? (i := 76) rfl)) (hw _ (List.mem_of_getElem? (i := 75) rfl)) (by decide) (by decide)) e0 (argsL := [(.int p2)]) (rest := []) (by rw [hml]; rfl) (lenOf pd__I_Ljava_lang_Integer_ rfl) rfl rfl (hb hby at_32) (Nat.le_of_eq rfl) (by decide) (by decide) ?_
      intro v41 T41 L41 X41 hQ41
      obtain ⟨h41, e41⟩ : ∃ z, T41.heap = z := ⟨_, rfl⟩
      rw [e41] at hQ41
      obtain ⟨Mc41, ia41, rfl⟩ := hQ41
      have M41 := M0.app0 Mc41
      replace Z_cs := StaKeep Z_cs Mc41.1 all0
      replace Z_high := StaKeep Z_high Mc41.1 all0
      replace Z_cache := StaKeep Z_cache Mc41.1 all0
      replace B_ca := B_ca.keep Mc41.1 nin0
      show Go p e below P T41 (mkF m 35 #[.val (.int p1), .val (.int p2), .val (.int p3), .val (.int p4), .val (.int p5), .val (.int (1 : Int32)), .val (.int (1 : Int32)), .unset, .unset, .unset, .unset, .unset, .unset] [(.ref ia41)])
      refine Go.of (T' := T41) (f' := (mkF m 39 #[.val (.int p1), .val (.int p2), .val (.int p3), .val (.int p4), .val (.int p5), .val (.int (1 : Int32)), .val (.int (1 : Int32)), .unset, .unset, .unset, .unset, .unset, .unset] [(.ref ia41)])) (fun _ k => XS.goto X41.here hx rfl (pc0 := 35) (pc' := 39) rfl (hb hby at_35) (by decide) (by decide) k) ?_
      refine Go.of (T' := T41) (f' := (mkF m 41 #[.val (.int p1), .val (.int p2), .val (.int p3), .val (.int p4), .val (.int p5), .val (.int (1 : Int32)), .val (.int (1 : Int32)), .val (.ref ia41), .unset, .unset, .unset, .unset, .unset] [])) (fun _ k => XS.astore X41.here hx rfl (hb hby at_39) rfl rfl (l' := #[.val (.int p1), .val (.int p2), .val (.int p3), .val (.int p4), .val (.int p5), .val (.int (1 : Int32)), .val (.int (1 : Int32)), .val (.ref ia41), .unset, .unset, .unset, .unset, .unset]) rfl k) ?_
      have J42 : ∀ (Tj42 : State) (hj42 : Heap) (Lj42 : List Loc) (vj41 : Value), Stand p l e room_1 s m #[(.int p1), (.int p2), (.int p3), (.int p4), (.int p5)] below meth c Tj42 Lj42 4 9 → Tj42.heap = hj42 → Mv h0 hj42 [] Lj42 → Sta Z hj42 "java/lang/String" "COMPACT_STRINGS" "Z" (.int zc) → Sta Z hj42 "java/lang/Integer$IntegerCache" "high" "I" (.int (127 : Int32)) → Sta Z hj42 "java/lang/Integer$IntegerCache" "cache" "[Ljava/lang/Integer;" (.ref ca) → RefArr Z hj42 ca → vj41.isRef = true → Go p e below P Tj42 (mkF m 82 #[.val (.int p1), .val (.int p2), .val (.int p3), .val (.int p4), .val (.int p5), .val (.int (1 : Int32)), .val (.int (1 : Int32)), .val (.ref ia41), .unset, .unset, .unset, .unset, .unset] [vj41]) := by
        intro Tj42 hj42 Lj42 vj41 Xj42 ej42 Mj42 Z_cs Z_high Z_cache B_ca hvj41
        refine Go.of (T' := Tj42) (f' := (mkF m 84 #[.val (.int p1), .val (.int p2), .val (.int p3), .val (.int p4), .val (.int p5), .val (.int (1 : Int32)), .val (.int (1 : Int32)), .val (.ref ia41), .val vj41, .unset, .unset, .unset, .unset] [])) (fun _ k => XS.astore Xj42.here hx rfl (hb hby at_82) rfl hvj41 (l' := #[.val (.int p1), .val (.int p2), .val (.int p3), .val (.int p4), .val (.int p5), .val (.int (1 : Int32)), .val (.int (1 : Int32)), .val (.ref ia41), .val vj41, .unset, .unset, .unset, .unset]) (by first | rfl | exact XS.store1 rfl (Or.inl rfl) (refcat hvj41)) k) ?_
        have J43 : ∀ (Tj43 : State) (hj43 : Heap) (Lj43 : List Loc) (vj84 : Value), Stand p l e room_1 s m #[(.int p1), (.int p2), (.int p3), (.int p4), (.int p5)] below meth c Tj43 Lj43 7 17 → Tj43.heap = hj43 → Mv h0 hj43 [] Lj43 → Sta Z hj43 "java/lang/String" "COMPACT_STRINGS" "Z" (.int zc) → Sta Z hj43 "java/lang/Integer$IntegerCache" "high" "I" (.int (127 : Int32)) → Sta Z hj43 "java/lang/Integer$IntegerCache" "cache" "[Ljava/lang/Integer;" (.ref ca) → RefArr Z hj43 ca → vj84.isRef = true → Go p e below P Tj43 (mkF m 105 #[.val (.int p1), .val (.int p2), .val (.int p3), .val (.int p4), .val (.int p5), .val (.int (1 : Int32)), .val (.int (1 : Int32)), .val (.ref ia41), .val vj41, .unset, .unset, .unset, .unset] [vj84]) := by
          intro Tj43 hj43 Lj43 vj84 Xj43 ej43 Mj43 Z_cs Z_high Z_cache B_ca hvj84
          refine Go.of (T' := Tj43) (f' := (mkF m 107 #[.val (.int p1), .val (.int p2), .val (.int p3), .val (.int p4), .val (.int p5), .val (.int (1 : Int32)), .val (.int (1 : Int32)), .val (.ref ia41), .val vj41, .val vj84, .unset, .unset, .unset] [])) (fun _ k => XS.astore Xj43.here hx rfl (hb hby at_105) rfl hvj84 (l' := #[.val (.int p1), .val (.int p2), .val (.int p3), .val (.int p4), .val (.int p5), .val (.int (1 : Int32)), .val (.int (1 : Int32)), .val (.ref ia41), .val vj41, .val vj84, .unset, .unset, .unset]) (by first | rfl | exact XS.store1 rfl (Or.inl rfl) (refcat hvj84)) k) ?_
          have J44 : ∀ (Tj44 : State) (hj44 : Heap) (Lj44 : List Loc) (vj107 : Value), Stand p l e room_1 s m #[(.int p1), (.int p2), (.int p3), (.int p4), (.int p5)] below meth c Tj44 Lj44 10 25 → Tj44.heap = hj44 → Mv h0 hj44 [] Lj44 → Sta Z hj44 "java/lang/String" "COMPACT_STRINGS" "Z" (.int zc) → Sta Z hj44 "java/lang/Integer$IntegerCache" "high" "I" (.int (127 : Int32)) → Sta Z hj44 "java/lang/Integer$IntegerCache" "cache" "[Ljava/lang/Integer;" (.ref ca) → RefArr Z hj44 ca → vj107.isRef = true → Go p e below P Tj44 (mkF m 131 #[.val (.int p1), .val (.int p2), .val (.int p3), .val (.int p4), .val (.int p5), .val (.int (1 : Int32)), .val (.int (1 : Int32)), .val (.ref ia41), .val vj41, .val vj84, .unset, .unset, .unset] [vj107]) := by
            intro Tj44 hj44 Lj44 vj107 Xj44 ej44 Mj44 Z_cs Z_high Z_cache B_ca hvj107
            refine Go.of (T' := Tj44) (f' := (mkF m 133 #[.val (.int p1), .val (.int p2), .val (.int p3), .val (.int p4), .val (.int p5), .val (.int (1 : Int32)), .val (.int (1 : Int32)), .val (.ref ia41), .val vj41, .val vj84, .val vj107, .unset, .unset] [])) (fun _ k => XS.astore Xj44.here hx rfl (hb hby at_131) rfl hvj107 (l' := #[.val (.int p1), .val (.int p2), .val (.int p3), .val (.int p4), .val (.int p5), .val (.int (1 : Int32)), .val (.int (1 : Int32)), .val (.ref ia41), .val vj41, .val vj84, .val vj107, .unset, .unset]) (by first | rfl | exact XS.store1 rfl (Or.inl rfl) (refcat hvj107)) k) ?_
            obtain ⟨T45, h45, X45, e45, E45, A45, D45, -, st45⟩ := newO Xj44 hx hZ hown (hw _ (List.mem_of_getElem? (i := 44) rfl)) (hw _ (List.mem_of_getElem? (i := 45) rfl)) (hw _ (List.mem_of_getElem? (i := 46) rfl)) ej44 (g := (mkF m 133 #[.val (.int p1), .val (.int p2), .val (.int p3), .val (.int p4), .val (.int p5), .val (.int (1 : Int32)), .val (.int (1 : Int32)), .val (.ref ia41), .val vj41, .val vj84, .val vj107, .unset, .unset] [])) rfl (hb hby at_133) (by decide) (by decide)
            obtain ⟨b45, g45⟩ : ∃ z, z = hj44.size := ⟨_, rfl⟩
            rw [← g45] at A45 D45 st45
            have ne_ca_b45 : ca ≠ b45 := Nat.ne_of_lt (Nat.lt_of_lt_of_le B_ca.lt1 (Nat.le_of_eq g45.symm))
            have fr_b45 : h0.size ≤ b45 := Nat.le_trans Mj44.le (Nat.le_of_eq g45.symm)
            have K45 := keepE E45
            have M45 := Mj44.ext E45
            replace Z_cs := StaKeep Z_cs K45 all0
            replace Z_high := StaKeep Z_high K45 all0
            replace Z_cache := StaKeep Z_cache K45 all0
            replace B_ca := B_ca.keep K45 nin0
            have E_b45 := A45
            have F_step_b45 : Fld Z h45 b45 "com/example/stratify/stratify/Problem" "step" "Ljava/lang/String;" .null := D45 (Or.inr (hw _ (List.mem_of_getElem? (i := 57) rfl))) (ty := (.object "java/lang/String")) (by decide)
            have F_rolledBack_b45 : Fld Z h45 b45 "com/example/stratify/stratify/Problem" "rolledBack" "Z" (.int (0 : Int32)) := D45 (Or.inr (hw _ (List.mem_of_getElem? (i := 59) rfl))) (ty := .boolean) (by decide)
            have F_statement_b45 : Fld Z h45 b45 "com/example/stratify/stratify/Problem" "statement" "Ljava/lang/Integer;" .null := D45 (Or.inr (hw _ (List.mem_of_getElem? (i := 61) rfl))) (ty := (.object "java/lang/Integer")) (by decide)
            have F_statements_b45 : Fld Z h45 b45 "com/example/stratify/stratify/Problem" "statements" "I" (.int (0 : Int32)) := D45 (Or.inr (hw _ (List.mem_of_getElem? (i := 63) rfl))) (ty := .int) (by decide)
            have F_sql_b45 : Fld Z h45 b45 "com/example/stratify/stratify/Problem" "sql" "Ljava/lang/String;" .null := D45 (Or.inr (hw _ (List.mem_of_getElem? (i := 65) rfl))) (ty := (.object "java/lang/String")) (by decide)
            have F_error_b45 : Fld Z h45 b45 "com/example/stratify/stratify/Problem" "error" "Ljava/lang/String;" .null := D45 (Or.inr (hw _ (List.mem_of_getElem? (i := 67) rfl))) (ty := (.object "java/lang/String")) (by decide)
            refine Go.of (T' := T45) (f' := (mkF m 136 #[.val (.int p1), .val (.int p2), .val (.int p3), .val (.int p4), .val (.int p5), .val (.int (1 : Int32)), .val (.int (1 : Int32)), .val (.ref ia41), .val vj41, .val vj84, .val vj107, .unset, .unset] [(.ref b45)])) st45 ?_
            refine Go.of (T' := T45) (f' := (mkF m 137 #[.val (.int p1), .val (.int p2), .val (.int p3), .val (.int p4), .val (.int p5), .val (.int (1 : Int32)), .val (.int (1 : Int32)), .val (.ref ia41), .val vj41, .val vj84, .val vj107, .unset, .unset] [(.ref b45), (.ref b45)])) (fun _ k => XS.dup X45.here hx rfl (hb hby at_136) rfl rfl k) ?_
            refine Go.of (T' := T45) (f' := (mkF m 139 #[.val (.int p1), .val (.int p2), .val (.int p3), .val (.int p4), .val (.int p5), .val (.int (1 : Int32)), .val (.int (1 : Int32)), .val (.ref ia41), .val vj41, .val vj84, .val vj107, .unset, .unset] [vj41, (.ref b45), (.ref b45)])) (fun _ k => XS.aload X45.here hx rfl (hb hby at_137) rfl hvj41 k) ?_
            refine Go.of (T' := T45) (f' := (mkF m 141 #[.val (.int p1), .val (.int p2), .val (.int p3), .val (.int p4), .val (.int p5), .val (.int (1 : Int32)), .val (.int (1 : Int32)), .val (.ref ia41), .val vj41, .val vj84, .val vj107, .unset, .unset] [(.int (1 : Int32)), vj41, (.ref b45), (.ref b45)])) (fun _ k => XS.iload X45.here hx rfl (hb hby at_139) rfl k) ?_
            refine Go.of (T' := T45) (f' := (mkF m 143 #[.val (.int p1), .val (.int p2), .val (.int p3), .val (.int p4), .val (.int p5), .val (.int (1 : Int32)), .val (.int (1 : Int32)), .val (.ref ia41), .val vj41, .val vj84, .val vj107, .unset, .unset] [(.ref ia41), (.int (1 : Int32)), vj41, (.ref b45), (.ref b45)])) (fun _ k => XS.aload X45.here hx rfl (hb hby at_141) rfl rfl k) ?_
            refine Go.of (T' := T45) (f' := (mkF m 144 #[.val (.int p1), .val (.int p2), .val (.int p3), .val (.int p4), .val (.int p5), .val (.int (1 : Int32)), .val (.int (1 : Int32)), .val (.ref ia41), .val vj41, .val vj84, .val vj107, .unset, .unset] [(.int p3), (.ref ia41), (.int (1 : Int32)), vj41, (.ref b45), (.ref b45)])) (fun _ k => XS.iloadN X45.here hx rfl (hb hby at_143) rfl k) ?_
            refine Go.of (T' := T45) (f' := (mkF m 146 #[.val (.int p1), .val (.int p2), .val (.int p3), .val (.int p4), .val (.int p5), .val (.int (1 : Int32)), .val (.int (1 : Int32)), .val (.ref ia41), .val vj41, .val vj84, .val vj107, .unset, .unset] [vj84, (.int p3), (.ref ia41), (.int (1 : Int32)), vj41, (.ref b45), (.ref b45)])) (fun _ k => XS.aload X45.here hx rfl (hb hby at_144) rfl hvj84 k) ?_
            refine Go.of (T' := T45) (f' := (mkF m 148 #[.val (.int p1), .val (.int p2), .val (.int p3), .val (.int p4), .val (.int p5), .val (.int (1 : Int32)), .val (.int (1 : Int32)), .val (.ref ia41), .val vj41, .val vj84, .val vj107, .unset, .unset] [vj107, vj84, (.int p3), (.ref ia41), (.int (1 : Int32)), vj41, (.ref b45), (.ref b45)])) (fun _ k => XS.aload X45.here hx rfl (hb hby at_146) rfl hvj107 k) ?_
            refine goI X45 hx hZ rfl hown (hw _ (List.mem_of_getElem? (i := 47) rfl)) (hw _ (List.mem_of_getElem? (i := 48) rfl)) (hw _ (List.mem_of_getElem? (i := 49) rfl)) (by decide) (C := 0) (S := 0) ((rm_problem l Z a0 hw b45 vj41 (1 : Int32) (.ref ia41) p3 vj84 vj107 h45 E_b45 F_step_b45 F_rolledBack_b45 F_statement_b45 F_statements_b45 F_sql_b45 F_error_b45 hvj41 (by simp) rfl hvj84 hvj107).bk (W := 1) hZ (hw _ (List.mem_of_getElem? (i := 49) rfl)) (hw _ (List.mem_of_getElem? (i := 46) rfl)) (by decide) (by decide)) e45 (argsL := [vj41, (.int (1 : Int32)), (.ref ia41), (.int p3), vj84, vj107]) (rest := [(.ref b45)]) (by rw [hml]; rfl) (lenOf pd__Ljava_lang_String_ZLjava_lang_Integer_ILjava_lang_String_Ljava_lang_String__V rfl) rfl rfl (hb hby at_148) (Nat.le_of_eq rfl) (by decide) (by decide) ?_
            intro v46 T46 L46 X46 hQ46
            obtain ⟨h46, e46⟩ : ∃ z, T46.heap = z := ⟨_, rfl⟩
            rw [e46] at hQ46
            have E_b45_o := E_b45
            obtain ⟨rfl, Mc46, Ec46, Fc46_0, Fc46_1, Fc46_2, Fc46_3, Fc46_4, Fc46_5⟩ := hQ46
            have M46 := M45.app Mc46 (allS (Or.inr fr_b45) all0)
            replace Z_cs := StaKeep Z_cs Mc46.1 (allS (staExa E_b45_o) all0)
            replace Z_high := StaKeep Z_high Mc46.1 (allS (staExa E_b45_o) all0)
            replace Z_cache := StaKeep Z_cache Mc46.1 (allS (staExa E_b45_o) all0)
            replace B_ca := B_ca.keep Mc46.1 (ninS ne_ca_b45 nin0)
            replace E_b45 := Ec46
            have F_step_b45 := Fc46_0
            have F_rolledBack_b45 := Fc46_1
            have F_statement_b45 := Fc46_2
            have F_statements_b45 := Fc46_3
            have F_sql_b45 := Fc46_4
            have F_error_b45 := Fc46_5
            show Go p e below P T46 (mkF m 151 #[.val (.int p1), .val (.int p2), .val (.int p3), .val (.int p4), .val (.int p5), .val (.int (1 : Int32)), .val (.int (1 : Int32)), .val (.ref ia41), .val vj41, .val vj84, .val vj107, .unset, .unset] [(.ref b45)])
            refine Go.of (T' := T46) (f' := (mkF m 153 #[.val (.int p1), .val (.int p2), .val (.int p3), .val (.int p4), .val (.int p5), .val (.int (1 : Int32)), .val (.int (1 : Int32)), .val (.ref ia41), .val vj41, .val vj84, .val vj107, .val (.ref b45), .unset] [])) (fun _ k => XS.astore X46.here hx rfl (hb hby at_151) rfl rfl (l' := #[.val (.int p1), .val (.int p2), .val (.int p3), .val (.int p4), .val (.int p5), .val (.int (1 : Int32)), .val (.int (1 : Int32)), .val (.ref ia41), .val vj41, .val vj84, .val vj107, .val (.ref b45), .unset]) rfl k) ?_
            refine Go.of (T' := T46) (f' := (mkF m 155 #[.val (.int p1), .val (.int p2), .val (.int p3), .val (.int p4), .val (.int p5), .val (.int (1 : Int32)), .val (.int (1 : Int32)), .val (.ref ia41), .val vj41, .val vj84, .val vj107, .val (.ref b45), .unset] [(.int (1 : Int32))])) (fun _ k => XS.iload X46.here hx rfl (hb hby at_153) rfl k) ?_
            refine Go.of (T' := T46) (f' := (mkF m 158 #[.val (.int p1), .val (.int p2), .val (.int p3), .val (.int p4), .val (.int p5), .val (.int (1 : Int32)), .val (.int (1 : Int32)), .val (.ref ia41), .val vj41, .val vj84, .val vj107, .val (.ref b45), .unset] [])) (fun _ k => XS.ifNo X46.here hx rfl (hb hby at_155) rfl (by decide) k) ?_
            refine Go.of (T' := T46) (f' := (mkF m 159 #[.val (.int p1), .val (.int p2), .val (.int p3), .val (.int p4), .val (.int p5), .val (.int (1 : Int32)), .val (.int (1 : Int32)), .val (.ref ia41), .val vj41, .val vj84, .val vj107, .val (.ref b45), .unset] [(.int (0 : Int32))])) (fun _ k => XS.iconst X46.here hx rfl (hb hby at_158) k) ?_
            refine Go.of (T' := T46) (f' := (mkF m 161 #[.val (.int p1), .val (.int p2), .val (.int p3), .val (.int p4), .val (.int p5), .val (.int (1 : Int32)), .val (.int (1 : Int32)), .val (.ref ia41), .val vj41, .val vj84, .val vj107, .val (.ref b45), .val (.int (0 : Int32))] [])) (fun _ k => XS.istore X46.here hx rfl (hb hby at_159) rfl (l' := #[.val (.int p1), .val (.int p2), .val (.int p3), .val (.int p4), .val (.int p5), .val (.int (1 : Int32)), .val (.int (1 : Int32)), .val (.ref ia41), .val vj41, .val vj84, .val vj107, .val (.ref b45), .val (.int (0 : Int32))]) rfl k) ?_
            refine Go.of (T' := T46) (f' := (mkF m 178 #[.val (.int p1), .val (.int p2), .val (.int p3), .val (.int p4), .val (.int p5), .val (.int (1 : Int32)), .val (.int (1 : Int32)), .val (.ref ia41), .val vj41, .val vj84, .val vj107, .val (.ref b45), .val (.int (0 : Int32))] [])) (fun _ k => XS.goto X46.here hx rfl (pc0 := 161) (pc' := 178) rfl (hb hby at_161) (by decide) (by decide) k) ?_
            refine Go.of (T' := T46) (f' := (mkF m 180 #[.val (.int p1), .val (.int p2), .val (.int p3), .val (.int p4), .val (.int p5), .val (.int (1 : Int32)), .val (.int (1 : Int32)), .val (.ref ia41), .val vj41, .val vj84, .val vj107, .val (.ref b45), .val (.int (0 : Int32))] [(.ref b45)])) (fun _ k => XS.aload X46.here hx rfl (hb hby at_178) rfl rfl k) ?_
            refine goV X46 hx hZ (y := (⟨"com/example/stratify/stratify/Problem", "mayBeUnderWay", "()Z"⟩ : MethodName)) (z := (⟨"com/example/stratify/stratify/Problem", "mayBeUnderWay", "()Z"⟩ : MethodName)) hown (hw _ (List.mem_of_getElem? (i := 68) rfl)) (hw _ (List.mem_of_getElem? (i := 69) rfl)) (notFace_of_selects (args := #[]) (mvT hZ (hw _ (List.mem_of_getElem? (i := 71) rfl)))) (hw _ (List.mem_of_getElem? (i := 71) rfl)) (hw _ (List.mem_of_getElem? (i := 70) rfl)) (by decide) (C := 0) (S := 0) ((rm_may1 l Z a0 hw b45  h46 F_rolledBack_b45).bk (W := 0) hZ (hw _ (List.mem_of_getElem? (i := 72) rfl)) (hw _ (List.mem_of_getElem? (i := 46) rfl)) (by decide) (by decide)) e46 E_b45 (argsL := []) (rest := []) (by rw [hml]; rfl) (lenOf pd___Z rfl) rfl rfl (hb hby at_180) (Nat.le_of_eq rfl) (by decide) (by decide) ?_
            intro v47 T47 L47 X47 hQ47
            obtain ⟨nq47, e47, rfl⟩ := hQ47
            replace X47 := standNil X47 nq47
            show Go p e below P T47 (mkF m 183 #[.val (.int p1), .val (.int p2), .val (.int p3), .val (.int p4), .val (.int p5), .val (.int (1 : Int32)), .val (.int (1 : Int32)), .val (.ref ia41), .val vj41, .val vj84, .val vj107, .val (.ref b45), .val (.int (0 : Int32))] [(.int (0 : Int32))])
            refine Go.of (T' := T47) (f' := (mkF m 185 #[.val (.int p1), .val (.int p2), .val (.int p3), .val (.int p4), .val (.int p5), .val (.int (1 : Int32)), .val (.int (1 : Int32)), .val (.ref ia41), .val vj41, .val vj84, .val vj107, .val (.ref b45), .val (.int (0 : Int32))] [(.int (0 : Int32)), (.int (0 : Int32))])) (fun _ k => XS.iload X47.here hx rfl (hb hby at_183) rfl k) ?_
            refine Go.of (T' := T47) (f' := (mkF m 188 #[.val (.int p1), .val (.int p2), .val (.int p3), .val (.int p4), .val (.int p5), .val (.int (1 : Int32)), .val (.int (1 : Int32)), .val (.ref ia41), .val vj41, .val vj84, .val vj107, .val (.ref b45), .val (.int (0 : Int32))] [])) (fun _ k => XS.icmpNo X47.here hx rfl (hb hby at_185) rfl (by decide) k) ?_
            refine Go.of (T' := T47) (f' := (mkF m 189 #[.val (.int p1), .val (.int p2), .val (.int p3), .val (.int p4), .val (.int p5), .val (.int (1 : Int32)), .val (.int (1 : Int32)), .val (.ref ia41), .val vj41, .val vj84, .val vj107, .val (.ref b45), .val (.int (0 : Int32))] [(.int (1 : Int32))])) (fun _ k => XS.iconst X47.here hx rfl (hb hby at_188) k) ?_
            refine Go.of (T' := T47) (f' := (mkF m 193 #[.val (.int p1), .val (.int p2), .val (.int p3), .val (.int p4), .val (.int p5), .val (.int (1 : Int32)), .val (.int (1 : Int32)), .val (.ref ia41), .val vj41, .val vj84, .val vj107, .val (.ref b45), .val (.int (0 : Int32))] [(.int (1 : Int32))])) (fun _ k => XS.goto X47.here hx rfl (pc0 := 189) (pc' := 193) rfl (hb hby at_189) (by decide) (by decide) k) ?_
            exact goRetI (Q := fun v h L => v = some (.int 1) ∧ Mv h0 h [] L) X47 hx (t := .boolean) hret hlk rfl (by simp) (hb hby at_193) K (by decide) (by decide) e47 (⟨rfl, M46⟩)
          refine Go.of (T' := Tj43) (f' := (mkF m 108 #[.val (.int p1), .val (.int p2), .val (.int p3), .val (.int p4), .val (.int p5), .val (.int (1 : Int32)), .val (.int (1 : Int32)), .val (.ref ia41), .val vj41, .val vj84, .unset, .unset, .unset] [(.int p1)])) (fun _ k => XS.iloadN Xj43.here hx rfl (hb hby at_107) rfl k) ?_
          refine Go.of (T' := Tj43) (f' := (mkF m 110 #[.val (.int p1), .val (.int p2), .val (.int p3), .val (.int p4), .val (.int p5), .val (.int (1 : Int32)), .val (.int (1 : Int32)), .val (.ref ia41), .val vj41, .val vj84, .unset, .unset, .unset] [(.int (16 : Int32)), (.int p1)])) (fun _ k => XS.bipush Xj43.here hx rfl (hb hby at_108) k) ?_
          refine Go.of (T' := Tj43) (f' := (mkF m 111 #[.val (.int p1), .val (.int p2), .val (.int p3), .val (.int p4), .val (.int p5), .val (.int (1 : Int32)), .val (.int (1 : Int32)), .val (.ref ia41), .val vj41, .val vj84, .unset, .unset, .unset] [(.int (p1 &&& (16 : Int32)))])) (fun _ k => XS.iand Xj43.here hx rfl (hb hby at_110) rfl k) ?_
          by_cases hc111 : (p1 &&& (16 : Int32)) = (0 : Int32)
          ·
            refine Go.of (T' := Tj43) (f' := (mkF m 118 #[.val (.int p1), .val (.int p2), .val (.int p3), .val (.int p4), .val (.int p5), .val (.int (1 : Int32)), .val (.int (1 : Int32)), .val (.ref ia41), .val vj41, .val vj84, .unset, .unset, .unset] [])) (fun _ k => XS.ifYes Xj43.here hx rfl (pc0 := 111) (pc' := 118) rfl (hb hby at_111) rfl ((if0 _ _).trans (teq hc111).1) (by decide) (by decide) k) ?_
            refine Go.of (T' := Tj43) (f' := (mkF m 120 #[.val (.int p1), .val (.int p2), .val (.int p3), .val (.int p4), .val (.int p5), .val (.int (1 : Int32)), .val (.int (1 : Int32)), .val (.ref ia41), .val vj41, .val vj84, .unset, .unset, .unset] [(.int p5)])) (fun _ k => XS.iload Xj43.here hx rfl (hb hby at_118) rfl k) ?_
            refine Go.of (T' := Tj43) (f' := (mkF m 122 #[.val (.int p1), .val (.int p2), .val (.int p3), .val (.int p4), .val (.int p5), .val (.int (1 : Int32)), .val (.int (1 : Int32)), .val (.ref ia41), .val vj41, .val vj84, .unset, .unset, .unset] [(.int (8 : Int32)), (.int p5)])) (fun _ k => XS.bipush Xj43.here hx rfl (hb hby at_120) k) ?_
            refine Go.of (T' := Tj43) (f' := (mkF m 123 #[.val (.int p1), .val (.int p2), .val (.int p3), .val (.int p4), .val (.int p5), .val (.int (1 : Int32)), .val (.int (1 : Int32)), .val (.ref ia41), .val vj41, .val vj84, .unset, .unset, .unset] [(.int ((p5.toUInt32 >>> ((8 : Int32) &&& 31).toUInt32).toInt32))])) (fun _ k => XS.iushr Xj43.here hx rfl (hb hby at_122) rfl k) ?_
            refine Go.of (T' := Tj43) (f' := (mkF m 126 #[.val (.int p1), .val (.int p2), .val (.int p3), .val (.int p4), .val (.int p5), .val (.int (1 : Int32)), .val (.int (1 : Int32)), .val (.ref ia41), .val vj41, .val vj84, .unset, .unset, .unset] [(.int (255 : Int32)), (.int ((p5.toUInt32 >>> ((8 : Int32) &&& 31).toUInt32).toInt32))])) (fun _ k => XS.sipush Xj43.here hx rfl (hb hby at_123) k) ?_
            refine Go.of (T' := Tj43) (f' := (mkF m 127 #[.val (.int p1), .val (.int p2), .val (.int p3), .val (.int p4), .val (.int p5), .val (.int (1 : Int32)), .val (.int (1 : Int32)), .val (.ref ia41), .val vj41, .val vj84, .unset, .unset, .unset] [(.int (((p5.toUInt32 >>> ((8 : Int32) &&& 31).toUInt32).toInt32) &&& (255 : Int32)))])) (fun _ k => XS.iand Xj43.here hx rfl (hb hby at_126) rfl k) ?_
            refine Go.of (T' := Tj43) (f' := (mkF m 128 #[.val (.int p1), .val (.int p2), .val (.int p3), .val (.int p4), .val (.int p5), .val (.int (1 : Int32)), .val (.int (1 : Int32)), .val (.ref ia41), .val vj41, .val vj84, .unset, .unset, .unset] [(.int ((((p5.toUInt32 >>> ((8 : Int32) &&& 31).toUInt32).toInt32) &&& (255 : Int32)).toUInt32.toUInt16.toUInt32.toInt32))])) (fun _ k => XS.i2c Xj43.here hx rfl (hb hby at_127) rfl k) ?_
            refine goS Xj43 hx hZ hown (hw _ (List.mem_of_getElem? (i := 30) rfl)) (hw _ (List.mem_of_getElem? (i := 31) rfl)) (hw _ (List.mem_of_getElem? (i := 2) rfl)) (hw _ (List.mem_of_getElem? (i := 32) rfl)) (by decide) (C := 2) (S := 5) ((rm_valueOf l Z a0 hw ((((p5.toUInt32 >>> ((8 : Int32) &&& 31).toUInt32).toInt32) &&& (255 : Int32)).toUInt32.toUInt16.toUInt32.toInt32) zc hj43 (m255 _) Z_cs hz).bk (W := 0) hZ (hw _ (List.mem_of_getElem? (i := 32) rfl)) (hw _ (List.mem_of_getElem? (i := 2) rfl)) (by decide) (by decide)) ej43 (argsL := [(.int ((((p5.toUInt32 >>> ((8 : Int32) &&& 31).toUInt32).toInt32) &&& (255 : Int32)).toUInt32.toUInt16.toUInt32.toInt32))]) (rest := []) (by rw [hml]; rfl) (lenOf pd__C_Ljava_lang_String_ rfl) rfl rfl (hb hby at_128) (Nat.le_of_eq rfl) (by decide) (by decide) ?_
            intro v48 T48 L48 X48 hQ48
            obtain ⟨h48, e48⟩ : ∃ z, T48.heap = z := ⟨_, rfl⟩
            rw [e48] at hQ48
            obtain ⟨Mc48, a48, t48, rfl, le48, lf48, ne_a48_t48, S_a48⟩ := hQ48
            have ne_ca_a48 : ca ≠ a48 := Nat.ne_of_lt (Nat.lt_of_lt_of_le B_ca.lt1 le48)
            have fr_a48 : h0.size ≤ a48 := Nat.le_trans Mj43.le le48
            have ne_ca_t48 : ca ≠ t48 := Nat.ne_of_lt (Nat.lt_of_lt_of_le B_ca.lt1 lf48)
            have fr_t48 : h0.size ≤ t48 := Nat.le_trans Mj43.le lf48
            have M48 := Mj43.app0 Mc48
            replace Z_cs := StaKeep Z_cs Mc48.1 all0
            replace Z_high := StaKeep Z_high Mc48.1 all0
            replace Z_cache := StaKeep Z_cache Mc48.1 all0
            replace B_ca := B_ca.keep Mc48.1 nin0
            show Go p e below P T48 (mkF m 131 #[.val (.int p1), .val (.int p2), .val (.int p3), .val (.int p4), .val (.int p5), .val (.int (1 : Int32)), .val (.int (1 : Int32)), .val (.ref ia41), .val vj41, .val vj84, .unset, .unset, .unset] [(.ref a48)])
            exact J44 T48 h48 _ (.ref a48) (standUp X48 (by decide) (by decide)) e48 M48 Z_cs Z_high Z_cache B_ca rfl
          ·
            refine Go.of (T' := Tj43) (f' := (mkF m 114 #[.val (.int p1), .val (.int p2), .val (.int p3), .val (.int p4), .val (.int p5), .val (.int (1 : Int32)), .val (.int (1 : Int32)), .val (.ref ia41), .val vj41, .val vj84, .unset, .unset, .unset] [])) (fun _ k => XS.ifNo Xj43.here hx rfl (hb hby at_111) rfl ((if0 _ _).trans (feq hc111).1) k) ?_
            refine Go.of (T' := Tj43) (f' := (mkF m 115 #[.val (.int p1), .val (.int p2), .val (.int p3), .val (.int p4), .val (.int p5), .val (.int (1 : Int32)), .val (.int (1 : Int32)), .val (.ref ia41), .val vj41, .val vj84, .unset, .unset, .unset] [.null])) (fun _ k => XS.aconstNull Xj43.here hx rfl (hb hby at_114) k) ?_
            refine Go.of (T' := Tj43) (f' := (mkF m 131 #[.val (.int p1), .val (.int p2), .val (.int p3), .val (.int p4), .val (.int p5), .val (.int (1 : Int32)), .val (.int (1 : Int32)), .val (.ref ia41), .val vj41, .val vj84, .unset, .unset, .unset] [.null])) (fun _ k => XS.goto Xj43.here hx rfl (pc0 := 115) (pc' := 131) rfl (hb hby at_115) (by decide) (by decide) k) ?_
            exact J44 Tj43 hj43 _ .null (standUp Xj43 (by decide) (by decide)) ej43 Mj43 Z_cs Z_high Z_cache B_ca rfl
        refine Go.of (T' := Tj42) (f' := (mkF m 85 #[.val (.int p1), .val (.int p2), .val (.int p3), .val (.int p4), .val (.int p5), .val (.int (1 : Int32)), .val (.int (1 : Int32)), .val (.ref ia41), .val vj41, .unset, .unset, .unset, .unset] [(.int p1)])) (fun _ k => XS.iloadN Xj42.here hx rfl (hb hby at_84) rfl k) ?_
        refine Go.of (T' := Tj42) (f' := (mkF m 87 #[.val (.int p1), .val (.int p2), .val (.int p3), .val (.int p4), .val (.int p5), .val (.int (1 : Int32)), .val (.int (1 : Int32)), .val (.ref ia41), .val vj41, .unset, .unset, .unset, .unset] [(.int (8 : Int32)), (.int p1)])) (fun _ k => XS.bipush Xj42.here hx rfl (hb hby at_85) k) ?_
        refine Go.of (T' := Tj42) (f' := (mkF m 88 #[.val (.int p1), .val (.int p2), .val (.int p3), .val (.int p4), .val (.int p5), .val (.int (1 : Int32)), .val (.int (1 : Int32)), .val (.ref ia41), .val vj41, .unset, .unset, .unset, .unset] [(.int (p1 &&& (8 : Int32)))])) (fun _ k => XS.iand Xj42.here hx rfl (hb hby at_87) rfl k) ?_
        by_cases hc88 : (p1 &&& (8 : Int32)) = (0 : Int32)
        ·
          refine Go.of (T' := Tj42) (f' := (mkF m 95 #[.val (.int p1), .val (.int p2), .val (.int p3), .val (.int p4), .val (.int p5), .val (.int (1 : Int32)), .val (.int (1 : Int32)), .val (.ref ia41), .val vj41, .unset, .unset, .unset, .unset] [])) (fun _ k => XS.ifYes Xj42.here hx rfl (pc0 := 88) (pc' := 95) rfl (hb hby at_88) rfl ((if0 _ _).trans (teq hc88).1) (by decide) (by decide) k) ?_
          refine Go.of (T' := Tj42) (f' := (mkF m 97 #[.val (.int p1), .val (.int p2), .val (.int p3), .val (.int p4), .val (.int p5), .val (.int (1 : Int32)), .val (.int (1 : Int32)), .val (.ref ia41), .val vj41, .unset, .unset, .unset, .unset] [(.int p5)])) (fun _ k => XS.iload Xj42.here hx rfl (hb hby at_95) rfl k) ?_
          refine Go.of (T' := Tj42) (f' := (mkF m 100 #[.val (.int p1), .val (.int p2), .val (.int p3), .val (.int p4), .val (.int p5), .val (.int (1 : Int32)), .val (.int (1 : Int32)), .val (.ref ia41), .val vj41, .unset, .unset, .unset, .unset] [(.int (255 : Int32)), (.int p5)])) (fun _ k => XS.sipush Xj42.here hx rfl (hb hby at_97) k) ?_
          refine Go.of (T' := Tj42) (f' := (mkF m 101 #[.val (.int p1), .val (.int p2), .val (.int p3), .val (.int p4), .val (.int p5), .val (.int (1 : Int32)), .val (.int (1 : Int32)), .val (.ref ia41), .val vj41, .unset, .unset, .unset, .unset] [(.int (p5 &&& (255 : Int32)))])) (fun _ k => XS.iand Xj42.here hx rfl (hb hby at_100) rfl k) ?_
          refine Go.of (T' := Tj42) (f' := (mkF m 102 #[.val (.int p1), .val (.int p2), .val (.int p3), .val (.int p4), .val (.int p5), .val (.int (1 : Int32)), .val (.int (1 : Int32)), .val (.ref ia41), .val vj41, .unset, .unset, .unset, .unset] [(.int ((p5 &&& (255 : Int32)).toUInt32.toUInt16.toUInt32.toInt32))])) (fun _ k => XS.i2c Xj42.here hx rfl (hb hby at_101) rfl k) ?_
          refine goS Xj42 hx hZ hown (hw _ (List.mem_of_getElem? (i := 30) rfl)) (hw _ (List.mem_of_getElem? (i := 31) rfl)) (hw _ (List.mem_of_getElem? (i := 2) rfl)) (hw _ (List.mem_of_getElem? (i := 32) rfl)) (by decide) (C := 2) (S := 5) ((rm_valueOf l Z a0 hw ((p5 &&& (255 : Int32)).toUInt32.toUInt16.toUInt32.toInt32) zc hj42 (m255 _) Z_cs hz).bk (W := 0) hZ (hw _ (List.mem_of_getElem? (i := 32) rfl)) (hw _ (List.mem_of_getElem? (i := 2) rfl)) (by decide) (by decide)) ej42 (argsL := [(.int ((p5 &&& (255 : Int32)).toUInt32.toUInt16.toUInt32.toInt32))]) (rest := []) (by rw [hml]; rfl) (lenOf pd__C_Ljava_lang_String_ rfl) rfl rfl (hb hby at_102) (Nat.le_of_eq rfl) (by decide) (by decide) ?_
          intro v49 T49 L49 X49 hQ49
          obtain ⟨h49, e49⟩ : ∃ z, T49.heap = z := ⟨_, rfl⟩
          rw [e49] at hQ49
          obtain ⟨Mc49, a49, t49, rfl, le49, lf49, ne_a49_t49, S_a49⟩ := hQ49
          have ne_ca_a49 : ca ≠ a49 := Nat.ne_of_lt (Nat.lt_of_lt_of_le B_ca.lt1 le49)
          have fr_a49 : h0.size ≤ a49 := Nat.le_trans Mj42.le le49
          have ne_ca_t49 : ca ≠ t49 := Nat.ne_of_lt (Nat.lt_of_lt_of_le B_ca.lt1 lf49)
          have fr_t49 : h0.size ≤ t49 := Nat.le_trans Mj42.le lf49
          have M49 := Mj42.app0 Mc49
          replace Z_cs := StaKeep Z_cs Mc49.1 all0
          replace Z_high := StaKeep Z_high Mc49.1 all0
          replace Z_cache := StaKeep Z_cache Mc49.1 all0
          replace B_ca := B_ca.keep Mc49.1 nin0
          show Go p e below P T49 (mkF m 105 #[.val (.int p1), .val (.int p2), .val (.int p3), .val (.int p4), .val (.int p5), .val (.int (1 : Int32)), .val (.int (1 : Int32)), .val (.ref ia41), .val vj41, .unset, .unset, .unset, .unset] [(.ref a49)])
          exact J43 T49 h49 _ (.ref a49) (standUp X49 (by decide) (by decide)) e49 M49 Z_cs Z_high Z_cache B_ca rfl
        ·
          refine Go.of (T' := Tj42) (f' := (mkF m 91 #[.val (.int p1), .val (.int p2), .val (.int p3), .val (.int p4), .val (.int p5), .val (.int (1 : Int32)), .val (.int (1 : Int32)), .val (.ref ia41), .val vj41, .unset, .unset, .unset, .unset] [])) (fun _ k => XS.ifNo Xj42.here hx rfl (hb hby at_88) rfl ((if0 _ _).trans (feq hc88).1) k) ?_
          refine Go.of (T' := Tj42) (f' := (mkF m 92 #[.val (.int p1), .val (.int p2), .val (.int p3), .val (.int p4), .val (.int p5), .val (.int (1 : Int32)), .val (.int (1 : Int32)), .val (.ref ia41), .val vj41, .unset, .unset, .unset, .unset] [.null])) (fun _ k => XS.aconstNull Xj42.here hx rfl (hb hby at_91) k) ?_
          refine Go.of (T' := Tj42) (f' := (mkF m 105 #[.val (.int p1), .val (.int p2), .val (.int p3), .val (.int p4), .val (.int p5), .val (.int (1 : Int32)), .val (.int (1 : Int32)), .val (.ref ia41), .val vj41, .unset, .unset, .unset, .unset] [.null])) (fun _ k => XS.goto Xj42.here hx rfl (pc0 := 92) (pc' := 105) rfl (hb hby at_92) (by decide) (by decide) k) ?_
          exact J43 Tj42 hj42 _ .null (standUp Xj42 (by decide) (by decide)) ej42 Mj42 Z_cs Z_high Z_cache B_ca rfl
      refine Go.of (T' := T41) (f' := (mkF m 42 #[.val (.int p1), .val (.int p2), .val (.int p3), .val (.int p4), .val (.int p5), .val (.int (1 : Int32)), .val (.int (1 : Int32)), .val (.ref ia41), .unset, .unset, .unset, .unset, .unset] [(.int p1)])) (fun _ k => XS.iloadN X41.here hx rfl (hb hby at_41) rfl k) ?_
      refine Go.of (T' := T41) (f' := (mkF m 43 #[.val (.int p1), .val (.int p2), .val (.int p3), .val (.int p4), .val (.int p5), .val (.int (1 : Int32)), .val (.int (1 : Int32)), .val (.ref ia41), .unset, .unset, .unset, .unset, .unset] [(.int (4 : Int32)), (.int p1)])) (fun _ k => XS.iconst X41.here hx rfl (hb hby at_42) k) ?_
      refine Go.of (T' := T41) (f' := (mkF m 44 #[.val (.int p1), .val (.int p2), .val (.int p3), .val (.int p4), .val (.int p5), .val (.int (1 : Int32)), .val (.int (1 : Int32)), .val (.ref ia41), .unset, .unset, .unset, .unset, .unset] [(.int (p1 &&& (4 : Int32)))])) (fun _ k => XS.iand X41.here hx rfl (hb hby at_43) rfl k) ?_
      by_cases hc44 : (p1 &&& (4 : Int32)) = (0 : Int32)
      ·
        refine Go.of (T' := T41) (f' := (mkF m 51 #[.val (.int p1), .val (.int p2), .val (.int p3), .val (.int p4), .val (.int p5), .val (.int (1 : Int32)), .val (.int (1 : Int32)), .val (.ref ia41), .unset, .unset, .unset, .unset, .unset] [])) (fun _ k => XS.ifYes X41.here hx rfl (pc0 := 44) (pc' := 51) rfl (hb hby at_44) rfl ((if0 _ _).trans (teq hc44).1) (by decide) (by decide) k) ?_
        obtain ⟨T50, h50, X50, e50, E50, A50, D50, -, st50⟩ := newO X41 hx hZ hown (hw _ (List.mem_of_getElem? (i := 0) rfl)) (hw _ (List.mem_of_getElem? (i := 1) rfl)) (hw _ (List.mem_of_getElem? (i := 2) rfl)) e41 (g := (mkF m 51 #[.val (.int p1), .val (.int p2), .val (.int p3), .val (.int p4), .val (.int p5), .val (.int (1 : Int32)), .val (.int (1 : Int32)), .val (.ref ia41), .unset, .unset, .unset, .unset, .unset] [])) rfl (hb hby at_51) (by decide) (by decide)
        obtain ⟨b50, g50⟩ : ∃ z, z = h41.size := ⟨_, rfl⟩
        rw [← g50] at A50 D50 st50
        have ne_ca_b50 : ca ≠ b50 := Nat.ne_of_lt (Nat.lt_of_lt_of_le B_ca.lt1 (Nat.le_of_eq g50.symm))
        have fr_b50 : h0.size ≤ b50 := Nat.le_trans M41.le (Nat.le_of_eq g50.symm)
        have K50 := keepE E50
        have M50 := M41.ext E50
        replace Z_cs := StaKeep Z_cs K50 all0
        replace Z_high := StaKeep Z_high K50 all0
        replace Z_cache := StaKeep Z_cache K50 all0
        replace B_ca := B_ca.keep K50 nin0
        have E_b50 := A50
        have F_coder_b50 : Fld Z h50 b50 "java/lang/String" "coder" "B" (.int (0 : Int32)) := D50 (Or.inr (hw _ (List.mem_of_getElem? (i := 27) rfl))) (ty := .byte) (by decide)
        have F_value_b50 : Fld Z h50 b50 "java/lang/String" "value" "[B" .null := D50 (Or.inr (hw _ (List.mem_of_getElem? (i := 29) rfl))) (ty := (.array .byte)) (by decide)
        refine Go.of (T' := T50) (f' := (mkF m 54 #[.val (.int p1), .val (.int p2), .val (.int p3), .val (.int p4), .val (.int p5), .val (.int (1 : Int32)), .val (.int (1 : Int32)), .val (.ref ia41), .unset, .unset, .unset, .unset, .unset] [(.ref b50)])) st50 ?_
        refine Go.of (T' := T50) (f' := (mkF m 55 #[.val (.int p1), .val (.int p2), .val (.int p3), .val (.int p4), .val (.int p5), .val (.int (1 : Int32)), .val (.int (1 : Int32)), .val (.ref ia41), .unset, .unset, .unset, .unset, .unset] [(.ref b50), (.ref b50)])) (fun _ k => XS.dup X50.here hx rfl (hb hby at_54) rfl rfl k) ?_
        refine Go.of (T' := T50) (f' := (mkF m 56 #[.val (.int p1), .val (.int p2), .val (.int p3), .val (.int p4), .val (.int p5), .val (.int (1 : Int32)), .val (.int (1 : Int32)), .val (.ref ia41), .unset, .unset, .unset, .unset, .unset] [(.int (2 : Int32)), (.ref b50), (.ref b50)])) (fun _ k => XS.iconst X50.here hx rfl (hb hby at_55) k) ?_
        obtain ⟨T51, h51, k51, X51, e51, E51, A51, st51⟩ := newP X50 hx hZ (hw _ (List.mem_of_getElem? (i := 3) rfl)) e50 (g := (mkF m 56 #[.val (.int p1), .val (.int p2), .val (.int p3), .val (.int p4), .val (.int p5), .val (.int (1 : Int32)), .val (.int (1 : Int32)), .val (.ref ia41), .unset, .unset, .unset, .unset, .unset] [(.int (2 : Int32)), (.ref b50), (.ref b50)])) rfl (hb hby at_56) rfl (by decide) (cap := 2) (by decide) (by decide) (by decide) (by decide)
        obtain ⟨b51, g51⟩ : ∃ z, z = h50.size := ⟨_, rfl⟩
        rw [← g51] at A51 st51
        have ne_ca_b51 : ca ≠ b51 := Nat.ne_of_lt (Nat.lt_of_lt_of_le B_ca.lt1 (Nat.le_of_eq g51.symm))
        have ne_b50_b51 : b50 ≠ b51 := Nat.ne_of_lt (Nat.lt_of_lt_of_le E_b50.lt (Nat.le_of_eq g51.symm))
        have fr_b51 : h0.size ≤ b51 := Nat.le_trans M50.le (Nat.le_of_eq g51.symm)
        have K51 := keepE E51
        have M51 := M50.ext E51
        replace Z_cs := StaKeep Z_cs K51 all0
        replace Z_high := StaKeep Z_high K51 all0
        replace Z_cache := StaKeep Z_cache K51 all0
        replace B_ca := B_ca.keep K51 nin0
        replace E_b50 := E_b50.keep K51
        replace F_coder_b50 := F_coder_b50.keep K51 nin0
        replace F_value_b50 := F_value_b50.keep K51 nin0
        have V_b51 : Arv Z h51 b51 k51 .char (2 : Int32) [(.int (0 : Int32)), (.int (0 : Int32))] (.int (0 : Int32)) := (Arv.new A51 (by decide)).pad (pad_rep [] (.int (0 : Int32)) 2)
        refine Go.of (T' := T51) (f' := (mkF m 58 #[.val (.int p1), .val (.int p2), .val (.int p3), .val (.int p4), .val (.int p5), .val (.int (1 : Int32)), .val (.int (1 : Int32)), .val (.ref ia41), .unset, .unset, .unset, .unset, .unset] [(.ref b51), (.ref b50), (.ref b50)])) st51 ?_
        refine Go.of (T' := T51) (f' := (mkF m 59 #[.val (.int p1), .val (.int p2), .val (.int p3), .val (.int p4), .val (.int p5), .val (.int (1 : Int32)), .val (.int (1 : Int32)), .val (.ref ia41), .unset, .unset, .unset, .unset, .unset] [(.ref b51), (.ref b51), (.ref b50), (.ref b50)])) (fun _ k => XS.dup X51.here hx rfl (hb hby at_58) rfl rfl k) ?_
        refine Go.of (T' := T51) (f' := (mkF m 60 #[.val (.int p1), .val (.int p2), .val (.int p3), .val (.int p4), .val (.int p5), .val (.int (1 : Int32)), .val (.int (1 : Int32)), .val (.ref ia41), .unset, .unset, .unset, .unset, .unset] [(.int (0 : Int32)), (.ref b51), (.ref b51), (.ref b50), (.ref b50)])) (fun _ k => XS.iconst X51.here hx rfl (hb hby at_59) k) ?_
        refine Go.of (T' := T51) (f' := (mkF m 61 #[.val (.int p1), .val (.int p2), .val (.int p3), .val (.int p4), .val (.int p5), .val (.int (1 : Int32)), .val (.int (1 : Int32)), .val (.ref ia41), .unset, .unset, .unset, .unset, .unset] [(.int p4), (.int (0 : Int32)), (.ref b51), (.ref b51), (.ref b50), (.ref b50)])) (fun _ k => XS.iloadN X51.here hx rfl (hb hby at_60) rfl k) ?_
        refine Go.of (T' := T51) (f' := (mkF m 64 #[.val (.int p1), .val (.int p2), .val (.int p3), .val (.int p4), .val (.int p5), .val (.int (1 : Int32)), .val (.int (1 : Int32)), .val (.ref ia41), .unset, .unset, .unset, .unset, .unset] [(.int (255 : Int32)), (.int p4), (.int (0 : Int32)), (.ref b51), (.ref b51), (.ref b50), (.ref b50)])) (fun _ k => XS.sipush X51.here hx rfl (hb hby at_61) k) ?_
        refine Go.of (T' := T51) (f' := (mkF m 65 #[.val (.int p1), .val (.int p2), .val (.int p3), .val (.int p4), .val (.int p5), .val (.int (1 : Int32)), .val (.int (1 : Int32)), .val (.ref ia41), .unset, .unset, .unset, .unset, .unset] [(.int (p4 &&& (255 : Int32))), (.int (0 : Int32)), (.ref b51), (.ref b51), (.ref b50), (.ref b50)])) (fun _ k => XS.iand X51.here hx rfl (hb hby at_64) rfl k) ?_
        refine Go.of (T' := T51) (f' := (mkF m 66 #[.val (.int p1), .val (.int p2), .val (.int p3), .val (.int p4), .val (.int p5), .val (.int (1 : Int32)), .val (.int (1 : Int32)), .val (.ref ia41), .unset, .unset, .unset, .unset, .unset] [(.int ((p4 &&& (255 : Int32)).toUInt32.toUInt16.toUInt32.toInt32)), (.int (0 : Int32)), (.ref b51), (.ref b51), (.ref b50), (.ref b50)])) (fun _ k => XS.i2c X51.here hx rfl (hb hby at_65) rfl k) ?_
        obtain ⟨cl52, Ar52, cq52, Sz52, Nn52, Hs52, Gs52⟩ := id V_b51
        have hin52 : ¬ ((0 : Int32) < 0 ∨ cl52.slots.size ≤ ((0 : Int32)).toNatClampNeg) := inb_of Sz52 ⟨by decide, by decide⟩
        obtain ⟨T52, h52, X52, e52, W52, st52⟩ := stC X51 hx hZ e51 Ar52 (j := (0 : Int32)) hin52 (g := (mkF m 66 #[.val (.int p1), .val (.int p2), .val (.int p3), .val (.int p4), .val (.int p5), .val (.int (1 : Int32)), .val (.int (1 : Int32)), .val (.ref ia41), .unset, .unset, .unset, .unset, .unset] [(.int ((p4 &&& (255 : Int32)).toUInt32.toUInt16.toUInt32.toInt32)), (.int (0 : Int32)), (.ref b51), (.ref b51), (.ref b50), (.ref b50)])) rfl rfl (hb hby at_66)
        have fq52 : fits .char (.int (nar .char ((p4 &&& (255 : Int32)).toUInt32.toUInt16.toUInt32.toInt32))) = true := fits_nar_char _
        rw [show nar .char ((p4 &&& (255 : Int32)).toUInt32.toUInt16.toUInt32.toInt32) = ((p4 &&& (255 : Int32)).toUInt32.toUInt16.toUInt32.toInt32) from narC _] at W52 fq52
        have V52 := Arv.set Ar52 cq52 Sz52 Nn52 Hs52 Gs52 fq52 W52 0 rfl (Nat.le_of_ble_eq_true rfl)
        have V_b51_o := V_b51
        have K52 := Keep.of_wr W52
        have M52 := M51.wr W52 (Or.inr fr_b51)
        replace Z_cs := StaKeep Z_cs K52 (allS (staArv V_b51_o) all0)
        replace Z_high := StaKeep Z_high K52 (allS (staArv V_b51_o) all0)
        replace Z_cache := StaKeep Z_cache K52 (allS (staArv V_b51_o) all0)
        replace B_ca := B_ca.keep K52 (ninS ne_ca_b51 nin0)
        replace E_b50 := E_b50.keep K52
        replace F_coder_b50 := F_coder_b50.keep K52 (ninS ne_b50_b51 nin0)
        replace F_value_b50 := F_value_b50.keep K52 (ninS ne_b50_b51 nin0)
        replace V_b51 : Arv Z h52 b51 k51 .char (2 : Int32) [(.int ((p4 &&& (255 : Int32)).toUInt32.toUInt16.toUInt32.toInt32)), (.int (0 : Int32))] (.int (0 : Int32)) := V52
        refine Go.of (T' := T52) (f' := (mkF m 67 #[.val (.int p1), .val (.int p2), .val (.int p3), .val (.int p4), .val (.int p5), .val (.int (1 : Int32)), .val (.int (1 : Int32)), .val (.ref ia41), .unset, .unset, .unset, .unset, .unset] [(.ref b51), (.ref b50), (.ref b50)])) st52 ?_
        refine Go.of (T' := T52) (f' := (mkF m 68 #[.val (.int p1), .val (.int p2), .val (.int p3), .val (.int p4), .val (.int p5), .val (.int (1 : Int32)), .val (.int (1 : Int32)), .val (.ref ia41), .unset, .unset, .unset, .unset, .unset] [(.ref b51), (.ref b51), (.ref b50), (.ref b50)])) (fun _ k => XS.dup X52.here hx rfl (hb hby at_67) rfl rfl k) ?_
        refine Go.of (T' := T52) (f' := (mkF m 69 #[.val (.int p1), .val (.int p2), .val (.int p3), .val (.int p4), .val (.int p5), .val (.int (1 : Int32)), .val (.int (1 : Int32)), .val (.ref ia41), .unset, .unset, .unset, .unset, .unset] [(.int (1 : Int32)), (.ref b51), (.ref b51), (.ref b50), (.ref b50)])) (fun _ k => XS.iconst X52.here hx rfl (hb hby at_68) k) ?_
        refine Go.of (T' := T52) (f' := (mkF m 70 #[.val (.int p1), .val (.int p2), .val (.int p3), .val (.int p4), .val (.int p5), .val (.int (1 : Int32)), .val (.int (1 : Int32)), .val (.ref ia41), .unset, .unset, .unset, .unset, .unset] [(.int p4), (.int (1 : Int32)), (.ref b51), (.ref b51), (.ref b50), (.ref b50)])) (fun _ k => XS.iloadN X52.here hx rfl (hb hby at_69) rfl k) ?_
        refine Go.of (T' := T52) (f' := (mkF m 72 #[.val (.int p1), .val (.int p2), .val (.int p3), .val (.int p4), .val (.int p5), .val (.int (1 : Int32)), .val (.int (1 : Int32)), .val (.ref ia41), .unset, .unset, .unset, .unset, .unset] [(.int (8 : Int32)), (.int p4), (.int (1 : Int32)), (.ref b51), (.ref b51), (.ref b50), (.ref b50)])) (fun _ k => XS.bipush X52.here hx rfl (hb hby at_70) k) ?_
        refine Go.of (T' := T52) (f' := (mkF m 73 #[.val (.int p1), .val (.int p2), .val (.int p3), .val (.int p4), .val (.int p5), .val (.int (1 : Int32)), .val (.int (1 : Int32)), .val (.ref ia41), .unset, .unset, .unset, .unset, .unset] [(.int ((p4.toUInt32 >>> ((8 : Int32) &&& 31).toUInt32).toInt32)), (.int (1 : Int32)), (.ref b51), (.ref b51), (.ref b50), (.ref b50)])) (fun _ k => XS.iushr X52.here hx rfl (hb hby at_72) rfl k) ?_
        refine Go.of (T' := T52) (f' := (mkF m 76 #[.val (.int p1), .val (.int p2), .val (.int p3), .val (.int p4), .val (.int p5), .val (.int (1 : Int32)), .val (.int (1 : Int32)), .val (.ref ia41), .unset, .unset, .unset, .unset, .unset] [(.int (255 : Int32)), (.int ((p4.toUInt32 >>> ((8 : Int32) &&& 31).toUInt32).toInt32)), (.int (1 : Int32)), (.ref b51), (.ref b51), (.ref b50), (.ref b50)])) (fun _ k => XS.sipush X52.here hx rfl (hb hby at_73) k) ?_
        refine Go.of (T' := T52) (f' := (mkF m 77 #[.val (.int p1), .val (.int p2), .val (.int p3), .val (.int p4), .val (.int p5), .val (.int (1 : Int32)), .val (.int (1 : Int32)), .val (.ref ia41), .unset, .unset, .unset, .unset, .unset] [(.int (((p4.toUInt32 >>> ((8 : Int32) &&& 31).toUInt32).toInt32) &&& (255 : Int32))), (.int (1 : Int32)), (.ref b51), (.ref b51), (.ref b50), (.ref b50)])) (fun _ k => XS.iand X52.here hx rfl (hb hby at_76) rfl k) ?_
        refine Go.of (T' := T52) (f' := (mkF m 78 #[.val (.int p1), .val (.int p2), .val (.int p3), .val (.int p4), .val (.int p5), .val (.int (1 : Int32)), .val (.int (1 : Int32)), .val (.ref ia41), .unset, .unset, .unset, .unset, .unset] [(.int ((((p4.toUInt32 >>> ((8 : Int32) &&& 31).toUInt32).toInt32) &&& (255 : Int32)).toUInt32.toUInt16.toUInt32.toInt32)), (.int (1 : Int32)), (.ref b51), (.ref b51), (.ref b50), (.ref b50)])) (fun _ k => XS.i2c X52.here hx rfl (hb hby at_77) rfl k) ?_
        obtain ⟨cl53, Ar53, cq53, Sz53, Nn53, Hs53, Gs53⟩ := id V_b51
        have hin53 : ¬ ((1 : Int32) < 0 ∨ cl53.slots.size ≤ ((1 : Int32)).toNatClampNeg) := inb_of Sz53 ⟨by decide, by decide⟩
        obtain ⟨T53, h53, X53, e53, W53, st53⟩ := stC X52 hx hZ e52 Ar53 (j := (1 : Int32)) hin53 (g := (mkF m 78 #[.val (.int p1), .val (.int p2), .val (.int p3), .val (.int p4), .val (.int p5), .val (.int (1 : Int32)), .val (.int (1 : Int32)), .val (.ref ia41), .unset, .unset, .unset, .unset, .unset] [(.int ((((p4.toUInt32 >>> ((8 : Int32) &&& 31).toUInt32).toInt32) &&& (255 : Int32)).toUInt32.toUInt16.toUInt32.toInt32)), (.int (1 : Int32)), (.ref b51), (.ref b51), (.ref b50), (.ref b50)])) rfl rfl (hb hby at_78)
        have fq53 : fits .char (.int (nar .char ((((p4.toUInt32 >>> ((8 : Int32) &&& 31).toUInt32).toInt32) &&& (255 : Int32)).toUInt32.toUInt16.toUInt32.toInt32))) = true := fits_nar_char _
        rw [show nar .char ((((p4.toUInt32 >>> ((8 : Int32) &&& 31).toUInt32).toInt32) &&& (255 : Int32)).toUInt32.toUInt16.toUInt32.toInt32) = ((((p4.toUInt32 >>> ((8 : Int32) &&& 31).toUInt32).toInt32) &&& (255 : Int32)).toUInt32.toUInt16.toUInt32.toInt32) from narC _] at W53 fq53
        have V53 := Arv.set Ar53 cq53 Sz53 Nn53 Hs53 Gs53 fq53 W53 1 rfl (Nat.le_of_ble_eq_true rfl)
        have V_b51_o := V_b51
        have K53 := Keep.of_wr W53
        have M53 := M52.wr W53 (Or.inr fr_b51)
        replace Z_cs := StaKeep Z_cs K53 (allS (staArv V_b51_o) all0)
        replace Z_high := StaKeep Z_high K53 (allS (staArv V_b51_o) all0)
        replace Z_cache := StaKeep Z_cache K53 (allS (staArv V_b51_o) all0)
        replace B_ca := B_ca.keep K53 (ninS ne_ca_b51 nin0)
        replace E_b50 := E_b50.keep K53
        replace F_coder_b50 := F_coder_b50.keep K53 (ninS ne_b50_b51 nin0)
        replace F_value_b50 := F_value_b50.keep K53 (ninS ne_b50_b51 nin0)
        replace V_b51 : Arv Z h53 b51 k51 .char (2 : Int32) [(.int ((p4 &&& (255 : Int32)).toUInt32.toUInt16.toUInt32.toInt32)), (.int ((((p4.toUInt32 >>> ((8 : Int32) &&& 31).toUInt32).toInt32) &&& (255 : Int32)).toUInt32.toUInt16.toUInt32.toInt32))] (.int (0 : Int32)) := V53
        refine Go.of (T' := T53) (f' := (mkF m 79 #[.val (.int p1), .val (.int p2), .val (.int p3), .val (.int p4), .val (.int p5), .val (.int (1 : Int32)), .val (.int (1 : Int32)), .val (.ref ia41), .unset, .unset, .unset, .unset, .unset] [(.ref b51), (.ref b50), (.ref b50)])) st53 ?_
        refine goI X53 hx hZ rfl hown (hw _ (List.mem_of_getElem? (i := 4) rfl)) (hw _ (List.mem_of_getElem? (i := 5) rfl)) (hw _ (List.mem_of_getElem? (i := 6) rfl)) (by decide) (C := 1) (S := 2) (newStr (W := 1) hZ (hw_words hw) (hw _ (List.mem_of_getElem? (i := 1) rfl)) (cs := [((p4 &&& (255 : Int32)).toUInt32.toUInt16.toUInt32.toInt32), ((((p4.toUInt32 >>> ((8 : Int32) &&& 31).toUInt32).toInt32) &&& (255 : Int32)).toUInt32.toUInt16.toUInt32.toInt32)]) E_b50 F_value_b50 F_coder_b50 V_b51 rfl Z_cs hz (n := 2) rfl rfl (by decide) (by decide) (by intro c hc; simp only [List.mem_cons, List.not_mem_nil, or_false] at hc; rcases hc with rfl | rfl <;> exact m255 _) (by decide) (by decide)) e53 (argsL := [(.ref b51)]) (rest := [(.ref b50)]) (by rw [hml]; rfl) (lenOf pd___C_V rfl) rfl rfl (hb hby at_79) (Nat.le_of_eq rfl) (by decide) (by decide) ?_
        intro v54 T54 L54 X54 hQ54
        obtain ⟨h54, e54⟩ : ∃ z, T54.heap = z := ⟨_, rfl⟩
        rw [e54] at hQ54
        have E_b50_o := E_b50
        obtain ⟨rfl, Mc54, t54, le54, S54⟩ := hQ54
        have ne_ca_t54 : ca ≠ t54 := Nat.ne_of_lt (Nat.lt_of_lt_of_le B_ca.lt1 le54)
        have ne_b50_t54 : b50 ≠ t54 := Nat.ne_of_lt (Nat.lt_of_lt_of_le E_b50.lt le54)
        have ne_b51_t54 : b51 ≠ t54 := Nat.ne_of_lt (Nat.lt_of_lt_of_le V_b51.lt le54)
        have fr_t54 : h0.size ≤ t54 := Nat.le_trans M53.le le54
        have M54 := M53.app Mc54 (allS (Or.inr fr_b50) all0)
        replace Z_cs := StaKeep Z_cs Mc54.1 (allS (staExa E_b50_o) all0)
        replace Z_high := StaKeep Z_high Mc54.1 (allS (staExa E_b50_o) all0)
        replace Z_cache := StaKeep Z_cache Mc54.1 (allS (staExa E_b50_o) all0)
        replace B_ca := B_ca.keep Mc54.1 (ninS ne_ca_b50 nin0)
        replace E_b50 := E_b50.keep Mc54.1
        replace V_b51 := V_b51.keep Mc54.1 (ninS (Ne.symm ne_b50_b51) nin0)
        have S_b50 := S54
        show Go p e below P T54 (mkF m 82 #[.val (.int p1), .val (.int p2), .val (.int p3), .val (.int p4), .val (.int p5), .val (.int (1 : Int32)), .val (.int (1 : Int32)), .val (.ref ia41), .unset, .unset, .unset, .unset, .unset] [(.ref b50)])
        exact J42 T54 h54 _ (.ref b50) (standUp X54 (by decide) (by decide)) e54 M54 Z_cs Z_high Z_cache B_ca rfl
      ·
        refine Go.of (T' := T41) (f' := (mkF m 47 #[.val (.int p1), .val (.int p2), .val (.int p3), .val (.int p4), .val (.int p5), .val (.int (1 : Int32)), .val (.int (1 : Int32)), .val (.ref ia41), .unset, .unset, .unset, .unset, .unset] [])) (fun _ k => XS.ifNo X41.here hx rfl (hb hby at_44) rfl ((if0 _ _).trans (feq hc44).1) k) ?_
        refine Go.of (T' := T41) (f' := (mkF m 48 #[.val (.int p1), .val (.int p2), .val (.int p3), .val (.int p4), .val (.int p5), .val (.int (1 : Int32)), .val (.int (1 : Int32)), .val (.ref ia41), .unset, .unset, .unset, .unset, .unset] [.null])) (fun _ k => XS.aconstNull X41.here hx rfl (hb hby at_47) k) ?_
        refine Go.of (T' := T41) (f' := (mkF m 82 #[.val (.int p1), .val (.int p2), .val (.int p3), .val (.int p4), .val (.int p5), .val (.int (1 : Int32)), .val (.int (1 : Int32)), .val (.ref ia41), .unset, .unset, .unset, .unset, .unset] [.null])) (fun _ k => XS.goto X41.here hx rfl (pc0 := 48) (pc' := 82) rfl (hb hby at_48) (by decide) (by decide) k) ?_
        exact J42 T41 h41 _ .null (standUp X41 (by decide) (by decide)) e41 M41 Z_cs Z_high Z_cache B_ca rfl
set_option maxRecDepth 65536 in
set_option maxHeartbeats 40000000 in
theorem comes_1 {Post : Tables → Env → Array Value → State → Outcome → State → Prop} (hpost : ∀ tb e args s v u, (limb_1_1.after args s (.returned v) u = true ∧ limb_1_2.after args s (.returned v) u = true ∧ True) → FrameEnd s (.returned v) u (Jvm.fieldLocs frame_1_writes args s ++ Jvm.arrayLocs frame_1_arrays args s ++ Jvm.staticLocs frame_1_statics s) 32 128 → Post tb e args s (.returned v) u) :
    ArmFor flags0 classFile x code maxLocals ret World_1 tables_1 room_1 Calls_1 rest_1 Pre_1 Post := by
  intro l hfl _ _ p e ha hc hk s m args below hf hA hF happ hP
  obtain ⟨hcalls, hrest, hpre⟩ := hP
  obtain ⟨-, -, -, hnamed, -, -, -, hat⟩ := (Spec.applies_iff hf).mp happ
  obtain ⟨hg, hn⟩ := and_e (Cond.before_iff.mp (show (Jvm.Cond.and given_1 narrow_1).before args s = true from hpre))
  obtain ⟨g1, g2⟩ := and_e hg
  obtain ⟨g3, g4⟩ := and_e g2
  obtain ⟨g5, g6⟩ := and_e g4
  obtain ⟨g7, g8⟩ := and_e g6
  obtain ⟨g9, g10⟩ := and_e g8
  obtain ⟨w0, w1, w2, w3, w4, rfl⟩ : ∃ w0 w1 w2 w3 w4 : Value, args = #[w0, w1, w2, w3, w4] := by
    have hs : args.size = 5 := by simpa [Cond.value, given_1] using g1
    obtain ⟨L⟩ := args
    match L, hs with
    | [w0, w1, w2, w3, w4], _ => exact ⟨w0, w1, w2, w3, w4, rfl⟩
  have hw := fun d (hd : d ∈ tables_1) => atoms_spec (ws := Jvm.Cond.code x code maxLocals ret :: tables_1) hat d (List.mem_cons_of_mem _ hd)
  have hfit : Fit s := fun {y c} hc i hi => by
    obtain ⟨ha, rfl⟩ := Array.getElem?_eq_some_iff.mp hc
    have q := List.all_eq_true.mp ((Array.all_eq_true_iff_forall_mem.mp hF) _ (Array.getElem_mem ha)) i (List.mem_range.mpr hi)
    simpa [Array.getElem?_eq_getElem hi] using q
  obtain ⟨hsets, hown0⟩ := atoms_of _ (rest_1_c_eq ▸ (show rest_1_c.before _ s = true from hrest))
  have hr0 := Cond.before_iff.mp hown0
  obtain ⟨i0, ei0⟩ := is_v g3
  obtain rfl : w0 = (.int i0) := Option.some.inj ei0
  obtain ⟨i1, ei1⟩ := is_v g5
  obtain rfl : w1 = (.int i1) := Option.some.inj ei1
  obtain ⟨i2, ei2⟩ := is_v g7
  obtain rfl : w2 = (.int i2) := Option.some.inj ei2
  obtain ⟨i3, ei3⟩ := is_v g9
  obtain rfl : w3 = (.int i3) := Option.some.inj ei3
  obtain ⟨i4, ei4⟩ := is_v g10
  obtain rfl : w4 = (.int i4) := Option.some.inj ei4
  have n3 := not_v (Cond.before_iff.mp (hsets _ (List.mem_of_getElem? (i := 2) rfl)))
  obtain ⟨zc, ezc⟩ := is_v (Cond.before_iff.mp (hsets _ (List.mem_of_getElem? (i := 1) rfl)))
  have Z_cs : Sta s s.heap "java/lang/String" "COMPACT_STRINGS" "Z" (.int zc) := Sta.start ezc (Or.inl (hsets _ (List.mem_of_getElem? (i := 0) rfl)))
  have hz : ¬ (zc = (0 : Int32)) := gotF (Cond.eq_ints ezc (Term.int_eval (0))) n3
  obtain ⟨ca, eca⟩ := arr_v (Cond.before_iff.mp (hsets _ (List.mem_of_getElem? (i := 13) rfl)))
  have Z_cache : Sta s s.heap "java/lang/Integer$IntegerCache" "cache" "[Ljava/lang/Integer;" (.ref ca) := Sta.start eca (Or.inr ⟨(hw _ (List.mem_of_getElem? (i := 78) rfl)), (hsets _ (List.mem_of_getElem? (i := 11) rfl))⟩)
  have B_ca : RefArr s s.heap ca := refArr_start eca (fun _ => eca) (hsets _ (List.mem_of_getElem? (i := 13) rfl)) (hsets _ (List.mem_of_getElem? (i := 15) rfl)) (hsets _ (List.mem_of_getElem? (i := 16) rfl))
  obtain ⟨xh, yh, eh1, eh2, -, -⟩ := cmp_v (Or.inl (Cond.before_iff.mp (hsets _ (List.mem_of_getElem? (i := 12) rfl))))
  have Z_high : Sta s s.heap "java/lang/Integer$IntegerCache" "high" "I" (.int (127 : Int32)) := by
    have q := Cond.before_iff.mp (hsets _ (List.mem_of_getElem? (i := 12) rfl))
    obtain ⟨vh, eh, fh⟩ := static_fit hfit (hsets _ (List.mem_of_getElem? (i := 9) rfl)) (ty := .int) (by decide)
    obtain ⟨ih, rfl⟩ := fit_I fh (Or.inl rfl)
    have q2 := gotT (Cond.eq_ints eh (Term.int_eval (127))) q
    rw [q2] at eh
    exact Sta.start eh (Or.inl (hsets _ (List.mem_of_getElem? (i := 10) rfl)))
  obtain ⟨n, o, h1, h2, h3, _, L, rfl, ⟨rfl, M⟩, hq⟩ := rm_law l s _ hw i0 i1 i2 i3 i4 zc ca s.heap Z_cs hz Z_high Z_cache B_ca tables_1 p e ha hc hk s m _ below hf ((Spec.applies_iff_loose hf).mp happ).1 ⟨rfl, State.Warmed39.refl s, rfl⟩ trivial
  refine ⟨n, _, h1, h2, h3, hpost _ _ _ _ _ _ ⟨Cond.after_iff.mpr rfl, Cond.after_iff.mpr (eq_i res_at (Term.int_eval (1)) rfl), trivial⟩ ⟨hq.1, hq.2.1, (hq.2.2.sift fun y hy => Or.inr (M.fr y hy)).mono (by decide) (by decide)⟩⟩
theorem main_1_1 : Claimed_1_1 := comes_1 fun _ _ _ _ _ _ h hF => ⟨h.1, hF⟩
theorem main_1_2 : Claimed_1_2 := comes_1 fun _ _ _ _ _ _ h hF => ⟨h.2.1, hF⟩
end Jvm.Pilot.@@N@@
namespace Jvm.Pilot.@@N@@
open Jvm Jvm.ClassFile Sem Op Lib Jvm.Free Jvm.Stand Jvm.Pilot.@@N@@.Jvm.D
/-! MADE BY PROGRAM (witnessworld.py) out of the Statement's table words and the real class files: 25 classes; the members and pool entries that the words name. The judged class is class 1, her method 1. -/
namespace start1
open Jvm.ClassFile
def u (s : String) : CpInfo := .utf8 (stringToUtf16 s)
/-- a pool by its gaps: so many unusable entries, then the entry; so many at the end -/
def gap : Nat → List CpInfo → List CpInfo
  | 0, r => r
  | n + 1, r => .unusable :: gap n r
def poolList (es : List (Nat × CpInfo)) (last : Nat) : List CpInfo := es.foldr (fun e r => gap e.1 (e.2 :: r)) (gap last [])
def pool (es : List (Nat × CpInfo)) (last : Nat) : Array CpInfo := ⟨poolList es last⟩
def fileOf (pool : Array CpInfo) (this : Nat) (attrs : Array Attribute := #[]) (ms : Array MethodInfo := #[]) (fl : Nat := 33) (sup : Nat := 0) (ifs : Array Nat := #[]) (fds : Array FieldInfo := #[]) : ClassFile where
  minorVersion := 0
  majorVersion := 65
  constantPool := pool
  accessFlags := fl
  thisClass := this
  superClass := sup
  interfaces := ifs
  fields := fds
  methods := ms
  attributes := attrs
def plain (name : String) (sup : Option ClassId) : Class where
  name := name
  kind := .ordinary
  loader := none
  accessFlags := 33
  super := sup
  interfaces := #[]
  cf := none
  fields := #[]
  methods := #[]
  instanceTypes := #[]
  staticTypes := #[]
  resolved := #[]
  callSites := []
  init := .initialized
  statics := none
  mirror := none

def pool0 : Array CpInfo := pool [(5, u "<init>"), (0, u "()V"), (1, .class_ 10), (1, u "java/lang/Object")] 113

def k0c0 : Code := { maxStack := 0, maxLocals := 1, code := object_method_1_code, exceptionTable := #[], attributes := #[] }
def k0m0 : Method := { name := "<init>", desc := "()V", sig := { parameters := [], returnType := none }, accessFlags := 1, code := some k0c0 }
/-- java/lang/Object -/
def k0 : Class := { plain "java/lang/Object" none with
  accessFlags := 33
  interfaces := #[]
  cf := some (fileOf pool0 8 #[] #[{ accessFlags := 1, nameIndex := 5, descriptorIndex := 6, attributes := #[] }] 33 0 #[] #[])
  fields := #[]
  methods := #[k0m0]
  instanceTypes := #[]
  staticTypes := #[]
  resolved := Array.replicate 124 none
  statics := none }

def pool1 : Array CpInfo := pool [(2, .class_ 4), (1, u "java/lang/Object"), (0, u "<init>"), (0, u "()V"), (0, .methodref 8 9), (0, .class_ 10), (0, .nameAndType 11 12), (0, u "java/lang/Integer"), (0, u "valueOf"), (0, u "(I)Ljava/lang/Integer;"), (0, .class_ 14), (0, u "java/lang/String"), (0, .methodref 13 16), (0, .nameAndType 5 17), (0, u "([C)V"), (0, .methodref 13 19), (0, .nameAndType 11 20), (0, u "(C)Ljava/lang/String;"), (0, .class_ 22), (0, u "com/example/stratify/stratify/Problem"), (0, .methodref 21 24), (0, .nameAndType 5 25), (0, u "(Ljava/lang/String;ZLjava/lang/Integer;ILjava/lang/String;Ljava/lang/String;)V"), (0, .methodref 21 27), (0, .nameAndType 28 29), (0, u "mayBeUnderWay"), (0, u "()Z"), (0, .class_ 31), (0, u "com/example/stratify/stratify/ProblemMayBeUnderWayPinLaw"), (2, u "law"), (0, u "(IIIII)Z")] 3

def k1m0 : Method := { name := "<init>", desc := "()V", sig := { parameters := [], returnType := none }, accessFlags := 2, code := none }
def k1c1 : Code := { maxStack := 8, maxLocals := 13, code := code, exceptionTable := #[], attributes := #[] }
def k1m1 : Method := { name := "law", desc := "(IIIII)Z", sig := { parameters := [.int, .int, .int, .int, .int], returnType := some .boolean }, accessFlags := 9, code := some k1c1 }
/-- com/example/stratify/stratify/ProblemMayBeUnderWayPinLaw -/
def k1 : Class := { plain "com/example/stratify/stratify/ProblemMayBeUnderWayPinLaw" (some 0) with
  accessFlags := 49
  interfaces := #[]
  cf := some (fileOf pool1 30 #[] #[{ accessFlags := 2, nameIndex := 5, descriptorIndex := 6, attributes := #[] }, { accessFlags := 9, nameIndex := 34, descriptorIndex := 35, attributes := #[] }] 49 2 #[] #[])
  fields := #[]
  methods := #[k1m0, k1m1]
  instanceTypes := #[]
  staticTypes := #[]
  resolved := Array.replicate 39 none
  statics := none }

def pool2 : Array CpInfo := pool [(1, .class_ 2), (0, u "java/io/Serializable"), (0, .class_ 4), (0, u "java/lang/Object")] 2

/-- java/io/Serializable -/
def k2 : Class := { plain "java/io/Serializable" (some 0) with
  accessFlags := 1537
  interfaces := #[]
  cf := some (fileOf pool2 1 #[] #[] 1537 3 #[] #[])
  fields := #[]
  methods := #[]
  instanceTypes := #[]
  staticTypes := #[]
  resolved := Array.replicate 7 none
  statics := none }

def pool3 : Array CpInfo := pool [(1, .class_ 2), (0, u "java/lang/Comparable"), (0, .class_ 4), (0, u "java/lang/Object")] 7

/-- java/lang/Comparable -/
def k3 : Class := { plain "java/lang/Comparable" (some 0) with
  accessFlags := 1537
  interfaces := #[]
  cf := some (fileOf pool3 1 #[] #[] 1537 3 #[] #[])
  fields := #[]
  methods := #[]
  instanceTypes := #[]
  staticTypes := #[]
  resolved := Array.replicate 12 none
  statics := none }

def pool4 : Array CpInfo := pool [(2, .class_ 4), (1, u "java/lang/CharSequence"), (42, .class_ 48), (0, u "java/lang/CharSequence$1CodePointIterator"), (10, .class_ 60), (0, u "java/lang/CharSequence$1CharIterator"), (5, .class_ 67), (0, u "java/lang/Object")] 63

/-- java/lang/CharSequence -/
def k4 : Class := { plain "java/lang/CharSequence" (some 0) with
  accessFlags := 1537
  interfaces := #[]
  cf := some (fileOf pool4 2 #[.nestMembers #[47, 59]] #[] 1537 66 #[] #[])
  fields := #[]
  methods := #[]
  instanceTypes := #[]
  staticTypes := #[]
  resolved := Array.replicate 131 none
  statics := none }

def pool5 : Array CpInfo := pool [(1, .class_ 2), (0, u "java/lang/constant/Constable"), (0, .class_ 4), (0, u "java/lang/Object")] 6

/-- java/lang/constant/Constable -/
def k5 : Class := { plain "java/lang/constant/Constable" (some 0) with
  accessFlags := 1537
  interfaces := #[]
  cf := some (fileOf pool5 1 #[] #[] 1537 3 #[] #[])
  fields := #[]
  methods := #[]
  instanceTypes := #[]
  staticTypes := #[]
  resolved := Array.replicate 11 none
  statics := none }

def pool6 : Array CpInfo := pool [(1, .class_ 2), (0, u "java/lang/constant/ConstantDesc"), (0, .class_ 4), (0, u "java/lang/Object")] 32

/-- java/lang/constant/ConstantDesc -/
def k6 : Class := { plain "java/lang/constant/ConstantDesc" (some 0) with
  accessFlags := 1537
  interfaces := #[]
  cf := some (fileOf pool6 1 #[] #[] 1537 3 #[] #[])
  fields := #[]
  methods := #[]
  instanceTypes := #[]
  staticTypes := #[]
  resolved := Array.replicate 37 none
  statics := none }

def pool7 : Array CpInfo := pool [(1, .methodref 2 3), (0, .class_ 4), (0, .nameAndType 5 6), (0, u "java/lang/Object"), (0, u "<init>"), (0, u "()V"), (2, .fieldref 10 11), (0, .class_ 12), (0, .nameAndType 13 14), (0, u "java/lang/String"), (0, u "value"), (0, u "[B"), (0, .fieldref 10 16), (0, .nameAndType 17 18), (0, u "coder"), (0, u "B"), (2, u "hash"), (0, u "I"), (2, u "hashIsZero"), (0, u "Z"), (0, .methodref 10 28), (0, .nameAndType 5 29), (0, u "([CIILjava/lang/Void;)V"), (8, .fieldref 10 39), (0, .nameAndType 40 26), (0, u "COMPACT_STRINGS"), (1, .class_ 44), (1, u "java/lang/StringUTF16"), (0, u "compress"), (1, .methodref 42 48), (0, .nameAndType 49 50), (0, u "coderFromArrayLen"), (0, u "([BI)B"), (2, u "toBytes"), (53, .class_ 109), (1, u "java/lang/StringLatin1"), (67, .methodref 42 178), (0, .nameAndType 45 179), (0, u "([CII)[B"), (29, .methodref 10 210), (0, .nameAndType 5 211), (0, u "([BB)V"), (157, u "(C)Z"), (205, .class_ 576), (0, u "java/lang/CharSequence"), (22, u "CASE_INSENSITIVE_ORDER"), (0, u "Ljava/util/Comparator;"), (181, u "valueOf"), (0, u "(C)Ljava/lang/String;"), (226, u "([C)V"), (4, .methodref 107 1016), (0, .nameAndType 1017 369), (0, u "canEncode"), (0, .methodref 107 1019), (0, .nameAndType 53 1020), (0, u "(C)[B"), (80, u "serialPersistentFields"), (0, u "[Ljava/io/ObjectStreamField;"), (0, .class_ 1104), (0, u "java/lang/String$CaseInsensitiveComparator"), (1, .class_ 1107), (0, u "java/io/Serializable"), (0, .class_ 1109), (0, u "java/lang/Comparable"), (0, .class_ 1111), (0, u "java/lang/constant/Constable"), (0, .class_ 1113), (0, u "java/lang/constant/ConstantDesc"), (2, u "serialVersionUID"), (0, u "J"), (3, u "REPL"), (0, u "C"), (2, u "LATIN1"), (1, u "UTF16")] 323

def k7m0 : Method := { name := "<init>", desc := "()V", sig := { parameters := [], returnType := none }, accessFlags := 1, code := none }
def k7c1 : Code := { maxStack := 5, maxLocals := 2, code := jdk_42_method_3_code, exceptionTable := #[], attributes := #[] }
def k7m1 : Method := { name := "<init>", desc := "([C)V", sig := { parameters := [(.array .char)], returnType := none }, accessFlags := 1, code := some k7c1 }
def k7c2 : Code := { maxStack := 4, maxLocals := 1, code := jdk_42_method_139_code, exceptionTable := #[], attributes := #[] }
def k7m2 : Method := { name := "valueOf", desc := "(C)Ljava/lang/String;", sig := { parameters := [.char], returnType := some (.object "java/lang/String") }, accessFlags := 9, code := some k7c2 }
def k7c3 : Code := { maxStack := 4, maxLocals := 6, code := jdk_42_method_149_code, exceptionTable := #[], attributes := #[] }
def k7m3 : Method := { name := "<init>", desc := "([CIILjava/lang/Void;)V", sig := { parameters := [(.array .char), .int, .int, (.object "java/lang/Void")], returnType := none }, accessFlags := 2, code := some k7c3 }
def k7c4 : Code := { maxStack := 2, maxLocals := 3, code := jdk_42_method_151_code, exceptionTable := #[], attributes := #[] }
def k7m4 : Method := { name := "<init>", desc := "([BB)V", sig := { parameters := [(.array .byte), .byte], returnType := none }, accessFlags := 0, code := some k7c4 }
/-- java/lang/String -/
def k7 : Class := { plain "java/lang/String" (some 0) with
  accessFlags := 49
  interfaces := #[2, 3, 4, 5, 6]
  cf := some (fileOf pool7 10 #[.nestMembers #[1103]] #[{ accessFlags := 1, nameIndex := 5, descriptorIndex := 6, attributes := #[] }, { accessFlags := 1, nameIndex := 5, descriptorIndex := 1010, attributes := #[] }, { accessFlags := 9, nameIndex := 782, descriptorIndex := 783, attributes := #[] }, { accessFlags := 2, nameIndex := 5, descriptorIndex := 29, attributes := #[] }, { accessFlags := 0, nameIndex := 5, descriptorIndex := 211, attributes := #[] }] 49 2 #[1106, 1108, 575, 1110, 1112] #[{ accessFlags := 18, nameIndex := 13, descriptorIndex := 14, attributes := #[] }, { accessFlags := 18, nameIndex := 17, descriptorIndex := 18, attributes := #[] }, { accessFlags := 2, nameIndex := 21, descriptorIndex := 22, attributes := #[] }, { accessFlags := 2, nameIndex := 25, descriptorIndex := 26, attributes := #[] }, { accessFlags := 26, nameIndex := 1116, descriptorIndex := 1117, attributes := #[] }, { accessFlags := 24, nameIndex := 40, descriptorIndex := 26, attributes := #[] }, { accessFlags := 26, nameIndex := 1101, descriptorIndex := 1102, attributes := #[] }, { accessFlags := 26, nameIndex := 1121, descriptorIndex := 1122, attributes := #[] }, { accessFlags := 25, nameIndex := 599, descriptorIndex := 600, attributes := #[] }, { accessFlags := 24, nameIndex := 1125, descriptorIndex := 18, attributes := #[] }, { accessFlags := 24, nameIndex := 1127, descriptorIndex := 18, attributes := #[] }])
  fields := #[{ name := "value", type := (.array .byte), accessFlags := 18, slot := 0, constantValue := 0 }, { name := "coder", type := .byte, accessFlags := 18, slot := 1, constantValue := 0 }, { name := "hash", type := .int, accessFlags := 2, slot := 2, constantValue := 0 }, { name := "hashIsZero", type := .boolean, accessFlags := 2, slot := 3, constantValue := 0 }, { name := "serialVersionUID", type := .long, accessFlags := 26, slot := 0, constantValue := 0 }, { name := "COMPACT_STRINGS", type := .boolean, accessFlags := 24, slot := 1, constantValue := 0 }, { name := "serialPersistentFields", type := (.array (.object "java/io/ObjectStreamField")), accessFlags := 26, slot := 2, constantValue := 0 }, { name := "REPL", type := .char, accessFlags := 26, slot := 3, constantValue := 0 }, { name := "CASE_INSENSITIVE_ORDER", type := (.object "java/util/Comparator"), accessFlags := 25, slot := 4, constantValue := 0 }, { name := "LATIN1", type := .byte, accessFlags := 24, slot := 5, constantValue := 0 }, { name := "UTF16", type := .byte, accessFlags := 24, slot := 6, constantValue := 0 }]
  methods := #[k7m0, k7m1, k7m2, k7m3, k7m4]
  instanceTypes := #[(.array .byte), .byte, .int, .boolean]
  staticTypes := #[.long, .boolean, (.array (.object "java/io/ObjectStreamField")), .char, (.object "java/util/Comparator"), .byte, .byte]
  resolved := Array.replicate 1451 none
  statics := some 0 }

def pool8 : Array CpInfo := pool [(6, .class_ 8), (1, u "java/lang/Object"), (0, u "<init>"), (0, u "()V"), (1, .class_ 14), (1, u "java/lang/StringUTF16"), (31, u "$assertionsDisabled"), (0, u "Z"), (13, u "HI_BYTE_SHIFT"), (0, u "I"), (2, u "LO_BYTE_SHIFT"), (49, .methodref 12 116), (0, .nameAndType 117 118), (0, u "compress"), (0, u "([CI[BII)I"), (3, u "([CII)[B"), (138, u "coderFromArrayLen"), (0, u "([BI)B"), (106, .class_ 371), (1, u "java/lang/StringUTF16$LinesSpliterator"), (58, u "MAX_LENGTH"), (196, .class_ 628), (0, u "java/lang/StringUTF16$CodePointsSpliterator"), (0, .class_ 630), (0, u "java/lang/StringUTF16$CharsSpliterator")] 4

def k8m0 : Method := { name := "<init>", desc := "()V", sig := { parameters := [], returnType := none }, accessFlags := 0, code := none }
def k8c1 : Code := { maxStack := 2, maxLocals := 2, code := jdk_52_method_15_code, exceptionTable := #[], attributes := #[] }
def k8m1 : Method := { name := "coderFromArrayLen", desc := "([BI)B", sig := { parameters := [(.array .byte), .int], returnType := some .byte }, accessFlags := 8, code := some k8c1 }
def k8c2 : Code := { maxStack := 5, maxLocals := 6, code := jdk_52_method_16_code, exceptionTable := #[], attributes := #[] }
def k8m2 : Method := { name := "compress", desc := "([CII)[B", sig := { parameters := [(.array .char), .int, .int], returnType := some (.array .byte) }, accessFlags := 9, code := some k8c2 }
def k8c3 : Code := { maxStack := 3, maxLocals := 7, code := jdk_52_method_21_code, exceptionTable := #[], attributes := #[] }
def k8m3 : Method := { name := "compress", desc := "([CI[BII)I", sig := { parameters := [(.array .char), .int, (.array .byte), .int, .int], returnType := some .int }, accessFlags := 9, code := some k8c3 }
/-- java/lang/StringUTF16 -/
def k8 : Class := { plain "java/lang/StringUTF16" (some 0) with
  accessFlags := 48
  interfaces := #[]
  cf := some (fileOf pool8 12 #[.nestMembers #[627, 629, 369]] #[{ accessFlags := 0, nameIndex := 9, descriptorIndex := 10, attributes := #[] }, { accessFlags := 8, nameIndex := 261, descriptorIndex := 262, attributes := #[] }, { accessFlags := 9, nameIndex := 117, descriptorIndex := 122, attributes := #[] }, { accessFlags := 9, nameIndex := 117, descriptorIndex := 118, attributes := #[] }] 48 6 #[] #[{ accessFlags := 26, nameIndex := 61, descriptorIndex := 62, attributes := #[] }, { accessFlags := 26, nameIndex := 65, descriptorIndex := 62, attributes := #[] }, { accessFlags := 24, nameIndex := 430, descriptorIndex := 62, attributes := #[] }, { accessFlags := 4120, nameIndex := 46, descriptorIndex := 47, attributes := #[] }])
  fields := #[{ name := "HI_BYTE_SHIFT", type := .int, accessFlags := 26, slot := 0, constantValue := 0 }, { name := "LO_BYTE_SHIFT", type := .int, accessFlags := 26, slot := 1, constantValue := 0 }, { name := "MAX_LENGTH", type := .int, accessFlags := 24, slot := 2, constantValue := 0 }, { name := "$assertionsDisabled", type := .boolean, accessFlags := 4120, slot := 3, constantValue := 0 }]
  methods := #[k8m0, k8m1, k8m2, k8m3]
  instanceTypes := #[]
  staticTypes := #[.int, .int, .int, .boolean]
  resolved := Array.replicate 635 none
  statics := none }

def pool9 : Array CpInfo := pool [(4, .class_ 6), (1, u "java/lang/Object"), (0, u "<init>"), (0, u "()V"), (5, .class_ 16), (1, u "java/lang/StringLatin1"), (73, u "canEncode"), (14, u "(C)Z"), (15, u "$assertionsDisabled"), (0, u "Z"), (98, .class_ 223), (1, u "java/lang/StringLatin1$LinesSpliterator"), (156, u "toBytes"), (1, u "(C)[B"), (7, .class_ 391), (0, u "java/lang/StringLatin1$CharsSpliterator")] 3

def k9m0 : Method := { name := "<init>", desc := "()V", sig := { parameters := [], returnType := none }, accessFlags := 0, code := none }
def k9c1 : Code := { maxStack := 2, maxLocals := 1, code := jdk_43_method_3_code, exceptionTable := #[], attributes := #[] }
def k9m1 : Method := { name := "canEncode", desc := "(C)Z", sig := { parameters := [.char], returnType := some .boolean }, accessFlags := 9, code := some k9c1 }
def k9c2 : Code := { maxStack := 4, maxLocals := 1, code := jdk_43_method_46_code, exceptionTable := #[], attributes := #[] }
def k9m2 : Method := { name := "toBytes", desc := "(C)[B", sig := { parameters := [.char], returnType := some (.array .byte) }, accessFlags := 9, code := some k9c2 }
/-- java/lang/StringLatin1 -/
def k9 : Class := { plain "java/lang/StringLatin1" (some 0) with
  accessFlags := 48
  interfaces := #[]
  cf := some (fileOf pool9 14 #[.nestMembers #[390, 221]] #[{ accessFlags := 0, nameIndex := 7, descriptorIndex := 8, attributes := #[] }, { accessFlags := 9, nameIndex := 90, descriptorIndex := 105, attributes := #[] }, { accessFlags := 9, nameIndex := 380, descriptorIndex := 382, attributes := #[] }] 48 4 #[] #[{ accessFlags := 4120, nameIndex := 121, descriptorIndex := 122, attributes := #[] }])
  fields := #[{ name := "$assertionsDisabled", type := .boolean, accessFlags := 4120, slot := 0, constantValue := 0 }]
  methods := #[k9m0, k9m1, k9m2]
  instanceTypes := #[]
  staticTypes := #[.boolean]
  resolved := Array.replicate 395 none
  statics := none }

def pool10 : Array CpInfo := pool [(1, .methodref 2 3), (0, .class_ 4), (0, .nameAndType 5 6), (0, u "java/lang/Object"), (0, u "<init>"), (0, u "()V"), (0, .class_ 8), (0, u "java/lang/Record")] 13

def k10c0 : Code := { maxStack := 1, maxLocals := 1, code := jdk_30_method_1_code, exceptionTable := #[], attributes := #[] }
def k10m0 : Method := { name := "<init>", desc := "()V", sig := { parameters := [], returnType := none }, accessFlags := 4, code := some k10c0 }
/-- java/lang/Record -/
def k10 : Class := { plain "java/lang/Record" (some 0) with
  accessFlags := 1057
  interfaces := #[]
  cf := some (fileOf pool10 7 #[] #[{ accessFlags := 4, nameIndex := 5, descriptorIndex := 6, attributes := #[] }] 1057 2 #[] #[])
  fields := #[]
  methods := #[k10m0]
  instanceTypes := #[]
  staticTypes := #[]
  resolved := Array.replicate 22 none
  statics := none }

def pool11 : Array CpInfo := pool [(1, .methodref 2 3), (0, .class_ 4), (0, .nameAndType 5 6), (0, u "java/lang/Record"), (0, u "<init>"), (0, u "()V"), (0, .fieldref 8 9), (0, .class_ 10), (0, .nameAndType 11 12), (0, u "com/example/stratify/stratify/Problem"), (0, u "step"), (0, u "Ljava/lang/String;"), (0, .fieldref 8 14), (0, .nameAndType 15 16), (0, u "rolledBack"), (0, u "Z"), (0, .fieldref 8 18), (0, .nameAndType 19 20), (0, u "statement"), (0, u "Ljava/lang/Integer;"), (0, .fieldref 8 22), (0, .nameAndType 23 24), (0, u "statements"), (0, u "I"), (0, .fieldref 8 26), (0, .nameAndType 27 12), (0, u "sql"), (0, .fieldref 8 29), (0, .nameAndType 30 12), (0, u "error"), (2, u "(Ljava/lang/String;ZLjava/lang/Integer;ILjava/lang/String;Ljava/lang/String;)V"), (48, u "WHITE_SPACE"), (0, u "Ljava/util/regex/Pattern;"), (36, u "mayBeUnderWay"), (0, u "()Z")] 42

def k11c0 : Code := { maxStack := 2, maxLocals := 7, code := prog_33_method_1_code, exceptionTable := #[], attributes := #[] }
def k11m0 : Method := { name := "<init>", desc := "(Ljava/lang/String;ZLjava/lang/Integer;ILjava/lang/String;Ljava/lang/String;)V", sig := { parameters := [(.object "java/lang/String"), .boolean, (.object "java/lang/Integer"), .int, (.object "java/lang/String"), (.object "java/lang/String")], returnType := none }, accessFlags := 1, code := some k11c0 }
def k11c1 : Code := { maxStack := 1, maxLocals := 1, code := prog_33_method_3_code, exceptionTable := #[], attributes := #[] }
def k11m1 : Method := { name := "mayBeUnderWay", desc := "()Z", sig := { parameters := [], returnType := some .boolean }, accessFlags := 0, code := some k11c1 }
/-- com/example/stratify/stratify/Problem -/
def k11 : Class := { plain "com/example/stratify/stratify/Problem" (some 10) with
  accessFlags := 49
  interfaces := #[]
  cf := some (fileOf pool11 8 #[] #[{ accessFlags := 1, nameIndex := 5, descriptorIndex := 33, attributes := #[] }, { accessFlags := 0, nameIndex := 120, descriptorIndex := 121, attributes := #[] }] 49 2 #[] #[{ accessFlags := 18, nameIndex := 11, descriptorIndex := 12, attributes := #[] }, { accessFlags := 18, nameIndex := 15, descriptorIndex := 16, attributes := #[] }, { accessFlags := 18, nameIndex := 19, descriptorIndex := 20, attributes := #[] }, { accessFlags := 18, nameIndex := 23, descriptorIndex := 24, attributes := #[] }, { accessFlags := 18, nameIndex := 27, descriptorIndex := 12, attributes := #[] }, { accessFlags := 18, nameIndex := 30, descriptorIndex := 12, attributes := #[] }, { accessFlags := 26, nameIndex := 82, descriptorIndex := 83, attributes := #[] }])
  fields := #[{ name := "step", type := (.object "java/lang/String"), accessFlags := 18, slot := 0, constantValue := 0 }, { name := "rolledBack", type := .boolean, accessFlags := 18, slot := 1, constantValue := 0 }, { name := "statement", type := (.object "java/lang/Integer"), accessFlags := 18, slot := 2, constantValue := 0 }, { name := "statements", type := .int, accessFlags := 18, slot := 3, constantValue := 0 }, { name := "sql", type := (.object "java/lang/String"), accessFlags := 18, slot := 4, constantValue := 0 }, { name := "error", type := (.object "java/lang/String"), accessFlags := 18, slot := 5, constantValue := 0 }, { name := "WHITE_SPACE", type := (.object "java/util/regex/Pattern"), accessFlags := 26, slot := 0, constantValue := 0 }]
  methods := #[k11m0, k11m1]
  instanceTypes := #[(.object "java/lang/String"), .boolean, (.object "java/lang/Integer"), .int, (.object "java/lang/String"), (.object "java/lang/String")]
  staticTypes := #[(.object "java/util/regex/Pattern")]
  resolved := Array.replicate 164 none
  statics := none }

def pool12 : Array CpInfo := pool [(1, .methodref 2 3), (0, .class_ 4), (0, .nameAndType 5 6), (0, u "java/lang/Object"), (0, u "<init>"), (0, u "()V"), (1, .class_ 10), (1, u "java/lang/Number"), (2, .class_ 14), (0, u "java/io/Serializable"), (0, u "serialVersionUID"), (0, u "J")] 20

def k12c0 : Code := { maxStack := 1, maxLocals := 1, code := jdk_18_method_1_code, exceptionTable := #[], attributes := #[] }
def k12m0 : Method := { name := "<init>", desc := "()V", sig := { parameters := [], returnType := none }, accessFlags := 1, code := some k12c0 }
/-- java/lang/Number -/
def k12 : Class := { plain "java/lang/Number" (some 0) with
  accessFlags := 1057
  interfaces := #[2]
  cf := some (fileOf pool12 8 #[] #[{ accessFlags := 1, nameIndex := 5, descriptorIndex := 6, attributes := #[] }] 1057 2 #[13] #[{ accessFlags := 26, nameIndex := 15, descriptorIndex := 16, attributes := #[] }])
  fields := #[{ name := "serialVersionUID", type := .long, accessFlags := 26, slot := 0, constantValue := 0 }]
  methods := #[k12m0]
  instanceTypes := #[]
  staticTypes := #[.long]
  resolved := Array.replicate 37 none
  statics := none }

def pool13 : Array CpInfo := pool [(1, .class_ 2), (0, u "java/lang/Integer"), (16, u "digits"), (0, u "[C"), (46, u "<init>"), (17, u "DigitOnes"), (0, u "[B"), (2, u "DigitTens"), (10, .nameAndType 67 101), (0, u "()V"), (85, u "valueOf"), (0, u "(I)Ljava/lang/Integer;"), (0, .class_ 190), (0, u "java/lang/Integer$IntegerCache"), (0, .fieldref 189 192), (0, .nameAndType 193 194), (0, u "high"), (0, u "I"), (0, .fieldref 189 196), (0, .nameAndType 197 198), (0, u "cache"), (0, u "[Ljava/lang/Integer;"), (0, .methodref 1 200), (0, .nameAndType 67 201), (0, u "(I)V"), (0, .methodref 203 100), (0, .class_ 204), (0, u "java/lang/Number"), (0, .fieldref 1 206), (0, .nameAndType 207 194), (0, u "value"), (94, u "TYPE"), (0, u "Ljava/lang/Class;"), (0, .class_ 305), (0, u "java/lang/Comparable"), (0, .class_ 307), (0, u "java/lang/constant/Constable"), (0, .class_ 309), (0, u "java/lang/constant/ConstantDesc"), (0, u "MIN_VALUE"), (1, u "MAX_VALUE"), (3, u "SIZE"), (1, u "BYTES"), (1, u "serialVersionUID"), (0, u "J")] 131

def k13c0 : Code := { maxStack := 3, maxLocals := 1, code := jdk_33_method_22_code, exceptionTable := #[], attributes := #[] }
def k13m0 : Method := { name := "valueOf", desc := "(I)Ljava/lang/Integer;", sig := { parameters := [.int], returnType := some (.object "java/lang/Integer") }, accessFlags := 9, code := some k13c0 }
def k13c1 : Code := { maxStack := 2, maxLocals := 2, code := jdk_33_method_23_code, exceptionTable := #[], attributes := #[] }
def k13m1 : Method := { name := "<init>", desc := "(I)V", sig := { parameters := [.int], returnType := none }, accessFlags := 1, code := some k13c1 }
/-- java/lang/Integer -/
def k13 : Class := { plain "java/lang/Integer" (some 12) with
  accessFlags := 49
  interfaces := #[3, 5, 6]
  cf := some (fileOf pool13 1 #[.nestMembers #[189]] #[{ accessFlags := 9, nameIndex := 187, descriptorIndex := 188, attributes := #[] }, { accessFlags := 1, nameIndex := 67, descriptorIndex := 201, attributes := #[] }] 49 203 #[304, 306, 308] #[{ accessFlags := 25, nameIndex := 310, descriptorIndex := 194, attributes := #[] }, { accessFlags := 25, nameIndex := 312, descriptorIndex := 194, attributes := #[] }, { accessFlags := 25, nameIndex := 302, descriptorIndex := 303, attributes := #[] }, { accessFlags := 24, nameIndex := 19, descriptorIndex := 20, attributes := #[] }, { accessFlags := 24, nameIndex := 89, descriptorIndex := 86, attributes := #[] }, { accessFlags := 24, nameIndex := 85, descriptorIndex := 86, attributes := #[] }, { accessFlags := 18, nameIndex := 207, descriptorIndex := 194, attributes := #[] }, { accessFlags := 25, nameIndex := 316, descriptorIndex := 194, attributes := #[] }, { accessFlags := 25, nameIndex := 318, descriptorIndex := 194, attributes := #[] }, { accessFlags := 26, nameIndex := 320, descriptorIndex := 321, attributes := #[] }])
  fields := #[{ name := "MIN_VALUE", type := .int, accessFlags := 25, slot := 0, constantValue := 0 }, { name := "MAX_VALUE", type := .int, accessFlags := 25, slot := 1, constantValue := 0 }, { name := "TYPE", type := (.object "java/lang/Class"), accessFlags := 25, slot := 2, constantValue := 0 }, { name := "digits", type := (.array .char), accessFlags := 24, slot := 3, constantValue := 0 }, { name := "DigitTens", type := (.array .byte), accessFlags := 24, slot := 4, constantValue := 0 }, { name := "DigitOnes", type := (.array .byte), accessFlags := 24, slot := 5, constantValue := 0 }, { name := "value", type := .int, accessFlags := 18, slot := 0, constantValue := 0 }, { name := "SIZE", type := .int, accessFlags := 25, slot := 6, constantValue := 0 }, { name := "BYTES", type := .int, accessFlags := 25, slot := 7, constantValue := 0 }, { name := "serialVersionUID", type := .long, accessFlags := 26, slot := 8, constantValue := 0 }]
  methods := #[k13m0, k13m1]
  instanceTypes := #[.int]
  staticTypes := #[.int, .int, (.object "java/lang/Class"), (.array .char), (.array .byte), (.array .byte), .int, .int, .long]
  resolved := Array.replicate 453 none
  statics := none }

def pool14 : Array CpInfo := pool [(2, .class_ 4), (1, u "java/lang/Object"), (0, u "<init>"), (0, u "()V"), (0, .class_ 8), (0, u "java/lang/Integer"), (7, .class_ 18), (1, u "java/lang/Integer$IntegerCache"), (0, u "$assertionsDisabled"), (0, u "Z"), (26, u "high"), (0, u "I"), (8, u "archivedCache"), (0, u "[Ljava/lang/Integer;"), (12, u "cache"), (0, u "low")] 27

def k14m0 : Method := { name := "<init>", desc := "()V", sig := { parameters := [], returnType := none }, accessFlags := 2, code := none }
/-- java/lang/Integer$IntegerCache -/
def k14 : Class := { plain "java/lang/Integer$IntegerCache" (some 0) with
  accessFlags := 48
  interfaces := #[]
  cf := some (fileOf pool14 16 #[.nestHost 7] #[{ accessFlags := 2, nameIndex := 5, descriptorIndex := 6, attributes := #[] }] 48 2 #[] #[{ accessFlags := 24, nameIndex := 72, descriptorIndex := 48, attributes := #[] }, { accessFlags := 24, nameIndex := 47, descriptorIndex := 48, attributes := #[] }, { accessFlags := 24, nameIndex := 71, descriptorIndex := 58, attributes := #[] }, { accessFlags := 8, nameIndex := 57, descriptorIndex := 58, attributes := #[] }, { accessFlags := 4120, nameIndex := 19, descriptorIndex := 20, attributes := #[] }])
  fields := #[{ name := "low", type := .int, accessFlags := 24, slot := 0, constantValue := 0 }, { name := "high", type := .int, accessFlags := 24, slot := 1, constantValue := 0 }, { name := "cache", type := (.array (.object "java/lang/Integer")), accessFlags := 24, slot := 2, constantValue := 0 }, { name := "archivedCache", type := (.array (.object "java/lang/Integer")), accessFlags := 8, slot := 3, constantValue := 0 }, { name := "$assertionsDisabled", type := .boolean, accessFlags := 4120, slot := 4, constantValue := 0 }]
  methods := #[k14m0]
  instanceTypes := #[]
  staticTypes := #[.int, .int, (.array (.object "java/lang/Integer")), (.array (.object "java/lang/Integer")), .boolean]
  resolved := Array.replicate 100 none
  statics := some 1 }

def pool15 : Array CpInfo := pool [(2, .class_ 4), (1, u "java/lang/Object"), (0, u "<init>"), (0, u "()V"), (17, .class_ 26), (1, u "jdk/internal/util/Preconditions"), (28, .class_ 56), (0, u "jdk/internal/util/Preconditions$4"), (57, .class_ 115), (0, u "jdk/internal/util/Preconditions$1"), (7, u "SIOOBE_FORMATTER"), (0, u "Ljava/util/function/BiFunction;"), (0, .class_ 126), (0, u "jdk/internal/util/Preconditions$2"), (3, u "AIOOBE_FORMATTER"), (0, .class_ 132), (0, u "jdk/internal/util/Preconditions$3"), (3, u "IOOBE_FORMATTER")] 57

def k15m0 : Method := { name := "<init>", desc := "()V", sig := { parameters := [], returnType := none }, accessFlags := 1, code := none }
/-- jdk/internal/util/Preconditions -/
def k15 : Class := { plain "jdk/internal/util/Preconditions" (some 0) with
  accessFlags := 33
  interfaces := #[]
  cf := some (fileOf pool15 24 #[.nestMembers #[55, 131, 125, 114]] #[{ accessFlags := 1, nameIndex := 5, descriptorIndex := 6, attributes := #[] }] 33 2 #[] #[{ accessFlags := 25, nameIndex := 123, descriptorIndex := 124, attributes := #[] }, { accessFlags := 25, nameIndex := 130, descriptorIndex := 124, attributes := #[] }, { accessFlags := 25, nameIndex := 136, descriptorIndex := 124, attributes := #[] }])
  fields := #[{ name := "SIOOBE_FORMATTER", type := (.object "java/util/function/BiFunction"), accessFlags := 25, slot := 0, constantValue := 0 }, { name := "AIOOBE_FORMATTER", type := (.object "java/util/function/BiFunction"), accessFlags := 25, slot := 1, constantValue := 0 }, { name := "IOOBE_FORMATTER", type := (.object "java/util/function/BiFunction"), accessFlags := 25, slot := 2, constantValue := 0 }]
  methods := #[k15m0]
  instanceTypes := #[]
  staticTypes := #[(.object "java/util/function/BiFunction"), (.object "java/util/function/BiFunction"), (.object "java/util/function/BiFunction")]
  resolved := Array.replicate 194 none
  statics := some 2 }

def pool16 : Array CpInfo := pool [(9, u "<init>"), (6, .class_ 18), (1, u "java/lang/Object"), (0, u "()V"), (1, .class_ 23), (1, u "jdk/internal/util/ArraysSupport"), (0, u "LOG2_ARRAY_LONG_INDEX_SCALE"), (0, u "I"), (2, u "U"), (0, u "Ljdk/internal/misc/Unsafe;"), (8, u "BIG_ENDIAN"), (0, u "Z"), (8, u "LOG2_BYTE_BIT_SIZE"), (4, u "LOG2_ARRAY_INT_INDEX_SCALE"), (54, u "JLA"), (0, u "Ljdk/internal/access/JavaLangAccess;"), (11, u "LOG2_ARRAY_BOOLEAN_INDEX_SCALE"), (9, u "LOG2_ARRAY_BYTE_INDEX_SCALE"), (5, u "LOG2_ARRAY_CHAR_INDEX_SCALE"), (5, u "LOG2_ARRAY_SHORT_INDEX_SCALE"), (18, u "LOG2_ARRAY_FLOAT_INDEX_SCALE"), (24, u "LOG2_ARRAY_DOUBLE_INDEX_SCALE"), (89, u "T_BOOLEAN"), (2, u "T_CHAR"), (1, u "T_FLOAT"), (1, u "T_DOUBLE"), (1, u "T_BYTE"), (1, u "T_SHORT"), (1, u "T_INT"), (1, u "T_LONG"), (1, u "SOFT_MAX_ARRAY_LENGTH")] 83

def k16m0 : Method := { name := "<init>", desc := "()V", sig := { parameters := [], returnType := none }, accessFlags := 2, code := none }
/-- jdk/internal/util/ArraysSupport -/
def k16 : Class := { plain "jdk/internal/util/ArraysSupport" (some 0) with
  accessFlags := 33
  interfaces := #[]
  cf := some (fileOf pool16 21 #[] #[{ accessFlags := 2, nameIndex := 9, descriptorIndex := 19, attributes := #[] }] 33 16 #[] #[{ accessFlags := 24, nameIndex := 28, descriptorIndex := 29, attributes := #[] }, { accessFlags := 26, nameIndex := 38, descriptorIndex := 39, attributes := #[] }, { accessFlags := 25, nameIndex := 121, descriptorIndex := 25, attributes := #[] }, { accessFlags := 25, nameIndex := 131, descriptorIndex := 25, attributes := #[] }, { accessFlags := 25, nameIndex := 137, descriptorIndex := 25, attributes := #[] }, { accessFlags := 25, nameIndex := 143, descriptorIndex := 25, attributes := #[] }, { accessFlags := 25, nameIndex := 53, descriptorIndex := 25, attributes := #[] }, { accessFlags := 25, nameIndex := 24, descriptorIndex := 25, attributes := #[] }, { accessFlags := 25, nameIndex := 162, descriptorIndex := 25, attributes := #[] }, { accessFlags := 25, nameIndex := 187, descriptorIndex := 25, attributes := #[] }, { accessFlags := 26, nameIndex := 48, descriptorIndex := 25, attributes := #[] }, { accessFlags := 25, nameIndex := 277, descriptorIndex := 25, attributes := #[] }, { accessFlags := 25, nameIndex := 280, descriptorIndex := 25, attributes := #[] }, { accessFlags := 25, nameIndex := 282, descriptorIndex := 25, attributes := #[] }, { accessFlags := 25, nameIndex := 284, descriptorIndex := 25, attributes := #[] }, { accessFlags := 25, nameIndex := 286, descriptorIndex := 25, attributes := #[] }, { accessFlags := 25, nameIndex := 288, descriptorIndex := 25, attributes := #[] }, { accessFlags := 25, nameIndex := 290, descriptorIndex := 25, attributes := #[] }, { accessFlags := 25, nameIndex := 292, descriptorIndex := 25, attributes := #[] }, { accessFlags := 26, nameIndex := 108, descriptorIndex := 109, attributes := #[] }, { accessFlags := 25, nameIndex := 294, descriptorIndex := 25, attributes := #[] }])
  fields := #[{ name := "U", type := (.object "jdk/internal/misc/Unsafe"), accessFlags := 24, slot := 0, constantValue := 0 }, { name := "BIG_ENDIAN", type := .boolean, accessFlags := 26, slot := 1, constantValue := 0 }, { name := "LOG2_ARRAY_BOOLEAN_INDEX_SCALE", type := .int, accessFlags := 25, slot := 2, constantValue := 0 }, { name := "LOG2_ARRAY_BYTE_INDEX_SCALE", type := .int, accessFlags := 25, slot := 3, constantValue := 0 }, { name := "LOG2_ARRAY_CHAR_INDEX_SCALE", type := .int, accessFlags := 25, slot := 4, constantValue := 0 }, { name := "LOG2_ARRAY_SHORT_INDEX_SCALE", type := .int, accessFlags := 25, slot := 5, constantValue := 0 }, { name := "LOG2_ARRAY_INT_INDEX_SCALE", type := .int, accessFlags := 25, slot := 6, constantValue := 0 }, { name := "LOG2_ARRAY_LONG_INDEX_SCALE", type := .int, accessFlags := 25, slot := 7, constantValue := 0 }, { name := "LOG2_ARRAY_FLOAT_INDEX_SCALE", type := .int, accessFlags := 25, slot := 8, constantValue := 0 }, { name := "LOG2_ARRAY_DOUBLE_INDEX_SCALE", type := .int, accessFlags := 25, slot := 9, constantValue := 0 }, { name := "LOG2_BYTE_BIT_SIZE", type := .int, accessFlags := 26, slot := 10, constantValue := 0 }, { name := "T_BOOLEAN", type := .int, accessFlags := 25, slot := 11, constantValue := 0 }, { name := "T_CHAR", type := .int, accessFlags := 25, slot := 12, constantValue := 0 }, { name := "T_FLOAT", type := .int, accessFlags := 25, slot := 13, constantValue := 0 }, { name := "T_DOUBLE", type := .int, accessFlags := 25, slot := 14, constantValue := 0 }, { name := "T_BYTE", type := .int, accessFlags := 25, slot := 15, constantValue := 0 }, { name := "T_SHORT", type := .int, accessFlags := 25, slot := 16, constantValue := 0 }, { name := "T_INT", type := .int, accessFlags := 25, slot := 17, constantValue := 0 }, { name := "T_LONG", type := .int, accessFlags := 25, slot := 18, constantValue := 0 }, { name := "JLA", type := (.object "jdk/internal/access/JavaLangAccess"), accessFlags := 26, slot := 19, constantValue := 0 }, { name := "SOFT_MAX_ARRAY_LENGTH", type := .int, accessFlags := 25, slot := 20, constantValue := 0 }]
  methods := #[k16m0]
  instanceTypes := #[]
  staticTypes := #[(.object "jdk/internal/misc/Unsafe"), .boolean, .int, .int, .int, .int, .int, .int, .int, .int, .int, .int, .int, .int, .int, .int, .int, .int, .int, (.object "jdk/internal/access/JavaLangAccess"), .int]
  resolved := Array.replicate 378 none
  statics := none }

def pool17 : Array CpInfo := pool [(1, u "java/lang/Cloneable"), (0, .class_ 1), (0, u "java/lang/Object"), (0, .class_ 3)] 3

/-- java/lang/Cloneable -/
def k17 : Class := { plain "java/lang/Cloneable" (some 0) with
  accessFlags := 1537
  interfaces := #[]
  cf := some (fileOf pool17 2 #[] #[] 1537 4 #[] #[])
  fields := #[]
  methods := #[]
  instanceTypes := #[]
  staticTypes := #[]
  resolved := Array.replicate 8 none
  statics := none }

/-- the primitive byte -/
def k18 : Class := { plain "byte" none with kind := .primitive 'B', accessFlags := 0x411 }
/-- [B -/
def k19 : Class := { plain "[B" (some 0) with kind := .array 18 .byte, interfaces := #[17, 2], accessFlags := 1041 }

/-- the primitive char -/
def k20 : Class := { plain "char" none with kind := .primitive 'C', accessFlags := 0x411 }
/-- [C -/
def k21 : Class := { plain "[C" (some 0) with kind := .array 20 .char, interfaces := #[17, 2], accessFlags := 1041 }

/-- the primitive int -/
def k22 : Class := { plain "int" none with kind := .primitive 'I', accessFlags := 0x411 }
/-- [I -/
def k23 : Class := { plain "[I" (some 0) with kind := .array 22 .int, interfaces := #[17, 2], accessFlags := 1041 }

/-- [Ljava/lang/Integer; -/
def k24 : Class := { plain "[Ljava/lang/Integer;" (some 0) with kind := .array 13 (.object "java/lang/Integer"), interfaces := #[17, 2], accessFlags := 1041 }

def heap : Heap := #[{ cls := 7, slots := #[.long 0, .int 1, .null, .int 0, .null, .int 0, .int 0], vm := .statics 7 },
  { cls := 14, slots := #[.int 0, .int 127, .ref 3, .null, .int 0], vm := .statics 14 },
  { cls := 15, slots := #[.null, .null, .null], vm := .statics 15 },
  { cls := 24, slots := #[.ref 4, .ref 5, .ref 6, .ref 7, .ref 8, .ref 9, .ref 10, .ref 11, .ref 12, .ref 13, .ref 14, .ref 15, .ref 16, .ref 17, .ref 18, .ref 19, .ref 20, .ref 21, .ref 22, .ref 23, .ref 24, .ref 25, .ref 26, .ref 27, .ref 28, .ref 29, .ref 30, .ref 31, .ref 32, .ref 33, .ref 34, .ref 35, .ref 36, .ref 37, .ref 38, .ref 39, .ref 40, .ref 41, .ref 42, .ref 43, .ref 44, .ref 45, .ref 46, .ref 47, .ref 48, .ref 49, .ref 50, .ref 51, .ref 52, .ref 53, .ref 54, .ref 55, .ref 56, .ref 57, .ref 58, .ref 59, .ref 60, .ref 61, .ref 62, .ref 63, .ref 64, .ref 65, .ref 66, .ref 67, .ref 68, .ref 69, .ref 70, .ref 71, .ref 72, .ref 73, .ref 74, .ref 75, .ref 76, .ref 77, .ref 78, .ref 79, .ref 80, .ref 81, .ref 82, .ref 83, .ref 84, .ref 85, .ref 86, .ref 87, .ref 88, .ref 89, .ref 90, .ref 91, .ref 92, .ref 93, .ref 94, .ref 95, .ref 96, .ref 97, .ref 98, .ref 99, .ref 100, .ref 101, .ref 102, .ref 103, .ref 104, .ref 105, .ref 106, .ref 107, .ref 108, .ref 109, .ref 110, .ref 111, .ref 112, .ref 113, .ref 114, .ref 115, .ref 116, .ref 117, .ref 118, .ref 119, .ref 120, .ref 121, .ref 122, .ref 123, .ref 124, .ref 125, .ref 126, .ref 127, .ref 128, .ref 129, .ref 130, .ref 131, .ref 132, .ref 133, .ref 134, .ref 135, .ref 136, .ref 137, .ref 138, .ref 139, .ref 140, .ref 141, .ref 142, .ref 143, .ref 144, .ref 145, .ref 146, .ref 147, .ref 148, .ref 149, .ref 150, .ref 151, .ref 152, .ref 153, .ref 154, .ref 155, .ref 156, .ref 157, .ref 158, .ref 159, .ref 160, .ref 161, .ref 162, .ref 163, .ref 164, .ref 165, .ref 166, .ref 167, .ref 168, .ref 169, .ref 170, .ref 171, .ref 172, .ref 173, .ref 174, .ref 175, .ref 176, .ref 177, .ref 178, .ref 179, .ref 180, .ref 181, .ref 182, .ref 183, .ref 184, .ref 185, .ref 186, .ref 187, .ref 188, .ref 189, .ref 190, .ref 191, .ref 192, .ref 193, .ref 194, .ref 195, .ref 196, .ref 197, .ref 198, .ref 199, .ref 200, .ref 201, .ref 202, .ref 203, .ref 204, .ref 205, .ref 206, .ref 207, .ref 208, .ref 209, .ref 210, .ref 211, .ref 212, .ref 213, .ref 214, .ref 215, .ref 216, .ref 217, .ref 218, .ref 219, .ref 220, .ref 221, .ref 222, .ref 223, .ref 224, .ref 225, .ref 226, .ref 227, .ref 228, .ref 229, .ref 230, .ref 231, .ref 232, .ref 233, .ref 234, .ref 235, .ref 236, .ref 237, .ref 238, .ref 239, .ref 240, .ref 241, .ref 242, .ref 243, .ref 244, .ref 245, .ref 246, .ref 247, .ref 248, .ref 249, .ref 250, .ref 251, .ref 252, .ref 253, .ref 254, .ref 255, .ref 256, .ref 257, .ref 258, .ref 259], vm := .none },
  { cls := 13, slots := #[.int (-128)], vm := .none },
  { cls := 13, slots := #[.int (-127)], vm := .none },
  { cls := 13, slots := #[.int (-126)], vm := .none },
  { cls := 13, slots := #[.int (-125)], vm := .none },
  { cls := 13, slots := #[.int (-124)], vm := .none },
  { cls := 13, slots := #[.int (-123)], vm := .none },
  { cls := 13, slots := #[.int (-122)], vm := .none },
  { cls := 13, slots := #[.int (-121)], vm := .none },
  { cls := 13, slots := #[.int (-120)], vm := .none },
  { cls := 13, slots := #[.int (-119)], vm := .none },
  { cls := 13, slots := #[.int (-118)], vm := .none },
  { cls := 13, slots := #[.int (-117)], vm := .none },
  { cls := 13, slots := #[.int (-116)], vm := .none },
  { cls := 13, slots := #[.int (-115)], vm := .none },
  { cls := 13, slots := #[.int (-114)], vm := .none },
  { cls := 13, slots := #[.int (-113)], vm := .none },
  { cls := 13, slots := #[.int (-112)], vm := .none },
  { cls := 13, slots := #[.int (-111)], vm := .none },
  { cls := 13, slots := #[.int (-110)], vm := .none },
  { cls := 13, slots := #[.int (-109)], vm := .none },
  { cls := 13, slots := #[.int (-108)], vm := .none },
  { cls := 13, slots := #[.int (-107)], vm := .none },
  { cls := 13, slots := #[.int (-106)], vm := .none },
  { cls := 13, slots := #[.int (-105)], vm := .none },
  { cls := 13, slots := #[.int (-104)], vm := .none },
  { cls := 13, slots := #[.int (-103)], vm := .none },
  { cls := 13, slots := #[.int (-102)], vm := .none },
  { cls := 13, slots := #[.int (-101)], vm := .none },
  { cls := 13, slots := #[.int (-100)], vm := .none },
  { cls := 13, slots := #[.int (-99)], vm := .none },
  { cls := 13, slots := #[.int (-98)], vm := .none },
  { cls := 13, slots := #[.int (-97)], vm := .none },
  { cls := 13, slots := #[.int (-96)], vm := .none },
  { cls := 13, slots := #[.int (-95)], vm := .none },
  { cls := 13, slots := #[.int (-94)], vm := .none },
  { cls := 13, slots := #[.int (-93)], vm := .none },
  { cls := 13, slots := #[.int (-92)], vm := .none },
  { cls := 13, slots := #[.int (-91)], vm := .none },
  { cls := 13, slots := #[.int (-90)], vm := .none },
  { cls := 13, slots := #[.int (-89)], vm := .none },
  { cls := 13, slots := #[.int (-88)], vm := .none },
  { cls := 13, slots := #[.int (-87)], vm := .none },
  { cls := 13, slots := #[.int (-86)], vm := .none },
  { cls := 13, slots := #[.int (-85)], vm := .none },
  { cls := 13, slots := #[.int (-84)], vm := .none },
  { cls := 13, slots := #[.int (-83)], vm := .none },
  { cls := 13, slots := #[.int (-82)], vm := .none },
  { cls := 13, slots := #[.int (-81)], vm := .none },
  { cls := 13, slots := #[.int (-80)], vm := .none },
  { cls := 13, slots := #[.int (-79)], vm := .none },
  { cls := 13, slots := #[.int (-78)], vm := .none },
  { cls := 13, slots := #[.int (-77)], vm := .none },
  { cls := 13, slots := #[.int (-76)], vm := .none },
  { cls := 13, slots := #[.int (-75)], vm := .none },
  { cls := 13, slots := #[.int (-74)], vm := .none },
  { cls := 13, slots := #[.int (-73)], vm := .none },
  { cls := 13, slots := #[.int (-72)], vm := .none },
  { cls := 13, slots := #[.int (-71)], vm := .none },
  { cls := 13, slots := #[.int (-70)], vm := .none },
  { cls := 13, slots := #[.int (-69)], vm := .none },
  { cls := 13, slots := #[.int (-68)], vm := .none },
  { cls := 13, slots := #[.int (-67)], vm := .none },
  { cls := 13, slots := #[.int (-66)], vm := .none },
  { cls := 13, slots := #[.int (-65)], vm := .none },
  { cls := 13, slots := #[.int (-64)], vm := .none },
  { cls := 13, slots := #[.int (-63)], vm := .none },
  { cls := 13, slots := #[.int (-62)], vm := .none },
  { cls := 13, slots := #[.int (-61)], vm := .none },
  { cls := 13, slots := #[.int (-60)], vm := .none },
  { cls := 13, slots := #[.int (-59)], vm := .none },
  { cls := 13, slots := #[.int (-58)], vm := .none },
  { cls := 13, slots := #[.int (-57)], vm := .none },
  { cls := 13, slots := #[.int (-56)], vm := .none },
  { cls := 13, slots := #[.int (-55)], vm := .none },
  { cls := 13, slots := #[.int (-54)], vm := .none },
  { cls := 13, slots := #[.int (-53)], vm := .none },
  { cls := 13, slots := #[.int (-52)], vm := .none },
  { cls := 13, slots := #[.int (-51)], vm := .none },
  { cls := 13, slots := #[.int (-50)], vm := .none },
  { cls := 13, slots := #[.int (-49)], vm := .none },
  { cls := 13, slots := #[.int (-48)], vm := .none },
  { cls := 13, slots := #[.int (-47)], vm := .none },
  { cls := 13, slots := #[.int (-46)], vm := .none },
  { cls := 13, slots := #[.int (-45)], vm := .none },
  { cls := 13, slots := #[.int (-44)], vm := .none },
  { cls := 13, slots := #[.int (-43)], vm := .none },
  { cls := 13, slots := #[.int (-42)], vm := .none },
  { cls := 13, slots := #[.int (-41)], vm := .none },
  { cls := 13, slots := #[.int (-40)], vm := .none },
  { cls := 13, slots := #[.int (-39)], vm := .none },
  { cls := 13, slots := #[.int (-38)], vm := .none },
  { cls := 13, slots := #[.int (-37)], vm := .none },
  { cls := 13, slots := #[.int (-36)], vm := .none },
  { cls := 13, slots := #[.int (-35)], vm := .none },
  { cls := 13, slots := #[.int (-34)], vm := .none },
  { cls := 13, slots := #[.int (-33)], vm := .none },
  { cls := 13, slots := #[.int (-32)], vm := .none },
  { cls := 13, slots := #[.int (-31)], vm := .none },
  { cls := 13, slots := #[.int (-30)], vm := .none },
  { cls := 13, slots := #[.int (-29)], vm := .none },
  { cls := 13, slots := #[.int (-28)], vm := .none },
  { cls := 13, slots := #[.int (-27)], vm := .none },
  { cls := 13, slots := #[.int (-26)], vm := .none },
  { cls := 13, slots := #[.int (-25)], vm := .none },
  { cls := 13, slots := #[.int (-24)], vm := .none },
  { cls := 13, slots := #[.int (-23)], vm := .none },
  { cls := 13, slots := #[.int (-22)], vm := .none },
  { cls := 13, slots := #[.int (-21)], vm := .none },
  { cls := 13, slots := #[.int (-20)], vm := .none },
  { cls := 13, slots := #[.int (-19)], vm := .none },
  { cls := 13, slots := #[.int (-18)], vm := .none },
  { cls := 13, slots := #[.int (-17)], vm := .none },
  { cls := 13, slots := #[.int (-16)], vm := .none },
  { cls := 13, slots := #[.int (-15)], vm := .none },
  { cls := 13, slots := #[.int (-14)], vm := .none },
  { cls := 13, slots := #[.int (-13)], vm := .none },
  { cls := 13, slots := #[.int (-12)], vm := .none },
  { cls := 13, slots := #[.int (-11)], vm := .none },
  { cls := 13, slots := #[.int (-10)], vm := .none },
  { cls := 13, slots := #[.int (-9)], vm := .none },
  { cls := 13, slots := #[.int (-8)], vm := .none },
  { cls := 13, slots := #[.int (-7)], vm := .none },
  { cls := 13, slots := #[.int (-6)], vm := .none },
  { cls := 13, slots := #[.int (-5)], vm := .none },
  { cls := 13, slots := #[.int (-4)], vm := .none },
  { cls := 13, slots := #[.int (-3)], vm := .none },
  { cls := 13, slots := #[.int (-2)], vm := .none },
  { cls := 13, slots := #[.int (-1)], vm := .none },
  { cls := 13, slots := #[.int (0)], vm := .none },
  { cls := 13, slots := #[.int (1)], vm := .none },
  { cls := 13, slots := #[.int (2)], vm := .none },
  { cls := 13, slots := #[.int (3)], vm := .none },
  { cls := 13, slots := #[.int (4)], vm := .none },
  { cls := 13, slots := #[.int (5)], vm := .none },
  { cls := 13, slots := #[.int (6)], vm := .none },
  { cls := 13, slots := #[.int (7)], vm := .none },
  { cls := 13, slots := #[.int (8)], vm := .none },
  { cls := 13, slots := #[.int (9)], vm := .none },
  { cls := 13, slots := #[.int (10)], vm := .none },
  { cls := 13, slots := #[.int (11)], vm := .none },
  { cls := 13, slots := #[.int (12)], vm := .none },
  { cls := 13, slots := #[.int (13)], vm := .none },
  { cls := 13, slots := #[.int (14)], vm := .none },
  { cls := 13, slots := #[.int (15)], vm := .none },
  { cls := 13, slots := #[.int (16)], vm := .none },
  { cls := 13, slots := #[.int (17)], vm := .none },
  { cls := 13, slots := #[.int (18)], vm := .none },
  { cls := 13, slots := #[.int (19)], vm := .none },
  { cls := 13, slots := #[.int (20)], vm := .none },
  { cls := 13, slots := #[.int (21)], vm := .none },
  { cls := 13, slots := #[.int (22)], vm := .none },
  { cls := 13, slots := #[.int (23)], vm := .none },
  { cls := 13, slots := #[.int (24)], vm := .none },
  { cls := 13, slots := #[.int (25)], vm := .none },
  { cls := 13, slots := #[.int (26)], vm := .none },
  { cls := 13, slots := #[.int (27)], vm := .none },
  { cls := 13, slots := #[.int (28)], vm := .none },
  { cls := 13, slots := #[.int (29)], vm := .none },
  { cls := 13, slots := #[.int (30)], vm := .none },
  { cls := 13, slots := #[.int (31)], vm := .none },
  { cls := 13, slots := #[.int (32)], vm := .none },
  { cls := 13, slots := #[.int (33)], vm := .none },
  { cls := 13, slots := #[.int (34)], vm := .none },
  { cls := 13, slots := #[.int (35)], vm := .none },
  { cls := 13, slots := #[.int (36)], vm := .none },
  { cls := 13, slots := #[.int (37)], vm := .none },
  { cls := 13, slots := #[.int (38)], vm := .none },
  { cls := 13, slots := #[.int (39)], vm := .none },
  { cls := 13, slots := #[.int (40)], vm := .none },
  { cls := 13, slots := #[.int (41)], vm := .none },
  { cls := 13, slots := #[.int (42)], vm := .none },
  { cls := 13, slots := #[.int (43)], vm := .none },
  { cls := 13, slots := #[.int (44)], vm := .none },
  { cls := 13, slots := #[.int (45)], vm := .none },
  { cls := 13, slots := #[.int (46)], vm := .none },
  { cls := 13, slots := #[.int (47)], vm := .none },
  { cls := 13, slots := #[.int (48)], vm := .none },
  { cls := 13, slots := #[.int (49)], vm := .none },
  { cls := 13, slots := #[.int (50)], vm := .none },
  { cls := 13, slots := #[.int (51)], vm := .none },
  { cls := 13, slots := #[.int (52)], vm := .none },
  { cls := 13, slots := #[.int (53)], vm := .none },
  { cls := 13, slots := #[.int (54)], vm := .none },
  { cls := 13, slots := #[.int (55)], vm := .none },
  { cls := 13, slots := #[.int (56)], vm := .none },
  { cls := 13, slots := #[.int (57)], vm := .none },
  { cls := 13, slots := #[.int (58)], vm := .none },
  { cls := 13, slots := #[.int (59)], vm := .none },
  { cls := 13, slots := #[.int (60)], vm := .none },
  { cls := 13, slots := #[.int (61)], vm := .none },
  { cls := 13, slots := #[.int (62)], vm := .none },
  { cls := 13, slots := #[.int (63)], vm := .none },
  { cls := 13, slots := #[.int (64)], vm := .none },
  { cls := 13, slots := #[.int (65)], vm := .none },
  { cls := 13, slots := #[.int (66)], vm := .none },
  { cls := 13, slots := #[.int (67)], vm := .none },
  { cls := 13, slots := #[.int (68)], vm := .none },
  { cls := 13, slots := #[.int (69)], vm := .none },
  { cls := 13, slots := #[.int (70)], vm := .none },
  { cls := 13, slots := #[.int (71)], vm := .none },
  { cls := 13, slots := #[.int (72)], vm := .none },
  { cls := 13, slots := #[.int (73)], vm := .none },
  { cls := 13, slots := #[.int (74)], vm := .none },
  { cls := 13, slots := #[.int (75)], vm := .none },
  { cls := 13, slots := #[.int (76)], vm := .none },
  { cls := 13, slots := #[.int (77)], vm := .none },
  { cls := 13, slots := #[.int (78)], vm := .none },
  { cls := 13, slots := #[.int (79)], vm := .none },
  { cls := 13, slots := #[.int (80)], vm := .none },
  { cls := 13, slots := #[.int (81)], vm := .none },
  { cls := 13, slots := #[.int (82)], vm := .none },
  { cls := 13, slots := #[.int (83)], vm := .none },
  { cls := 13, slots := #[.int (84)], vm := .none },
  { cls := 13, slots := #[.int (85)], vm := .none },
  { cls := 13, slots := #[.int (86)], vm := .none },
  { cls := 13, slots := #[.int (87)], vm := .none },
  { cls := 13, slots := #[.int (88)], vm := .none },
  { cls := 13, slots := #[.int (89)], vm := .none },
  { cls := 13, slots := #[.int (90)], vm := .none },
  { cls := 13, slots := #[.int (91)], vm := .none },
  { cls := 13, slots := #[.int (92)], vm := .none },
  { cls := 13, slots := #[.int (93)], vm := .none },
  { cls := 13, slots := #[.int (94)], vm := .none },
  { cls := 13, slots := #[.int (95)], vm := .none },
  { cls := 13, slots := #[.int (96)], vm := .none },
  { cls := 13, slots := #[.int (97)], vm := .none },
  { cls := 13, slots := #[.int (98)], vm := .none },
  { cls := 13, slots := #[.int (99)], vm := .none },
  { cls := 13, slots := #[.int (100)], vm := .none },
  { cls := 13, slots := #[.int (101)], vm := .none },
  { cls := 13, slots := #[.int (102)], vm := .none },
  { cls := 13, slots := #[.int (103)], vm := .none },
  { cls := 13, slots := #[.int (104)], vm := .none },
  { cls := 13, slots := #[.int (105)], vm := .none },
  { cls := 13, slots := #[.int (106)], vm := .none },
  { cls := 13, slots := #[.int (107)], vm := .none },
  { cls := 13, slots := #[.int (108)], vm := .none },
  { cls := 13, slots := #[.int (109)], vm := .none },
  { cls := 13, slots := #[.int (110)], vm := .none },
  { cls := 13, slots := #[.int (111)], vm := .none },
  { cls := 13, slots := #[.int (112)], vm := .none },
  { cls := 13, slots := #[.int (113)], vm := .none },
  { cls := 13, slots := #[.int (114)], vm := .none },
  { cls := 13, slots := #[.int (115)], vm := .none },
  { cls := 13, slots := #[.int (116)], vm := .none },
  { cls := 13, slots := #[.int (117)], vm := .none },
  { cls := 13, slots := #[.int (118)], vm := .none },
  { cls := 13, slots := #[.int (119)], vm := .none },
  { cls := 13, slots := #[.int (120)], vm := .none },
  { cls := 13, slots := #[.int (121)], vm := .none },
  { cls := 13, slots := #[.int (122)], vm := .none },
  { cls := 13, slots := #[.int (123)], vm := .none },
  { cls := 13, slots := #[.int (124)], vm := .none },
  { cls := 13, slots := #[.int (125)], vm := .none },
  { cls := 13, slots := #[.int (126)], vm := .none },
  { cls := 13, slots := #[.int (127)], vm := .none }]
def classes : Array Class := #[k0, k1, k2, k3, k4, k5, k6, k7, k8, k9, k10, k11, k12, k13, k14, k15, k16, k17, k18, k19, k20, k21, k22, k23, k24]
def interned : List (Array UInt16 × Addr) := []
def slotsUsed : Nat := 527
def theMethod : MethodId := ⟨1, 1⟩
def args0 : Array Value := #[.int 5, .int 6, .int 7, .int 8, .int 9]
def aboutOver (below : List Frame) : State where
  vm := { classes := classes, interned := interned.toArray }
  heap := heap
  slotsUsed := slotsUsed
  threads := #[{ frames := .invoking theMethod args0 :: below }]
def below0 : List Frame := [.native { method := ⟨0, 0⟩, args := #[] }]
def about1 : State := aboutOver below0
def p0 : Program := .bare "" "" ""
def e0 : Env := launch0.env 0 0 0
theorem w_frames : about1.frames = Frame.invoking theMethod args0 :: below0 := rfl
set_option maxRecDepth 65536 in
theorem w_args : argsFit about1.vm theMethod args0 = true := by decide +kernel
set_option maxRecDepth 65536 in
theorem w_heap : heapFits about1 = true := by decide +kernel
set_option maxRecDepth 65536 in
theorem w_runnable : about1.curStatus? = some .runnable := by decide +kernel
set_option maxRecDepth 65536 in
theorem w_alone : about1.alone = true := by decide +kernel
set_option maxRecDepth 65536 in
theorem w_named : about1.methodNamed? x = some theMethod := by decide +kernel
set_option maxRecDepth 65536 in
theorem w_hears : about1.hears theMethod below0 = true := by decide +kernel
set_option maxRecDepth 65536 in
theorem w_ripe : about1.ripe theMethod args0 below0 = true := by decide +kernel
theorem w_running : about1.status = .running := rfl
set_option maxRecDepth 65536 in
theorem w_room : about1.hasRoom e0.platform room_1 = true :=
  launch0.hasRoom_least _ room_1 (by decide +kernel) (by decide +kernel) (by decide +kernel) (by decide +kernel) (by decide +kernel) (by decide +kernel)
theorem allAtoms_all (ts : List Jvm.Cond) (a : Array Jvm.Value) (st : Jvm.State) : (allAtoms ts).before a st = ts.all (fun c => c.before a st) := by
  induction ts with
  | nil => rfl
  | cons c t ih =>
    show (Jvm.Cond.and c (allAtoms t)).before a st = _
    rw [Jvm.Cond.before_and, ih, List.all_cons]
def words1 : List Jvm.Cond := Jvm.Cond.code x code maxLocals ret :: tables_1
/-- a 'code' word, met by the world's own term for the bytes: nothing is compared byte by byte -/
theorem code_word {y : MethodName} {bytes : ByteArray} {mx : Nat} {rt : Option FieldType} {a : Array Value} {s : State} {m : MethodId} {meth : Method} {c : Code} (h1 : s.methodNamed? y = some m) (h2 : s.vm.method? m = some meth) (h3 : meth.code = some c) (h4 : c.code = bytes)
    (h5 : (c.maxLocals == mx && c.exceptionTable.isEmpty && decide (c.maxStack ≤ mostOperands) && decide (meth.sig.returnType = rt) && !meth.locks && decide (parseMethodDescriptor y.desc = some meth.sig)) = true) : (Jvm.Cond.code y bytes mx rt).before a s = true := by
  simp only [Bool.and_eq_true, beq_iff_eq, Bool.not_eq_true', decide_eq_true_eq] at h5
  obtain ⟨⟨⟨⟨⟨g1, g2⟩, g3⟩, g4⟩, g5⟩, g6⟩ := h5
  simp [Cond.before, Cond.holds, Cond.value, h1, h2, h3, h4, g1, g2, g3, g4, g5, g6]
def isCode : Jvm.Cond → Bool
  | .code _ _ _ _ => true
  | _ => false
theorem all_split {L : List Jvm.Cond} {P : Jvm.Cond → Bool} (h1 : L.all (fun c => isCode c || P c) = true) (h2 : ∀ c ∈ L.filter isCode, P c = true) : L.all P = true := by
  refine List.all_eq_true.mpr fun c hc => ?_
  have h := List.all_eq_true.mp h1 c hc
  rcases Bool.eq_false_or_eq_true (isCode c) with hi | hi
  · exact h2 c (List.mem_filter.mpr ⟨hc, hi⟩)
  · simpa [hi] using h
set_option maxRecDepth 65536 in
theorem w_c0 : (Jvm.Cond.code x code maxLocals ret).before args0 about1 = true := code_word (m := ⟨1, 1⟩) (meth := k1m1) (c := k1c1) (by decide +kernel) rfl rfl rfl (by decide +kernel)
set_option maxRecDepth 65536 in
theorem w_c1 : (Jvm.Cond.code ({ cls := "java/lang/String", name := "<init>", desc := "([C)V" } : Jvm.MethodName) jdk_42_method_3_code (2 : Nat) (Option.none : Option Jvm.ClassFile.FieldType)).before args0 about1 = true := code_word (m := ⟨7, 1⟩) (meth := k7m1) (c := k7c1) (by decide +kernel) rfl rfl rfl (by decide +kernel)
set_option maxRecDepth 65536 in
theorem w_c2 : (Jvm.Cond.code ({ cls := "java/lang/String", name := "<init>", desc := "([CIILjava/lang/Void;)V" } : Jvm.MethodName) jdk_42_method_149_code (6 : Nat) (Option.none : Option Jvm.ClassFile.FieldType)).before args0 about1 = true := code_word (m := ⟨7, 3⟩) (meth := k7m3) (c := k7c3) (by decide +kernel) rfl rfl rfl (by decide +kernel)
set_option maxRecDepth 65536 in
theorem w_c3 : (Jvm.Cond.code ({ cls := "java/lang/Object", name := "<init>", desc := "()V" } : Jvm.MethodName) object_method_1_code (1 : Nat) (Option.none : Option Jvm.ClassFile.FieldType)).before args0 about1 = true := code_word (m := ⟨0, 0⟩) (meth := k0m0) (c := k0c0) (by decide +kernel) rfl rfl rfl (by decide +kernel)
set_option maxRecDepth 65536 in
theorem w_c4 : (Jvm.Cond.code ({ cls := "java/lang/StringUTF16", name := "compress", desc := "([CII)[B" } : Jvm.MethodName) jdk_52_method_16_code (6 : Nat) (Option.some (Jvm.ClassFile.FieldType.array Jvm.ClassFile.FieldType.byte))).before args0 about1 = true := code_word (m := ⟨8, 2⟩) (meth := k8m2) (c := k8c2) (by decide +kernel) rfl rfl rfl (by decide +kernel)
set_option maxRecDepth 65536 in
theorem w_c5 : (Jvm.Cond.code ({ cls := "java/lang/StringUTF16", name := "compress", desc := "([CI[BII)I" } : Jvm.MethodName) jdk_52_method_21_code (7 : Nat) (Option.some Jvm.ClassFile.FieldType.int)).before args0 about1 = true := code_word (m := ⟨8, 3⟩) (meth := k8m3) (c := k8c3) (by decide +kernel) rfl rfl rfl (by decide +kernel)
set_option maxRecDepth 65536 in
theorem w_c6 : (Jvm.Cond.code ({ cls := "java/lang/StringUTF16", name := "coderFromArrayLen", desc := "([BI)B" } : Jvm.MethodName) jdk_52_method_15_code (2 : Nat) (Option.some Jvm.ClassFile.FieldType.byte)).before args0 about1 = true := code_word (m := ⟨8, 1⟩) (meth := k8m1) (c := k8c1) (by decide +kernel) rfl rfl rfl (by decide +kernel)
set_option maxRecDepth 65536 in
theorem w_c7 : (Jvm.Cond.code ({ cls := "java/lang/String", name := "valueOf", desc := "(C)Ljava/lang/String;" } : Jvm.MethodName) jdk_42_method_139_code (1 : Nat) (Option.some (Jvm.ClassFile.FieldType.object "java/lang/String"))).before args0 about1 = true := code_word (m := ⟨7, 2⟩) (meth := k7m2) (c := k7c2) (by decide +kernel) rfl rfl rfl (by decide +kernel)
set_option maxRecDepth 65536 in
theorem w_c8 : (Jvm.Cond.code ({ cls := "java/lang/StringLatin1", name := "canEncode", desc := "(C)Z" } : Jvm.MethodName) jdk_43_method_3_code (1 : Nat) (Option.some Jvm.ClassFile.FieldType.boolean)).before args0 about1 = true := code_word (m := ⟨9, 1⟩) (meth := k9m1) (c := k9c1) (by decide +kernel) rfl rfl rfl (by decide +kernel)
set_option maxRecDepth 65536 in
theorem w_c9 : (Jvm.Cond.code ({ cls := "java/lang/StringLatin1", name := "toBytes", desc := "(C)[B" } : Jvm.MethodName) jdk_43_method_46_code (1 : Nat) (Option.some (Jvm.ClassFile.FieldType.array Jvm.ClassFile.FieldType.byte))).before args0 about1 = true := code_word (m := ⟨9, 2⟩) (meth := k9m2) (c := k9c2) (by decide +kernel) rfl rfl rfl (by decide +kernel)
set_option maxRecDepth 65536 in
theorem w_c10 : (Jvm.Cond.code ({ cls := "java/lang/String", name := "<init>", desc := "([BB)V" } : Jvm.MethodName) jdk_42_method_151_code (3 : Nat) (Option.none : Option Jvm.ClassFile.FieldType)).before args0 about1 = true := code_word (m := ⟨7, 4⟩) (meth := k7m4) (c := k7c4) (by decide +kernel) rfl rfl rfl (by decide +kernel)
set_option maxRecDepth 65536 in
theorem w_c11 : (Jvm.Cond.code ({ cls := "com/example/stratify/stratify/Problem", name := "<init>", desc := "(Ljava/lang/String;ZLjava/lang/Integer;ILjava/lang/String;Ljava/lang/String;)V" } : Jvm.MethodName) prog_33_method_1_code (7 : Nat) (Option.none : Option Jvm.ClassFile.FieldType)).before args0 about1 = true := code_word (m := ⟨11, 0⟩) (meth := k11m0) (c := k11c0) (by decide +kernel) rfl rfl rfl (by decide +kernel)
set_option maxRecDepth 65536 in
theorem w_c12 : (Jvm.Cond.code ({ cls := "java/lang/Record", name := "<init>", desc := "()V" } : Jvm.MethodName) jdk_30_method_1_code (1 : Nat) (Option.none : Option Jvm.ClassFile.FieldType)).before args0 about1 = true := code_word (m := ⟨10, 0⟩) (meth := k10m0) (c := k10c0) (by decide +kernel) rfl rfl rfl (by decide +kernel)
set_option maxRecDepth 65536 in
theorem w_c13 : (Jvm.Cond.code ({ cls := "com/example/stratify/stratify/Problem", name := "mayBeUnderWay", desc := "()Z" } : Jvm.MethodName) prog_33_method_3_code (1 : Nat) (Option.some Jvm.ClassFile.FieldType.boolean)).before args0 about1 = true := code_word (m := ⟨11, 1⟩) (meth := k11m1) (c := k11c1) (by decide +kernel) rfl rfl rfl (by decide +kernel)
set_option maxRecDepth 65536 in
theorem w_c14 : (Jvm.Cond.code ({ cls := "java/lang/Integer", name := "valueOf", desc := "(I)Ljava/lang/Integer;" } : Jvm.MethodName) jdk_33_method_22_code (1 : Nat) (Option.some (Jvm.ClassFile.FieldType.object "java/lang/Integer"))).before args0 about1 = true := code_word (m := ⟨13, 0⟩) (meth := k13m0) (c := k13c0) (by decide +kernel) rfl rfl rfl (by decide +kernel)
set_option maxRecDepth 65536 in
theorem w_c15 : (Jvm.Cond.code ({ cls := "java/lang/Integer", name := "<init>", desc := "(I)V" } : Jvm.MethodName) jdk_33_method_23_code (2 : Nat) (Option.none : Option Jvm.ClassFile.FieldType)).before args0 about1 = true := code_word (m := ⟨13, 1⟩) (meth := k13m1) (c := k13c1) (by decide +kernel) rfl rfl rfl (by decide +kernel)
set_option maxRecDepth 65536 in
theorem w_c16 : (Jvm.Cond.code ({ cls := "java/lang/Number", name := "<init>", desc := "()V" } : Jvm.MethodName) jdk_18_method_1_code (1 : Nat) (Option.none : Option Jvm.ClassFile.FieldType)).before args0 about1 = true := code_word (m := ⟨12, 0⟩) (meth := k12m0) (c := k12c0) (by decide +kernel) rfl rfl rfl (by decide +kernel)
def codes1 : List Jvm.Cond := [Jvm.Cond.code x code maxLocals ret, Jvm.Cond.code ({ cls := "java/lang/String", name := "<init>", desc := "([C)V" } : Jvm.MethodName) jdk_42_method_3_code (2 : Nat) (Option.none : Option Jvm.ClassFile.FieldType), Jvm.Cond.code ({ cls := "java/lang/String", name := "<init>", desc := "([CIILjava/lang/Void;)V" } : Jvm.MethodName) jdk_42_method_149_code (6 : Nat) (Option.none : Option Jvm.ClassFile.FieldType), Jvm.Cond.code ({ cls := "java/lang/Object", name := "<init>", desc := "()V" } : Jvm.MethodName) object_method_1_code (1 : Nat) (Option.none : Option Jvm.ClassFile.FieldType), Jvm.Cond.code ({ cls := "java/lang/StringUTF16", name := "compress", desc := "([CII)[B" } : Jvm.MethodName) jdk_52_method_16_code (6 : Nat) (Option.some (Jvm.ClassFile.FieldType.array Jvm.ClassFile.FieldType.byte)), Jvm.Cond.code ({ cls := "java/lang/StringUTF16", name := "compress", desc := "([CI[BII)I" } : Jvm.MethodName) jdk_52_method_21_code (7 : Nat) (Option.some Jvm.ClassFile.FieldType.int), Jvm.Cond.code ({ cls := "java/lang/StringUTF16", name := "coderFromArrayLen", desc := "([BI)B" } : Jvm.MethodName) jdk_52_method_15_code (2 : Nat) (Option.some Jvm.ClassFile.FieldType.byte), Jvm.Cond.code ({ cls := "java/lang/String", name := "valueOf", desc := "(C)Ljava/lang/String;" } : Jvm.MethodName) jdk_42_method_139_code (1 : Nat) (Option.some (Jvm.ClassFile.FieldType.object "java/lang/String")), Jvm.Cond.code ({ cls := "java/lang/StringLatin1", name := "canEncode", desc := "(C)Z" } : Jvm.MethodName) jdk_43_method_3_code (1 : Nat) (Option.some Jvm.ClassFile.FieldType.boolean), Jvm.Cond.code ({ cls := "java/lang/StringLatin1", name := "toBytes", desc := "(C)[B" } : Jvm.MethodName) jdk_43_method_46_code (1 : Nat) (Option.some (Jvm.ClassFile.FieldType.array Jvm.ClassFile.FieldType.byte)), Jvm.Cond.code ({ cls := "java/lang/String", name := "<init>", desc := "([BB)V" } : Jvm.MethodName) jdk_42_method_151_code (3 : Nat) (Option.none : Option Jvm.ClassFile.FieldType), Jvm.Cond.code ({ cls := "com/example/stratify/stratify/Problem", name := "<init>", desc := "(Ljava/lang/String;ZLjava/lang/Integer;ILjava/lang/String;Ljava/lang/String;)V" } : Jvm.MethodName) prog_33_method_1_code (7 : Nat) (Option.none : Option Jvm.ClassFile.FieldType), Jvm.Cond.code ({ cls := "java/lang/Record", name := "<init>", desc := "()V" } : Jvm.MethodName) jdk_30_method_1_code (1 : Nat) (Option.none : Option Jvm.ClassFile.FieldType), Jvm.Cond.code ({ cls := "com/example/stratify/stratify/Problem", name := "mayBeUnderWay", desc := "()Z" } : Jvm.MethodName) prog_33_method_3_code (1 : Nat) (Option.some Jvm.ClassFile.FieldType.boolean), Jvm.Cond.code ({ cls := "java/lang/Integer", name := "valueOf", desc := "(I)Ljava/lang/Integer;" } : Jvm.MethodName) jdk_33_method_22_code (1 : Nat) (Option.some (Jvm.ClassFile.FieldType.object "java/lang/Integer")), Jvm.Cond.code ({ cls := "java/lang/Integer", name := "<init>", desc := "(I)V" } : Jvm.MethodName) jdk_33_method_23_code (2 : Nat) (Option.none : Option Jvm.ClassFile.FieldType), Jvm.Cond.code ({ cls := "java/lang/Number", name := "<init>", desc := "()V" } : Jvm.MethodName) jdk_18_method_1_code (1 : Nat) (Option.none : Option Jvm.ClassFile.FieldType)]
set_option maxRecDepth 65536 in
theorem codes_eq : words1.filter isCode = codes1 := rfl
theorem w_codes : ∀ c ∈ words1.filter isCode, c.before args0 about1 = true := by
  rw [codes_eq]
  intro c hc
  simp only [codes1, List.mem_cons, List.not_mem_nil, or_false] at hc
  rcases hc with rfl | rfl | rfl | rfl | rfl | rfl | rfl | rfl | rfl | rfl | rfl | rfl | rfl | rfl | rfl | rfl | rfl
  · exact w_c0
  · exact w_c1
  · exact w_c2
  · exact w_c3
  · exact w_c4
  · exact w_c5
  · exact w_c6
  · exact w_c7
  · exact w_c8
  · exact w_c9
  · exact w_c10
  · exact w_c11
  · exact w_c12
  · exact w_c13
  · exact w_c14
  · exact w_c15
  · exact w_c16
set_option maxRecDepth 65536 in
theorem w_t1 : (words1.take 24).all (fun c => isCode c || c.before args0 about1) = true := by decide +kernel
set_option maxRecDepth 65536 in
theorem w_t2 : ((words1.drop 24).take 24).all (fun c => isCode c || c.before args0 about1) = true := by decide +kernel
set_option maxRecDepth 65536 in
theorem w_t3 : (((words1.drop 24).drop 24).take 24).all (fun c => isCode c || c.before args0 about1) = true := by decide +kernel
set_option maxRecDepth 65536 in
theorem w_t4 : (((words1.drop 24).drop 24).drop 24).all (fun c => isCode c || c.before args0 about1) = true := by decide +kernel
theorem w_tables : (allAtoms (Jvm.Cond.code x code maxLocals ret :: tables_1)).before args0 about1 = true := by
  rw [allAtoms_all]
  show words1.all (fun c => c.before args0 about1) = true
  refine all_split ?_ w_codes
  rw [← List.take_append_drop 24 words1, List.all_append, w_t1, ← List.take_append_drop 24 (words1.drop 24), List.all_append, w_t2, ← List.take_append_drop 24 ((words1.drop 24).drop 24), List.all_append, w_t3, w_t4]
  rfl
set_option maxRecDepth 65536 in
theorem w_rest : rest_1_c.before args0 about1 = true := by decide +kernel
set_option maxRecDepth 65536 in
theorem w_case : (Jvm.Cond.and given_1 narrow_1).before args0 about1 = true := by decide +kernel
theorem w_applies : (headSpec (Jvm.Cond.code x code maxLocals ret :: tables_1) room_1).applies x e0.platform about1 = true :=
  (Spec.applies_iff w_frames).mpr ⟨w_running, w_runnable, w_alone, w_named, w_hears, w_ripe, w_room, w_tables⟩
theorem atStart : AtStart classFile x code maxLocals ret World_1 tables_1 room_1 Calls_1 rest_1 Pre_1 launch0 p0 e0 about1 theMethod args0 below0 :=
  ⟨lists_1, trivial, launch0.admits_env _ _ _, launch0.least_env, fairChoices_fair.cas, fairChoices_fair.clock, w_frames, w_args, w_heap, w_applies, trivial, w_rest, w_case⟩
end start1
theorem witness_1 : WitnessClaimed_1 := ⟨start1.p0, start1.e0, start1.about1, start1.theMethod, start1.args0, start1.below0, start1.atStart⟩
end Jvm.Pilot.@@N@@
