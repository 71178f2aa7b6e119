import JvmDerived
import JvmDerived.Pilot.@@N@@Statement
import JvmDerived.Pilot.@@N@@Code
set_option linter.unusedVariables false
set_option linter.unusedSimpArgs false
/- laws to paste: Road.backArv, Road.codOf, Road.empW, Road.lenW, Road.chN (cut by pick.py; bodies as the Statement names them) -/
namespace Jvm.Pilot.@@N@@
namespace StrChars
open Jvm Sem ClassFile Op Lib Jvm.Stand Jvm.Free.XT Jvm.Free.ALB Jvm.Free.JM Jvm.Free
open Jvm.Lib.Cold (StaticIs)
/-- a char array whose places are chars -/
def Ch (a : Addr) (A : Cell) (U : State) : Prop := Arr .char a A U ∧ Typed .char A
theorem Ch.mv {a : Addr} {A : Cell} {U U' : State} (h : Ch a A U) (hal : U.vm.Alike U'.vm) (hh : U'.heap = U.heap) : Ch a A U' := ⟨h.1.mv hal hh, h.2⟩
theorem Ch.keep {a : Addr} {A : Cell} {U U' : State} (h : Ch a A U) (hal : U.vm.Alike U'.vm) (hk : U'.heap[a]? = some A) : Ch a A U' := ⟨h.1.keep hal hk, h.2⟩
/-- what place i of a char[]'s cell holds -/
def cv (A : Cell) (i : Nat) : Int32 := match A.slots[i]? with | some (.int x) => x | _ => 0
theorem Ch.get {a : Addr} {A : Cell} {U : State} (h : Ch a A U) {i : Nat} (hi : i < A.slots.size) : A.slots[i]? = some (.int (cv A i)) := by
  have e := Array.getElem?_eq_getElem hi
  have f := h.2 i _ e
  unfold cv; rw [e]
  generalize A.slots[i] = v at f
  cases v <;> simp [fits] at f ⊢
/-- the byte that i2b leaves of a char -/
def lo8 (x : Int32) : Int32 := x.toInt8.toInt32
theorem fits_lo8 (y : Int32) : fits .byte (.int (lo8 y)) = true := by
  have h1 := y.toInt8.le_toInt
  have h2 := y.toInt8.toInt_lt
  simp only [lo8, fits, Bool.and_eq_true, decide_eq_true_eq, Int32.le_iff_toInt_le, Int8.toInt_toInt32, show (-128 : Int32).toInt = -128 from by decide, show (127 : Int32).toInt = 127 from by decide]
  omega
/-- A' is A but that each place j of lo .. hi - 1 holds f j -/
def Laid (A A' : Cell) (lo hi : Nat) (f : Nat → Value) : Prop := A'.cls = A.cls ∧ A'.vm = A.vm ∧ A'.slots.size = A.slots.size ∧ ∀ i, A'.slots[i]? = if lo ≤ i ∧ i < hi then some (f i) else A.slots[i]?
theorem Laid.zero (A : Cell) (lo : Nat) (f : Nat → Value) : Laid A A lo (lo + 0) f := ⟨rfl, rfl, rfl, fun i => by rw [if_neg (by omega)]⟩
theorem Laid.step {A Ak : Cell} {lo k : Nat} {f : Nat → Value} {v : Value} (h : Laid A Ak lo k f) (hlo : lo ≤ k) (hk : k < Ak.slots.size) (hv : v = f k) : Laid A (Ak.setSlot k v) lo (k + 1) f := by
  refine ⟨h.1, h.2.1, by simpa [Cell.setSlot] using h.2.2.1, fun i => ?_⟩
  by_cases e : k = i
  · subst e; rw [Cell.slots_setSlot_self v hk, if_pos (by omega), hv]
  · rw [Cell.slots_setSlot_ne v e, h.2.2.2 i]
    by_cases q : lo ≤ i ∧ i < k
    · rw [if_pos q, if_pos (by omega)]
    · rw [if_neg q, if_neg (by omega)]
def U16 : String := "java/lang/StringUTF16"
namespace Cmp5
def yN : MethodName := ⟨"java/lang/StringUTF16", "compress", "([CI[BII)I"⟩
abbrev yB : ByteArray := jdk_52_method_21_code
theorem d0 : decode yB 0 = .ok (.iconst 0, 1) := by decide +kernel
theorem d1 : decode yB 1 = .ok (.istore 5, 2) := by decide +kernel
theorem d3 : decode yB 3 = .ok (.iload 5, 2) := by decide +kernel
theorem d5 : decode yB 5 = .ok (.iload 4, 2) := by decide +kernel
theorem d7 : decode yB 7 = .ok (.if_icmp (.ge) 37, 3) := by decide +kernel
theorem d10 : decode yB 10 = .ok (.aload_n 0, 1) := by decide +kernel
theorem d11 : decode yB 11 = .ok (.iload_n 1, 1) := by decide +kernel
theorem d12 : decode yB 12 = .ok (.caload, 1) := by decide +kernel
theorem d13 : decode yB 13 = .ok (.istore 6, 2) := by decide +kernel
theorem d15 : decode yB 15 = .ok (.iload 6, 2) := by decide +kernel
theorem d17 : decode yB 17 = .ok (.sipush 255, 3) := by decide +kernel
theorem d20 : decode yB 20 = .ok (.if_icmp (.le) 6, 3) := by decide +kernel
theorem d26 : decode yB 26 = .ok (.aload_n 2, 1) := by decide +kernel
theorem d27 : decode yB 27 = .ok (.iload_n 3, 1) := by decide +kernel
theorem d28 : decode yB 28 = .ok (.iload 6, 2) := by decide +kernel
theorem d30 : decode yB 30 = .ok (.i2b, 1) := by decide +kernel
theorem d31 : decode yB 31 = .ok (.bastore, 1) := by decide +kernel
theorem d32 : decode yB 32 = .ok (.iinc 1 1, 3) := by decide +kernel
theorem d35 : decode yB 35 = .ok (.iinc 3 1, 3) := by decide +kernel
theorem d38 : decode yB 38 = .ok (.iinc 5 1, 3) := by decide +kernel
theorem d41 : decode yB 41 = .ok (.goto (-38), 3) := by decide +kernel
theorem d44 : decode yB 44 = .ok (.iload 4, 2) := by decide +kernel
theorem d46 : decode yB 46 = .ok (.ireturn, 1) := by decide +kernel
def site : List Cond := []
def tab : Cond := tabOf yN yB 7 (some .int) site
def P (b : Addr) (A : Cell) (d : Addr) (B : Cell) (o q len : Nat) (args : Array Value) (s : State) : Prop := args = #[.ref b, .int (Int32.ofNat o), .ref d, .int (Int32.ofNat q), .int (Int32.ofNat len)] ∧ Ch b A s ∧ Arr .byte d B s ∧ b ≠ d ∧ o + len ≤ A.slots.size ∧ q + len ≤ B.slots.size ∧ ∀ i, i < len → ¬ 255 < cv A (o + i)
def E (b : Addr) (A : Cell) (d : Addr) (B : Cell) (o q len : Nat) (r : Option Value) (s u : State) : Prop := r = some (.int (Int32.ofNat len)) ∧ ∃ B', Put d B' s u ∧ Laid B B' q (q + len) (fun j => Value.int (lo8 (cv A (o + (j - q)))))
/-- no char of the range above 255: len; the places written hold each char's low byte -/
theorem law (l : Launch) (b : Addr) (A : Cell) (d : Addr) (B : Cell) (o q len : Nat) : Law l yN 5 5 0 0 yB 7 (some .int) site (P b A d B o q len) (E b A d B o q len) (copyLocs d q len) 0 0 := by
  refine Law.of_walk (plainFor_of_name (by decide +kernel)) (by decide +kernel) (by decide +kernel) (by decide) (fun _ _ h => by rw [h.1]; rfl) (fun _ U U' hal hh h => ⟨h.1, h.2.1.mv hal hh, h.2.2.1.mv hal hh, h.2.2.2⟩) (fun r U U' V V' h1 hal h2 h => ⟨h.1, h.2.elim fun B' q => ⟨B', q.1.mv h1 h2, q.2⟩⟩) ?_
  intro p e s m args below meth c s₁ X0 hexec hbytes hml hret hlk hnm hown hh0 W hP
  obtain ⟨rfl, hA, hB, hne, l1, l2, hp⟩ := hP
  have c1 : Steps p.tables e below (s₁.setTop (entryFrame m #[.ref b, .int (Int32.ofNat o), .ref d, .int (Int32.ofNat q), .int (Int32.ofNat len)] 7)) (s₁.setTop (mkF m 0 #[.val (.ref b), .val (.int (Int32.ofNat o)), .val (.ref d), .val (.int (Int32.ofNat q)), .val (.int (Int32.ofNat len)), .unset, .unset] [])) := entry rfl
  have hA0 := hA.1.mv X0.warmed.alike hh0
  have hB0 := hB.mv X0.warmed.alike hh0
  have a31 := hA.1.2.2.2
  have c2 : Steps p.tables e below (s₁.setTop (entryFrame m #[.ref b, .int (Int32.ofNat o), .ref d, .int (Int32.ofNat q), .int (Int32.ofNat len)] 7)) (s₁.setTop (mkF m 3 #[.val (.ref b), .val (.int (Int32.ofNat o)), .val (.ref d), .val (.int (Int32.ofNat q)), .val (.int (Int32.ofNat len)), .val (.int 0), .unset] [])) := c1.trans (by
    refine iconstV X0.here hexec rfl 0 (hb hbytes d0) (by decide) ?_
    refine XS.istore X0.here hexec rfl (hb hbytes d1) rfl rfl ?_
    exact Steps.refl _)
  have loop : ∀ (r i : Nat), i + r = len → ∀ (z : Slot), (z = .unset ∨ ∃ w, z = .val w ∧ w.category = 1) → ∀ (Tl : State) (Bk : Cell), Stand p l e { frames := 0, locals := 0, cells := 0, slots := 0 } s m #[.ref b, .int (Int32.ofNat o), .ref d, .int (Int32.ofNat q), .int (Int32.ofNat len)] below meth c Tl ([] ++ copyLocs d q i) 0 0 → Put d Bk s₁ Tl → Laid B Bk q (q + i) (fun j => Value.int (lo8 (cv A (o + (j - q))))) →
      Steps p.tables e below (s₁.setTop (entryFrame m #[.ref b, .int (Int32.ofNat o), .ref d, .int (Int32.ofNat q), .int (Int32.ofNat len)] 7)) (Tl.setTop (mkF m 3 #[.val (.ref b), .val (.int (Int32.ofNat (o + i))), .val (.ref d), .val (.int (Int32.ofNat (q + i))), .val (.int (Int32.ofNat len)), .val (.int (Int32.ofNat i)), z] [])) → ∃ (T' : State) (B' : Cell) (z' : Slot), Stand p l e { frames := 0, locals := 0, cells := 0, slots := 0 } s m #[.ref b, .int (Int32.ofNat o), .ref d, .int (Int32.ofNat q), .int (Int32.ofNat len)] below meth c T' ([] ++ copyLocs d q len) 0 0 ∧ Put d B' s₁ T' ∧ Laid B B' q (q + len) (fun j => Value.int (lo8 (cv A (o + (j - q))))) ∧
      Steps p.tables e below (s₁.setTop (entryFrame m #[.ref b, .int (Int32.ofNat o), .ref d, .int (Int32.ofNat q), .int (Int32.ofNat len)] 7)) (T'.setTop (mkF m 3 #[.val (.ref b), .val (.int (Int32.ofNat (o + len))), .val (.ref d), .val (.int (Int32.ofNat (q + len))), .val (.int (Int32.ofNat len)), .val (.int (Int32.ofNat len)), z'] [])) := by
    intro r
    induction r with
    | zero =>
      intro i hi z hz Tl Bk Xl pl fl cl
      have hil : i = len := by omega
      rw [hil] at Xl fl cl
      exact ⟨Tl, Bk, z, Xl, pl, fl, cl⟩
    | succ r ih =>
      intro i hi z hz Tl Bk Xl pl fl cl
      have all := X0.warmed.alike.symm.trans Xl.warmed.alike
      have hAl := hA0.keep all (pl.other hne hA0.1)
      have hBk := hB0.like all pl.1 fl.1 fl.2.1 fl.2.2.1
      have hlt : q + i < Bk.slots.size := by rw [fl.2.2.1]; omega
      have c3 : Steps p.tables e below (s₁.setTop (entryFrame m #[.ref b, .int (Int32.ofNat o), .ref d, .int (Int32.ofNat q), .int (Int32.ofNat len)] 7)) (Tl.setTop (mkF m 12 #[.val (.ref b), .val (.int (Int32.ofNat (o + i))), .val (.ref d), .val (.int (Int32.ofNat (q + i))), .val (.int (Int32.ofNat len)), .val (.int (Int32.ofNat i)), z] [.int (Int32.ofNat (o + i)), .ref b])) := cl.trans (by
        refine XS.iload Xl.here hexec rfl (hb hbytes d3) rfl ?_
        refine XS.iload Xl.here hexec rfl (hb hbytes d5) rfl ?_
        refine XS.icmpNo Xl.here hexec rfl (hb hbytes d7) rfl (ii_ge_f (lt32 (by omega) (by omega))) ?_
        refine XS.aloadN Xl.here hexec rfl (hb hbytes d10) rfl rfl ?_
        refine XS.iloadN Xl.here hexec rfl (hb hbytes d11) rfl ?_
        exact Steps.refl _)
      have c4 : Steps p.tables e below (s₁.setTop (entryFrame m #[.ref b, .int (Int32.ofNat o), .ref d, .int (Int32.ofNat q), .int (Int32.ofNat len)] 7)) (Tl.setTop (mkF m 13 #[.val (.ref b), .val (.int (Int32.ofNat (o + i))), .val (.ref d), .val (.int (Int32.ofNat (q + i))), .val (.int (Int32.ofNat len)), .val (.int (Int32.ofNat i)), z] [.int (cv A (o + i))])) := c3.trans (by
        refine Xl.aget hexec hAl rfl (hA.get (i := o + i) (by omega)) rfl rfl (hb hbytes d12) ?_
        exact Steps.refl _)
      have c5 : Steps p.tables e below (s₁.setTop (entryFrame m #[.ref b, .int (Int32.ofNat o), .ref d, .int (Int32.ofNat q), .int (Int32.ofNat len)] 7)) (Tl.setTop (mkF m 15 #[.val (.ref b), .val (.int (Int32.ofNat (o + i))), .val (.ref d), .val (.int (Int32.ofNat (q + i))), .val (.int (Int32.ofNat len)), .val (.int (Int32.ofNat i)), .val (.int (cv A (o + i)))] [])) := c4.trans (by
        refine XS.istoreS Xl.here hexec rfl (hb hbytes d13) rfl rfl hz ?_
        exact Steps.refl _)
      have c6 : Steps p.tables e below (s₁.setTop (entryFrame m #[.ref b, .int (Int32.ofNat o), .ref d, .int (Int32.ofNat q), .int (Int32.ofNat len)] 7)) (Tl.setTop (mkF m 31 #[.val (.ref b), .val (.int (Int32.ofNat (o + i))), .val (.ref d), .val (.int (Int32.ofNat (q + i))), .val (.int (Int32.ofNat len)), .val (.int (Int32.ofNat i)), .val (.int (cv A (o + i)))] [.int (lo8 (cv A (o + i))), .int (Int32.ofNat (q + i)), .ref d])) := c5.trans (by
        refine XS.iload Xl.here hexec rfl (hb hbytes d15) rfl ?_
        refine sipushV Xl.here hexec rfl 255 (hb hbytes d17) (by decide) ?_
        refine XS.icmpYes Xl.here hexec rfl (pc0 := 20) rfl (hb hbytes d20) rfl (ii_le_t (hp i (by omega))) (by decide) rfl ?_
        refine XS.aloadN Xl.here hexec rfl (hb hbytes d26) rfl rfl ?_
        refine XS.iloadN Xl.here hexec rfl (hb hbytes d27) rfl ?_
        refine XS.iload Xl.here hexec rfl (hb hbytes d28) rfl ?_
        refine i2b Xl.here hexec rfl (hb hbytes d30) rfl ?_
        exact Steps.refl _)
      obtain ⟨T7, X7, p7, st7⟩ := Xl.aput hexec hBk rfl hlt rfl (fits_lo8 (cv A (o + i))) (g := (mkF m 31 #[.val (.ref b), .val (.int (Int32.ofNat (o + i))), .val (.ref d), .val (.int (Int32.ofNat (q + i))), .val (.int (Int32.ofNat len)), .val (.int (Int32.ofNat i)), .val (.int (cv A (o + i)))] [.int (lo8 (cv A (o + i))), .int (Int32.ofNat (q + i)), .ref d])) rfl (rest := []) rfl (hb hbytes d31)
      have c8 : Steps p.tables e below (s₁.setTop (entryFrame m #[.ref b, .int (Int32.ofNat o), .ref d, .int (Int32.ofNat q), .int (Int32.ofNat len)] 7)) (T7.setTop (mkF m 32 #[.val (.ref b), .val (.int (Int32.ofNat (o + i))), .val (.ref d), .val (.int (Int32.ofNat (q + i))), .val (.int (Int32.ofNat len)), .val (.int (Int32.ofNat i)), .val (.int (cv A (o + i)))] [])) := c6.trans (st7 _ (Steps.refl _))
      have c9 : Steps p.tables e below (s₁.setTop (entryFrame m #[.ref b, .int (Int32.ofNat o), .ref d, .int (Int32.ofNat q), .int (Int32.ofNat len)] 7)) (T7.setTop (mkF m 3 #[.val (.ref b), .val (.int (Int32.ofNat (o + i) + 1)), .val (.ref d), .val (.int (Int32.ofNat (q + i) + 1)), .val (.int (Int32.ofNat len)), .val (.int (Int32.ofNat i + 1)), .val (.int (cv A (o + i)))] [])) := c8.trans (by
        refine iincV X7.here hexec rfl 1 (hb hbytes d32) (by decide) rfl rfl ?_
        refine iincV X7.here hexec rfl 1 (hb hbytes d35) (by decide) rfl rfl ?_
        refine iincV X7.here hexec rfl 1 (hb hbytes d38) (by decide) rfl rfl ?_
        refine XS.goto X7.here hexec rfl (pc0 := 41) rfl (hb hbytes d41) (by decide) rfl ?_
        exact Steps.refl _)
      have c10 : Steps p.tables e below (s₁.setTop (entryFrame m #[.ref b, .int (Int32.ofNat o), .ref d, .int (Int32.ofNat q), .int (Int32.ofNat len)] 7)) (T7.setTop (mkF m 3 #[.val (.ref b), .val (.int (Int32.ofNat (o + (i + 1)))), .val (.ref d), .val (.int (Int32.ofNat (q + (i + 1)))), .val (.int (Int32.ofNat len)), .val (.int (Int32.ofNat (i + 1))), .val (.int (cv A (o + i)))] [])) := by
        have := c9
        rw [succ32, succ32, succ32] at this
        exact this
      exact ih (i + 1) (by omega) _ (Or.inr ⟨_, rfl, rfl⟩) T7 _ (by rw [copyLocs_step, ← List.append_assoc]; exact X7) (pl.trans p7) (fl.step (by omega) hlt (by simp)) c10
  obtain ⟨T9, B9, z9, X9, p9, f9, g9⟩ := loop len 0 (by omega) .unset (Or.inl rfl) s₁ B (by simpa [copyLocs] using X0) ⟨hB0.1, fun _ _ => rfl, rfl⟩ (Laid.zero _ _ _) c2
  have c11 : Steps p.tables e below (s₁.setTop (entryFrame m #[.ref b, .int (Int32.ofNat o), .ref d, .int (Int32.ofNat q), .int (Int32.ofNat len)] 7)) (T9.setTop (mkF m 46 #[.val (.ref b), .val (.int (Int32.ofNat (o + len))), .val (.ref d), .val (.int (Int32.ofNat (q + len))), .val (.int (Int32.ofNat len)), .val (.int (Int32.ofNat len)), z9] [.int (Int32.ofNat len)])) := g9.trans (by
    refine XS.iload X9.here hexec rfl (hb hbytes d3) rfl ?_
    refine XS.iload X9.here hexec rfl (hb hbytes d5) rfl ?_
    refine XS.icmpYes X9.here hexec rfl (pc0 := 7) rfl (hb hbytes d7) rfl (ii_ge_t (nlt32 (by omega) (Nat.le_refl _))) (by decide) rfl ?_
    refine XS.iload X9.here hexec rfl (hb hbytes d44) rfl ?_
    exact Steps.refl _)
  exact ⟨T9, some (.int (Int32.ofNat len)), _, _, _, X9, by simp, rfl, rfl, (fun h => by cases h), ⟨rfl, B9, p9.from hh0, f9⟩, fun fs hl => c11.trans (X9.ireturnOut hexec hret rfl (Or.inl rfl) (hb hbytes d46) hl)⟩
end Cmp5
namespace Cmp3
def yN : MethodName := ⟨"java/lang/StringUTF16", "compress", "([CII)[B"⟩
abbrev yB : ByteArray := jdk_52_method_16_code
theorem d0 : decode yB 0 = .ok (.iload_n 2, 1) := by decide +kernel
theorem d1 : decode yB 1 = .ok (.newarray .byte, 2) := by decide +kernel
theorem d3 : decode yB 3 = .ok (.astore_n 3, 1) := by decide +kernel
theorem d4 : decode yB 4 = .ok (.aload_n 0, 1) := by decide +kernel
theorem d5 : decode yB 5 = .ok (.iload_n 1, 1) := by decide +kernel
theorem d6 : decode yB 6 = .ok (.aload_n 3, 1) := by decide +kernel
theorem d7 : decode yB 7 = .ok (.iconst 0, 1) := by decide +kernel
theorem d8 : decode yB 8 = .ok (.iload_n 2, 1) := by decide +kernel
theorem d9 : decode yB 9 = .ok (.invokestatic 115, 3) := by decide +kernel
theorem d12 : decode yB 12 = .ok (.istore 4, 2) := by decide +kernel
theorem d14 : decode yB 14 = .ok (.iload 4, 2) := by decide +kernel
theorem d16 : decode yB 16 = .ok (.iload_n 2, 1) := by decide +kernel
theorem d17 : decode yB 17 = .ok (.if_icmp (.eq) 40, 3) := by decide +kernel
theorem d57 : decode yB 57 = .ok (.aload_n 3, 1) := by decide +kernel
theorem d58 : decode yB 58 = .ok (.areturn, 1) := by decide +kernel
def site : List Cond := [.arrayClass .byte, Cmp5.tab] ++ staticW U16 115 Cmp5.yN
def tab : Cond := tabOf yN yB 6 (some (.array .byte)) site
def P (b : Addr) (A : Cell) (o len : Nat) (args : Array Value) (s : State) : Prop := args = #[.ref b, .int (Int32.ofNat o), .int (Int32.ofNat len)] ∧ Ch b A s ∧ o + len ≤ A.slots.size ∧ len ≤ 536870912 ∧ ∀ i, i < len → ¬ 255 < cv A (o + i)
def E (b : Addr) (A : Cell) (o len : Nat) (r : Option Value) (s u : State) : Prop := NewArr .byte "[B" len (fun j => .int (lo8 (cv A (o + j)))) r s u ∧ u.heap.size = s.heap.size + 1
/-- no char of the range above 255: a new byte[] of their low bytes -/
theorem law (l : Launch) (b : Addr) (A : Cell) (o len : Nat) : Law l yN 3 3 1 18 yB 6 (some (.array .byte)) site (P b A o len) (E b A o len) [] 1 len := by
  refine Law.of_walk (plainFor_of_name (by decide +kernel)) (by decide +kernel) (by decide +kernel) (by decide) (fun _ _ h => by rw [h.1]; rfl) (fun _ U U' hal hh h => ⟨h.1, h.2.1.mv hal hh, h.2.2⟩) (fun r U U' V V' h1 hal h2 h => ⟨NewArr.mv r U U' V V' h1 hal h2 h.1, by rw [h1, h2]; exact h.2⟩) ?_
  intro p e s m args below meth c s₁ X0 hexec hbytes hml hret hlk hnm hown hh0 W hP
  obtain ⟨rfl, hA, l1, l2, hp⟩ := hP
  have a31 := hA.1.2.2.2
  have c1 : Steps p.tables e below (s₁.setTop (entryFrame m #[.ref b, .int (Int32.ofNat o), .int (Int32.ofNat len)] 6)) (s₁.setTop (mkF m 0 #[.val (.ref b), .val (.int (Int32.ofNat o)), .val (.int (Int32.ofNat len)), .unset, .unset, .unset] [])) := entry rfl
  have c2 : Steps p.tables e below (s₁.setTop (entryFrame m #[.ref b, .int (Int32.ofNat o), .int (Int32.ofNat len)] 6)) (s₁.setTop (mkF m 1 #[.val (.ref b), .val (.int (Int32.ofNat o)), .val (.int (Int32.ofNat len)), .unset, .unset, .unset] [.int (Int32.ofNat len)])) := c1.trans (by
    refine XS.iloadN X0.here hexec rfl (hb hbytes d0) rfl ?_
    exact Steps.refl _)
  obtain ⟨T3, B3, X3, ba3, bs3, bv3, bh3, bf3, st3⟩ := X0.anew hexec (atype := .byte) (wk W (.arrayClass .byte)) rfl (by show len * 1 ≤ _; omega) (by omega) (g := (mkF m 1 #[.val (.ref b), .val (.int (Int32.ofNat o)), .val (.int (Int32.ofNat len)), .unset, .unset, .unset] [.int (Int32.ofNat len)])) rfl (hb hbytes d1) (rest := []) rfl (Nat.le_refl _) (by show 0 + len ≤ len; omega)
  rw [hh0] at ba3 st3
  have kp3 : XT.Kept s T3 := (XT.Kept.of_eq hh0).push bh3
  have hA3 := hA.keep X3.warmed.alike (kp3 _ _ hA.1.1)
  have hne : b ≠ s.heap.size := hA.1.ne
  have c4 : Steps p.tables e below (s₁.setTop (entryFrame m #[.ref b, .int (Int32.ofNat o), .int (Int32.ofNat len)] 6)) (T3.setTop (mkF m 3 #[.val (.ref b), .val (.int (Int32.ofNat o)), .val (.int (Int32.ofNat len)), .unset, .unset, .unset] [.ref s.heap.size])) := c2.trans (st3 _ (Steps.refl _))
  have c5 : Steps p.tables e below (s₁.setTop (entryFrame m #[.ref b, .int (Int32.ofNat o), .int (Int32.ofNat len)] 6)) (T3.setTop (mkF m 9 #[.val (.ref b), .val (.int (Int32.ofNat o)), .val (.int (Int32.ofNat len)), .val (.ref s.heap.size), .unset, .unset] [.int (Int32.ofNat len), .int 0, .ref s.heap.size, .int (Int32.ofNat o), .ref b])) := c4.trans (by
    refine XS.astoreN X3.here hexec rfl (hb hbytes d3) rfl rfl rfl ?_
    refine XS.aloadN X3.here hexec rfl (hb hbytes d4) rfl rfl ?_
    refine XS.iloadN X3.here hexec rfl (hb hbytes d5) rfl ?_
    refine XS.aloadN X3.here hexec rfl (hb hbytes d6) rfl rfl ?_
    refine iconstV X3.here hexec rfl 0 (hb hbytes d7) (by decide) ?_
    refine XS.iloadN X3.here hexec rfl (hb hbytes d8) rfl ?_
    exact Steps.refl _)
  obtain ⟨v6, T6, X6, E6, g6⟩ := X3.callS hexec (Cmp5.law l b A s.heap.size B3 o 0 len) hown (wks W (staticW U16 115 Cmp5.yN)) (wk W Cmp5.tab) (W := 0) (Nat.le_of_ble_eq_true rfl) (Nat.le_of_ble_eq_true rfl) (Nat.le_refl _) (by show 0 + len + 0 ≤ len; omega) (g := (mkF m 9 #[.val (.ref b), .val (.int (Int32.ofNat o)), .val (.int (Int32.ofNat len)), .val (.ref s.heap.size), .unset, .unset] [.int (Int32.ofNat len), .int (Int32.ofNat 0), .ref s.heap.size, .int (Int32.ofNat o), .ref b])) rfl (by rw [hml]; rfl) c5 (argsL := [.ref b, .int (Int32.ofNat o), .ref s.heap.size, .int (Int32.ofNat 0), .int (Int32.ofNat len)]) (rest := []) rfl rfl (by show 2 * 0 + 0 ≤ _; decide) (hb hbytes d9) (⟨rfl, hA3, ba3, hne, l1, by rw [bs3]; simp, hp⟩)
  obtain ⟨rfl, B6, p6, f6⟩ := E6
  have c7 : Steps p.tables e below (s₁.setTop (entryFrame m #[.ref b, .int (Int32.ofNat o), .int (Int32.ofNat len)] 6)) (T6.setTop (mkF m 12 #[.val (.ref b), .val (.int (Int32.ofNat o)), .val (.int (Int32.ofNat len)), .val (.ref s.heap.size), .unset, .unset] [.int (Int32.ofNat len)])) := g6
  have c8 : Steps p.tables e below (s₁.setTop (entryFrame m #[.ref b, .int (Int32.ofNat o), .int (Int32.ofNat len)] 6)) (T6.setTop (mkF m 58 #[.val (.ref b), .val (.int (Int32.ofNat o)), .val (.int (Int32.ofNat len)), .val (.ref s.heap.size), .val (.int (Int32.ofNat len)), .unset] [.ref s.heap.size])) := c7.trans (by
    refine XS.istore X6.here hexec rfl (hb hbytes d12) rfl rfl ?_
    refine XS.iload X6.here hexec rfl (hb hbytes d14) rfl ?_
    refine XS.iloadN X6.here hexec rfl (hb hbytes d16) rfl ?_
    refine XS.icmpYes X6.here hexec rfl (pc0 := 17) rfl (hb hbytes d17) rfl (ii_eq_t rfl) (by decide) rfl ?_
    refine XS.aloadN X6.here hexec rfl (hb hbytes d57) rfl rfl ?_
    exact Steps.refl _)
  have X8 := X6.wide (L' := []) (cells' := 1) (slots' := len) (fun x hx hlt => by
    simp only [List.nil_append, copyLocs, List.mem_map, List.mem_range] at hx
    obtain ⟨i, -, rfl⟩ := hx
    exact absurd hlt (Nat.lt_irrefl _)) (Nat.le_refl _) (by omega)
  exact ⟨T6, some (.ref s.heap.size), _, _, _, X8, rfl, rfl, rfl, (fun h => by cases h), ⟨⟨rfl, B6, ba3.like (X3.warmed.alike.symm.trans X6.warmed.alike) p6.1 f6.1 f6.2.1 f6.2.2.1, f6.2.1.trans bv3, by rw [X6.warmed.alike.findClass, f6.1]; exact bf3, by rw [f6.2.2.1, bs3]; simp, fun j hj => by rw [f6.2.2.2 j, if_pos (by omega)]; rfl, kp3.put p6 (Nat.le_refl _)⟩, by rw [p6.2.2, bh3, hh0]; simp⟩, fun fs hl => c8.trans (X8.areturnOut hexec rfl hret rfl (hb hbytes d58) hl)⟩
end Cmp3
namespace CodL
def yN : MethodName := ⟨"java/lang/StringUTF16", "coderFromArrayLen", "([BI)B"⟩
abbrev yB : ByteArray := jdk_52_method_15_code
theorem d0 : decode yB 0 = .ok (.iload_n 1, 1) := by decide +kernel
theorem d1 : decode yB 1 = .ok (.aload_n 0, 1) := by decide +kernel
theorem d2 : decode yB 2 = .ok (.arraylength, 1) := by decide +kernel
theorem d3 : decode yB 3 = .ok (.isub, 1) := by decide +kernel
theorem d4 : decode yB 4 = .ok (.bipush 31, 2) := by decide +kernel
theorem d6 : decode yB 6 = .ok (.iushr, 1) := by decide +kernel
theorem d7 : decode yB 7 = .ok (.i2b, 1) := by decide +kernel
theorem d8 : decode yB 8 = .ok (.ireturn, 1) := by decide +kernel
def site : List Cond := []
def tab : Cond := tabOf yN yB 2 (some .byte) site
def P (d : Addr) (B : Cell) (args : Array Value) (s : State) : Prop := args = #[.ref d, .int (Int32.ofNat B.slots.size)] ∧ Arr .byte d B s
def E (r : Option Value) (s u : State) : Prop := XT.PureE (some (.int 0)) r s u
/-- an array as long as the number of chars: LATIN1 -/
theorem law (l : Launch) (d : Addr) (B : Cell) : Law l yN 2 2 0 0 yB 2 (some .byte) site (P d B) E [] 0 0 := by
  refine Law.of_walk (plainFor_of_name (by decide +kernel)) (by decide +kernel) (by decide +kernel) (by decide) (fun _ _ h => by rw [h.1]; rfl) (fun _ U U' hal hh h => ⟨h.1, h.2.mv hal hh⟩) (fun r U U' V V' h1 hal h2 h => XT.PureE.mv r U U' V V' h1 hal h2 h) ?_
  intro p e s m args below meth c s₁ X0 hexec hbytes hml hret hlk hnm hown hh0 W hP
  obtain ⟨rfl, hB⟩ := hP
  have hB0 := hB.mv X0.warmed.alike hh0
  have c1 : Steps p.tables e below (s₁.setTop (entryFrame m #[.ref d, .int (Int32.ofNat B.slots.size)] 2)) (s₁.setTop (mkF m 0 #[.val (.ref d), .val (.int (Int32.ofNat B.slots.size))] [])) := entry rfl
  have c2 : Steps p.tables e below (s₁.setTop (entryFrame m #[.ref d, .int (Int32.ofNat B.slots.size)] 2)) (s₁.setTop (mkF m 2 #[.val (.ref d), .val (.int (Int32.ofNat B.slots.size))] [.ref d, .int (Int32.ofNat B.slots.size)])) := c1.trans (by
    refine XS.iloadN X0.here hexec rfl (hb hbytes d0) rfl ?_
    refine XS.aloadN X0.here hexec rfl (hb hbytes d1) rfl rfl ?_
    exact Steps.refl _)
  have c3 : Steps p.tables e below (s₁.setTop (entryFrame m #[.ref d, .int (Int32.ofNat B.slots.size)] 2)) (s₁.setTop (mkF m 8 #[.val (.ref d), .val (.int (Int32.ofNat B.slots.size))] [.int (lo8 (ushr (Int32.ofNat B.slots.size - Int32.ofNat B.slots.size) 31))])) := c2.trans (by
    refine X0.alen hexec hB0 rfl rfl (hb hbytes d2) ?_
    refine XS.isub X0.here hexec rfl (hb hbytes d3) rfl ?_
    refine bipushV X0.here hexec rfl 31 (hb hbytes d4) (by decide) ?_
    refine iushr X0.here hexec rfl (hb hbytes d6) rfl ?_
    refine i2b X0.here hexec rfl (hb hbytes d7) rfl ?_
    exact Steps.refl _)
  have e0 : lo8 (ushr (Int32.ofNat B.slots.size - Int32.ofNat B.slots.size) 31) = 0 := by rw [Int32.sub_self]; decide
  rw [e0] at c3
  exact ⟨s₁, some (.int 0), _, _, _, X0, rfl, rfl, rfl, (fun h => by cases h), ⟨rfl, hh0⟩, fun fs hl => c3.trans (X0.ireturnOut hexec hret rfl (Or.inr (Or.inr (Or.inl rfl))) (hb hbytes d8) hl)⟩
end CodL
/-- the String at a is Latin-1 over a new byte[] (the heap's one new cell): the low bytes of the len chars of A from o on; every cell but a is kept -/
def Got (a : Addr) (D : Cell) (fV fC : Field) (A : Cell) (o len : Nat) (r : Option Value) (s u : State) : Prop := r = none ∧ ∃ D' V : Cell, Blank "java/lang/String" a D' u ∧ Same D D' [fV.slot, fC.slot] ∧ D'.slots[fV.slot]? = some (.ref s.heap.size) ∧ D'.slots[fC.slot]? = some (.int 0) ∧ Arr .byte s.heap.size V u ∧ V.vm = .none ∧ u.vm.findClass "[B" = some V.cls ∧ V.slots.size = len ∧ (∀ j, j < len → V.slots[j]? = some (.int (lo8 (cv A (o + j))))) ∧ (∀ (y : Addr) (c : Cell), y ≠ a → s.heap[y]? = some c → u.heap[y]? = some c) ∧ u.heap.size = s.heap.size + 1
theorem Got.mv {a : Addr} {D A : Cell} {fV fC : Field} {o len : Nat} : ∀ r (U U' V V' : State), U'.heap = U.heap → V.vm.Alike V'.vm → V'.heap = V.heap → Got a D fV fC A o len r U V → Got a D fV fC A o len r U' V' :=
  fun r U U' V V' h1 hal h2 ⟨e0, D', X, a1, a2, a3, a4, a5, a6, a7, a8, a9, a10, a11⟩ => ⟨e0, D', X, a1.mv hal h2, a2, by rw [h1]; exact a3, a4, by rw [h1]; exact a5.mv hal h2, a6, by rw [hal.findClass]; exact a7, a8, a9, by rw [h1, h2]; exact a10, by rw [h1, h2]; exact a11⟩
namespace New4
def yN : MethodName := ⟨"java/lang/String", "<init>", "([CIILjava/lang/Void;)V"⟩
abbrev yB : ByteArray := jdk_42_method_149_code
theorem d0 : decode yB 0 = .ok (.aload_n 0, 1) := by decide +kernel
theorem d1 : decode yB 1 = .ok (.invokespecial 1, 3) := by decide +kernel
theorem d4 : decode yB 4 = .ok (.iload_n 3, 1) := by decide +kernel
theorem d5 : decode yB 5 = .ok (.ifCond (.ne) 22, 3) := by decide +kernel
theorem d27 : decode yB 27 = .ok (.getstatic 38, 3) := by decide +kernel
theorem d30 : decode yB 30 = .ok (.ifCond (.eq) 28, 3) := by decide +kernel
theorem d33 : decode yB 33 = .ok (.aload_n 1, 1) := by decide +kernel
theorem d34 : decode yB 34 = .ok (.iload_n 2, 1) := by decide +kernel
theorem d35 : decode yB 35 = .ok (.iload_n 3, 1) := by decide +kernel
theorem d36 : decode yB 36 = .ok (.invokestatic 177, 3) := by decide +kernel
theorem d39 : decode yB 39 = .ok (.astore 5, 2) := by decide +kernel
theorem d41 : decode yB 41 = .ok (.aload_n 0, 1) := by decide +kernel
theorem d42 : decode yB 42 = .ok (.aload 5, 2) := by decide +kernel
theorem d44 : decode yB 44 = .ok (.iload_n 3, 1) := by decide +kernel
theorem d45 : decode yB 45 = .ok (.invokestatic 47, 3) := by decide +kernel
theorem d48 : decode yB 48 = .ok (.putfield 15, 3) := by decide +kernel
theorem d51 : decode yB 51 = .ok (.aload_n 0, 1) := by decide +kernel
theorem d52 : decode yB 52 = .ok (.aload 5, 2) := by decide +kernel
theorem d54 : decode yB 54 = .ok (.putfield 9, 3) := by decide +kernel
theorem d57 : decode yB 57 = .ok (.return_, 1) := by decide +kernel
def site : List Cond := [.fieldLink "java/lang/String" 38 "java/lang/String" "COMPACT_STRINGS" "Z", Cmp3.tab, CodL.tab, .laysFinal "java/lang/String" "java/lang/String" "value" "[B", .fieldLink "java/lang/String" 9 "java/lang/String" "value" "[B", .laysFinal "java/lang/String" "java/lang/String" "coder" "B", .fieldLink "java/lang/String" 15 "java/lang/String" "coder" "B"] ++ objW "java/lang/String" 1 ++ staticW "java/lang/String" 177 Cmp3.yN ++ staticW "java/lang/String" 47 CodL.yN
def tab : Cond := tabOf yN yB 6 none site
def P (a : Addr) (D : Cell) (fV fC : Field) (b : Addr) (A : Cell) (z : Int32) (o len : Nat) (args : Array Value) (s : State) : Prop := args = #[.ref a, .ref b, .int (Int32.ofNat o), .int (Int32.ofNat len), .null] ∧ Blank "java/lang/String" a D s ∧ Found "java/lang/String" "value" "[B" fV s ∧ Found "java/lang/String" "coder" "B" fC s ∧ Ch b A s ∧ StaticIs s "java/lang/String" "COMPACT_STRINGS" "Z" (.int z) ∧ ¬ z = 0 ∧ 0 < len ∧ o + len ≤ A.slots.size ∧ len ≤ 536870912 ∧ ∀ i, i < len → ¬ 255 < cv A (o + i)
def E (a : Addr) (D : Cell) (fV fC : Field) (A : Cell) (o len : Nat) (r : Option Value) (s u : State) : Prop := Got a D fV fC A o len r s u
/-- len > 0, no char of the range above 255: a Latin-1 String of their low bytes -/
theorem law (l : Launch) (a : Addr) (D : Cell) (fV fC : Field) (b : Addr) (A : Cell) (z : Int32) (o len : Nat) : Law l yN 5 4 2 35 yB 6 none site (P a D fV fC b A z o len) (E a D fV fC A o len) [⟨a, fC.slot⟩, ⟨a, fV.slot⟩] 1 len := by
  refine Law.of_walk (plainFor_of_name (by decide +kernel)) (by decide +kernel) (by decide +kernel) (by decide) (fun _ _ h => by rw [h.1]; rfl) (fun _ U U' hal hh h => ⟨h.1, h.2.1.mv hal hh, h.2.2.1.al hal, h.2.2.2.1.al hal, h.2.2.2.2.1.mv hal hh, h.2.2.2.2.2.1.there hal hh, h.2.2.2.2.2.2⟩) (fun r U U' V V' h1 hal h2 h => Got.mv r U U' V V' h1 hal h2 h) ?_
  intro p e s m args below meth c s₁ X0 hexec hbytes hml hret hlk hnm hown hh0 W hP
  obtain ⟨rfl, hB, f1, f2, hA, s1, hz, l0, l1, l2, hp⟩ := hP
  have a31 := hA.1.2.2.2
  have c1 : Steps p.tables e below (s₁.setTop (entryFrame m #[.ref a, .ref b, .int (Int32.ofNat o), .int (Int32.ofNat len), .null] 6)) (s₁.setTop (mkF m 0 #[.val (.ref a), .val (.ref b), .val (.int (Int32.ofNat o)), .val (.int (Int32.ofNat len)), .val .null, .unset] [])) := entry rfl
  have c2 : Steps p.tables e below (s₁.setTop (entryFrame m #[.ref a, .ref b, .int (Int32.ofNat o), .int (Int32.ofNat len), .null] 6)) (s₁.setTop (mkF m 1 #[.val (.ref a), .val (.ref b), .val (.int (Int32.ofNat o)), .val (.int (Int32.ofNat len)), .val .null, .unset] [.ref a])) := c1.trans (by
    refine XS.aloadN X0.here hexec rfl (hb hbytes d0) rfl rfl ?_
    exact Steps.refl _)
  obtain ⟨T3, X3, q3, st3⟩ := X0.oinit hexec hown (wks W (objW "java/lang/String" 1)) (g := (mkF m 1 #[.val (.ref a), .val (.ref b), .val (.int (Int32.ofNat o)), .val (.int (Int32.ofNat len)), .val .null, .unset] [.ref a])) rfl (by rw [hml]; rfl) (rest := []) rfl (hb hbytes d1) (W := 0) (by show 2 * 0 + 0 ≤ _; decide) (Nat.le_of_ble_eq_true rfl) (Nat.le_of_ble_eq_true rfl)
  have hh3 := q3.trans hh0
  have c4 : Steps p.tables e below (s₁.setTop (entryFrame m #[.ref a, .ref b, .int (Int32.ofNat o), .int (Int32.ofNat len), .null] 6)) (T3.setTop (mkF m 27 #[.val (.ref a), .val (.ref b), .val (.int (Int32.ofNat o)), .val (.int (Int32.ofNat len)), .val .null, .unset] [])) := (c2.trans (st3 _ (Steps.refl _))).trans (by
    refine XS.iloadN X3.here hexec rfl (hb hbytes d4) rfl ?_
    refine XS.ifYes X3.here hexec rfl (pc0 := 5) rfl (hb hbytes d5) rfl (i0_ne_t (nz32 (by omega) l0)) (by decide) rfl ?_
    exact Steps.refl _)
  obtain ⟨T5, X5, q5, st5⟩ := X3.sget hexec hown (wk W (.fieldLink "java/lang/String" 38 "java/lang/String" "COMPACT_STRINGS" "Z")) s1 (fun _ _ h => by rw [hh3]; exact h) (g := (mkF m 27 #[.val (.ref a), .val (.ref b), .val (.int (Int32.ofNat o)), .val (.int (Int32.ofNat len)), .val .null, .unset] [])) rfl (hb hbytes d27)
  have hh5 := q5.trans hh3
  have c6 : Steps p.tables e below (s₁.setTop (entryFrame m #[.ref a, .ref b, .int (Int32.ofNat o), .int (Int32.ofNat len), .null] 6)) (T5.setTop (mkF m 30 #[.val (.ref a), .val (.ref b), .val (.int (Int32.ofNat o)), .val (.int (Int32.ofNat len)), .val .null, .unset] [.int z])) := c4.trans (st5 _ (Steps.refl _))
  have c7 : Steps p.tables e below (s₁.setTop (entryFrame m #[.ref a, .ref b, .int (Int32.ofNat o), .int (Int32.ofNat len), .null] 6)) (T5.setTop (mkF m 36 #[.val (.ref a), .val (.ref b), .val (.int (Int32.ofNat o)), .val (.int (Int32.ofNat len)), .val .null, .unset] [.int (Int32.ofNat len), .int (Int32.ofNat o), .ref b])) := c6.trans (by
    refine XS.ifNo X5.here hexec rfl (hb hbytes d30) rfl (i0_eq_f hz) ?_
    refine XS.aloadN X5.here hexec rfl (hb hbytes d33) rfl rfl ?_
    refine XS.iloadN X5.here hexec rfl (hb hbytes d34) rfl ?_
    refine XS.iloadN X5.here hexec rfl (hb hbytes d35) rfl ?_
    exact Steps.refl _)
  obtain ⟨v8, T8, X8, E8, g8⟩ := X5.callS hexec (Cmp3.law l b A o len) hown (wks W (staticW "java/lang/String" 177 Cmp3.yN)) (wk W Cmp3.tab) (W := 0) (Nat.le_of_ble_eq_true rfl) (Nat.le_of_ble_eq_true rfl) (Nat.le_refl _) (by show 0 + len ≤ len; omega) (g := (mkF m 36 #[.val (.ref a), .val (.ref b), .val (.int (Int32.ofNat o)), .val (.int (Int32.ofNat len)), .val .null, .unset] [.int (Int32.ofNat len), .int (Int32.ofNat o), .ref b])) rfl (by rw [hml]; rfl) c7 (argsL := [.ref b, .int (Int32.ofNat o), .int (Int32.ofNat len)]) (rest := []) rfl rfl (by show 2 * 0 + 0 ≤ _; decide) (hb hbytes d36) (⟨rfl, hA.mv X5.warmed.alike hh5, l1, l2, hp⟩)
  obtain ⟨e8, z8⟩ := E8
  obtain ⟨rfl, N, n1, n2, n3, n4, n5, n6⟩ := NewArr.mv _ T5 s _ _ hh5.symm (Vm.Alike.refl _) rfl e8
  rw [hh5] at z8
  have hB1 := hB.keep X8.warmed.alike (n6 _ _ hB.1)
  have hne : s.heap.size ≠ a := (Nat.ne_of_lt (Array.getElem?_eq_some_iff.mp hB.1).1).symm
  have c9 : Steps p.tables e below (s₁.setTop (entryFrame m #[.ref a, .ref b, .int (Int32.ofNat o), .int (Int32.ofNat len), .null] 6)) (T8.setTop (mkF m 39 #[.val (.ref a), .val (.ref b), .val (.int (Int32.ofNat o)), .val (.int (Int32.ofNat len)), .val .null, .unset] [.ref s.heap.size])) := g8
  have c10 : Steps p.tables e below (s₁.setTop (entryFrame m #[.ref a, .ref b, .int (Int32.ofNat o), .int (Int32.ofNat len), .null] 6)) (T8.setTop (mkF m 45 #[.val (.ref a), .val (.ref b), .val (.int (Int32.ofNat o)), .val (.int (Int32.ofNat len)), .val .null, .val (.ref s.heap.size)] [.int (Int32.ofNat N.slots.size), .ref s.heap.size, .ref a])) := by
    have hc : Steps p.tables e below (s₁.setTop (entryFrame m #[.ref a, .ref b, .int (Int32.ofNat o), .int (Int32.ofNat len), .null] 6)) (T8.setTop (mkF m 45 #[.val (.ref a), .val (.ref b), .val (.int (Int32.ofNat o)), .val (.int (Int32.ofNat len)), .val .null, .val (.ref s.heap.size)] [.int (Int32.ofNat len), .ref s.heap.size, .ref a])) := c9.trans (by
      refine XS.astore X8.here hexec rfl (hb hbytes d39) rfl rfl rfl ?_
      refine XS.aloadN X8.here hexec rfl (hb hbytes d41) rfl rfl ?_
      refine XS.aload X8.here hexec rfl (hb hbytes d42) rfl rfl ?_
      refine XS.iloadN X8.here hexec rfl (hb hbytes d44) rfl ?_
      exact Steps.refl _)
    rw [n4]; exact hc
  obtain ⟨v11, T11, X11, E11, g11⟩ := X8.callS hexec (CodL.law l s.heap.size N) hown (wks W (staticW "java/lang/String" 47 CodL.yN)) (wk W CodL.tab) (W := 1) (Nat.le_of_ble_eq_true rfl) (Nat.le_of_ble_eq_true rfl) (Nat.le_refl _) (by show 0 + len + 0 ≤ len; omega) (g := (mkF m 45 #[.val (.ref a), .val (.ref b), .val (.int (Int32.ofNat o)), .val (.int (Int32.ofNat len)), .val .null, .val (.ref s.heap.size)] [.int (Int32.ofNat N.slots.size), .ref s.heap.size, .ref a])) rfl (by rw [hml]; rfl) c10 (argsL := [.ref s.heap.size, .int (Int32.ofNat N.slots.size)]) (rest := [.ref a]) rfl rfl (by show 2 * 0 + (1 + 0) ≤ _; decide) (hb hbytes d45) (⟨rfl, n1⟩)
  obtain ⟨rfl, q11⟩ := E11
  have hB11 := hB1.mv (X8.warmed.alike.symm.trans X11.warmed.alike) q11
  have c12 : Steps p.tables e below (s₁.setTop (entryFrame m #[.ref a, .ref b, .int (Int32.ofNat o), .int (Int32.ofNat len), .null] 6)) (T11.setTop (mkF m 48 #[.val (.ref a), .val (.ref b), .val (.int (Int32.ofNat o)), .val (.int (Int32.ofNat len)), .val .null, .val (.ref s.heap.size)] [.int 0, .ref a])) := g11
  obtain ⟨T13, X13, p13, bl13, sl13, st13⟩ := X11.finit hexec hown (wk W (.fieldLink "java/lang/String" 15 "java/lang/String" "coder" "B")) (Or.inr ⟨_, (wk W (.laysFinal "java/lang/String" "java/lang/String" "coder" "B"))⟩) (Or.inl ⟨rfl, hnm⟩) f2 (Or.inl rfl) hB11 (t := .byte) (by decide +kernel) rfl (g := (mkF m 48 #[.val (.ref a), .val (.ref b), .val (.int (Int32.ofNat o)), .val (.int (Int32.ofNat len)), .val .null, .val (.ref s.heap.size)] [.int 0, .ref a])) rfl (rest := []) rfl (hb hbytes d48)
  have c14 : Steps p.tables e below (s₁.setTop (entryFrame m #[.ref a, .ref b, .int (Int32.ofNat o), .int (Int32.ofNat len), .null] 6)) (T13.setTop (mkF m 54 #[.val (.ref a), .val (.ref b), .val (.int (Int32.ofNat o)), .val (.int (Int32.ofNat len)), .val .null, .val (.ref s.heap.size)] [.ref s.heap.size, .ref a])) := (c12.trans (st13 _ (Steps.refl _))).trans (by
    refine XS.aloadN X13.here hexec rfl (hb hbytes d51) rfl rfl ?_
    refine XS.aload X13.here hexec rfl (hb hbytes d52) rfl rfl ?_
    exact Steps.refl _)
  obtain ⟨T15, X15, p15, bl15, sl15, st15⟩ := X13.finit hexec hown (wk W (.fieldLink "java/lang/String" 9 "java/lang/String" "value" "[B")) (Or.inr ⟨_, (wk W (.laysFinal "java/lang/String" "java/lang/String" "value" "[B"))⟩) (Or.inl ⟨rfl, hnm⟩) f1 (Or.inl rfl) bl13 (t := (.array .byte)) (by decide +kernel) rfl (g := (mkF m 54 #[.val (.ref a), .val (.ref b), .val (.int (Int32.ofNat o)), .val (.int (Int32.ofNat len)), .val .null, .val (.ref s.heap.size)] [.ref s.heap.size, .ref a])) rfl (rest := []) rfl (hb hbytes d54)
  have c16 : Steps p.tables e below (s₁.setTop (entryFrame m #[.ref a, .ref b, .int (Int32.ofNat o), .int (Int32.ofNat len), .null] 6)) (T15.setTop (mkF m 57 #[.val (.ref a), .val (.ref b), .val (.int (Int32.ofNat o)), .val (.int (Int32.ofNat len)), .val .null, .val (.ref s.heap.size)] [])) := c14.trans (st15 _ (Steps.refl _))
  have ap := apart (Or.inr ⟨_, (wk W (.laysFinal "java/lang/String" "java/lang/String" "value" "[B"))⟩) (Or.inr ⟨_, (wk W (.laysFinal "java/lang/String" "java/lang/String" "coder" "B"))⟩) f1 f2 (t₁ := .array .byte) (t₂ := .byte) (by decide +kernel) (by decide +kernel) (by decide)
  have al := X8.warmed.alike.symm.trans X15.warmed.alike
  have n7 : T11.heap[s.heap.size]? = some N := by rw [q11]; exact n1.1
  exact ⟨T15, none, _, _, _, X15, by simp, rfl, by omega, (fun _ => rfl), ⟨rfl, _, N, bl15, ((Same.refl D _).set _ (by simp)).set _ (by simp), sl15, (Cell.slots_setSlot_ne _ ap).trans sl13, n1.keep al (p15.other hne (p13.other hne n7)), n2, by rw [al.findClass]; exact n3, n4, n5, fun y c h1 h2 => p15.other h1 (p13.other h1 (by rw [q11]; exact n6 y c h2)), by rw [p15.2.2, p13.2.2, q11]; exact z8⟩, fun fs hl => c16.trans (X15.returnOut hexec hret (hb hbytes d57) hl)⟩
end New4
namespace New1
def yN : MethodName := ⟨"java/lang/String", "<init>", "([C)V"⟩
abbrev yB : ByteArray := jdk_42_method_3_code
theorem d0 : decode yB 0 = .ok (.aload_n 0, 1) := by decide +kernel
theorem d1 : decode yB 1 = .ok (.aload_n 1, 1) := by decide +kernel
theorem d2 : decode yB 2 = .ok (.iconst 0, 1) := by decide +kernel
theorem d3 : decode yB 3 = .ok (.aload_n 1, 1) := by decide +kernel
theorem d4 : decode yB 4 = .ok (.arraylength, 1) := by decide +kernel
theorem d5 : decode yB 5 = .ok (.aconst_null, 1) := by decide +kernel
theorem d6 : decode yB 6 = .ok (.invokespecial 27, 3) := by decide +kernel
theorem d9 : decode yB 9 = .ok (.return_, 1) := by decide +kernel
def site : List Cond := [New4.tab] ++ initW "java/lang/String" 27 New4.yN
def tab : Cond := tabOf yN yB 2 none site
def P (a : Addr) (D : Cell) (fV fC : Field) (b : Addr) (A : Cell) (z : Int32) (args : Array Value) (s : State) : Prop := args = #[.ref a, .ref b] ∧ Blank "java/lang/String" a D s ∧ Found "java/lang/String" "value" "[B" fV s ∧ Found "java/lang/String" "coder" "B" fC s ∧ Ch b A s ∧ StaticIs s "java/lang/String" "COMPACT_STRINGS" "Z" (.int z) ∧ ¬ z = 0 ∧ 0 < A.slots.size ∧ A.slots.size ≤ 536870912 ∧ ∀ i, i < A.slots.size → ¬ 255 < cv A i
def E (a : Addr) (D : Cell) (fV fC : Field) (A : Cell) (r : Option Value) (s u : State) : Prop := Got a D fV fC A 0 A.slots.size r s u
/-- new String(chars), not empty, no char above 255: a Latin-1 String of their low bytes -/
theorem law (l : Launch) (a : Addr) (D : Cell) (fV fC : Field) (b : Addr) (A : Cell) (z : Int32) : Law l yN 2 1 3 52 yB 2 none site (P a D fV fC b A z) (E a D fV fC A) [⟨a, fC.slot⟩, ⟨a, fV.slot⟩] 1 A.slots.size := by
  refine Law.of_walk (plainFor_of_name (by decide +kernel)) (by decide +kernel) (by decide +kernel) (by decide) (fun _ _ h => by rw [h.1]; rfl) (fun _ U U' hal hh h => ⟨h.1, h.2.1.mv hal hh, h.2.2.1.al hal, h.2.2.2.1.al hal, h.2.2.2.2.1.mv hal hh, h.2.2.2.2.2.1.there hal hh, h.2.2.2.2.2.2⟩) (fun r U U' V V' h1 hal h2 h => Got.mv r U U' V V' h1 hal h2 h) ?_
  intro p e s m args below meth c s₁ X0 hexec hbytes hml hret hlk hnm hown hh0 W hP
  obtain ⟨rfl, hB, f1, f2, hA, s1, hz, l0, l2, hp⟩ := hP
  have c1 : Steps p.tables e below (s₁.setTop (entryFrame m #[.ref a, .ref b] 2)) (s₁.setTop (mkF m 0 #[.val (.ref a), .val (.ref b)] [])) := entry rfl
  have c2 : Steps p.tables e below (s₁.setTop (entryFrame m #[.ref a, .ref b] 2)) (s₁.setTop (mkF m 6 #[.val (.ref a), .val (.ref b)] [.null, .int (Int32.ofNat A.slots.size), .int 0, .ref b, .ref a])) := c1.trans (by
    refine XS.aloadN X0.here hexec rfl (hb hbytes d0) rfl rfl ?_
    refine XS.aloadN X0.here hexec rfl (hb hbytes d1) rfl rfl ?_
    refine iconstV X0.here hexec rfl 0 (hb hbytes d2) (by decide) ?_
    refine XS.aloadN X0.here hexec rfl (hb hbytes d3) rfl rfl ?_
    refine X0.alen hexec (hA.1.mv X0.warmed.alike hh0) rfl rfl (hb hbytes d4) ?_
    refine XS.aconstNull X0.here hexec rfl (hb hbytes d5) ?_
    exact Steps.refl _)
  obtain ⟨v3, T3, X3, E3, g3⟩ := X0.callN hexec (New4.law l a D fV fC b A z 0 A.slots.size) rfl hown (wks W (initW "java/lang/String" 27 New4.yN)) (W New4.tab (by simp only [site, List.mem_cons, List.mem_append, true_or, or_true])) (W := 0) (Nat.le_of_ble_eq_true rfl) (Nat.le_of_ble_eq_true rfl) (Nat.le_refl _) (by show 0 + A.slots.size ≤ A.slots.size; omega) (g := (mkF m 6 #[.val (.ref a), .val (.ref b)] [.null, .int (Int32.ofNat A.slots.size), .int (Int32.ofNat 0), .ref b, .ref a])) rfl (by rw [hml]; rfl) c2 (argsL := [.ref b, .int (Int32.ofNat 0), .int (Int32.ofNat A.slots.size), .null]) (rest := []) rfl rfl (by show 2 * 0 + 0 ≤ _; decide) (hb hbytes d6) (⟨rfl, hB.mv X0.warmed.alike hh0, f1.al X0.warmed.alike, f2.al X0.warmed.alike, hA.mv X0.warmed.alike hh0, s1.there X0.warmed.alike hh0, hz, l0, by omega, l2, fun i hi => by rw [Nat.zero_add]; exact hp i hi⟩)
  have e0 := Got.mv _ s₁ s _ _ hh0.symm (Vm.Alike.refl _) rfl E3
  obtain rfl := e0.1
  have c4 : Steps p.tables e below (s₁.setTop (entryFrame m #[.ref a, .ref b] 2)) (T3.setTop (mkF m 9 #[.val (.ref a), .val (.ref b)] [])) := g3
  exact ⟨T3, none, _, _, _, X3, by simp, rfl, by omega, (fun _ => rfl), e0, fun fs hl => c4.trans (X3.returnOut hexec hret (hb hbytes d9) hl)⟩
theorem pays {l : Launch} {R : Room} {p : Program} {e : Env} {below : List Frame} {s : State} {sargs : Array Value} {len W : Nat} (a : Addr) (D : Cell) (fV fC : Field) (b : Addr) (A : Cell) (z : Int32) (htab : tab.before sargs s = true) (hfr : 4 ≤ R.frames) (hlo : W + 65 ≤ R.locals) :
    Back l R p e below s sargs yN len W (fun A₁ a₁ => A₁.cells + 1 ≤ R.cells ∧ A₁.slots + A.slots.size ≤ R.slots ∧ P a D fV fC b A z a₁ A₁.U) (fun A₁ _ v₁ B₁ => E a D fV fC A v₁ A₁.U B₁.U ∧ B₁.locs = A₁.locs ++ [⟨a, fC.slot⟩, ⟨a, fV.slot⟩] ∧ B₁.cells = A₁.cells + 1 ∧ B₁.slots = A₁.slots + A.slots.size) :=
  (law l a D fV fC b A z).pays htab hfr (by omega)
end New1
/-- the byte, read back as charAt reads it, is the char -/
theorem lo8_mask {x : Int32} (h0 : ¬ x < 0) (h1 : ¬ 255 < x) : lo8 x &&& 255 = x := by
  have t : ∀ k : Fin 256, lo8 (Int32.ofNat k.val) &&& 255 = Int32.ofNat k.val := by decide +kernel
  rw [Int32.lt_iff_toInt_lt] at h0 h1
  have e0 : (0 : Int32).toInt = 0 := rfl
  have e1 : (255 : Int32).toInt = 255 := rfl
  obtain ⟨k, hk⟩ : ∃ k : Nat, x.toInt = k := ⟨x.toInt.toNat, by omega⟩
  have hx : x = Int32.ofNat k := Int32.toInt_inj.mp (by rw [hk, Int32.toInt_ofNat_small (by omega)])
  rw [hx]
  exact t ⟨k, by omega⟩
end StrChars
namespace StrChars.Road
open Jvm Sem ClassFile Op Lib Jvm.Stand Jvm.Free Jvm.Free.XT
open Jvm.Lib.Cold (StaticIs)
abbrev ST : String := "java/lang/String"
/-- every table word that New1's law asks, flat -/
abbrev words : List Jvm.Cond := [.code New1.yN New1.yB 2 none, .initialized ST, .methodLink ST 27 New4.yN, .instanceMethod New4.yN,
  .code New4.yN New4.yB 6 none, .fieldLink ST 38 ST "COMPACT_STRINGS" "Z", .laysFinal ST ST "value" "[B", .fieldLink ST 9 ST "value" "[B", .laysFinal ST ST "coder" "B", .fieldLink ST 15 ST "coder" "B",
  .methodLink ST 1 Lib.objectInit, .instanceMethod Lib.objectInit, .code Lib.objectInit ⟨#[0xb1]⟩ 1 none, .methodLink ST 177 Cmp3.yN, .static Cmp3.yN, .methodLink ST 47 CodL.yN, .static CodL.yN,
  .code Cmp3.yN Cmp3.yB 6 (some (.array .byte)), .initialized U16, .arrayClass .byte, .methodLink U16 115 Cmp5.yN, .static Cmp5.yN, .code Cmp5.yN Cmp5.yB 7 (some .int), .code CodL.yN CodL.yB 2 (some .byte)]
theorem tab_of {a : Array Value} {s : State} (h : ∀ w ∈ words, w.before a s = true) : New1.tab.before a s = true := by
  have h5 : Cmp5.tab.before a s = true := unparts (wk h (.code Cmp5.yN Cmp5.yB 7 (some .int))) (wks h (.initialized Cmp5.yN.cls :: Cmp5.site))
  have hc : CodL.tab.before a s = true := unparts (wk h (.code CodL.yN CodL.yB 2 (some .byte))) (wks h (.initialized CodL.yN.cls :: CodL.site))
  have q5 : ∀ w ∈ Cmp5.tab :: words, w.before a s = true := fun w hw => (List.mem_cons.mp hw).elim (fun e => e ▸ h5) (h w)
  have h3 : Cmp3.tab.before a s = true := unparts (wk q5 (.code Cmp3.yN Cmp3.yB 6 (some (.array .byte)))) (wks q5 (.initialized Cmp3.yN.cls :: Cmp3.site))
  have q3 : ∀ w ∈ Cmp3.tab :: CodL.tab :: words, w.before a s = true := fun w hw => (List.mem_cons.mp hw).elim (fun e => e ▸ h3) fun hw => (List.mem_cons.mp hw).elim (fun e => e ▸ hc) (h w)
  have h4 : New4.tab.before a s = true := unparts (wk q3 (.code New4.yN New4.yB 6 none)) (wks q3 (.initialized New4.yN.cls :: New4.site))
  have q4 : ∀ w ∈ New4.tab :: words, w.before a s = true := fun w hw => (List.mem_cons.mp hw).elim (fun e => e ▸ h4) (h w)
  exact unparts (wk q4 (.code New1.yN New1.yB 2 none)) (wks q4 (.initialized New1.yN.cls :: New1.site))
/-- the words ride from the start Z to the walk's own state -/
theorem moved {Z s : State} {a0 args : Array Value} (hZ : Z.Warmed39 s.vm) (hw : ∀ d ∈ words, d.before a0 Z = true) : ∀ d ∈ words, d.before args s = true := fun d hd => by
  have q := hw d hd
  have t : ∀ d ∈ words, d = .arrayClass .byte ∨ (d.onTables && d.keepsFace) = true := by decide +kernel
  rcases t d hd with rfl | t
  · exact RoadKit.mvA hZ q
  · exact RoadKit.mv hZ q t
/-- WHAT COMES BACK, over the tables of the start Z: h the heap at the call, h' behind it -/
def Q (Z : State) (x : Addr) (A : Cell) (h : Heap) (v : Option Value) (h' : Heap) (L : List Loc) : Prop := v = none ∧ (∀ y ∈ L, y.base = x) ∧ RoadKit.Keep h h' [x] ∧ h'.size = h.size + 1 ∧ RoadKit.Exa Z h' x ST ∧ RoadKit.Fld Z h' x ST "value" "[B" (.ref h.size) ∧ RoadKit.Fld Z h' x ST "coder" "B" (.int 0) ∧
  (∃ V : Cell, RoadKit.Arr Z h' h.size V .byte ∧ V.vm = .none ∧ Z.vm.findClass "[B" = some V.cls ∧ V.slots.size = A.slots.size ∧ ∀ j, j < A.slots.size → V.slots[j]? = some (.int (lo8 (cv A j)))) ∧
  ∀ (O n d : String) (w : Value), RoadKit.Fld Z h x O n d w → RoadKit.slotOf Z O n d ≠ RoadKit.slotOf Z ST "value" "[B" → RoadKit.slotOf Z O n d ≠ RoadKit.slotOf Z ST "coder" "B" → RoadKit.Fld Z h' x O n d w
/-- **new String(chars) AT A CALL, IN THE ROAD'S FORM**: for specialBack behind newO: x the fresh String, b the char[] with the cell A -/
theorem back {p : Program} {l : Launch} {e : Env} {R : Room} {s : State} {args : Array Value} {below : List Frame} {len W : Nat} {Z : State} {a0 : Array Value} {h : Heap} (hZ : Z.Warmed39 s.vm) (hw : ∀ d ∈ words, d.before a0 Z = true) {kI : Nat} (wi : (Jvm.Cond.instantiable ST kI).before a0 Z = true)
    {x b : Addr} {A : Cell} {z : Int32} {v0 c0 : Value} (E : RoadKit.Exa Z h x ST) (V : RoadKit.Fld Z h x ST "value" "[B" v0) (C : RoadKit.Fld Z h x ST "coder" "B" c0) (K : RoadKit.Arr Z h b A .char) (hty : Typed .char A) (S : RoadKit.Sta Z h ST "COMPACT_STRINGS" "Z" (.int z)) (hz : ¬ z = 0)
    (l0 : 0 < A.slots.size) (l2 : A.slots.size ≤ 536870912) (hp : ∀ i, i < A.slots.size → ¬ 255 < cv A i) (hfr : 4 ≤ R.frames) (hlo : W + 65 ≤ R.locals) :
    Back l R p e below s args New1.yN len W (fun P a => a = #[.ref x, .ref b] ∧ P.U.heap = h ∧ P.cells + 1 ≤ R.cells ∧ P.slots + A.slots.size ≤ R.slots)
      (fun P _ v B => ∃ L, Q Z x A h v B.U.heap L ∧ B.locs = P.locs ++ L ∧ B.cells = P.cells + 1 ∧ B.slots = P.slots + A.slots.size) := by
  intro m meth c P g ig mk a X hg hsize hdg hW hn hp'
  obtain ⟨rfl, rfl, r1, r2⟩ := hp'
  have al : Z.vm.Alike P.U.vm := hZ.alike.trans X.warmed.alike
  obtain ⟨D, cfV, kV, iV, fV, hD, gV, stV, knV, obV, asV, slV⟩ := id V
  obtain ⟨D', cfC, kC, iC, fC, hD', gC, stC, -, -, asC, slC⟩ := id C
  cases hD.symm.trans hD'
  obtain ⟨D2, kD, e1, e2, e3, e4, e5⟩ := id E
  cases hD.symm.trans e1
  obtain ⟨c2, k2, i1, i2, i3, -⟩ := Cond.instantiable_spec wi
  cases e2.symm.trans i1
  cases e3.symm.trans i2
  obtain ⟨kU, u1, u2⟩ := al.2.2 _ _ e3
  have hB : Blank ST x D P.U := ⟨hD, ⟨knV, fun q hq => by rw [hq] at obV; cases obV⟩, by rw [al.findClass]; exact e2, kU, u1, by rw [u2]; exact i3, by rw [u2]; exact e5 i3⟩
  have F1 : Found ST "value" "[B" fV P.U := ⟨SBG.found_only al ⟨cfV, kV, iV, gV⟩, stV⟩
  have F2 : Found ST "coder" "B" fC P.U := ⟨SBG.found_only al ⟨cfC, kC, iC, gC⟩, stC⟩
  have hA : Ch b A P.U := ⟨⟨K.1, State.isArrayOf_alike al K.2.1, K.2.2, by omega⟩, hty⟩
  have hS : StaticIs P.U ST "COMPACT_STRINGS" "Z" (.int z) := by
    obtain ⟨cfS, iS, kS, fS, st, cS, t1, t2, t3, t4, t5, t6, t7⟩ := S
    exact StaticIs.there (s := { Z with heap := P.U.heap }) ⟨cfS, iS, kS, fS, st, cS, t1, t2, t3, t4, t5, (fun q => by rw [q] at t6; cases t6), t7⟩ al rfl
  obtain ⟨v, B, X', ⟨⟨hv, E', V', q1, q2, q3, q4, q5, q6, q7, q8, q9, q10, q11⟩, hl, hc, hs⟩, st⟩ := New1.pays x D fV fC b A z (tab_of (moved hZ hw)) hfr hlo m meth c P g ig mk _ X hg hsize hdg hW hn ⟨r1, r2, rfl, hB, F1, F2, hA, hS, hz, l0, l2, hp⟩
  have al' : Z.vm.Alike B.U.vm := hZ.alike.trans X'.warmed.alike
  have hsz : E'.slots.size = D.slots.size := by
    obtain ⟨-, -, -, kB, w1, w2, w3⟩ := q1
    obtain ⟨kB', y1, y2⟩ := al'.2.2 _ _ e3
    rw [q2.2.1] at w1
    cases w1.symm.trans y1
    rw [w3, e5 i3, y2]
  refine ⟨v, B, X', ⟨_, ⟨hv, ?_, ⟨by omega, fun y cy hy hn' => q10 y cy (by simpa using hn') hy, fun y cy hy => ?_⟩, q11, ⟨E', _, q1.1, by rw [q2.2.1]; exact e2, by rw [q2.2.1]; exact e3, by rw [q2.1]; exact obV, fun _ => by rw [hsz]; exact e5 i3⟩,
    ⟨E', cfV, kV, iV, fV, q1.1, gV, stV, by rw [q2.1]; exact knV, by rw [q2.1]; exact obV, by rw [q2.2.1]; exact asV, q3⟩, ⟨E', cfC, kC, iC, fC, q1.1, gC, stC, by rw [q2.1]; exact knV, by rw [q2.1]; exact obV, by rw [q2.2.1]; exact asC, q4⟩,
    ⟨V', ⟨q5.1, State.isArrayOf_alike al'.symm q5.2.1, q5.2.2.1⟩, q6, by rw [← al'.findClass]; exact q7, q8, fun j hj => by have := q9 j hj; rwa [Nat.zero_add] at this⟩, fun O n d w F n1 n2 => ?_⟩, hl, hc, hs⟩, st⟩
  · intro y hy
    simp only [List.mem_cons, List.not_mem_nil, or_false] at hy
    rcases hy with rfl | rfl <;> rfl
  · by_cases q : y = x
    · subst q
      cases hD.symm.trans hy
      exact ⟨E', q1.1, q2.2.1, q2.1, hsz⟩
    · exact ⟨cy, q10 y cy q hy, rfl, rfl, rfl⟩
  · obtain ⟨D3, cf, k, i, f, g1, g2, g3, g4, g5, g6, g7⟩ := F
    cases hD.symm.trans g1
    simp only [RoadKit.slotOf, g2, gV, gC, Option.map_some, Option.getD_some] at n1 n2
    exact ⟨E', cf, k, i, f, q1.1, g2, g3, by rw [q2.1]; exact g4, by rw [q2.1]; exact g5, by rw [q2.2.1]; exact g6, by rw [q2.2.2 f.slot (by simp [n1, n2])]; exact g7⟩
end StrChars.Road
namespace StrChars.Road
open Jvm Sem ClassFile Op Lib Jvm.Stand Jvm.Free Jvm.Free.XT
/-- WHAT COMES BACK, the byte[] as a list of values -/
def QA (Z : State) (x : Addr) (zn : Int32) (cs : List Int32) (h : Heap) (v : Option Value) (h' : Heap) (L : List Loc) : Prop := v = none ∧ (∀ y ∈ L, y.base = x) ∧ RoadKit.Keep h h' [x] ∧ h'.size = h.size + 1 ∧ RoadKit.Exa Z h' x ST ∧ RoadKit.Fld Z h' x ST "value" "[B" (.ref h.size) ∧ RoadKit.Fld Z h' x ST "coder" "B" (.int 0) ∧
  (∃ kb, Z.vm.findClass "[B" = some kb ∧ RoadKit.Arv Z h' h.size kb .byte zn (cs.map fun c => .int (lo8 c)) (.int 0)) ∧
  ∀ (O n d : String) (w : Value), RoadKit.Fld Z h x O n d w → RoadKit.slotOf Z O n d ≠ RoadKit.slotOf Z ST "value" "[B" → RoadKit.slotOf Z O n d ≠ RoadKit.slotOf Z ST "coder" "B" → RoadKit.Fld Z h' x O n d w
/-- **new String(chars) AT A CALL, THE ARRAYS AS LISTS**: the char[] at b holds cs, not empty, no char above 255 -/
theorem backArv {p : Program} {l : Launch} {e : Env} {R : Room} {s : State} {args : Array Value} {below : List Frame} {len W : Nat} {Z : State} {a0 : Array Value} {h : Heap} (hZ : Z.Warmed39 s.vm) (hw : ∀ d ∈ words, d.before a0 Z = true) {kI : Nat} (wi : (Jvm.Cond.instantiable ST kI).before a0 Z = true)
    {x b : Addr} {k : ClassId} {zn z : Int32} {cs : List Int32} {dv v0 c0 : Value} (E : RoadKit.Exa Z h x ST) (V : RoadKit.Fld Z h x ST "value" "[B" v0) (C : RoadKit.Fld Z h x ST "coder" "B" c0) (K : RoadKit.Arv Z h b k .char zn (cs.map Value.int) dv) (S : RoadKit.Sta Z h ST "COMPACT_STRINGS" "Z" (.int z)) (hz : ¬ z = 0)
    (hlen : zn.toNatClampNeg = cs.length) (h0 : 0 < cs.length) (hbig : cs.length ≤ 536870912) (hall : ∀ c ∈ cs, ¬ 255 < c) (hfr : 4 ≤ R.frames) (hlo : W + 65 ≤ R.locals) :
    Back l R p e below s args New1.yN len W (fun P a => a = #[.ref x, .ref b] ∧ P.U.heap = h ∧ P.cells + 1 ≤ R.cells ∧ P.slots + cs.length ≤ R.slots)
      (fun P _ v B => ∃ L, QA Z x zn cs h v B.U.heap L ∧ B.locs = P.locs ++ L ∧ B.cells = P.cells + 1 ∧ B.slots = P.slots + cs.length) := by
  obtain ⟨A, K1, K2, K3, K4, K5, K6⟩ := K
  have e : A.slots.size = cs.length := K3.trans hlen
  have hat : ∀ (i : Nat) (hi : i < cs.length), A.slots[i]? = some (.int cs[i]) := fun i hi => by rw [K5 i (by omega)]; simp [List.getD_eq_getElem?_getD, hi]
  have hcv : ∀ (i : Nat) (hi : i < cs.length), cv A i = cs[i] := fun i hi => by unfold cv; rw [hat i hi]
  have hty : Typed .char A := fun i v hv => by
    have hi : i < A.slots.size := (Array.getElem?_eq_some_iff.mp hv).1
    have q := K5 i hi
    rw [hv] at q
    rw [Option.some.inj q]
    exact K6 i hi
  refine Back.mono (back hZ hw wi E V C K1 hty S hz (by omega) (by omega) (fun i hi => by rw [hcv i (by omega)]; exact hall _ (List.getElem_mem _)) hfr hlo) (fun P a hp => ⟨hp.1, hp.2.1, hp.2.2.1, by rw [e]; exact hp.2.2.2⟩) (fun P a v B hp hq => ?_)
  obtain ⟨L, ⟨q1, q2, q3, q4, q5, q6, q7, ⟨V', v1, v2, v3, v4, v5⟩, q9⟩, hl, hc, hs⟩ := hq
  refine ⟨L, ⟨q1, q2, q3, q4, q5, q6, q7, ⟨V'.cls, v3, V', v1, rfl, by rw [v4, e, hlen], K4, fun i hi => ?_, fun i hi => ?_⟩, q9⟩, hl, hc, by rw [hs, e]⟩
  · have hi' : i < cs.length := by omega
    rw [v5 i (by omega), hcv i hi']; simp [List.getD_eq_getElem?_getD, hi']
  · have hi' : i < cs.length := by omega
    simp only [List.getD_eq_getElem?_getD, List.getElem?_map, List.getElem?_eq_getElem hi', Option.map_some, Option.getD_some]
    exact fits_lo8 _
end StrChars.Road
namespace StrChars.Road
open Jvm Sem ClassFile Op Lib Jvm.Stand Jvm.Free Jvm.Free.XT
/-- WHAT COMES BACK, in the writer's own shape -/
def QV (Z : State) (x : Addr) (N : Int32) (bs : List Int32) (h : Heap) (n0 : Nat) (v : Option Value) (h' : Heap) (L : List Loc) : Prop := v = none ∧ RoadKit.Fr n0 L ∧ RoadKit.Keep h h' [x] ∧ RoadKit.Exa Z h' x ST ∧ RoadKit.Fld Z h' x ST "coder" "B" (.int 0) ∧
  ∃ (t : Addr) (kb : ClassId), n0 ≤ t ∧ h.size ≤ t ∧ ¬ t = x ∧ RoadKit.Fld Z h' x ST "value" "[B" (.ref t) ∧ RoadKit.Arv Z h' t kb .byte N (bs.map Value.int) (.int 0)
/-- **new String(chars) AT A CALL, FOR THE WRITER**: a char[] of n known ints, each 0 to 255 -/
theorem backV {p : Program} {l : Launch} {e : Env} {R : Room} {s : State} {args : Array Value} {below : List Frame} {len W : Nat} {Z : State} {a0 : Array Value} {h : Heap} (hZ : Z.Warmed39 s.vm) (hw : ∀ d ∈ words, d.before a0 Z = true) {kI : Nat} (wi : (Jvm.Cond.instantiable ST kI).before a0 Z = true)
    {x b : Addr} {kC : ClassId} {cs bs : List Int32} {d v0 c0 : Value} {z N : Int32} {n n0 : Nat} (hx0 : n0 ≤ x) (hh0 : n0 ≤ h.size) (E : RoadKit.Exa Z h x ST) (V : RoadKit.Fld Z h x ST "value" "[B" v0) (C : RoadKit.Fld Z h x ST "coder" "B" c0) (K : RoadKit.Arv Z h b kC .char N (cs.map Value.int) d) (S : RoadKit.Sta Z h ST "COMPACT_STRINGS" "Z" (.int z)) (hz : ¬ z = 0)
    (hn : cs.length = n) (hN : N = Int32.ofNat n) (l0 : 0 < n) (l2 : n ≤ 4000) (hp : ∀ c ∈ cs, ¬ c < 0 ∧ ¬ (255 : Int32) < c) (hb : bs = cs.map (fun c => c.toInt8.toInt32)) (hfr : 4 ≤ R.frames) (hlo : W + 65 ≤ R.locals) :
    Back l R p e below s args (⟨"java/lang/String", "<init>", "([C)V"⟩ : MethodName) len W (fun P a => a = #[.ref x, .ref b] ∧ P.U.heap = h ∧ P.cells + 1 ≤ R.cells ∧ P.slots + n ≤ R.slots)
      (fun P _ v B => ∃ L, QV Z x N bs h n0 v B.U.heap L ∧ B.locs = P.locs ++ L ∧ B.cells = P.cells + 1 ∧ B.slots = P.slots + n) := by
  subst hn hN hb
  refine Back.mono (backArv hZ hw wi E V C K S hz (n32 (by omega)) l0 (by omega) (fun c hc => (hp c hc).2) hfr hlo) (fun P a hp => hp) (fun P a v B hp hq => ?_)
  obtain ⟨L, ⟨q1, q2, q3, q4, q5, q6, q7, ⟨kb, v1, v2⟩, q9⟩, hl, hc, hs⟩ := hq
  exact ⟨L, ⟨q1, fun y hy => by rw [q2 y hy]; exact hx0, q3, q5, q7, h.size, kb, hh0, Nat.le_refl _, Nat.ne_of_gt E.lt, q6, by rw [List.map_map]; exact v2⟩, hl, hc, hs⟩
end StrChars.Road
namespace StrChars
open Jvm Sem ClassFile Op Lib Jvm.Stand Jvm.Free.XT Jvm.Free.ALB Jvm.Free.JM Jvm.Free
open Jvm.Lib.Cold (StaticIs)
def hi8 (x : Int32) : Int32 := lo8 (x >>> ((8 : Int32) &&& 31))
/-- what StringUTF16.getChar makes of two bytes -/
def pairCh (u v : Int32) : Int32 := (((u &&& 255) <<< ((0 : Int32) &&& 31)) ||| ((v &&& 255) <<< ((8 : Int32) &&& 31))).toUInt32.toUInt16.toUInt32.toInt32
theorem shr0 (c : Int32) : c >>> ((0 : Int32) &&& 31) = c := by
  have e : ((0 : Int32) &&& 31) = 0 := by decide
  rw [e]
  apply Int32.toBitVec_inj.mp
  rw [Int32.toBitVec_shiftRight]
  have e1 : ((0 : Int32).toBitVec.smod 32) = 0#32 := by decide
  rw [e1, BitVec.sshiftRight_eq']
  exact BitVec.sshiftRight_zero
theorem lo8_and (x : Int32) : (lo8 x &&& 255).toBitVec.toNat = x.toBitVec.toNat % 256 := by
  have h : (lo8 x).toBitVec = (x.toBitVec.signExtend 8).signExtend 32 := by rw [lo8, Int8.toBitVec_toInt32, Int32.toBitVec_toInt8]
  rw [Int32.toBitVec_and, BitVec.toNat_and, h]
  have e : ((x.toBitVec.signExtend 8).signExtend 32).toNat % 256 = x.toBitVec.toNat % 256 := by
    rw [BitVec.toNat_signExtend]
    have hlt := x.toBitVec.isLt
    simp only [BitVec.toNat_setWidth, BitVec.toNat_signExtend]
    split <;> split <;> omega
  rw [← e]
  exact Nat.and_two_pow_sub_one_eq_mod _ 8
theorem pair_says {c : Int32} (h0 : ¬ c < 0) (h1 : ¬ 65535 < c) : pairCh (lo8 c) (hi8 c) = c := by
  rw [Int32.lt_iff_toInt_lt] at h0 h1
  have e0 : (0 : Int32).toInt = 0 := rfl
  have e1 : (65535 : Int32).toInt = 65535 := rfl
  have hc : c.toInt = c.toBitVec.toNat := by
    have := c.toBitVec.isLt
    have e : c.toInt = c.toBitVec.toInt := rfl
    rw [e] at h0 h1
    rw [e]
    rw [BitVec.toInt_eq_toNat_cond] at h0 h1 ⊢
    split at h0 <;> split <;> omega
  have hn : c.toBitVec.toNat < 65536 := by omega
  have a1 := lo8_and c
  have a2 : (hi8 c &&& 255).toBitVec.toNat = c.toBitVec.toNat / 256 := by
    rw [hi8, lo8_and]
    have e : ((8 : Int32) &&& 31) = 8 := by decide
    rw [e, Int32.toBitVec_shiftRight]
    have e2 : ((8 : Int32).toBitVec.smod 32) = 8#32 := by decide
    rw [e2, BitVec.sshiftRight_eq', BitVec.toNat_sshiftRight_of_msb_false (by rw [BitVec.msb_eq_false_iff_two_mul_lt]; omega)]
    show c.toBitVec.toNat >>> 8 % 256 = _
    rw [Nat.shiftRight_eq_div_pow]
    omega
  unfold pairCh
  apply Int32.toBitVec_inj.mp
  apply BitVec.eq_of_toNat_eq
  have f0 : ((0 : Int32) &&& 31) = 0 := by decide
  have f8 : ((8 : Int32) &&& 31) = 8 := by decide
  rw [f0, f8]
  have g : (((lo8 c &&& 255) <<< (0 : Int32)) ||| ((hi8 c &&& 255) <<< (8 : Int32))).toBitVec.toNat = c.toBitVec.toNat := by
    rw [Int32.toBitVec_or, Int32.toBitVec_shiftLeft, Int32.toBitVec_shiftLeft]
    have s0 : ((0 : Int32).toBitVec.smod 32) = 0#32 := by decide
    have s8 : ((8 : Int32).toBitVec.smod 32) = 8#32 := by decide
    rw [s0, s8, BitVec.toNat_or]
    simp only [BitVec.shiftLeft_eq', BitVec.toNat_shiftLeft, a1, a2]
    show (c.toBitVec.toNat % 256) <<< 0 % 2 ^ 32 ||| (c.toBitVec.toNat / 256) <<< 8 % 2 ^ 32 = _
    rw [Nat.shiftLeft_zero, Nat.mod_eq_of_lt (show c.toBitVec.toNat % 256 < 2 ^ 32 by omega), Nat.mod_eq_of_lt (show (c.toBitVec.toNat / 256) <<< 8 < 2 ^ 32 by rw [Nat.shiftLeft_eq]; omega), Nat.or_comm, ← Nat.shiftLeft_add_eq_or_of_lt (by omega), Nat.shiftLeft_eq]
    omega
  show BitVec.toNat (((((lo8 c &&& 255) <<< (0 : Int32)) ||| ((hi8 c &&& 255) <<< (8 : Int32))).toBitVec.setWidth 16).setWidth 32) = _
  rw [BitVec.toNat_setWidth, BitVec.toNat_setWidth, g]
  omega
end StrChars
namespace StrChars
open Jvm Sem ClassFile Op Lib Jvm.Stand Jvm.Free.XT Jvm.Free.ALB Jvm.Free.JM Jvm.Free
open Jvm.Lib.Cold (StaticIs)
theorem shr1 {n : Nat} (h : 2 * n < 2 ^ 31) : Int32.ofNat (2 * n) >>> ((1 : Int32) &&& 31) = Int32.ofNat n := by
  have e : ((1 : Int32) &&& 31) = 1 := by decide
  rw [e]
  apply Int32.toBitVec_inj.mp
  rw [Int32.toBitVec_shiftRight]
  have e1 : ((1 : Int32).toBitVec.smod 32) = 1#32 := by decide
  have hm : (BitVec.ofNat 32 (2 * n)).toNat = 2 * n := by rw [BitVec.toNat_ofNat, Nat.mod_eq_of_lt (by omega)]
  rw [e1, BitVec.sshiftRight_eq']
  apply BitVec.eq_of_toNat_eq
  show ((BitVec.ofNat 32 (2 * n)).sshiftRight 1).toNat = (BitVec.ofNat 32 n).toNat
  rw [BitVec.toNat_sshiftRight_of_msb_false (by rw [BitVec.msb_eq_false_iff_two_mul_lt, hm]; omega), hm, BitVec.toNat_ofNat, Nat.shiftRight_eq_div_pow]
  omega
/-- charAt's cast of a byte read back -/
def chr8 (u : Int32) : Int32 := (u &&& 255).toUInt32.toUInt16.toUInt32.toInt32
theorem chr8_lo8 {c : Int32} (h0 : ¬ c < 0) (h1 : ¬ 255 < c) : chr8 (lo8 c) = c := by
  have t : ∀ k : Fin 256, (Int32.ofNat k.val).toUInt32.toUInt16.toUInt32.toInt32 = Int32.ofNat k.val := by decide +kernel
  unfold chr8
  rw [lo8_mask h0 h1]
  rw [Int32.lt_iff_toInt_lt] at h0 h1
  have e0 : (0 : Int32).toInt = 0 := rfl
  have e1 : (255 : Int32).toInt = 255 := rfl
  obtain ⟨k, hk⟩ : ∃ k : Nat, c.toInt = k := ⟨c.toInt.toNat, by omega⟩
  have hx : c = Int32.ofNat k := Int32.toInt_inj.mp (by rw [hk, Int32.toInt_ofNat_small (by omega)])
  rw [hx]
  exact t ⟨k, by omega⟩
theorem narrow_ch {c : Int32} (h0 : ¬ c < 0) (h1 : ¬ 65535 < c) : narrow .char (.int c) = .int c := by
  have q : narrow .char (.int (pairCh (lo8 c) (hi8 c))) = .int (pairCh (lo8 c) (hi8 c)) := narrow_c _
  rwa [pair_says h0 h1] at q
/-- the array's cell V codes the n chars f 0 .. f (n - 1) by the coder cd, as the JDK does: coder 1 just where some char is above 255 -/
def Cod (cd : Int32) (n : Nat) (f : Nat → Int32) (V : Cell) : Prop := (cd = 0 ∧ V.slots.size = n ∧ ∀ j, j < n → V.slots[j]? = some (.int (lo8 (f j))) ∧ ¬ 255 < f j) ∨ (cd = 1 ∧ V.slots.size = 2 * n ∧ (∀ j, j < n → V.slots[2 * j]? = some (.int (lo8 (f j))) ∧ V.slots[2 * j + 1]? = some (.int (hi8 (f j)))) ∧ ∃ j, j < n ∧ 255 < f j)
theorem Cod.cd {cd : Int32} {n : Nat} {f : Nat → Int32} {V : Cell} (h : Cod cd n f V) : cd = 0 ∨ cd = 1 := h.imp (fun q => q.1) fun q => q.1
theorem Cod.len {cd : Int32} {n : Nat} {f : Nat → Int32} {V : Cell} (h : Cod cd n f V) (hs : V.slots.size < 2 ^ 31) : Int32.ofNat V.slots.size >>> (cd &&& 31) = Int32.ofNat n := by
  rcases h with ⟨rfl, h, -⟩ | ⟨rfl, h, -⟩
  · rw [shr0, h]
  · rw [h, shr1 (by omega)]
/-- **x is a String of the n chars f 0 .. f (n - 1)**, Latin-1 or UTF-16; its array at t has the cell V -/
def Txt (x t : Addr) (V : Cell) (cd : Int32) (n : Nat) (f : Nat → Int32) (U : State) : Prop := Exact "java/lang/String" x U ∧ Has x "java/lang/String" "value" "[B" (.ref t) U ∧ Has x "java/lang/String" "coder" "B" (.int cd) U ∧ XT.Arr .byte t V U ∧ Cod cd n f V ∧ ∀ j, j < n → ¬ f j < 0 ∧ ¬ 65535 < f j
theorem Txt.mv {x t : Addr} {V : Cell} {cd : Int32} {n : Nat} {f : Nat → Int32} {U U' : State} (h : Txt x t V cd n f U) (hal : U.vm.Alike U'.vm) (hh : U'.heap = U.heap) : Txt x t V cd n f U' := ⟨h.1.mv hal hh, h.2.1.mv hal hh, h.2.2.1.mv hal hh, h.2.2.2.1.mv hal hh, h.2.2.2.2⟩
namespace Cdr
def yN : MethodName := ⟨"java/lang/String", "coder", "()B"⟩
abbrev yB : ByteArray := jdk_42_method_152_code
theorem d0 : decode yB 0 = .ok (.getstatic 38, 3) := by decide +kernel
theorem d3 : decode yB 3 = .ok (.ifCond (.eq) 10, 3) := by decide +kernel
theorem d6 : decode yB 6 = .ok (.aload_n 0, 1) := by decide +kernel
theorem d7 : decode yB 7 = .ok (.getfield 15, 3) := by decide +kernel
theorem d10 : decode yB 10 = .ok (.goto 4, 3) := by decide +kernel
theorem d14 : decode yB 14 = .ok (.ireturn, 1) := by decide +kernel
def site : List Cond := [.fieldLink "java/lang/String" 38 "java/lang/String" "COMPACT_STRINGS" "Z", .fieldLink "java/lang/String" 15 "java/lang/String" "coder" "B"]
def tab : Cond := tabOf yN yB 1 (some .byte) site
def P (x : Addr) (cd z : Int32) (args : Array Value) (s : State) : Prop := args = #[.ref x] ∧ Has x "java/lang/String" "coder" "B" (.int cd) s ∧ (cd = 0 ∨ cd = 1) ∧ StaticIs s "java/lang/String" "COMPACT_STRINGS" "Z" (.int z) ∧ ¬ z = 0
def E (cd : Int32) (r : Option Value) (s u : State) : Prop := XT.PureE (some (.int cd)) r s u
theorem law (l : Launch) (x : Addr) (cd z : Int32) : Law l yN 1 0 0 0 yB 1 (some .byte) site (P x cd z) (E cd) [] 0 0 := by
  refine Law.of_walk (plainFor_of_name (by decide +kernel)) (by decide +kernel) (by decide +kernel) (by decide) (fun _ _ h => by rw [h.1]; rfl) (fun _ U U' hal hh h => ⟨h.1, h.2.1.mv hal hh, h.2.2.1, h.2.2.2.1.there hal hh, h.2.2.2.2⟩) (fun r U U' V V' h1 hal h2 h => XT.PureE.mv r U U' V V' h1 hal h2 h) ?_
  intro p e s m args below meth c s₁ X0 hexec hbytes hml hret hlk hnm hown hh0 W hP
  obtain ⟨rfl, hx, hc, s1, hz⟩ := hP
  have c1 : Steps p.tables e below (s₁.setTop (entryFrame m #[.ref x] 1)) (s₁.setTop (mkF m 0 #[.val (.ref x)] [])) := entry rfl
  obtain ⟨T2, X2, q2, st2⟩ := X0.sget hexec hown (wk W (.fieldLink "java/lang/String" 38 "java/lang/String" "COMPACT_STRINGS" "Z")) s1 (fun _ _ h => by rw [hh0]; exact h) (g := (mkF m 0 #[.val (.ref x)] [])) rfl (hb hbytes d0)
  have hh2 := q2.trans hh0
  have c3 : Steps p.tables e below (s₁.setTop (entryFrame m #[.ref x] 1)) (T2.setTop (mkF m 7 #[.val (.ref x)] [.ref x])) := (c1.trans (st2 _ (Steps.refl _))).trans (by
    refine XS.ifNo X2.here hexec rfl (hb hbytes d3) rfl (i0_eq_f hz) ?_
    refine XS.aloadN X2.here hexec rfl (hb hbytes d6) rfl rfl ?_
    exact Steps.refl _)
  obtain ⟨T4, X4, q4, st4⟩ := X2.hget hexec hown (wk W (.fieldLink "java/lang/String" 15 "java/lang/String" "coder" "B")) (hx.mv X2.warmed.alike hh2) (g := (mkF m 7 #[.val (.ref x)] [.ref x])) rfl (rest := []) rfl (hb hbytes d7)
  have c5 : Steps p.tables e below (s₁.setTop (entryFrame m #[.ref x] 1)) (T4.setTop (mkF m 14 #[.val (.ref x)] [.int cd])) := (c3.trans (st4 _ (Steps.refl _))).trans (by
    refine XS.goto X4.here hexec rfl (pc0 := 10) rfl (hb hbytes d10) (by decide) rfl ?_
    exact Steps.refl _)
  exact ⟨T4, some (.int cd), _, _, _, X4, rfl, rfl, rfl, (fun h => by cases h), ⟨rfl, q4.trans hh2⟩, fun fs hl => c5.trans (X4.ireturnOut hexec hret (by rcases hc with rfl | rfl <;> rfl) (Or.inr (Or.inr (Or.inl rfl))) (hb hbytes d14) hl)⟩
end Cdr
namespace Len
def yN : MethodName := ⟨"java/lang/String", "length", "()I"⟩
abbrev yB : ByteArray := jdk_42_method_54_code
theorem d0 : decode yB 0 = .ok (.aload_n 0, 1) := by decide +kernel
theorem d1 : decode yB 1 = .ok (.getfield 9, 3) := by decide +kernel
theorem d4 : decode yB 4 = .ok (.arraylength, 1) := by decide +kernel
theorem d5 : decode yB 5 = .ok (.aload_n 0, 1) := by decide +kernel
theorem d6 : decode yB 6 = .ok (.invokevirtual 335, 3) := by decide +kernel
theorem d9 : decode yB 9 = .ok (.ishr, 1) := by decide +kernel
theorem d10 : decode yB 10 = .ok (.ireturn, 1) := by decide +kernel
def site : List Cond := [.fieldLink "java/lang/String" 9 "java/lang/String" "value" "[B", Cdr.tab] ++ virtW "java/lang/String" 335 "java/lang/String" Cdr.yN Cdr.yN
def tab : Cond := tabOf yN yB 1 (some .int) site
def P (x t : Addr) (V : Cell) (cd : Int32) (n : Nat) (f : Nat → Int32) (z : Int32) (args : Array Value) (s : State) : Prop := args = #[.ref x] ∧ Txt x t V cd n f s ∧ StaticIs s "java/lang/String" "COMPACT_STRINGS" "Z" (.int z) ∧ ¬ z = 0
def E (n : Nat) (r : Option Value) (s u : State) : Prop := XT.PureE (some (.int (Int32.ofNat n))) r s u
/-- length() of a String of n chars, in either coding -/
theorem law (l : Launch) (x t : Addr) (V : Cell) (cd : Int32) (n : Nat) (f : Nat → Int32) (z : Int32) : Law l yN 1 0 1 13 yB 1 (some .int) site (P x t V cd n f z) (E n) [] 0 0 := by
  refine Law.of_walk (plainFor_of_name (by decide +kernel)) (by decide +kernel) (by decide +kernel) (by decide) (fun _ _ h => by rw [h.1]; rfl) (fun _ U U' hal hh h => ⟨h.1, h.2.1.mv hal hh, h.2.2.1.there hal hh, h.2.2.2⟩) (fun r U U' V V' h1 hal h2 h => XT.PureE.mv r U U' V V' h1 hal h2 h) ?_
  intro p e s m args below meth c s₁ X0 hexec hbytes hml hret hlk hnm hown hh0 W hP
  obtain ⟨rfl, hx, s1, hz⟩ := hP
  have v31 := hx.2.2.2.1.2.2.2
  have c1 : Steps p.tables e below (s₁.setTop (entryFrame m #[.ref x] 1)) (s₁.setTop (mkF m 1 #[.val (.ref x)] [.ref x])) := Steps.trans (entry rfl) (by
    show Steps p.tables e below (s₁.setTop (mkF m 0 #[.val (.ref x)] [])) _
    refine XS.aloadN X0.here hexec rfl (hb hbytes d0) rfl rfl ?_
    exact Steps.refl _)
  obtain ⟨T2, X2, q2, st2⟩ := X0.hget hexec hown (wk W (.fieldLink "java/lang/String" 9 "java/lang/String" "value" "[B")) (hx.mv X0.warmed.alike hh0).2.1 (g := (mkF m 1 #[.val (.ref x)] [.ref x])) rfl (rest := []) rfl (hb hbytes d1)
  have hh2 := q2.trans hh0
  have hx2 := hx.mv X2.warmed.alike hh2
  have c3 : Steps p.tables e below (s₁.setTop (entryFrame m #[.ref x] 1)) (T2.setTop (mkF m 6 #[.val (.ref x)] [.ref x, .int (Int32.ofNat V.slots.size)])) := (c1.trans (st2 _ (Steps.refl _))).trans (by
    refine X2.alen hexec hx2.2.2.2.1 rfl rfl (hb hbytes d4) ?_
    refine XS.aloadN X2.here hexec rfl (hb hbytes d5) rfl rfl ?_
    exact Steps.refl _)
  obtain ⟨v4, T4, X4, E4, g4⟩ := X2.callV hexec (Cdr.law l x cd z) hown (wks W (virtW "java/lang/String" 335 "java/lang/String" Cdr.yN Cdr.yN)) rfl (by decide) (wk W Cdr.tab) (W := 1) (Nat.le_of_ble_eq_true rfl) (Nat.le_of_ble_eq_true rfl) (Nat.le_refl _) (Nat.le_refl _) (hx2.1.fc X2.warmed.alike) hx2.1.is (g := (mkF m 6 #[.val (.ref x)] [.ref x, .int (Int32.ofNat V.slots.size)])) rfl (by rw [hml]; rfl) c3 (argsL := []) (rest := [.int (Int32.ofNat V.slots.size)]) rfl rfl (by show 2 * 0 + (1 + 0) ≤ _; decide) (hb hbytes d6) (⟨rfl, hx2.2.2.1, hx.2.2.2.2.1.cd, s1.there X2.warmed.alike hh2, hz⟩)
  obtain ⟨rfl, q4⟩ := E4
  have c5 : Steps p.tables e below (s₁.setTop (entryFrame m #[.ref x] 1)) (T4.setTop (mkF m 10 #[.val (.ref x)] [.int (Int32.ofNat V.slots.size >>> (cd &&& 31))])) := Steps.trans g4 (by
    refine ishr X4.here hexec rfl (hb hbytes d9) rfl ?_
    exact Steps.refl _)
  rw [hx.2.2.2.2.1.len v31] at c5
  exact ⟨T4, some (.int (Int32.ofNat n)), _, _, _, X4, rfl, rfl, rfl, (fun h => by cases h), ⟨rfl, q4.trans hh2⟩, fun fs hl => c5.trans (X4.ireturnOut hexec hret rfl (Or.inl rfl) (hb hbytes d10) hl)⟩
theorem pays {l : Launch} {R : Room} {p : Program} {e : Env} {below : List Frame} {s : State} {sargs : Array Value} {len W : Nat} (x t : Addr) (V : Cell) (cd : Int32) (n : Nat) (f : Nat → Int32) (z : Int32) (htab : tab.before sargs s = true) (hfr : 2 ≤ R.frames) (hlo : W + 25 ≤ R.locals) :
    Back l R p e below s sargs yN len W (fun A₁ a₁ => A₁.cells + 0 ≤ R.cells ∧ A₁.slots + 0 ≤ R.slots ∧ P x t V cd n f z a₁ A₁.U) (fun A₁ _ v₁ B₁ => E n v₁ A₁.U B₁.U ∧ B₁.locs = A₁.locs ++ [] ∧ B₁.cells = A₁.cells + 0 ∧ B₁.slots = A₁.slots + 0) :=
  (law l x t V cd n f z).pays htab hfr (by omega)
end Len
namespace IsL
def yN : MethodName := ⟨"java/lang/String", "isLatin1", "()Z"⟩
abbrev yB : ByteArray := jdk_42_method_154_code
theorem d0 : decode yB 0 = .ok (.getstatic 38, 3) := by decide +kernel
theorem d3 : decode yB 3 = .ok (.ifCond (.eq) 14, 3) := by decide +kernel
theorem d6 : decode yB 6 = .ok (.aload_n 0, 1) := by decide +kernel
theorem d7 : decode yB 7 = .ok (.getfield 15, 3) := by decide +kernel
theorem d10 : decode yB 10 = .ok (.ifCond (.ne) 7, 3) := by decide +kernel
theorem d13 : decode yB 13 = .ok (.iconst 1, 1) := by decide +kernel
theorem d14 : decode yB 14 = .ok (.goto 4, 3) := by decide +kernel
theorem d17 : decode yB 17 = .ok (.iconst 0, 1) := by decide +kernel
theorem d18 : decode yB 18 = .ok (.ireturn, 1) := by decide +kernel
def site : List Cond := [.fieldLink "java/lang/String" 38 "java/lang/String" "COMPACT_STRINGS" "Z", .fieldLink "java/lang/String" 15 "java/lang/String" "coder" "B"]
def tab : Cond := tabOf yN yB 1 (some .boolean) site
def P (x : Addr) (cd z : Int32) (args : Array Value) (s : State) : Prop := args = #[.ref x] ∧ Has x "java/lang/String" "coder" "B" (.int cd) s ∧ (cd = 0 ∨ cd = 1) ∧ StaticIs s "java/lang/String" "COMPACT_STRINGS" "Z" (.int z) ∧ ¬ z = 0
def E (cd : Int32) (r : Option Value) (s u : State) : Prop := XT.PureE (some (.int (1 - cd))) r s u
theorem law (l : Launch) (x : Addr) (cd z : Int32) : Law l yN 1 0 0 0 yB 1 (some .boolean) site (P x cd z) (E cd) [] 0 0 := by
  refine Law.of_walk (plainFor_of_name (by decide +kernel)) (by decide +kernel) (by decide +kernel) (by decide) (fun _ _ h => by rw [h.1]; rfl) (fun _ U U' hal hh h => ⟨h.1, h.2.1.mv hal hh, h.2.2.1, h.2.2.2.1.there hal hh, h.2.2.2.2⟩) (fun r U U' V V' h1 hal h2 h => XT.PureE.mv r U U' V V' h1 hal h2 h) ?_
  intro p e s m args below meth c s₁ X0 hexec hbytes hml hret hlk hnm hown hh0 W hP
  obtain ⟨rfl, hx, hc, s1, hz⟩ := hP
  have c1 : Steps p.tables e below (s₁.setTop (entryFrame m #[.ref x] 1)) (s₁.setTop (mkF m 0 #[.val (.ref x)] [])) := entry rfl
  obtain ⟨T2, X2, q2, st2⟩ := X0.sget hexec hown (wk W (.fieldLink "java/lang/String" 38 "java/lang/String" "COMPACT_STRINGS" "Z")) s1 (fun _ _ h => by rw [hh0]; exact h) (g := (mkF m 0 #[.val (.ref x)] [])) rfl (hb hbytes d0)
  have hh2 := q2.trans hh0
  have c3 : Steps p.tables e below (s₁.setTop (entryFrame m #[.ref x] 1)) (T2.setTop (mkF m 7 #[.val (.ref x)] [.ref x])) := (c1.trans (st2 _ (Steps.refl _))).trans (by
    refine XS.ifNo X2.here hexec rfl (hb hbytes d3) rfl (i0_eq_f hz) ?_
    refine XS.aloadN X2.here hexec rfl (hb hbytes d6) rfl rfl ?_
    exact Steps.refl _)
  obtain ⟨T4, X4, q4, st4⟩ := X2.hget hexec hown (wk W (.fieldLink "java/lang/String" 15 "java/lang/String" "coder" "B")) (hx.mv X2.warmed.alike hh2) (g := (mkF m 7 #[.val (.ref x)] [.ref x])) rfl (rest := []) rfl (hb hbytes d7)
  have c5 : Steps p.tables e below (s₁.setTop (entryFrame m #[.ref x] 1)) (T4.setTop (mkF m 10 #[.val (.ref x)] [.int cd])) := c3.trans (st4 _ (Steps.refl _))
  have c6 : Steps p.tables e below (s₁.setTop (entryFrame m #[.ref x] 1)) (T4.setTop (mkF m 18 #[.val (.ref x)] [.int (1 - cd)])) := by
    rcases hc with rfl | rfl
    · exact c5.trans (by
        refine XS.ifNo X4.here hexec rfl (hb hbytes d10) rfl (i0_ne_f rfl) ?_
        refine iconstV X4.here hexec rfl 1 (hb hbytes d13) (by decide) ?_
        refine XS.goto X4.here hexec rfl (pc0 := 14) rfl (hb hbytes d14) (by decide) rfl ?_
        exact Steps.refl _)
    · exact c5.trans (by
        refine XS.ifYes X4.here hexec rfl (pc0 := 10) rfl (hb hbytes d10) rfl (i0_ne_t (by decide)) (by decide) rfl ?_
        refine iconstV X4.here hexec rfl 0 (hb hbytes d17) (by decide) ?_
        exact Steps.refl _)
  exact ⟨T4, some (.int (1 - cd)), _, _, _, X4, rfl, rfl, rfl, (fun h => by cases h), ⟨rfl, q4.trans hh2⟩, fun fs hl => c6.trans (X4.ireturnOut hexec hret (by rcases hc with rfl | rfl <;> rfl) (Or.inr (Or.inl rfl)) (hb hbytes d18) hl)⟩
end IsL
namespace LChA
def yN : MethodName := ⟨"java/lang/StringLatin1", "charAt", "([BI)C"⟩
abbrev yB : ByteArray := jdk_43_method_2_code
theorem d0 : decode yB 0 = .ok (.iload_n 1, 1) := by decide +kernel
theorem d1 : decode yB 1 = .ok (.aload_n 0, 1) := by decide +kernel
theorem d2 : decode yB 2 = .ok (.arraylength, 1) := by decide +kernel
theorem d3 : decode yB 3 = .ok (.invokestatic 9, 3) := by decide +kernel
theorem d6 : decode yB 6 = .ok (.aload_n 0, 1) := by decide +kernel
theorem d7 : decode yB 7 = .ok (.iload_n 1, 1) := by decide +kernel
theorem d8 : decode yB 8 = .ok (.baload, 1) := by decide +kernel
theorem d9 : decode yB 9 = .ok (.sipush 255, 3) := by decide +kernel
theorem d12 : decode yB 12 = .ok (.iand, 1) := by decide +kernel
theorem d13 : decode yB 13 = .ok (.i2c, 1) := by decide +kernel
theorem d14 : decode yB 14 = .ok (.ireturn, 1) := by decide +kernel
def site : List Cond := [JO.Str_checkIndex.tab] ++ staticW "java/lang/StringLatin1" 9 JO.Str_checkIndex.yN
def tab : Cond := tabOf yN yB 2 (some .char) site
def P (t : Addr) (V : Cell) (i : Nat) (u : Int32) (fm : Value) (args : Array Value) (s : State) : Prop := args = #[.ref t, .int (Int32.ofNat i)] ∧ XT.Arr .byte t V s ∧ V.slots[i]? = some (.int u) ∧ (StaticIs s "jdk/internal/util/Preconditions" "SIOOBE_FORMATTER" "Ljava/util/function/BiFunction;" fm ∧ fm.isRef = true)
def E (u : Int32) (r : Option Value) (s w : State) : Prop := XT.PureE (some (.int (chr8 u))) r s w
theorem law (l : Launch) (t : Addr) (V : Cell) (i : Nat) (u : Int32) (fm : Value) : Law l yN 2 2 2 27 yB 2 (some .char) site (P t V i u fm) (E u) [] 0 0 := by
  refine Law.of_walk (plainFor_of_name (by decide +kernel)) (by decide +kernel) (by decide +kernel) (by decide) (fun _ _ h => by rw [h.1]; rfl) (fun _ U U' hal hh h => ⟨h.1, h.2.1.mv hal hh, h.2.2.1, h.2.2.2.1.there hal hh, h.2.2.2.2⟩) (fun r U U' V V' h1 hal h2 h => XT.PureE.mv r U U' V V' h1 hal h2 h) ?_
  intro p e s m args below meth c s₁ X0 hexec hbytes hml hret hlk hnm hown hh0 W hP
  obtain ⟨rfl, hV, hu, s1, rf⟩ := hP
  have v31 := hV.2.2.2
  have hi : i < V.slots.size := (Array.getElem?_eq_some_iff.mp hu).1
  have c1 : Steps p.tables e below (s₁.setTop (entryFrame m #[.ref t, .int (Int32.ofNat i)] 2)) (s₁.setTop (mkF m 0 #[.val (.ref t), .val (.int (Int32.ofNat i))] [])) := entry rfl
  have c2 : Steps p.tables e below (s₁.setTop (entryFrame m #[.ref t, .int (Int32.ofNat i)] 2)) (s₁.setTop (mkF m 3 #[.val (.ref t), .val (.int (Int32.ofNat i))] [.int (Int32.ofNat V.slots.size), .int (Int32.ofNat i)])) := c1.trans (by
    refine XS.iloadN X0.here hexec rfl (hb hbytes d0) rfl ?_
    refine XS.aloadN X0.here hexec rfl (hb hbytes d1) rfl rfl ?_
    refine X0.alen hexec (hV.mv X0.warmed.alike hh0) rfl rfl (hb hbytes d2) ?_
    exact Steps.refl _)
  obtain ⟨v3, T3, X3, E3, g3⟩ := X0.callS hexec (JO.Str_checkIndex.law l (Int32.ofNat i) (Int32.ofNat V.slots.size) fm) hown (wks W (staticW "java/lang/StringLatin1" 9 JO.Str_checkIndex.yN)) (wk W JO.Str_checkIndex.tab) (W := 0) (Nat.le_of_ble_eq_true rfl) (Nat.le_of_ble_eq_true rfl) (Nat.le_refl _) (Nat.le_refl _) (g := (mkF m 3 #[.val (.ref t), .val (.int (Int32.ofNat i))] [.int (Int32.ofNat V.slots.size), .int (Int32.ofNat i)])) rfl (by rw [hml]; rfl) c2 (argsL := [.int (Int32.ofNat i), .int (Int32.ofNat V.slots.size)]) (rest := []) rfl rfl (by show 2 * 0 + 0 ≤ _; decide) (hb hbytes d3) (⟨rfl, rf, s1.there X0.warmed.alike hh0, Int32.ofNat_not_neg (by omega), lt32 v31 hi⟩)
  obtain ⟨rfl, q3⟩ := E3
  have hh3 := q3.trans hh0
  have c4 : Steps p.tables e below (s₁.setTop (entryFrame m #[.ref t, .int (Int32.ofNat i)] 2)) (T3.setTop (mkF m 14 #[.val (.ref t), .val (.int (Int32.ofNat i))] [.int (chr8 u)])) := Steps.trans g3 (by
    refine XS.aloadN X3.here hexec rfl (hb hbytes d6) rfl rfl ?_
    refine XS.iloadN X3.here hexec rfl (hb hbytes d7) rfl ?_
    refine X3.aget hexec (hV.mv X3.warmed.alike hh3) rfl hu rfl rfl (hb hbytes d8) ?_
    refine sipushV X3.here hexec rfl 255 (hb hbytes d9) (by decide) ?_
    refine XS.iand X3.here hexec rfl (hb hbytes d12) rfl ?_
    refine i2c X3.here hexec rfl (hb hbytes d13) rfl ?_
    exact Steps.refl _)
  exact ⟨T3, some (.int (chr8 u)), _, _, _, X3, rfl, rfl, rfl, (fun h => by cases h), ⟨rfl, hh3⟩, fun fs hl => c4.trans (X3.ireturnOut hexec hret (narrow_c _) (Or.inr (Or.inr (Or.inr (Or.inl rfl)))) (hb hbytes d14) hl)⟩
end LChA
end StrChars
namespace StrChars.Road
open Jvm Sem ClassFile Op Lib Jvm.Stand Jvm.Free Jvm.Free.XT
open Jvm.Lib.Cold (StaticIs)
theorem consq {a : Array Value} {s : State} {c : Jvm.Cond} {L : List Jvm.Cond} (h0 : c.before a s = true) (h : ∀ w ∈ L, w.before a s = true) : ∀ w ∈ c :: L, w.before a s = true := fun w hw => (List.mem_cons.mp hw).elim (fun e => e ▸ h0) (h w)
/-- the words of String.length(), either coding -/
abbrev wordsLen : List Jvm.Cond := [.code Len.yN Len.yB 1 (some .int), .initialized ST, .fieldLink ST 9 ST "value" "[B", .fieldLink ST 38 ST "COMPACT_STRINGS" "Z", .fieldLink ST 15 ST "coder" "B", .code Cdr.yN Cdr.yB 1 (some .byte), .methodLink ST 335 Cdr.yN, .declares Cdr.yN, .selects ST Cdr.yN Cdr.yN, .instanceMethod Cdr.yN]
theorem tabLen_of {a : Array Value} {s : State} (h : ∀ w ∈ wordsLen, w.before a s = true) : Len.tab.before a s = true := by
  have hc : Cdr.tab.before a s = true := unparts (wk h (.code Cdr.yN Cdr.yB 1 (some .byte))) (wks h (.initialized Cdr.yN.cls :: Cdr.site))
  have q := consq hc h
  exact unparts (wk q (.code Len.yN Len.yB 1 (some .int))) (wks q (.initialized Len.yN.cls :: Len.site))
theorem movedLen {Z s : State} {a0 args : Array Value} (hZ : Z.Warmed39 s.vm) (hw : ∀ d ∈ wordsLen, d.before a0 Z = true) : ∀ d ∈ wordsLen, d.before args s = true := fun d hd => by
  have q := hw d hd
  have t : ∀ d ∈ wordsLen, d = .arrayClass .byte ∨ (d.onTables && d.keepsFace) = true := by decide +kernel
  rcases t d hd with rfl | t
  · exact RoadKit.mvA hZ q
  · exact RoadKit.mv hZ q t
/-- the bytes of the chars cs, low before high -/
def wideBytes : List Int32 → List Value
  | [] => []
  | c :: cs => .int (lo8 c) :: .int (hi8 c) :: wideBytes cs
theorem wide_lo (d : Value) : ∀ (cs : List Int32) (j : Nat), j < cs.length → (wideBytes cs).getD (2 * j) d = .int (lo8 (cs.getD j 0))
  | [], j, h => absurd h (Nat.not_lt_zero j)
  | c :: cs, 0, _ => rfl
  | c :: cs, j + 1, h => by
    have q := wide_lo d cs j (by simpa using h)
    rw [show 2 * (j + 1) = 2 * j + 1 + 1 from by omega]
    simpa [wideBytes] using q
theorem wide_hi (d : Value) : ∀ (cs : List Int32) (j : Nat), j < cs.length → (wideBytes cs).getD (2 * j + 1) d = .int (hi8 (cs.getD j 0))
  | [], j, h => absurd h (Nat.not_lt_zero j)
  | c :: cs, 0, _ => rfl
  | c :: cs, j + 1, h => by
    have q := wide_hi d cs j (by simpa using h)
    rw [show 2 * (j + 1) + 1 = 2 * j + 1 + 1 + 1 from by omega]
    simpa [wideBytes] using q
theorem low_at (d : Value) (cs : List Int32) (j : Nat) (h : j < cs.length) : (cs.map fun c => Value.int (lo8 c)).getD j d = .int (lo8 (cs.getD j 0)) := by
  simp [List.getD_eq_getElem?_getD, h]
/-- an array of N2 bytes vs codes the chars cs by the coder cd -/
def CodA (cs : List Int32) (cd N2 : Int32) (vs : List Value) : Prop := (cd = 0 ∧ N2 = Int32.ofNat cs.length ∧ vs = (cs.map fun c => Value.int (lo8 c)) ∧ ∀ c ∈ cs, ¬ 255 < c) ∨ (cd = 1 ∧ N2 = Int32.ofNat (2 * cs.length) ∧ vs = wideBytes cs ∧ ∃ c ∈ cs, 255 < c)
theorem CodA.cod {cs : List Int32} {cd N2 : Int32} {vs : List Value} {V : Cell} (h : CodA cs cd N2 vs) (hn : 2 * cs.length < 2 ^ 31) (hs : V.slots.size = N2.toNatClampNeg) (hv : RoadKit.Has V vs (.int 0)) : Cod cd cs.length (fun j => cs.getD j 0) V := by
  rcases h with ⟨rfl, rfl, rfl, h⟩ | ⟨rfl, rfl, rfl, c, hc, hw⟩
  · rw [n32 (by omega)] at hs
    exact Or.inl ⟨rfl, hs, fun j hj => ⟨by rw [hv j (by omega), low_at _ _ _ hj], by
      have e : cs.getD j 0 = cs[j] := by simp [List.getD_eq_getElem?_getD, hj]
      show ¬ 255 < cs.getD j 0
      rw [e]; exact h _ (List.getElem_mem _)⟩⟩
  · rw [n32 (by omega)] at hs
    obtain ⟨j, hj, rfl⟩ := List.getElem_of_mem hc
    exact Or.inr ⟨rfl, hs, fun j hj => ⟨by rw [hv _ (by omega), wide_lo _ _ _ hj], by rw [hv _ (by omega), wide_hi _ _ _ hj]⟩, j, hj, by
      have e : cs.getD j 0 = cs[j] := by simp [List.getD_eq_getElem?_getD, hj]
      show 255 < cs.getD j 0
      rw [e]; exact hw⟩
/-- an object of exactly java/lang/String, its two fields found: as the laws ask it -/
theorem strObj {Z U : State} {a0 : Array Value} {kI : Nat} (wi : (Jvm.Cond.instantiable ST kI).before a0 Z = true) (al : Z.vm.Alike U.vm) {x : Addr} {v0 c0 : Value} (E : RoadKit.Exa Z U.heap x ST) (V : RoadKit.Fld Z U.heap x ST "value" "[B" v0) (C : RoadKit.Fld Z U.heap x ST "coder" "B" c0) :
    ∃ (D : Cell) (fV fC : Field), Blank ST x D U ∧ Found ST "value" "[B" fV U ∧ Found ST "coder" "B" fC U ∧ D.slots[fV.slot]? = some v0 ∧ D.slots[fC.slot]? = some c0 ∧ RoadKit.slotOf Z ST "value" "[B" = fV.slot ∧ RoadKit.slotOf Z ST "coder" "B" = fC.slot := by
  obtain ⟨D, cfV, kV, iV, fV, hD, gV, stV, knV, obV, asV, slV⟩ := V
  obtain ⟨D', cfC, kC, iC, fC, hD', gC, stC, -, -, asC, slC⟩ := C
  cases hD.symm.trans hD'
  obtain ⟨D2, kD, e1, e2, e3, e4, e5⟩ := E
  cases hD.symm.trans e1
  obtain ⟨c2, k2, i1, i2, i3, -⟩ := Cond.instantiable_spec wi
  cases e2.symm.trans i1
  cases e3.symm.trans i2
  obtain ⟨kU, u1, u2⟩ := al.2.2 _ _ e3
  exact ⟨D, fV, fC, ⟨hD, ⟨knV, fun q hq => by rw [hq] at obV; cases obV⟩, by rw [al.findClass]; exact e2, kU, u1, by rw [u2]; exact i3, by rw [u2]; exact e5 i3⟩, ⟨SBG.found_only al ⟨cfV, kV, iV, gV⟩, stV⟩, ⟨SBG.found_only al ⟨cfC, kC, iC, gC⟩, stC⟩, slV, slC, by simp [RoadKit.slotOf, gV], by simp [RoadKit.slotOf, gC]⟩
theorem sta_is {Z U : State} (al : Z.vm.Alike U.vm) {C n d : String} {v : Value} (S : RoadKit.Sta Z U.heap C n d v) : StaticIs U C n d v := by
  obtain ⟨cfS, iS, kS, fS, st, cS, t1, t2, t3, t4, t5, t6, t7⟩ := S
  exact StaticIs.there (s := { Z with heap := U.heap }) ⟨cfS, iS, kS, fS, st, cS, t1, t2, t3, t4, t5, (fun q => by rw [q] at t6; cases t6), t7⟩ al rfl
/-- **length() OF SUCH A STRING** -/
theorem lenW {p : Program} {l : Launch} {e : Env} {R : Room} {s : State} {args : Array Value} {below : List Frame} {len W : Nat} {Z : State} {a0 : Array Value} {h : Heap} (hZ : Z.Warmed39 s.vm) (hw : ∀ d ∈ wordsLen, d.before a0 Z = true) {kI : Nat} (wi : (Jvm.Cond.instantiable ST kI).before a0 Z = true)
    {x t : Addr} {kb : ClassId} {cs : List Int32} {cd N2 z : Int32} {vs : List Value} (E : RoadKit.Exa Z h x ST) (V : RoadKit.Fld Z h x ST "value" "[B" (.ref t)) (C : RoadKit.Fld Z h x ST "coder" "B" (.int cd)) (K : RoadKit.Arv Z h t kb .byte N2 vs (.int 0)) (hc : CodA cs cd N2 vs) (hb : ∀ c ∈ cs, ¬ c < 0 ∧ ¬ (65535 : Int32) < c)
    (S : RoadKit.Sta Z h ST "COMPACT_STRINGS" "Z" (.int z)) (hz : ¬ z = 0) (l2 : cs.length ≤ 4000) (hfr : 2 ≤ R.frames) (hlo : W + 25 ≤ R.locals) :
    Back l R p e below s args (⟨"java/lang/String", "length", "()I"⟩ : MethodName) len W (fun P a => a = #[.ref x] ∧ P.U.heap = h ∧ P.cells + 0 ≤ R.cells ∧ P.slots + 0 ≤ R.slots)
      (fun P _ v B => ∃ L, (v = some (.int (Int32.ofNat cs.length)) ∧ L = [] ∧ B.U.heap = h) ∧ B.locs = P.locs ++ L ∧ B.cells = P.cells + 0 ∧ B.slots = P.slots + 0) := by
  obtain ⟨A, K1, K2, K3, K4, K5, K6⟩ := K
  have hcod := hc.cod (by omega) K3 K5
  intro m meth c P g ig mk a X hg hsize hdg hW hn hp'
  obtain ⟨rfl, rfl, r1, r2⟩ := hp'
  have al : Z.vm.Alike P.U.vm := hZ.alike.trans X.warmed.alike
  obtain ⟨D, fV, fC, hB, F1, F2, g1, g2, -, -⟩ := strObj wi al E V C
  have hx : Txt x t A cd cs.length (fun j => cs.getD j 0) P.U := ⟨⟨_, hB.2.2.1, D, hB.1, rfl, by cases q : D.vm <;> first | rfl | exact absurd q (hB.2.1.2 _)⟩, Has.of hB F1 g1, Has.of hB F2 g2, ⟨K1.1, State.isArrayOf_alike al K1.2.1, K1.2.2, by rcases hcod with ⟨-, q, -⟩ | ⟨-, q, -⟩ <;> omega⟩, hcod, fun j hj => by
    have e : cs.getD j 0 = cs[j] := by simp [List.getD_eq_getElem?_getD, hj]
    show ¬ cs.getD j 0 < 0 ∧ ¬ 65535 < cs.getD j 0
    rw [e]; exact hb _ (List.getElem_mem _)⟩
  obtain ⟨v, B, X', ⟨⟨hv, hh⟩, hl, hk, hs⟩, st⟩ := Len.pays x t A cd cs.length (fun j => cs.getD j 0) z (tabLen_of (movedLen hZ hw)) hfr hlo m meth c P g ig mk _ X hg hsize hdg hW hn ⟨r1, r2, rfl, hx, sta_is al S, hz⟩
  exact ⟨v, B, X', ⟨[], ⟨hv, rfl, hh⟩, hl, hk, hs⟩, st⟩
end StrChars.Road
namespace StrChars
open Jvm Sem ClassFile Op Lib Jvm.Stand Jvm.Free.XT Jvm.Free.ALB Jvm.Free.JM Jvm.Free
open Jvm.Lib.Cold (StaticIs)
namespace Emp
def yN : MethodName := ⟨"java/lang/String", "isEmpty", "()Z"⟩
abbrev yB : ByteArray := jdk_42_method_55_code
theorem d0 : decode yB 0 = .ok (.aload_n 0, 1) := by decide +kernel
theorem d1 : decode yB 1 = .ok (.getfield 9, 3) := by decide +kernel
theorem d4 : decode yB 4 = .ok (.arraylength, 1) := by decide +kernel
theorem d5 : decode yB 5 = .ok (.ifCond (.ne) 7, 3) := by decide +kernel
theorem d8 : decode yB 8 = .ok (.iconst 1, 1) := by decide +kernel
theorem d9 : decode yB 9 = .ok (.goto 4, 3) := by decide +kernel
theorem d12 : decode yB 12 = .ok (.iconst 0, 1) := by decide +kernel
theorem d13 : decode yB 13 = .ok (.ireturn, 1) := by decide +kernel
def site : List Cond := [.fieldLink "java/lang/String" 9 "java/lang/String" "value" "[B"]
def tab : Cond := tabOf yN yB 1 (some .boolean) site
def P (x t : Addr) (V : Cell) (cd : Int32) (n : Nat) (f : Nat → Int32) (args : Array Value) (s : State) : Prop := args = #[.ref x] ∧ Txt x t V cd n f s
def E (n : Nat) (r : Option Value) (s u : State) : Prop := XT.PureE (some (.int (if n = 0 then 1 else 0))) r s u
/-- isEmpty() of a String of n chars -/
theorem law (l : Launch) (x t : Addr) (V : Cell) (cd : Int32) (n : Nat) (f : Nat → Int32) : Law l yN 1 0 0 0 yB 1 (some .boolean) site (P x t V cd n f) (E n) [] 0 0 := by
  refine Law.of_walk (plainFor_of_name (by decide +kernel)) (by decide +kernel) (by decide +kernel) (by decide) (fun _ _ h => by rw [h.1]; rfl) (fun _ U U' hal hh h => ⟨h.1, h.2.mv hal hh⟩) (fun r U U' V V' h1 hal h2 h => XT.PureE.mv r U U' V V' h1 hal h2 h) ?_
  intro p e s m args below meth c s₁ X0 hexec hbytes hml hret hlk hnm hown hh0 W hP
  obtain ⟨rfl, hx⟩ := hP
  have v31 := hx.2.2.2.1.2.2.2
  have c1 : Steps p.tables e below (s₁.setTop (entryFrame m #[.ref x] 1)) (s₁.setTop (mkF m 1 #[.val (.ref x)] [.ref x])) := Steps.trans (entry rfl) (by
    show Steps p.tables e below (s₁.setTop (mkF m 0 #[.val (.ref x)] [])) _
    refine XS.aloadN X0.here hexec rfl (hb hbytes d0) rfl rfl ?_
    exact Steps.refl _)
  obtain ⟨T2, X2, q2, st2⟩ := X0.hget hexec hown (wk W (.fieldLink "java/lang/String" 9 "java/lang/String" "value" "[B")) (hx.mv X0.warmed.alike hh0).2.1 (g := (mkF m 1 #[.val (.ref x)] [.ref x])) rfl (rest := []) rfl (hb hbytes d1)
  have hh2 := q2.trans hh0
  have hx2 := hx.mv X2.warmed.alike hh2
  have c3 : Steps p.tables e below (s₁.setTop (entryFrame m #[.ref x] 1)) (T2.setTop (mkF m 5 #[.val (.ref x)] [.int (Int32.ofNat V.slots.size)])) := (c1.trans (st2 _ (Steps.refl _))).trans (by
    refine X2.alen hexec hx2.2.2.2.1 rfl rfl (hb hbytes d4) ?_
    exact Steps.refl _)
  have hz : V.slots.size = 0 ↔ n = 0 := by
    rcases hx.2.2.2.2.1 with ⟨-, q, -⟩ | ⟨-, q, -⟩ <;> omega
  by_cases h0 : n = 0
  · have c4 : Steps p.tables e below (s₁.setTop (entryFrame m #[.ref x] 1)) (T2.setTop (mkF m 13 #[.val (.ref x)] [.int 1])) := c3.trans (by
      refine XS.ifNo X2.here hexec rfl (hb hbytes d5) rfl (i0_ne_f (by rw [hz.mpr h0]; rfl)) ?_
      refine iconstV X2.here hexec rfl 1 (hb hbytes d8) (by decide) ?_
      refine XS.goto X2.here hexec rfl (pc0 := 9) rfl (hb hbytes d9) (by decide) rfl ?_
      exact Steps.refl _)
    exact ⟨T2, some (.int 1), _, _, _, X2, rfl, rfl, rfl, (fun h => by cases h), ⟨by rw [if_pos h0], hh2⟩, fun fs hl => c4.trans (X2.ireturnOut hexec hret rfl (Or.inr (Or.inl rfl)) (hb hbytes d13) hl)⟩
  · have c4 : Steps p.tables e below (s₁.setTop (entryFrame m #[.ref x] 1)) (T2.setTop (mkF m 13 #[.val (.ref x)] [.int 0])) := c3.trans (by
      refine XS.ifYes X2.here hexec rfl (pc0 := 5) rfl (hb hbytes d5) rfl (i0_ne_t (nz32 v31 (by omega))) (by decide) rfl ?_
      refine iconstV X2.here hexec rfl 0 (hb hbytes d12) (by decide) ?_
      exact Steps.refl _)
    exact ⟨T2, some (.int 0), _, _, _, X2, rfl, rfl, rfl, (fun h => by cases h), ⟨by rw [if_neg h0], hh2⟩, fun fs hl => c4.trans (X2.ireturnOut hexec hret rfl (Or.inr (Or.inl rfl)) (hb hbytes d13) hl)⟩
theorem pays {l : Launch} {R : Room} {p : Program} {e : Env} {below : List Frame} {s : State} {sargs : Array Value} {len W : Nat} (x t : Addr) (V : Cell) (cd : Int32) (n : Nat) (f : Nat → Int32) (htab : tab.before sargs s = true) (hfr : 1 ≤ R.frames) (hlo : W + 12 ≤ R.locals) :
    Back l R p e below s sargs yN len W (fun A₁ a₁ => A₁.cells + 0 ≤ R.cells ∧ A₁.slots + 0 ≤ R.slots ∧ P x t V cd n f a₁ A₁.U) (fun A₁ _ v₁ B₁ => E n v₁ A₁.U B₁.U ∧ B₁.locs = A₁.locs ++ [] ∧ B₁.cells = A₁.cells + 0 ∧ B₁.slots = A₁.slots + 0) :=
  (law l x t V cd n f).pays htab hfr (by omega)
end Emp
end StrChars
namespace StrChars.Road
open Jvm Sem ClassFile Op Lib Jvm.Stand Jvm.Free Jvm.Free.XT
open Jvm.Lib.Cold (StaticIs)
/-- the words of String.isEmpty() -/
abbrev wordsEmp : List Jvm.Cond := [.code Emp.yN Emp.yB 1 (some .boolean), .initialized ST, .fieldLink ST 9 ST "value" "[B"]
theorem tabEmp_of {a : Array Value} {s : State} (h : ∀ w ∈ wordsEmp, w.before a s = true) : Emp.tab.before a s = true := unparts (wk h (.code Emp.yN Emp.yB 1 (some .boolean))) (wks h (.initialized Emp.yN.cls :: Emp.site))
theorem movedEmp {Z s : State} {a0 args : Array Value} (hZ : Z.Warmed39 s.vm) (hw : ∀ d ∈ wordsEmp, d.before a0 Z = true) : ∀ d ∈ wordsEmp, d.before args s = true := fun d hd => by
  have t : ∀ d ∈ wordsEmp, (d.onTables && d.keepsFace) = true := by decide +kernel
  exact RoadKit.mv hZ (hw d hd) (t d hd)
/-- the road's facts of a String, as the laws ask it -/
theorem txt_of {Z U : State} {a0 : Array Value} {kI : Nat} (wi : (Jvm.Cond.instantiable ST kI).before a0 Z = true) (al : Z.vm.Alike U.vm) {x t : Addr} {kb : ClassId} {cs : List Int32} {cd N2 : Int32} {vs : List Value} (E : RoadKit.Exa Z U.heap x ST) (V : RoadKit.Fld Z U.heap x ST "value" "[B" (.ref t)) (C : RoadKit.Fld Z U.heap x ST "coder" "B" (.int cd)) (K : RoadKit.Arv Z U.heap t kb .byte N2 vs (.int 0)) (hc : CodA cs cd N2 vs) (hb : ∀ c ∈ cs, ¬ c < 0 ∧ ¬ (65535 : Int32) < c) (l2 : cs.length ≤ 4000) :
    ∃ A, Txt x t A cd cs.length (fun j => cs.getD j 0) U := by
  obtain ⟨A, K1, K2, K3, K4, K5, K6⟩ := K
  have hcod := hc.cod (by omega) K3 K5
  obtain ⟨D, fV, fC, hB, F1, F2, g1, g2, -, -⟩ := strObj wi al E V C
  exact ⟨A, ⟨_, hB.2.2.1, D, hB.1, rfl, by cases q : D.vm <;> first | rfl | exact absurd q (hB.2.1.2 _)⟩, Has.of hB F1 g1, Has.of hB F2 g2, ⟨K1.1, State.isArrayOf_alike al K1.2.1, K1.2.2, by rcases hcod with ⟨-, q, -⟩ | ⟨-, q, -⟩ <;> omega⟩, hcod, fun j hj => by
    have e : cs.getD j 0 = cs[j] := by simp [List.getD_eq_getElem?_getD, hj]
    show ¬ cs.getD j 0 < 0 ∧ ¬ 65535 < cs.getD j 0
    rw [e]; exact hb _ (List.getElem_mem _)⟩
/-- **isEmpty() OF SUCH A STRING** -/
theorem empW {p : Program} {l : Launch} {e : Env} {R : Room} {s : State} {args : Array Value} {below : List Frame} {len W : Nat} {Z : State} {a0 : Array Value} {h : Heap} (hZ : Z.Warmed39 s.vm) (hw : ∀ d ∈ wordsEmp, d.before a0 Z = true) {kI : Nat} (wi : (Jvm.Cond.instantiable ST kI).before a0 Z = true)
    {x t : Addr} {kb : ClassId} {cs : List Int32} {cd N2 : Int32} {vs : List Value} (E : RoadKit.Exa Z h x ST) (V : RoadKit.Fld Z h x ST "value" "[B" (.ref t)) (C : RoadKit.Fld Z h x ST "coder" "B" (.int cd)) (K : RoadKit.Arv Z h t kb .byte N2 vs (.int 0)) (hc : CodA cs cd N2 vs) (hb : ∀ c ∈ cs, ¬ c < 0 ∧ ¬ (65535 : Int32) < c) (l2 : cs.length ≤ 4000) (hfr : 1 ≤ R.frames) (hlo : W + 12 ≤ R.locals) :
    Back l R p e below s args (⟨"java/lang/String", "isEmpty", "()Z"⟩ : MethodName) len W (fun P a => a = #[.ref x] ∧ P.U.heap = h ∧ P.cells + 0 ≤ R.cells ∧ P.slots + 0 ≤ R.slots)
      (fun P _ v B => ∃ L, (v = some (.int (if cs.length = 0 then 1 else 0)) ∧ L = [] ∧ B.U.heap = h) ∧ B.locs = P.locs ++ L ∧ B.cells = P.cells + 0 ∧ B.slots = P.slots + 0) := by
  intro m meth c P g ig mk a X hg hsize hdg hW hn hp'
  obtain ⟨rfl, rfl, r1, r2⟩ := hp'
  have al : Z.vm.Alike P.U.vm := hZ.alike.trans X.warmed.alike
  obtain ⟨A, hx⟩ := txt_of wi al E V C K hc hb l2
  obtain ⟨v, B, X', ⟨⟨hv, hh⟩, hl, hk, hs⟩, st⟩ := Emp.pays x t A cd cs.length (fun j => cs.getD j 0) (tabEmp_of (movedEmp hZ hw)) hfr hlo m meth c P g ig mk _ X hg hsize hdg hW hn ⟨r1, r2, rfl, hx⟩
  exact ⟨v, B, X', ⟨[], ⟨hv, rfl, hh⟩, hl, hk, hs⟩, st⟩
end StrChars.Road
namespace StrChars
open Jvm Sem ClassFile Op Lib Jvm.Stand Jvm.Free.XT Jvm.Free.ALB Jvm.Free.JM Jvm.Free
open Jvm.Lib.Cold (StaticIs)
namespace ChN
def yN : MethodName := ⟨"java/lang/String", "charAt", "(I)C"⟩
abbrev yB : ByteArray := jdk_42_method_56_code
theorem d0 : decode yB 0 = .ok (.aload_n 0, 1) := by decide +kernel
theorem d1 : decode yB 1 = .ok (.invokevirtual 492, 3) := by decide +kernel
theorem d4 : decode yB 4 = .ok (.ifCond (.eq) 12, 3) := by decide +kernel
theorem d7 : decode yB 7 = .ok (.aload_n 0, 1) := by decide +kernel
theorem d8 : decode yB 8 = .ok (.getfield 9, 3) := by decide +kernel
theorem d11 : decode yB 11 = .ok (.iload_n 1, 1) := by decide +kernel
theorem d12 : decode yB 12 = .ok (.invokestatic 495, 3) := by decide +kernel
theorem d15 : decode yB 15 = .ok (.ireturn, 1) := by decide +kernel
def site : List Cond := [.fieldLink "java/lang/String" 9 "java/lang/String" "value" "[B", IsL.tab, LChA.tab] ++ virtW "java/lang/String" 492 "java/lang/String" IsL.yN IsL.yN ++ staticW "java/lang/String" 495 LChA.yN
def tab : Cond := tabOf yN yB 2 (some .char) site
def P (x t : Addr) (V : Cell) (n : Nat) (f : Nat → Int32) (z : Int32) (fm : Value) (i : Nat) (args : Array Value) (s : State) : Prop := args = #[.ref x, .int (Int32.ofNat i)] ∧ Txt x t V 0 n f s ∧ i < n ∧ StaticIs s "java/lang/String" "COMPACT_STRINGS" "Z" (.int z) ∧ ¬ z = 0 ∧ StaticIs s "jdk/internal/util/Preconditions" "SIOOBE_FORMATTER" "Ljava/util/function/BiFunction;" fm ∧ fm.isRef = true
def E (f : Nat → Int32) (i : Nat) (r : Option Value) (s u : State) : Prop := XT.PureE (some (.int (f i))) r s u
/-- charAt(i) of a Latin-1 String of n chars, i < n: f i -/
theorem law (l : Launch) (x t : Addr) (V : Cell) (n : Nat) (f : Nat → Int32) (z : Int32) (fm : Value) (i : Nat) : Law l yN 2 1 3 40 yB 2 (some .char) site (P x t V n f z fm i) (E f i) [] 0 0 := by
  refine Law.of_walk (plainFor_of_name (by decide +kernel)) (by decide +kernel) (by decide +kernel) (by decide) (fun _ _ h => by rw [h.1]; rfl) (fun _ U U' hal hh h => ⟨h.1, h.2.1.mv hal hh, h.2.2.1, h.2.2.2.1.there hal hh, h.2.2.2.2.1, h.2.2.2.2.2.1.there hal hh, h.2.2.2.2.2.2⟩) (fun r U U' V V' h1 hal h2 h => XT.PureE.mv r U U' V V' h1 hal h2 h) ?_
  intro p e s m args below meth c s₁ X0 hexec hbytes hml hret hlk hnm hown hh0 W hP
  obtain ⟨rfl, hx, hi, s1, hz, s3, rf⟩ := hP
  have v31 := hx.2.2.2.1.2.2.2
  have hr := hx.2.2.2.2.2 i hi
  have hx0 := hx.mv X0.warmed.alike hh0
  have c1 : Steps p.tables e below (s₁.setTop (entryFrame m #[.ref x, .int (Int32.ofNat i)] 2)) (s₁.setTop (mkF m 1 #[.val (.ref x), .val (.int (Int32.ofNat i))] [.ref x])) := Steps.trans (entry rfl) (by
    show Steps p.tables e below (s₁.setTop (mkF m 0 #[.val (.ref x), .val (.int (Int32.ofNat i))] [])) _
    refine XS.aloadN X0.here hexec rfl (hb hbytes d0) rfl rfl ?_
    exact Steps.refl _)
  obtain ⟨v2, T2, X2, E2, g2⟩ := X0.callV hexec (IsL.law l x 0 z) hown (wks W (virtW "java/lang/String" 492 "java/lang/String" IsL.yN IsL.yN)) rfl (by decide) (wk W IsL.tab) (W := 0) (Nat.le_of_ble_eq_true rfl) (Nat.le_of_ble_eq_true rfl) (Nat.le_refl _) (Nat.le_refl _) (hx0.1.fc X0.warmed.alike) hx0.1.is (g := (mkF m 1 #[.val (.ref x), .val (.int (Int32.ofNat i))] [.ref x])) rfl (by rw [hml]; rfl) c1 (argsL := []) (rest := []) rfl rfl (by show 2 * 0 + 0 ≤ _; decide) (hb hbytes d1) (⟨rfl, hx0.2.2.1, hx.2.2.2.2.1.cd, s1.there X0.warmed.alike hh0, hz⟩)
  obtain ⟨rfl, q2⟩ := E2
  have hh2 := q2.trans hh0
  have hx2 := hx.mv X2.warmed.alike hh2
  obtain ⟨-, k1, k2⟩ | ⟨k0, -⟩ := hx.2.2.2.2.1
  · have c3 : Steps p.tables e below (s₁.setTop (entryFrame m #[.ref x, .int (Int32.ofNat i)] 2)) (T2.setTop (mkF m 8 #[.val (.ref x), .val (.int (Int32.ofNat i))] [.ref x])) := Steps.trans g2 (by
      refine XS.ifNo X2.here hexec rfl (hb hbytes d4) rfl (i0_eq_f (by decide)) ?_
      refine XS.aloadN X2.here hexec rfl (hb hbytes d7) rfl rfl ?_
      exact Steps.refl _)
    obtain ⟨T4, X4, q4, st4⟩ := X2.hget hexec hown (wk W (.fieldLink "java/lang/String" 9 "java/lang/String" "value" "[B")) hx2.2.1 (g := (mkF m 8 #[.val (.ref x), .val (.int (Int32.ofNat i))] [.ref x])) rfl (rest := []) rfl (hb hbytes d8)
    have hh4 := q4.trans hh2
    have c5 : Steps p.tables e below (s₁.setTop (entryFrame m #[.ref x, .int (Int32.ofNat i)] 2)) (T4.setTop (mkF m 12 #[.val (.ref x), .val (.int (Int32.ofNat i))] [.int (Int32.ofNat i), .ref t])) := (c3.trans (st4 _ (Steps.refl _))).trans (by
      refine XS.iloadN X4.here hexec rfl (hb hbytes d11) rfl ?_
      exact Steps.refl _)
    obtain ⟨v6, T6, X6, E6, g6⟩ := X4.callS hexec (LChA.law l t V i (lo8 (f i)) fm) hown (wks W (staticW "java/lang/String" 495 LChA.yN)) (wk W LChA.tab) (W := 0) (Nat.le_of_ble_eq_true rfl) (Nat.le_of_ble_eq_true rfl) (Nat.le_refl _) (Nat.le_refl _) (g := (mkF m 12 #[.val (.ref x), .val (.int (Int32.ofNat i))] [.int (Int32.ofNat i), .ref t])) rfl (by rw [hml]; rfl) c5 (argsL := [.ref t, .int (Int32.ofNat i)]) (rest := []) rfl rfl (by show 2 * 0 + 0 ≤ _; decide) (hb hbytes d12) (⟨rfl, hx.2.2.2.1.mv X4.warmed.alike hh4, (k2 i hi).1, s3.there X4.warmed.alike hh4, rf⟩)
    obtain ⟨rfl, q6⟩ := E6
    rw [chr8_lo8 hr.1 (k2 i hi).2] at g6
    exact ⟨T6, some (.int (f i)), _, _, _, X6, rfl, rfl, rfl, (fun h => by cases h), ⟨rfl, q6.trans hh4⟩, fun fs hl => Steps.trans g6 (X6.ireturnOut hexec hret (narrow_ch hr.1 hr.2) (Or.inr (Or.inr (Or.inr (Or.inl rfl)))) (hb hbytes d15) hl)⟩
  · exact absurd k0 (by decide)
theorem pays {l : Launch} {R : Room} {p : Program} {e : Env} {below : List Frame} {s : State} {sargs : Array Value} {len W : Nat} (x t : Addr) (V : Cell) (n : Nat) (f : Nat → Int32) (z : Int32) (fm : Value) (i : Nat) (htab : tab.before sargs s = true) (hfr : 4 ≤ R.frames) (hlo : W + 53 ≤ R.locals) :
    Back l R p e below s sargs yN len W (fun A₁ a₁ => A₁.cells + 0 ≤ R.cells ∧ A₁.slots + 0 ≤ R.slots ∧ P x t V n f z fm i a₁ A₁.U) (fun A₁ _ v₁ B₁ => E f i v₁ A₁.U B₁.U ∧ B₁.locs = A₁.locs ++ [] ∧ B₁.cells = A₁.cells + 0 ∧ B₁.slots = A₁.slots + 0) :=
  (law l x t V n f z fm i).pays htab hfr (by omega)
end ChN
end StrChars
namespace StrChars.Road
open Jvm Sem ClassFile Op Lib Jvm.Stand Jvm.Free Jvm.Free.XT
open Jvm.Lib.Cold (StaticIs)
/-- the words of String.charAt(int), the Latin-1 road alone -/
abbrev wordsChN : List Jvm.Cond := [.code ChN.yN ChN.yB 2 (some .char), .initialized ST, .fieldLink ST 9 ST "value" "[B", .fieldLink ST 38 ST "COMPACT_STRINGS" "Z", .fieldLink ST 15 ST "coder" "B", .code IsL.yN IsL.yB 1 (some .boolean), .methodLink ST 492 IsL.yN, .declares IsL.yN, .selects ST IsL.yN IsL.yN, .instanceMethod IsL.yN,
  .methodLink ST 495 LChA.yN, .static LChA.yN, .code LChA.yN LChA.yB 2 (some .char), .initialized "java/lang/StringLatin1", .methodLink "java/lang/StringLatin1" 9 JO.Str_checkIndex.yN, .static JO.Str_checkIndex.yN, .code JO.Str_checkIndex.yN JO.Str_checkIndex.yB 2 none,
  .fieldLink ST 1053 "jdk/internal/util/Preconditions" "SIOOBE_FORMATTER" "Ljava/util/function/BiFunction;", .methodLink ST 1059 JC.PreCheck.yN, .static JC.PreCheck.yN, .code JC.PreCheck.yN JC.PreCheck.yB 3 (some .int), .initialized "jdk/internal/util/Preconditions"]
theorem tabChN_of {a : Array Value} {s : State} (h : ∀ w ∈ wordsChN, w.before a s = true) : ChN.tab.before a s = true := by
  have hp : JC.PreCheck.tab.before a s = true := unparts (wk h (.code JC.PreCheck.yN JC.PreCheck.yB 3 (some .int))) (wks h (.initialized JC.PreCheck.yN.cls :: JC.PreCheck.site))
  have qk := consq hp h
  have hk : JO.Str_checkIndex.tab.before a s = true := unparts (wk qk (.code JO.Str_checkIndex.yN JO.Str_checkIndex.yB 2 none)) (wks qk (.initialized JO.Str_checkIndex.yN.cls :: JO.Str_checkIndex.site))
  have ql := consq hk h
  have hl : LChA.tab.before a s = true := unparts (wk ql (.code LChA.yN LChA.yB 2 (some .char))) (wks ql (.initialized LChA.yN.cls :: LChA.site))
  have hi : IsL.tab.before a s = true := unparts (wk h (.code IsL.yN IsL.yB 1 (some .boolean))) (wks h (.initialized IsL.yN.cls :: IsL.site))
  have q := consq hi (consq hl h)
  exact unparts (wk q (.code ChN.yN ChN.yB 2 (some .char))) (wks q (.initialized ChN.yN.cls :: ChN.site))
theorem movedChN {Z s : State} {a0 args : Array Value} (hZ : Z.Warmed39 s.vm) (hw : ∀ d ∈ wordsChN, d.before a0 Z = true) : ∀ d ∈ wordsChN, d.before args s = true := fun d hd => by
  have t : ∀ d ∈ wordsChN, (d.onTables && d.keepsFace) = true := by decide +kernel
  exact RoadKit.mv hZ (hw d hd) (t d hd)
/-- **charAt(i) OF A LATIN-1 STRING**, i < n: the char -/
theorem chN {p : Program} {l : Launch} {e : Env} {R : Room} {s : State} {args : Array Value} {below : List Frame} {len W : Nat} {Z : State} {a0 : Array Value} {h : Heap} (hZ : Z.Warmed39 s.vm) (hw : ∀ d ∈ wordsChN, d.before a0 Z = true) {kI : Nat} (wi : (Jvm.Cond.instantiable ST kI).before a0 Z = true)
    {x t : Addr} {kb : ClassId} {cs : List Int32} {N2 z : Int32} {vs : List Value} {fm : Value} {i : Nat} {j : Int32} (E : RoadKit.Exa Z h x ST) (V : RoadKit.Fld Z h x ST "value" "[B" (.ref t)) (C : RoadKit.Fld Z h x ST "coder" "B" (.int 0)) (K : RoadKit.Arv Z h t kb .byte N2 vs (.int 0)) (hc : CodA cs 0 N2 vs) (hb : ∀ c ∈ cs, ¬ c < 0 ∧ ¬ (65535 : Int32) < c)
    (S : RoadKit.Sta Z h ST "COMPACT_STRINGS" "Z" (.int z)) (hz : ¬ z = 0) (F : RoadKit.Sta Z h "jdk/internal/util/Preconditions" "SIOOBE_FORMATTER" "Ljava/util/function/BiFunction;" fm) (rf : fm.isRef = true) (l2 : cs.length ≤ 4000) (hi : i < cs.length) (hj : j = Int32.ofNat i) (hfr : 4 ≤ R.frames) (hlo : W + 53 ≤ R.locals) :
    Back l R p e below s args (⟨"java/lang/String", "charAt", "(I)C"⟩ : MethodName) len W (fun P a => a = #[.ref x, .int j] ∧ P.U.heap = h ∧ P.cells + 0 ≤ R.cells ∧ P.slots + 0 ≤ R.slots)
      (fun P _ v B => ∃ L, (v = some (.int (cs.getD i 0)) ∧ L = [] ∧ B.U.heap = h) ∧ B.locs = P.locs ++ L ∧ B.cells = P.cells + 0 ∧ B.slots = P.slots + 0) := by
  subst hj
  intro m meth c P g ig mk a X hg hsize hdg hW hn hp'
  obtain ⟨rfl, rfl, r1, r2⟩ := hp'
  have al : Z.vm.Alike P.U.vm := hZ.alike.trans X.warmed.alike
  obtain ⟨A, hx⟩ := txt_of wi al E V C K hc hb l2
  obtain ⟨v, B, X', ⟨⟨hv, hh⟩, hl, hk, hs⟩, st⟩ := ChN.pays x t A cs.length (fun j => cs.getD j 0) z fm i (tabChN_of (movedChN hZ hw)) hfr hlo m meth c P g ig mk _ X hg hsize hdg hW hn ⟨r1, r2, rfl, hx, hi, sta_is al S, hz, sta_is al F, rf⟩
  exact ⟨v, B, X', ⟨[], ⟨hv, rfl, hh⟩, hl, hk, hs⟩, st⟩
/-- what backV says of its String, as the contracts of this text ask it: cs's low bytes, coder 0 -/
theorem codOf {cs : List Int32} {n : Nat} (hn : cs.length = n) (hb : ∀ c ∈ cs, ¬ 255 < c) : CodA cs 0 (Int32.ofNat n) ((cs.map lo8).map Value.int) := Or.inl ⟨rfl, by rw [hn], by simp [List.map_map, Function.comp_def], hb⟩
end StrChars.Road
end Jvm.Pilot.@@N@@
namespace Jvm.Pilot.@@N@@
namespace W
open Jvm Jvm.ClassFile Sem Op Lib Jvm.Free Jvm.Stand Jvm.LawKit Jvm.RoadKit Bundle
/-! the run goes on from here and ends as P says -/
def Go (p : Program) (e : Env) (below : List Frame) (P : Outcome → State → Prop) (T : State) (f : JFrame) : Prop :=
  ∃ t o, Steps p.tables e below (T.setTop f) t ∧ t.status = .running ∧ Ended t below o ∧ P o t
theorem Go.of {p : Program} {e : Env} {below : List Frame} {P : Outcome → State → Prop} {T T' : State} {f f' : JFrame}
    (h : ∀ target, Steps p.tables e below (T'.setTop f') target → Steps p.tables e below (T.setTop f) target) (k : Go p e below P T' f') : Go p e below P T f := by
  obtain ⟨t, o, h1, h2⟩ := k
  exact ⟨t, o, h t h1, h2⟩
theorem Go.cast {p : Program} {e : Env} {below : List Frame} {P : Outcome → State → Prop} {T : State} {f f' : JFrame} (q : f = f') (k : Go p e below P T f') : Go p e below P T f := q ▸ k
/-! what has moved since h0: the old objects ws at the most, and new ones -/
def Mv (h0 h : Heap) (ws : List Addr) (L : List Loc) : Prop := Keep h0 h ws ∧ ∀ y ∈ L, y.base ∈ ws ∨ h0.size ≤ y.base
section Mvs
variable {h0 h h' : Heap} {ws ws' : List Addr} {L L' : List Loc} {a : Addr} {sl : Nat} {v : Value}
theorem Mv.refl (h : Heap) (ws : List Addr) : Mv h h ws [] := ⟨Keep.refl h ws, fun _ q => nomatch q⟩
theorem Mv.le (M : Mv h0 h ws L) : h0.size ≤ h.size := M.1.1
theorem Mv.ext (M : Mv h0 h ws L) (E : Ext h h') : Mv h0 h' ws L := ⟨M.1.ext E, M.2⟩
theorem Mv.wr (M : Mv h0 h ws L) (W : Wr h h' a sl v) (q : a ∈ ws ∨ h0.size ≤ a) : Mv h0 h' ws (L ++ [⟨a, sl⟩]) :=
  ⟨M.1.wr W q, fun y hy => (List.mem_append.mp hy).elim (M.2 y) fun z => by cases List.mem_singleton.mp z; exact q⟩
theorem Mv.app (M : Mv h0 h ws L) (M' : Mv h h' ws' L') (q : ∀ x ∈ ws', x ∈ ws ∨ h0.size ≤ x) : Mv h0 h' ws (L ++ L') :=
  ⟨M.1.trans M'.1 q, fun y hy => (List.mem_append.mp hy).elim (M.2 y) fun z => (M'.2 y z).elim (q _) fun r => Or.inr (Nat.le_trans M.1.1 r)⟩
theorem Mv.app0 (M : Mv h0 h ws L) (M' : Mv h h' [] L') : Mv h0 h' ws (L ++ L') := M.app M' fun _ q => nomatch q
theorem keepE (E : Ext h h') : Keep h h' [] := (Keep.refl h []).ext E
theorem Mv.fr (M : Mv h0 h [] L) : Fr h0.size L := fun y hy => (M.2 y hy).elim (fun q => nomatch q) id
theorem Mv.ofFr {n0 : Nat} (K : Keep h0 h ws) (F : ∀ y ∈ L, y.base ∈ ws) : Mv h0 h ws L := ⟨K, fun y hy => Or.inl (F y hy)⟩
end Mvs
theorem StaKeep {Z : State} {h h' : Heap} {C n d : String} {v : Value} {ws : List Addr} (F : Sta Z h C n d v) (K : Keep h h' ws) (q : ∀ x ∈ ws, ∀ c : Cell, h[x]? = some c → c.vm.isStatics = false) : Sta Z h' C n d v := by
  obtain ⟨cf, i, k, f, st, cell, h1, h2, h3, h4, h5, h6, h7⟩ := F
  refine ⟨cf, i, k, f, st, cell, h1, h2, h3, h4, K.2.1 _ _ h5 (fun z => ?_), h6, h7⟩
  rw [q st z cell h5] at h6; cases h6
theorem staExa {Z : State} {h : Heap} {a : Addr} {C : String} (F : Exa Z h a C) : ∀ c : Cell, h[a]? = some c → c.vm.isStatics = false := fun c hc => by
  obtain ⟨c', _, h1, -, -, h4, -⟩ := F; cases h1.symm.trans hc; exact h4
theorem staArv {Z : State} {h : Heap} {a : Addr} {k : ClassId} {ty : FieldType} {n : Int32} {vs : List Value} {d : Value} (F : Arv Z h a k ty n vs d) : ∀ c : Cell, h[a]? = some c → c.vm.isStatics = false := fun c hc => by
  obtain ⟨c', A, -⟩ := F; cases A.1.symm.trans hc; exact A.plain
/-! a contract -/
def MeetsW (l : Launch) (Z : State) (y : MethodName) (bytes : ByteArray) (maxL : Nat) (ret : Option FieldType) (rm : Room) (as : Array Value) (h0 : Heap) (Q : Option Value → Heap → List Loc → Prop) : Prop :=
  ∀ ws : List Jvm.Cond, MetFree l y (head1 (Jvm.Cond.code y bytes maxL ret :: ws) rm) (fun a U => a = as ∧ Z.Warmed39 U.vm ∧ U.heap = h0) (fun _ _ _ _ _ => True)
    (fun _ U o U' => ∃ v L, o = .returned v ∧ Q v U'.heap L ∧ FrameEnd U o U' L rm.cells rm.slots)
def Pu (h : Heap) (S : Option Value → Prop) (v : Option Value) (h' : Heap) (L : List Loc) : Prop := L = [] ∧ h' = h ∧ S v
theorem MeetsW.of {l : Launch} {Z : State} {y : MethodName} {bytes : ByteArray} {maxL : Nat} {ret : Option FieldType} {rm : Room} {as : Array Value} {h0 : Heap} {Q : Option Value → Heap → List Loc → Prop} (hpl : plainFor y = true)
    (body : ∀ (p : Program) (e : Env) (s : State) (m : MethodId) (below : List Frame) (meth : Method) (c : Code) (s₁ : State) (P : Outcome → State → Prop), p.tables.exec = Jvm.exec → c.code = bytes → c.maxLocals = maxL → Z.Warmed39 s.vm → s.vm.findClass y.cls = some m.cls → meth.name = y.name → meth.sig.returnType = ret → meth.locks = false →
      Stand p l e rm s m as below meth c s₁ [] 0 0 → s₁.heap = h0 → (∀ v t L, Q v t.heap L → FrameEnd s (.returned v) t L rm.cells rm.slots → P (.returned v) t) → Go p e below P s₁ (entryFrame m as maxL)) : MeetsW l Z y bytes maxL ret rm as h0 Q := by
  intro ws
  refine MetFree.of_bodySF hpl hisR ?_
  intro p e s m args below meth c s₁ Bd hml0 hP hK
  obtain ⟨rfl, hZ, hh⟩ := hP
  exact body p e s m below meth c s₁ _ Bd.exec Bd.bytes hml0 hZ (findClass_of_methodNamed Bd.named) (name_of_methodNamed Bd.named Bd.method).1 Bd.returns (BodyLoose.notSynchronized Bd) (Stand.of_body Bd) (by rw [← hh, Bd.state]; rfl) (fun v t L hq hf => ⟨v, L, rfl, hq, hf⟩)
def MeetsI (l : Launch) (Z : State) (y : MethodName) (bytes : ByteArray) (maxL : Nat) (ret : Option FieldType) (rm : Room) (as : Array Value) (h0 : Heap) (Q : Option Value → Heap → List Loc → Prop) : Prop :=
  ∀ ws : List Jvm.Cond, MetFree l y (head1 (Jvm.Cond.code y bytes maxL ret :: ws) rm) (fun a U => a = as ∧ Z.Warmed39 U.vm ∧ U.heap = h0) (fun _ _ _ _ _ => True)
    (fun _ U o U' => ∃ v L, o = .returned v ∧ Q v U'.heap L ∧ ReturnedEndW U o U' L rm.cells rm.slots)
theorem MeetsI.of {l : Launch} {Z : State} {y : MethodName} {bytes : ByteArray} {maxL : Nat} {ret : Option FieldType} {rm : Room} {as : Array Value} {h0 : Heap} {Q : Option Value → Heap → List Loc → Prop} (hpl : plainFor y = true)
    (body : ∀ (p : Program) (e : Env) (s : State) (m : MethodId) (below : List Frame) (meth : Method) (c : Code) (s₁ : State) (P : Outcome → State → Prop), p.tables.exec = Jvm.exec → c.code = bytes → c.maxLocals = maxL → Z.Warmed39 s.vm → s.vm.findClass y.cls = some m.cls → meth.name = y.name → meth.sig.returnType = ret → meth.locks = false →
      Stand p l e rm (s.setVm s.vm) m as below meth c s₁ [] 0 0 → s₁.heap = h0 → s.Since s.vm h0.size → (∀ v t L, Q v t.heap L → ReturnedEndW s (.returned v) t L rm.cells rm.slots → P (.returned v) t) → Go p e below P s₁ (entryFrame m as maxL)) : MeetsI l Z y bytes maxL ret rm as h0 Q := by
  intro ws
  refine MetFree.of_bodySF hpl hisR ?_
  intro p e s m args below meth c s₁ Bd hml0 hP hK
  obtain ⟨rfl, hZ, hh⟩ := hP
  exact body p e s m below meth c s₁ _ Bd.exec Bd.bytes hml0 hZ (findClass_of_methodNamed Bd.named) (name_of_methodNamed Bd.named Bd.method).1 Bd.returns (BodyLoose.notSynchronized Bd) (Stand.of_body Bd) (by rw [← hh, Bd.state]; rfl) ((State.WarmedH.refl s).since _) (fun v t L hq hf => ⟨v, L, rfl, hq, hf⟩)
/-! a call that comes back -/
def BK (l : Launch) (R : Room) (p : Program) (e : Env) (below : List Frame) (s : State) (args : Array Value) (y : MethodName) (W : Nat) (as : Array Value) (h : Heap) (C S : Nat) (Q : Option Value → Heap → List Loc → Prop) : Prop :=
  Back l R p e below s args y 3 W (fun A a => a = as ∧ A.U.heap = h ∧ A.cells + C ≤ R.cells ∧ A.slots + S ≤ R.slots)
    (fun A _ v B => ∃ L, Q v B.U.heap L ∧ B.locs = A.locs ++ L ∧ B.cells = A.cells + C ∧ B.slots = A.slots + S)
section Calls
variable {p : Program} {l : Launch} {e : Env} {R : Room} {s : State} {m : MethodId} {args : Array Value} {below : List Frame} {meth : Method} {c : Code} {T : State} {locs : List Loc} {cells slots : Nat} {Z : State} {a0 : Array Value} {h : Heap} {P : Outcome → State → Prop}
theorem standUp {C S : Nat} (X : Stand p l e R s m args below meth c T locs cells slots) (hc : cells ≤ C) (hs : slots ≤ S) : Stand p l e R s m args below meth c T locs C S :=
  ⟨X.admits, X.cas, X.clock, X.frames, X.room, X.hears, X.method, X.code, X.here, X.tail, X.warmed, X.limits, X.bytes, X.same.mono hc hs⟩
theorem MeetsW.bk {y : MethodName} {bytes : ByteArray} {maxL : Nat} {ret : Option FieldType} {rm : Room} {as : Array Value} {Q : Option Value → Heap → List Loc → Prop} {W : Nat} (M : MeetsW l Z y bytes maxL ret rm as h Q) (hZ : Z.Warmed39 s.vm)
    (wc : (Jvm.Cond.code y bytes maxL ret).before a0 Z = true) (wz : (Jvm.Cond.initialized y.cls).before a0 Z = true) (hf : rm.frames + 1 ≤ R.frames) (hl : W + (maxL + 11) + rm.locals ≤ R.locals) : BK l R p e below s args y W as h rm.cells rm.slots Q :=
  backOf (M []) hZ wc wz hf hl
theorem BK.mono {y : MethodName} {W : Nat} {as : Array Value} {C S : Nat} {Q Q' : Option Value → Heap → List Loc → Prop} (B : BK l R p e below s args y W as h C S Q) (q : ∀ v h' L, Q v h' L → Q' v h' L) : BK l R p e below s args y W as h C S Q' :=
  Back.mono B (fun _ _ z => z) (fun _ _ _ _ _ ⟨L, z, r⟩ => ⟨L, q _ _ _ z, r⟩)
theorem goS (X : Stand p l e R s m args below meth c T locs cells slots) (hx : p.tables.exec = Jvm.exec) (hZ : Z.Warmed39 s.vm) {own : String} {index : Nat} {y : MethodName} {bytes : ByteArray} {maxL : Nat} {ret : Option FieldType} (hown : s.vm.findClass own = some m.cls)
    (w1 : (Jvm.Cond.methodLink own index y).before a0 Z = true) (w2 : (Jvm.Cond.static y).before a0 Z = true) (w3 : (Jvm.Cond.initialized y.cls).before a0 Z = true) (w4 : (Jvm.Cond.code y bytes maxL ret).before a0 Z = true) (hy : y.cls ≠ "java/lang/invoke/MethodHandle" ∧ y.cls ≠ "java/lang/invoke/VarHandle")
    {W C S : Nat} {as : Array Value} {Q : Option Value → Heap → List Loc → Prop} (B : BK l R p e below s args y W as h C S Q) (eT : T.heap = h) {pc : Nat} {Ls : Array Slot} {st argsL rest : List Value} (hml : Ls.size = c.maxLocals)
    (hlen : ∀ sig, parseMethodDescriptor y.desc = some sig → argsL.length = sig.parameters.length) (hst : st = argsL.reverse ++ rest) (has : argsL.toArray = as) (hd : decode c.code pc = .ok (.invokestatic index, 3)) (hW : (rest.map fun v => v.category).sum ≤ W) (hc : cells + C ≤ R.cells) (hs : slots + S ≤ R.slots)
    (k : ∀ v T' L, Stand p l e R s m args below meth c T' (locs ++ L) (cells + C) (slots + S) → Q v T'.heap L → Go p e below P T' (mkF m (pc + 3) Ls (v.toList ++ rest))) : Go p e below P T (mkF m pc Ls st) := by
  obtain ⟨v, _, ⟨T', L', k', n'⟩, -, X', ⟨Lc, hQ, l1, l2, l3⟩, stp⟩ := Jvm.LawKit.callS X hx hown (mvT hZ w1) (mvT hZ w2) (mvT hZ w3) (mvT hZ w4) hy B (g := mkF m pc Ls st) rfl hml hlen hst (by show 2 * 0 + _ ≤ _; simpa using hW) hd (fun _ _ => ⟨has, eT, hc, hs⟩)
  dsimp only [Pt.U, Pt.locs, Pt.cells, Pt.slots] at X' l1 l2 l3 stp hQ
  subst l1 l2 l3
  exact Go.of stp (k v T' Lc X' hQ)
theorem goI (X : Stand p l e R s m args below meth c T locs cells slots) (hx : p.tables.exec = Jvm.exec) (hZ : Z.Warmed39 s.vm) {own : String} {index : Nat} {y : MethodName} {bytes : ByteArray} {maxL : Nat} (hn : y.name = "<init>") (hown : s.vm.findClass own = some m.cls)
    (w1 : (Jvm.Cond.methodLink own index y).before a0 Z = true) (w2 : (Jvm.Cond.instanceMethod y).before a0 Z = true) (w4 : (Jvm.Cond.code y bytes maxL none).before a0 Z = true) (hy : y.cls ≠ "java/lang/invoke/MethodHandle" ∧ y.cls ≠ "java/lang/invoke/VarHandle")
    {W C S : Nat} {as : Array Value} {Q : Option Value → Heap → List Loc → Prop} (B : BK l R p e below s args y W as h C S Q) (eT : T.heap = h) {pc : Nat} {Ls : Array Slot} {a : Addr} {st argsL rest : List Value} (hml : Ls.size = c.maxLocals)
    (hlen : ∀ sig, parseMethodDescriptor y.desc = some sig → argsL.length = sig.parameters.length) (hst : st = argsL.reverse ++ .ref a :: rest) (has : (.ref a :: argsL).toArray = as) (hd : decode c.code pc = .ok (.invokespecial index, 3)) (hW : (rest.map fun v => v.category).sum ≤ W) (hc : cells + C ≤ R.cells) (hs : slots + S ≤ R.slots)
    (k : ∀ v T' L, Stand p l e R s m args below meth c T' (locs ++ L) (cells + C) (slots + S) → Q v T'.heap L → Go p e below P T' (mkF m (pc + 3) Ls (v.toList ++ rest))) : Go p e below P T (mkF m pc Ls st) := by
  obtain ⟨v, _, ⟨T', L', k', n'⟩, -, X', ⟨Lc, hQ, l1, l2, l3⟩, stp⟩ := X.specialBack hx hn hown (mvT hZ w1) (mvT hZ w2) (mvT hZ w4) hy B (g := mkF m pc Ls st) rfl hml (Steps.refl _) hlen hst (by show 2 * 0 + _ ≤ _; simpa using hW) hd (fun _ _ => ⟨has, eT, hc, hs⟩)
  dsimp only [Pt.U, Pt.locs, Pt.cells, Pt.slots] at X' l1 l2 l3 stp hQ
  subst l1 l2 l3
  exact Go.of (fun _ z => stp.trans z) (k v T' Lc X' hQ)
theorem goV (X : Stand p l e R s m args below meth c T locs cells slots) (hx : p.tables.exec = Jvm.exec) (hZ : Z.Warmed39 s.vm) {own K : String} {index : Nat} {y z : MethodName} (hown : s.vm.findClass own = some m.cls)
    (w1 : (Jvm.Cond.methodLink own index y).before a0 Z = true) (w2 : (Jvm.Cond.declares y).before a0 Z = true) (hnf : NotFace s y) (w3 : (Jvm.Cond.selects K y z).before a0 Z = true) (w4 : (Jvm.Cond.instanceMethod z).before a0 Z = true) (hy : y.cls ≠ "java/lang/invoke/MethodHandle" ∧ y.cls ≠ "java/lang/invoke/VarHandle")
    {W C S : Nat} {as : Array Value} {Q : Option Value → Heap → List Loc → Prop} (B : BK l R p e below s args z W as h C S Q) (eT : T.heap = h) {b : Addr} (E : Exa Z h b K) {pc : Nat} {Ls : Array Slot} {st argsL rest : List Value} (hml : Ls.size = c.maxLocals)
    (hlen : ∀ sig, parseMethodDescriptor y.desc = some sig → argsL.length = sig.parameters.length) (hst : st = argsL.reverse ++ .ref b :: rest) (has : (.ref b :: argsL).toArray = as) (hd : decode c.code pc = .ok (.invokevirtual index, 3)) (hW : (rest.map fun v => v.category).sum ≤ W) (hc : cells + C ≤ R.cells) (hs : slots + S ≤ R.slots)
    (k : ∀ v T' L, Stand p l e R s m args below meth c T' (locs ++ L) (cells + C) (slots + S) → Q v T'.heap L → Go p e below P T' (mkF m (pc + 3) Ls (v.toList ++ rest))) : Go p e below P T (mkF m pc Ls st) := by
  obtain ⟨cq, kq, qa, -, qc⟩ := isOf hZ eT E
  obtain ⟨v, _, ⟨T', L', k', n'⟩, -, X', ⟨Lc, hQ, l1, l2, l3⟩, stp⟩ := X.virtualBack hx hown (mvT hZ w1) (mvT hZ w2) hnf (mvT hZ w3) (mvT hZ w4) hy B qa qc (g := mkF m pc Ls st) rfl hml (Steps.refl _) hlen hst (by show 2 * 0 + _ ≤ _; simpa using hW) hd (fun _ _ => ⟨has, eT, hc, hs⟩)
  dsimp only [Pt.U, Pt.locs, Pt.cells, Pt.slots] at X' l1 l2 l3 stp hQ
  subst l1 l2 l3
  exact Go.of (fun _ z => stp.trans z) (k v T' Lc X' hQ)
theorem goP (X : Stand p l e R s m args below meth c T locs cells slots) (hx : p.tables.exec = Jvm.exec) (hZ : Z.Warmed39 s.vm) {own : String} {index n : Nat} {y : MethodName} {bytes : ByteArray} {maxL : Nat} {ret : Option FieldType} (hown : s.vm.findClass own = some m.cls)
    (w1 : (Jvm.Cond.methodLink own index y).before a0 Z = true) (w2 : (Jvm.Cond.instanceMethod y).before a0 Z = true) (w3 : (Jvm.Cond.privateMethod y).before a0 Z = true) (w4 : (Jvm.Cond.code y bytes maxL ret).before a0 Z = true) (wi : (Jvm.Cond.instantiable y.cls n).before a0 Z = true) (hy : y.cls ≠ "java/lang/invoke/MethodHandle" ∧ y.cls ≠ "java/lang/invoke/VarHandle")
    {W C S : Nat} {as : Array Value} {Q : Option Value → Heap → List Loc → Prop} (B : BK l R p e below s args y W as h C S Q) (eT : T.heap = h) {b : Addr} {K : String} (E : Exa Z h b K) {pc : Nat} {Ls : Array Slot} {st argsL rest : List Value} (hml : Ls.size = c.maxLocals)
    (hlen : ∀ sig, parseMethodDescriptor y.desc = some sig → argsL.length = sig.parameters.length) (hst : st = argsL.reverse ++ .ref b :: rest) (has : (.ref b :: argsL).toArray = as) (hd : decode c.code pc = .ok (.invokevirtual index, 3)) (hW : (rest.map fun v => v.category).sum ≤ W) (hc : cells + C ≤ R.cells) (hs : slots + S ≤ R.slots)
    (k : ∀ v T' L, Stand p l e R s m args below meth c T' (locs ++ L) (cells + C) (slots + S) → Q v T'.heap L → Go p e below P T' (mkF m (pc + 3) Ls (v.toList ++ rest))) : Go p e below P T (mkF m pc Ls st) := by
  have hp := Cond.privateMethod_at (mvP hZ w3 (args := args))
  obtain ⟨ci, ki, i1, i2, i3, i4, i5, -⟩ := Cond.instantiable_spec (mvT hZ wi (args := args))
  have hsel : (Jvm.Cond.selects y.cls y y).before args s = true := Jvm.Stand.selects_self_of_private i1 i2 (Bool.or_eq_false_iff.mp i4).1 hp (mvT hZ w2) hy
  obtain ⟨cq, q1, q2⟩ := E.cell
  obtain ⟨v, _, ⟨T', L', k', n'⟩, -, X', ⟨Lc, hQ, l1, l2, l3⟩, stp⟩ := X.privateBack hx hown (mvT hZ w1) (mvT hZ w2) hsel hp (mvT hZ w4) hy B (g := mkF m pc Ls st) rfl hml (Steps.refl _) (by rw [eT]; exact q1) q2 hlen hst (by show 2 * 0 + _ ≤ _; simpa using hW) hd (fun _ _ => ⟨has, eT, hc, hs⟩)
  dsimp only [Pt.U, Pt.locs, Pt.cells, Pt.slots] at X' l1 l2 l3 stp hQ
  subst l1 l2 l3
  exact Go.of (fun _ z => stp.trans z) (k v T' Lc X' hQ)
/-! pure: what a contract 'Pu' gives -/
theorem standNil {L : List Loc} (X : Stand p l e R s m args below meth c T (locs ++ L) (cells + 0) (slots + 0)) (q : L = []) : Stand p l e R s m args below meth c T locs cells slots := by
  subst q; rw [List.append_nil] at X; exact X
/-! the end -/
theorem goRet0 (X : Stand p l e R s m args below meth c T locs cells slots) (hx : p.tables.exec = Jvm.exec) (hret : meth.sig.returnType = none) (hlk : meth.locks = false) {pc : Nat} {Ls : Array Slot} {C S : Nat} {Q : Option Value → Heap → List Loc → Prop}
    (hd : decode c.code pc = .ok (.return_, 1)) (K : ∀ v t L, Q v t.heap L → FrameEnd s (.returned v) t L C S → P (.returned v) t) (hc : cells ≤ C) (hs : slots ≤ S) (eT : T.heap = h) (hq : Q none h locs) : Go p e below P T (mkF m pc Ls []) := by
  obtain ⟨fs, hr, hrun, hended, hW, hsame⟩ := X.leave (v := none) (fun _ => rfl) hlk
  exact ⟨_, _, X.returnOut hx hret hd hr, hrun, hended, K _ _ _ (by rw [← eT] at hq; exact hq) ⟨⟨_, rfl⟩, hW, hsame.mono hc hs⟩⟩
theorem goRet (X : Stand p l e R s m args below meth c T locs cells slots) (hx : p.tables.exec = Jvm.exec) {t : FieldType} (hret : meth.sig.returnType = some t) (hlk : meth.locks = false) {pc : Nat} {Ls : Array Slot} {C S : Nat} {w : Value} {rest : List Value} {i : Instr} {Q : Option Value → Heap → List Loc → Prop}
    (hn : narrow t w = w) (hi : (i = .ireturn ∧ (t = .int ∨ t = .boolean ∨ t = .byte ∨ t = .char ∨ t = .short) ∧ ∃ z, w = .int z) ∨ (i = .lreturn ∧ t = .long ∧ ∃ z, w = .long z) ∨ (i = .dreturn ∧ t = .double ∧ ∃ z, w = .double z) ∨ (i = .freturn ∧ t = .float ∧ ∃ z, w = .float z) ∨ (i = .areturn ∧ t.isReference = true ∧ w.isRef = true))
    (hd : decode c.code pc = .ok (i, 1)) (K : ∀ v t L, Q v t.heap L → FrameEnd s (.returned v) t L C S → P (.returned v) t) (hc : cells ≤ C) (hs : slots ≤ S) (eT : T.heap = h) (hq : Q (some w) h locs) : Go p e below P T (mkF m pc Ls (w :: rest)) := by
  obtain ⟨fs, hr, hrun, hended, hW, hsame⟩ := X.leave (v := some w) (fun q => by rw [hret] at q; cases q) hlk
  exact ⟨_, _, retOut X hx hret hn hi hd hr, hrun, hended, K _ _ _ (by rw [← eT] at hq; exact hq) ⟨⟨_, rfl⟩, hW, hsame.mono hc hs⟩⟩
theorem goRetI (X : Stand p l e R s m args below meth c T locs cells slots) (hx : p.tables.exec = Jvm.exec) {t : FieldType} (hret : meth.sig.returnType = some t) (hlk : meth.locks = false) {pc : Nat} {Ls : Array Slot} {C S : Nat} {z : Int32} {rest : List Value} {Q : Option Value → Heap → List Loc → Prop}
    (hn : narrow t (.int z) = .int z) (ht : t = .int ∨ t = .boolean ∨ t = .byte ∨ t = .char ∨ t = .short) (hd : decode c.code pc = .ok (.ireturn, 1)) (K : ∀ v t L, Q v t.heap L → FrameEnd s (.returned v) t L C S → P (.returned v) t) (hc : cells ≤ C) (hs : slots ≤ S) (eT : T.heap = h) (hq : Q (some (.int z)) h locs) : Go p e below P T (mkF m pc Ls (.int z :: rest)) :=
  goRet X hx hret hlk hn (Or.inl ⟨rfl, ht, z, rfl⟩) hd K hc hs eT hq
theorem goRetJ (X : Stand p l e R s m args below meth c T locs cells slots) (hx : p.tables.exec = Jvm.exec) (hret : meth.sig.returnType = some .long) (hlk : meth.locks = false) {pc : Nat} {Ls : Array Slot} {C S : Nat} {z : Int64} {rest : List Value} {Q : Option Value → Heap → List Loc → Prop}
    (hd : decode c.code pc = .ok (.lreturn, 1)) (K : ∀ v t L, Q v t.heap L → FrameEnd s (.returned v) t L C S → P (.returned v) t) (hc : cells ≤ C) (hs : slots ≤ S) (eT : T.heap = h) (hq : Q (some (.long z)) h locs) : Go p e below P T (mkF m pc Ls (.long z :: rest)) :=
  goRet X hx hret hlk rfl (Or.inr (Or.inl ⟨rfl, rfl, z, rfl⟩)) hd K hc hs eT hq
theorem goRetR (X : Stand p l e R s m args below meth c T locs cells slots) (hx : p.tables.exec = Jvm.exec) {t : FieldType} (hret : meth.sig.returnType = some t) (ht : t.isReference = true) (hlk : meth.locks = false) {pc : Nat} {Ls : Array Slot} {C S : Nat} {w : Value} {rest : List Value} {Q : Option Value → Heap → List Loc → Prop}
    (hw : w.isRef = true) (hn : narrow t w = w) (hd : decode c.code pc = .ok (.areturn, 1)) (K : ∀ v t L, Q v t.heap L → FrameEnd s (.returned v) t L C S → P (.returned v) t) (hc : cells ≤ C) (hs : slots ≤ S) (eT : T.heap = h) (hq : Q (some w) h locs) : Go p e below P T (mkF m pc Ls (w :: rest)) :=
  goRet X hx hret hlk hn (Or.inr (Or.inr (Or.inr (Or.inr ⟨rfl, ht, hw⟩)))) hd K hc hs eT hq
/-! the wide end: where a String constant may have been interned -/
theorem goRetW {vm1 : Vm} {k1 : Nat} (X : Stand p l e R (s.setVm vm1) m args below meth c T locs cells slots) (hx : p.tables.exec = Jvm.exec) (hS : s.Since vm1 k1) (hk : k1 ≤ h.size) {t : FieldType} (hret : meth.sig.returnType = some t) (hlk : meth.locks = false) {pc : Nat} {Ls : Array Slot} {C S : Nat} {w : Value} {rest : List Value} {i : Instr} {Q : Option Value → Heap → List Loc → Prop}
    (hn : narrow t w = w) (hi : (i = .ireturn ∧ (t = .int ∨ t = .boolean ∨ t = .byte ∨ t = .char ∨ t = .short) ∧ ∃ z, w = .int z) ∨ (i = .lreturn ∧ t = .long ∧ ∃ z, w = .long z) ∨ (i = .dreturn ∧ t = .double ∧ ∃ z, w = .double z) ∨ (i = .freturn ∧ t = .float ∧ ∃ z, w = .float z) ∨ (i = .areturn ∧ t.isReference = true ∧ w.isRef = true))
    (hd : decode c.code pc = .ok (i, 1)) (K : ∀ v t L, Q v t.heap L → ReturnedEndW s (.returned v) t L C S → P (.returned v) t) (hc : cells ≤ C) (hs : slots ≤ S) (eT : T.heap = h) (hq : Q (some w) h locs) : Go p e below P T (mkF m pc Ls (w :: rest)) := by
  obtain ⟨fs, hr, hrun, hended, h1, h2, h3, h4⟩ := X.leaveW hS (by rw [eT]; exact hk) (v := some w) (fun q => by rw [hret] at q; cases q) hlk
  exact ⟨_, _, retOut X hx hret hn hi hd hr, hrun, hended, K _ _ _ (by rw [← eT] at hq; exact hq) ⟨h1, h2, h3, h4.mono hc hs⟩⟩
theorem goRetIW {vm1 : Vm} {k1 : Nat} (X : Stand p l e R (s.setVm vm1) m args below meth c T locs cells slots) (hx : p.tables.exec = Jvm.exec) (hS : s.Since vm1 k1) (hk : k1 ≤ h.size) {t : FieldType} (hret : meth.sig.returnType = some t) (hlk : meth.locks = false) {pc : Nat} {Ls : Array Slot} {C S : Nat} {z : Int32} {rest : List Value} {Q : Option Value → Heap → List Loc → Prop}
    (hn : narrow t (.int z) = .int z) (ht : t = .int ∨ t = .boolean ∨ t = .byte ∨ t = .char ∨ t = .short) (hd : decode c.code pc = .ok (.ireturn, 1)) (K : ∀ v t L, Q v t.heap L → ReturnedEndW s (.returned v) t L C S → P (.returned v) t) (hc : cells ≤ C) (hs : slots ≤ S) (eT : T.heap = h) (hq : Q (some (.int z)) h locs) : Go p e below P T (mkF m pc Ls (.int z :: rest)) :=
  goRetW X hx hS hk hret hlk hn (Or.inl ⟨rfl, ht, z, rfl⟩) hd K hc hs eT hq
theorem goRetRW {vm1 : Vm} {k1 : Nat} (X : Stand p l e R (s.setVm vm1) m args below meth c T locs cells slots) (hx : p.tables.exec = Jvm.exec) (hS : s.Since vm1 k1) (hk : k1 ≤ h.size) {t : FieldType} (hret : meth.sig.returnType = some t) (ht : t.isReference = true) (hlk : meth.locks = false) {pc : Nat} {Ls : Array Slot} {C S : Nat} {w : Value} {rest : List Value} {Q : Option Value → Heap → List Loc → Prop}
    (hw : w.isRef = true) (hn : narrow t w = w) (hd : decode c.code pc = .ok (.areturn, 1)) (K : ∀ v t L, Q v t.heap L → ReturnedEndW s (.returned v) t L C S → P (.returned v) t) (hc : cells ≤ C) (hs : slots ≤ S) (eT : T.heap = h) (hq : Q (some w) h locs) : Go p e below P T (mkF m pc Ls (w :: rest)) :=
  goRetW X hx hS hk hret hlk hn (Or.inr (Or.inr (Or.inr (Or.inr ⟨rfl, ht, hw⟩)))) hd K hc hs eT hq
theorem goRet0W {vm1 : Vm} {k1 : Nat} (X : Stand p l e R (s.setVm vm1) m args below meth c T locs cells slots) (hx : p.tables.exec = Jvm.exec) (hS : s.Since vm1 k1) (hk : k1 ≤ h.size) (hret : meth.sig.returnType = none) (hlk : meth.locks = false) {pc : Nat} {Ls : Array Slot} {C S : Nat} {Q : Option Value → Heap → List Loc → Prop}
    (hd : decode c.code pc = .ok (.return_, 1)) (K : ∀ v t L, Q v t.heap L → ReturnedEndW s (.returned v) t L C S → P (.returned v) t) (hc : cells ≤ C) (hs : slots ≤ S) (eT : T.heap = h) (hq : Q none h locs) : Go p e below P T (mkF m pc Ls []) := by
  obtain ⟨fs, hr, hrun, hended, h1, h2, h3, h4⟩ := X.leaveW hS (by rw [eT]; exact hk) (v := none) (fun _ => rfl) hlk
  exact ⟨_, _, X.returnOut hx hret hd hr, hrun, hended, K _ _ _ (by rw [← eT] at hq; exact hq) ⟨h1, h2, h3, h4.mono hc hs⟩⟩
theorem lremM {g : JFrame} {target : State} (X : Stand p l e R s m args below meth c T locs cells slots) (hx : p.tables.exec = Jvm.exec) (hg : g.method = m) {x y : Int64} {rest : List Value} (hd : decode c.code g.pc = .ok (.lrem, 1)) (hs : g.stack = .long y :: .long x :: rest) (hy : y ≠ 0)
    (hr : Steps p.tables e below (T.setTop { g with pc := g.pc + 1, stack := .long (x % y) :: rest }) target) : Steps p.tables e below (T.setTop g) target := by
  have q : x - x / y * y = x % y := lrem_mod x y
  exact XS.lrem X.here hx hg hd hs hy (by rw [q]; exact hr)
end Calls
theorem refcat {v : Value} (h : v.isRef = true) : v.category = 1 := by rcases ref_cases h with rfl | ⟨a, rfl⟩ <;> rfl
theorem narref {t : FieldType} {v : Value} (h : v.isRef = true) : narrow t v = v := by rcases ref_cases h with rfl | ⟨a, rfl⟩ <;> cases t <;> rfl
theorem fitrefO {C : String} {v : Value} (h : v.isRef = true) : fits (.object C) v = true := by rcases ref_cases h with rfl | ⟨a, rfl⟩ <;> rfl
theorem fitrefA {t : FieldType} {v : Value} (h : v.isRef = true) : fits (.array t) v = true := by rcases ref_cases h with rfl | ⟨a, rfl⟩ <;> rfl
/-! booleans -/
def bi (φ : Prop) [Decidable φ] : Int32 := if φ then 1 else 0
theorem bi_t {φ : Prop} [Decidable φ] (h : φ) : bi φ = 1 := if_pos h
theorem bi_f {φ : Prop} [Decidable φ] (h : ¬ φ) : bi φ = 0 := if_neg h
theorem bi_ne {φ : Prop} [Decidable φ] (h : φ) : ¬ bi φ = 0 := by rw [bi_t h]; decide
theorem narrow_bi {φ : Prop} [Decidable φ] : narrow .boolean (.int (bi φ)) = .int (bi φ) := by unfold bi; split <;> rfl
end W
end Jvm.Pilot.@@N@@
namespace Jvm.Pilot.@@N@@
namespace W
open Jvm Jvm.ClassFile Sem Op Lib Jvm.Free Jvm.Stand Jvm.LawKit Jvm.RoadKit Bundle
/-! a String by its chars -/
def Str (Z : State) (h : Heap) (a t : Addr) (cs : List Int32) : Prop := ∃ (kb : ClassId) (cd N : Int32) (vs : List Value), Exa Z h a "java/lang/String" ∧ Fld Z h a "java/lang/String" "value" "[B" (.ref t) ∧ Fld Z h a "java/lang/String" "coder" "B" (.int cd) ∧ Arv Z h t kb .byte N vs (.int 0) ∧ StrChars.Road.CodA cs cd N vs ∧ (∀ c ∈ cs, ¬ c < 0 ∧ ¬ (65535 : Int32) < c) ∧ cs.length ≤ 4000
section Strs
variable {Z : State} {h h' : Heap} {a t : Addr} {cs : List Int32} {ws : List Addr}
theorem Str.keep (F : Str Z h a t cs) (K : Keep h h' ws) (q : a ∉ ws) (r : t ∉ ws) : Str Z h' a t cs := by
  obtain ⟨kb, cd, N, vs, E, V, C, A, g⟩ := F
  exact ⟨kb, cd, N, vs, E.keep K, V.keep K q, C.keep K q, A.keep K r, g⟩
theorem Str.exa (F : Str Z h a t cs) : Exa Z h a "java/lang/String" := by obtain ⟨kb, cd, N, vs, E, -⟩ := F; exact E
theorem Str.lt1 (F : Str Z h a t cs) : a < h.size := F.exa.lt
theorem Str.lt2 (F : Str Z h a t cs) : t < h.size := by obtain ⟨kb, cd, N, vs, E, V, C, A, g⟩ := F; exact A.lt
end Strs
theorem up255 {cs : List Int32} (h : ∀ c ∈ cs, ¬ c < 0 ∧ ¬ (255 : Int32) < c) : ∀ c ∈ cs, ¬ c < 0 ∧ ¬ (65535 : Int32) < c := fun c hc => ⟨(h c hc).1, fun q => (h c hc).2 (by rw [Int32.lt_iff_toInt_lt] at q ⊢; have e1 : (65535 : Int32).toInt = 65535 := rfl; have e2 : (255 : Int32).toInt = 255 := rfl; omega)⟩
theorem nat32 {n : Nat} (h : n < 2 ^ 31) : (Int32.ofNat n).toNatClampNeg = n := by
  show (Int32.ofNat n).toInt.toNat = n
  rw [Int32.toInt_ofNat_of_lt h]; rfl
theorem str1 {Z : State} {h : Heap} {a t : Addr} {k : ClassId} {c : Int32} (hp : ¬ c < 0 ∧ ¬ (255 : Int32) < c) (E : Exa Z h a "java/lang/String") (V : Fld Z h a "java/lang/String" "value" "[B" (.ref t)) (C : Fld Z h a "java/lang/String" "coder" "B" (.int (0 : Int32))) (A : Arv Z h t k .byte (1 : Int32) [.int (c.toInt8.toInt32)] (.int (0 : Int32))) : Str Z h a t [c] := by
  have hq : ∀ d ∈ [c], ¬ d < 0 ∧ ¬ (255 : Int32) < d := fun d hd => by cases List.mem_singleton.mp hd; exact hp
  exact ⟨k, 0, 1, _, E, V, C, A, Or.inl ⟨rfl, rfl, rfl, fun d hd => (hq d hd).2⟩, up255 hq, by simp⟩
theorem nar_b (x : Int32) : nar .byte (x.toInt8.toInt32) = x.toInt8.toInt32 := by
  show x.toInt8.toInt32.toInt8.toInt32 = _
  simp
section StrCalls
variable {p : Program} {l : Launch} {e : Env} {R : Room} {s : State} {args : Array Value} {below : List Frame} {W : Nat} {Z : State} {a0 : Array Value} {h : Heap}
theorem newStr (hZ : Z.Warmed39 s.vm) (hw : ∀ d ∈ StrChars.Road.words, d.before a0 Z = true) {kI : Nat} (wi : (Jvm.Cond.instantiable "java/lang/String" kI).before a0 Z = true) {x b : Addr} {k : ClassId} {zn z : Int32} {cs : List Int32} {dv v0 c0 : Value} (E : Exa Z h x "java/lang/String") (V : Fld Z h x "java/lang/String" "value" "[B" v0) (C : Fld Z h x "java/lang/String" "coder" "B" c0)
    {vs : List Value} (A : Arv Z h b k .char zn vs dv) (hvs : vs = cs.map Value.int) (S : Sta Z h "java/lang/String" "COMPACT_STRINGS" "Z" (.int z)) (hz : ¬ z = 0) {n : Nat} (hn : cs.length = n) (hN : zn = Int32.ofNat n) (l0 : 0 < n) (l2 : n ≤ 4000) (hp : ∀ c ∈ cs, ¬ c < 0 ∧ ¬ (255 : Int32) < c) (hfr : 4 ≤ R.frames) (hlo : W + 65 ≤ R.locals) :
    BK l R p e below s args (⟨"java/lang/String", "<init>", "([C)V"⟩ : MethodName) W #[.ref x, .ref b] h 1 n (fun v h' L => v = none ∧ Mv h h' [x] L ∧ ∃ t, h.size ≤ t ∧ Str Z h' x t cs) := by
  subst hn hN hvs
  have hlen : (Int32.ofNat cs.length).toNatClampNeg = cs.length := nat32 (by omega)
  refine BK.mono (Q := StrChars.Road.QA Z x (Int32.ofNat cs.length) cs h) (StrChars.Road.backArv hZ hw wi E V C A S hz hlen l0 (by omega) (fun c hc => (hp c hc).2) hfr hlo) ?_
  intro v h' L hq
  obtain ⟨q1, q2, q3, q4, q5, q6, q7, ⟨kb, v1, v2⟩, q9⟩ := hq
  refine ⟨q1, ⟨q3, fun y hy => Or.inl (by rw [q2 y hy]; exact List.mem_singleton.mpr rfl)⟩, h.size, Nat.le_refl _, kb, 0, _, _, q5, q6, q7, v2, ?_, up255 hp, l2⟩
  have := StrChars.Road.codOf (cs := cs) rfl (fun c hc => (hp c hc).2)
  rw [List.map_map] at this
  exact this
theorem empStr (hZ : Z.Warmed39 s.vm) (hw : ∀ d ∈ StrChars.Road.wordsEmp, d.before a0 Z = true) {kI : Nat} (wi : (Jvm.Cond.instantiable "java/lang/String" kI).before a0 Z = true) {x t : Addr} {cs : List Int32} (F : Str Z h x t cs) (hfr : 1 ≤ R.frames) (hlo : W + 12 ≤ R.locals) :
    BK l R p e below s args (⟨"java/lang/String", "isEmpty", "()Z"⟩ : MethodName) W #[.ref x] h 0 0 (Pu h (fun v => v = some (.int (bi (cs.length = 0))))) := by
  obtain ⟨kb, cd, N, vs, E, V, C, A, g1, g2, g3⟩ := F
  exact BK.mono (Q := fun v h' L => v = some (.int (if cs.length = 0 then 1 else 0)) ∧ L = [] ∧ h' = h) (StrChars.Road.empW hZ hw wi E V C A g1 g2 g3 hfr hlo) fun v h' L hq => ⟨hq.2.1, hq.2.2, hq.1⟩
theorem lenStr (hZ : Z.Warmed39 s.vm) (hw : ∀ d ∈ StrChars.Road.wordsLen, d.before a0 Z = true) {kI : Nat} (wi : (Jvm.Cond.instantiable "java/lang/String" kI).before a0 Z = true) {x t : Addr} {cs : List Int32} {z : Int32} (F : Str Z h x t cs) (S : Sta Z h "java/lang/String" "COMPACT_STRINGS" "Z" (.int z)) (hz : ¬ z = 0) (hfr : 2 ≤ R.frames) (hlo : W + 25 ≤ R.locals) :
    BK l R p e below s args (⟨"java/lang/String", "length", "()I"⟩ : MethodName) W #[.ref x] h 0 0 (Pu h (fun v => v = some (.int (Int32.ofNat cs.length)))) := by
  obtain ⟨kb, cd, N, vs, E, V, C, A, g1, g2, g3⟩ := F
  exact BK.mono (Q := fun v h' L => v = some (.int (Int32.ofNat cs.length)) ∧ L = [] ∧ h' = h) (StrChars.Road.lenW hZ hw wi E V C A g1 g2 S hz g3 hfr hlo) fun v h' L hq => ⟨hq.2.1, hq.2.2, hq.1⟩
theorem chStr (hZ : Z.Warmed39 s.vm) (hw : ∀ d ∈ StrChars.Road.wordsChN, d.before a0 Z = true) {kI : Nat} (wi : (Jvm.Cond.instantiable "java/lang/String" kI).before a0 Z = true) {x t : Addr} {cs : List Int32} {z : Int32} {fm : Value} {i : Nat} {j : Int32} (F : Str Z h x t cs) (hl : ∀ c ∈ cs, ¬ (255 : Int32) < c) (S : Sta Z h "java/lang/String" "COMPACT_STRINGS" "Z" (.int z)) (hz : ¬ z = 0)
    (G : Sta Z h "jdk/internal/util/Preconditions" "SIOOBE_FORMATTER" "Ljava/util/function/BiFunction;" fm) (rf : fm.isRef = true) (hi : i < cs.length) (hj : j = Int32.ofNat i) (hfr : 4 ≤ R.frames) (hlo : W + 53 ≤ R.locals) :
    BK l R p e below s args (⟨"java/lang/String", "charAt", "(I)C"⟩ : MethodName) W #[.ref x, .int j] h 0 0 (Pu h (fun v => v = some (.int (cs.getD i 0)))) := by
  obtain ⟨kb, cd, N, vs, E, V, C, A, g1, g2, g3⟩ := F
  obtain rfl : cd = 0 := by
    rcases g1 with ⟨q, -⟩ | ⟨-, -, -, c, hc, hq⟩
    · exact q
    · exact absurd hq (hl c hc)
  exact BK.mono (Q := fun v h' L => v = some (.int (cs.getD i 0)) ∧ L = [] ∧ h' = h) (StrChars.Road.chN hZ hw wi E V C A g1 g2 S hz G rf g3 hi hj hfr hlo) fun v h' L hq => ⟨hq.2.1, hq.2.2, hq.1⟩
end StrCalls
end W
end Jvm.Pilot.@@N@@
namespace Jvm.Pilot.@@N@@
namespace W
open Jvm Jvm.ClassFile Sem Op Lib Jvm.Free Jvm.Stand Jvm.LawKit Jvm.RoadKit Bundle
/-! contracts under the invariant on held String constants -/
def MeetsH (l : Launch) (Z : State) (EL : List (String × Nat)) (y : MethodName) (bytes : ByteArray) (maxL : Nat) (ret : Option FieldType) (rm : Room) (as : Array Value) (h0 : Heap) (Q : Option Value → Heap → List Loc → Prop) : Prop :=
  ∀ ws : List Jvm.Cond, MetFree l y (head1 (Jvm.Cond.code y bytes maxL ret :: ws) rm) (fun a U => a = as ∧ Z.Warmed39 U.vm ∧ U.heap = h0 ∧ CHv Z EL U.vm h0) (fun _ _ _ _ _ => True)
    (fun _ U o U' => ∃ v L, o = .returned v ∧ Q v U'.heap L ∧ CHr Z EL U.vm U.heap U'.vm U'.heap ∧ ReturnedEndW U o U' L rm.cells rm.slots)
theorem MeetsH.of {l : Launch} {Z : State} {EL : List (String × Nat)} {y : MethodName} {bytes : ByteArray} {maxL : Nat} {ret : Option FieldType} {rm : Room} {as : Array Value} {h0 : Heap} {Q : Option Value → Heap → List Loc → Prop} (hpl : plainFor y = true)
    (body : ∀ (p : Program) (e : Env) (s : State) (m : MethodId) (below : List Frame) (meth : Method) (c : Code) (s₁ : State) (P : Outcome → State → Prop), p.tables.exec = Jvm.exec → c.code = bytes → c.maxLocals = maxL → Z.Warmed39 s.vm → s.vm.findClass y.cls = some m.cls → meth.name = y.name → meth.sig.returnType = ret → meth.locks = false →
      Stand p l e rm (s.setVm s.vm) m as below meth c s₁ [] 0 0 → s₁.heap = h0 → s.Since s.vm h0.size → CHr Z EL s.vm h0 s.vm h0 → (∀ v t L, Q v t.heap L → CHr Z EL s.vm h0 t.vm t.heap → ReturnedEndW s (.returned v) t L rm.cells rm.slots → P (.returned v) t) → Go p e below P s₁ (entryFrame m as maxL)) : MeetsH l Z EL y bytes maxL ret rm as h0 Q := by
  intro ws
  refine MetFree.of_bodySF hpl hisR ?_
  intro p e s m args below meth c s₁ Bd hml0 hP hK
  obtain ⟨rfl, hZ, hh, hH⟩ := hP
  exact body p e s m below meth c s₁ _ Bd.exec Bd.bytes hml0 hZ (findClass_of_methodNamed Bd.named) (name_of_methodNamed Bd.named Bd.method).1 Bd.returns (BodyLoose.notSynchronized Bd) (Stand.of_body Bd) (by rw [← hh, Bd.state]; rfl) ((State.WarmedH.refl s).since _) (CHr.refl hH) (fun v t L hq hc hf => ⟨v, L, rfl, hq, by rw [hh]; exact hc, hf⟩)
section HeldCalls
variable {p : Program} {l : Launch} {e : Env} {R : Room} {s : State} {m : MethodId} {args : Array Value} {below : List Frame} {meth : Method} {c : Code} {T : State} {locs : List Loc} {cells slots : Nat} {Z : State} {a0 : Array Value} {h h0 : Heap} {P : Outcome → State → Prop} {EL : List (String × Nat)} {vm0 : Vm} {k0 : Nat}
theorem goSH (X : Stand p l e R (s.setVm vm0) m args below meth c T locs cells slots) (hx : p.tables.exec = Jvm.exec) (hZ : Z.Warmed39 vm0) {own : String} {index : Nat} {y : MethodName} {bytes : ByteArray} {maxL : Nat} {ret : Option FieldType} (hown : vm0.findClass own = some m.cls)
    (w1 : (Jvm.Cond.methodLink own index y).before a0 Z = true) (w2 : (Jvm.Cond.static y).before a0 Z = true) (w3 : (Jvm.Cond.initialized y.cls).before a0 Z = true) (w4 : (Jvm.Cond.code y bytes maxL ret).before a0 Z = true) (hy : y.cls ≠ "java/lang/invoke/MethodHandle" ∧ y.cls ≠ "java/lang/invoke/VarHandle")
    {W C S : Nat} {rm : Room} {as : Array Value} {Q : Option Value → Heap → List Loc → Prop} (M : MeetsH l Z EL y bytes maxL ret rm as h Q) (hC : rm.cells = C) (hSl : rm.slots = S) (hf : rm.frames + 1 ≤ R.frames) (hl : W + (maxL + 11) + rm.locals ≤ R.locals) (hS : s.Since vm0 k0) (hk : k0 ≤ h.size) (hEL : EW Z a0 EL) (H : CHv Z EL vm0 h) (eT : T.heap = h) {pc : Nat} {Ls : Array Slot} {st argsL rest : List Value} (hml : Ls.size = c.maxLocals)
    (hlen : ∀ sig, parseMethodDescriptor y.desc = some sig → argsL.length = sig.parameters.length) (hst : st = argsL.reverse ++ rest) (has : argsL.toArray = as) (hd : decode c.code pc = .ok (.invokestatic index, 3)) (hW : (rest.map fun v => v.category).sum ≤ W) (hc : cells + C ≤ R.cells) (hs : slots + S ≤ R.slots)
    (k : ∀ v T' L, Stand p l e R (s.setVm T'.vm) m args below meth c T' (locs ++ L) (cells + C) (slots + S) → Q v T'.heap L → s.Since T'.vm T'.heap.size → Z.Warmed39 (s.setVm T'.vm).vm → (s.setVm T'.vm).vm.findClass own = some m.cls → CHr Z EL vm0 h T'.vm T'.heap → Go p e below P T' (mkF m (pc + 3) Ls (v.toList ++ rest))) : Go p e below P T (mkF m pc Ls st) := by
  subst hC hSl
  have mvs : ∀ {d : Jvm.Cond}, d.before a0 Z = true → (d.onTables && d.keepsFace) = true → d.before args (s.setVm vm0) = true := fun q r => mvT (s := s.setVm vm0) hZ q r
  obtain ⟨v, _, ⟨T', L', k', n'⟩, hW1, X', hS', hg', ⟨Lc, hQ, l1, l2, l3, hR⟩, stp⟩ := callSS X hx (own := own) hown (mvs w1 (by first | rfl | simp [Cond.onTables, Cond.keepsFace, Cond.keeps, Cond.steady])) (mvs w2 (by first | rfl | simp [Cond.onTables, Cond.keepsFace, Cond.keeps, Cond.steady])) (mvs w3 (by first | rfl | simp [Cond.onTables, Cond.keepsFace, Cond.keeps, Cond.steady])) (mvs w4 (by first | rfl | simp [Cond.onTables, Cond.keepsFace, Cond.keeps, Cond.steady])) hy (backOfSH (W := W) (M []) hZ w4 w3 hf hl hEL H) (g := mkF m pc Ls st) rfl hml hlen hst (by show 2 * 0 + _ ≤ _; simpa using hW) hd (fun _ _ => ⟨has, eT, hc, hs⟩)
  dsimp only [Pt.U, Pt.locs, Pt.cells, Pt.slots] at X' l1 l2 l3 stp hQ hR hS' hg'
  subst l1 l2 l3
  have hS2 : s.Since T'.vm T'.heap.size := hS.trans hS' (Nat.le_trans hk (by rw [← eT]; exact hg'))
  exact Go.of (fun _ z => stp.trans z) (k v T' Lc X' hQ hS2 (State.Warmed39.trans (t := s.setVm vm0) hZ hS'.1) (by rw [show (s.setVm T'.vm).vm = T'.vm from rfl, hS'.1.alike.findClass]; exact hown) hR)
theorem goIH (X : Stand p l e R (s.setVm vm0) m args below meth c T locs cells slots) (hx : p.tables.exec = Jvm.exec) (hZ : Z.Warmed39 vm0) {own : String} {index : Nat} {y : MethodName} {bytes : ByteArray} {maxL : Nat} (hn : y.name = "<init>") (hown : vm0.findClass own = some m.cls)
    (w1 : (Jvm.Cond.methodLink own index y).before a0 Z = true) (w2 : (Jvm.Cond.instanceMethod y).before a0 Z = true) (w3 : (Jvm.Cond.initialized y.cls).before a0 Z = true) (w4 : (Jvm.Cond.code y bytes maxL none).before a0 Z = true) (hy : y.cls ≠ "java/lang/invoke/MethodHandle" ∧ y.cls ≠ "java/lang/invoke/VarHandle")
    {W C S : Nat} {rm : Room} {as : Array Value} {Q : Option Value → Heap → List Loc → Prop} (M : MeetsH l Z EL y bytes maxL none rm as h Q) (hC : rm.cells = C) (hSl : rm.slots = S) (hf : rm.frames + 1 ≤ R.frames) (hl : W + (maxL + 11) + rm.locals ≤ R.locals) (hS : s.Since vm0 k0) (hk : k0 ≤ h.size) (hEL : EW Z a0 EL) (H : CHv Z EL vm0 h) (eT : T.heap = h) {pc : Nat} {Ls : Array Slot} {a : Addr} {st argsL rest : List Value} (hml : Ls.size = c.maxLocals)
    (hlen : ∀ sig, parseMethodDescriptor y.desc = some sig → argsL.length = sig.parameters.length) (hst : st = argsL.reverse ++ .ref a :: rest) (has : (.ref a :: argsL).toArray = as) (hd : decode c.code pc = .ok (.invokespecial index, 3)) (hW : (rest.map fun v => v.category).sum ≤ W) (hc : cells + C ≤ R.cells) (hs : slots + S ≤ R.slots)
    (k : ∀ v T' L, Stand p l e R (s.setVm T'.vm) m args below meth c T' (locs ++ L) (cells + C) (slots + S) → Q v T'.heap L → s.Since T'.vm T'.heap.size → Z.Warmed39 (s.setVm T'.vm).vm → (s.setVm T'.vm).vm.findClass own = some m.cls → CHr Z EL vm0 h T'.vm T'.heap → Go p e below P T' (mkF m (pc + 3) Ls (v.toList ++ rest))) : Go p e below P T (mkF m pc Ls st) := by
  subst hC hSl
  have mvs : ∀ {d : Jvm.Cond}, d.before a0 Z = true → (d.onTables && d.keepsFace) = true → d.before args (s.setVm vm0) = true := fun q r => mvT (s := s.setVm vm0) hZ q r
  obtain ⟨v, _, ⟨T', L', k', n'⟩, hW1, X', hS', hg', ⟨Lc, hQ, l1, l2, l3, hR⟩, stp⟩ := X.specialBackS hx (own := own) hn hown (mvs w1 (by first | rfl | simp [Cond.onTables, Cond.keepsFace, Cond.keeps, Cond.steady])) (mvs w2 (by first | rfl | simp [Cond.onTables, Cond.keepsFace, Cond.keeps, Cond.steady])) (mvs w4 (by first | rfl | simp [Cond.onTables, Cond.keepsFace, Cond.keeps, Cond.steady])) hy (backOfSH (W := W) (M []) hZ w4 w3 hf hl hEL H) (g := mkF m pc Ls st) rfl hml (Steps.refl _) hlen hst (by show 2 * 0 + _ ≤ _; simpa using hW) hd (fun _ _ => ⟨has, eT, hc, hs⟩)
  dsimp only [Pt.U, Pt.locs, Pt.cells, Pt.slots] at X' l1 l2 l3 stp hQ hR hS' hg'
  subst l1 l2 l3
  have hS2 : s.Since T'.vm T'.heap.size := hS.trans hS' (Nat.le_trans hk (by rw [← eT]; exact hg'))
  exact Go.of (fun _ z => stp.trans z) (k v T' Lc X' hQ hS2 (State.Warmed39.trans (t := s.setVm vm0) hZ hS'.1) (by rw [show (s.setVm T'.vm).vm = T'.vm from rfl, hS'.1.alike.findClass]; exact hown) hR)
theorem goRetH (X : Stand p l e R (s.setVm vm0) m args below meth c T locs cells slots) (hx : p.tables.exec = Jvm.exec) (hZ : Z.Warmed39 vm0) (hS : s.Since vm0 k0) (hk : k0 ≤ h.size) (hEL : EW Z a0 EL) (RH : CHr Z EL s.vm h0 vm0 h) {t : FieldType} (hret : meth.sig.returnType = some t) (hlk : meth.locks = false) {pc : Nat} {Ls : Array Slot} {C S : Nat} {w : Value} {rest : List Value} {i : Instr} {Q : Option Value → Heap → List Loc → Prop}
    (hn : narrow t w = w) (hi : (i = .ireturn ∧ (t = .int ∨ t = .boolean ∨ t = .byte ∨ t = .char ∨ t = .short) ∧ ∃ z, w = .int z) ∨ (i = .lreturn ∧ t = .long ∧ ∃ z, w = .long z) ∨ (i = .dreturn ∧ t = .double ∧ ∃ z, w = .double z) ∨ (i = .freturn ∧ t = .float ∧ ∃ z, w = .float z) ∨ (i = .areturn ∧ t.isReference = true ∧ w.isRef = true))
    (hd : decode c.code pc = .ok (i, 1)) (K : ∀ v t L, Q v t.heap L → CHr Z EL s.vm h0 t.vm t.heap → ReturnedEndW s (.returned v) t L C S → P (.returned v) t) (hc : cells ≤ C) (hs : slots ≤ S) (eT : T.heap = h) (hq : Q (some w) h locs) : Go p e below P T (mkF m pc Ls (w :: rest)) := by
  obtain ⟨fs, hr, hrun, hended, h1, h2, h3, h4⟩ := X.leaveW hS (by rw [eT]; exact hk) (v := some w) (fun q => by rw [hret] at q; cases q) hlk
  subst eT
  exact ⟨_, _, retOut X hx hret hn hi hd hr, hrun, hended, K _ _ _ hq (by have q := CHv.at X hZ hEL RH.1; exact RH.trans q) ⟨h1, h2, h3, h4.mono hc hs⟩⟩
theorem goRetIH (X : Stand p l e R (s.setVm vm0) m args below meth c T locs cells slots) (hx : p.tables.exec = Jvm.exec) (hZ : Z.Warmed39 vm0) (hS : s.Since vm0 k0) (hk : k0 ≤ h.size) (hEL : EW Z a0 EL) (RH : CHr Z EL s.vm h0 vm0 h) {t : FieldType} (hret : meth.sig.returnType = some t) (hlk : meth.locks = false) {pc : Nat} {Ls : Array Slot} {C S : Nat} {z : Int32} {rest : List Value} {Q : Option Value → Heap → List Loc → Prop}
    (hn : narrow t (.int z) = .int z) (ht : t = .int ∨ t = .boolean ∨ t = .byte ∨ t = .char ∨ t = .short) (hd : decode c.code pc = .ok (.ireturn, 1)) (K : ∀ v t L, Q v t.heap L → CHr Z EL s.vm h0 t.vm t.heap → ReturnedEndW s (.returned v) t L C S → P (.returned v) t) (hc : cells ≤ C) (hs : slots ≤ S) (eT : T.heap = h) (hq : Q (some (.int z)) h locs) : Go p e below P T (mkF m pc Ls (.int z :: rest)) :=
  goRetH X hx hZ hS hk hEL RH hret hlk hn (Or.inl ⟨rfl, ht, z, rfl⟩) hd K hc hs eT hq
theorem goRetRH (X : Stand p l e R (s.setVm vm0) m args below meth c T locs cells slots) (hx : p.tables.exec = Jvm.exec) (hZ : Z.Warmed39 vm0) (hS : s.Since vm0 k0) (hk : k0 ≤ h.size) (hEL : EW Z a0 EL) (RH : CHr Z EL s.vm h0 vm0 h) {t : FieldType} (hret : meth.sig.returnType = some t) (ht : t.isReference = true) (hlk : meth.locks = false) {pc : Nat} {Ls : Array Slot} {C S : Nat} {w : Value} {rest : List Value} {Q : Option Value → Heap → List Loc → Prop}
    (hw : w.isRef = true) (hn : narrow t w = w) (hd : decode c.code pc = .ok (.areturn, 1)) (K : ∀ v t L, Q v t.heap L → CHr Z EL s.vm h0 t.vm t.heap → ReturnedEndW s (.returned v) t L C S → P (.returned v) t) (hc : cells ≤ C) (hs : slots ≤ S) (eT : T.heap = h) (hq : Q (some w) h locs) : Go p e below P T (mkF m pc Ls (w :: rest)) :=
  goRetH X hx hZ hS hk hEL RH hret hlk hn (Or.inr (Or.inr (Or.inr (Or.inr ⟨rfl, ht, hw⟩)))) hd K hc hs eT hq
theorem goRet0H (X : Stand p l e R (s.setVm vm0) m args below meth c T locs cells slots) (hx : p.tables.exec = Jvm.exec) (hZ : Z.Warmed39 vm0) (hS : s.Since vm0 k0) (hk : k0 ≤ h.size) (hEL : EW Z a0 EL) (RH : CHr Z EL s.vm h0 vm0 h) (hret : meth.sig.returnType = none) (hlk : meth.locks = false) {pc : Nat} {Ls : Array Slot} {C S : Nat} {Q : Option Value → Heap → List Loc → Prop}
    (hd : decode c.code pc = .ok (.return_, 1)) (K : ∀ v t L, Q v t.heap L → CHr Z EL s.vm h0 t.vm t.heap → ReturnedEndW s (.returned v) t L C S → P (.returned v) t) (hc : cells ≤ C) (hs : slots ≤ S) (eT : T.heap = h) (hq : Q none h locs) : Go p e below P T (mkF m pc Ls []) := by
  obtain ⟨fs, hr, hrun, hended, h1, h2, h3, h4⟩ := X.leaveW hS (by rw [eT]; exact hk) (v := none) (fun _ => rfl) hlk
  subst eT
  exact ⟨_, _, X.returnOut hx hret hd hr, hrun, hended, K _ _ _ hq (by have q := CHv.at X hZ hEL RH.1; exact RH.trans q) ⟨h1, h2, h3, h4.mono hc hs⟩⟩
end HeldCalls
theorem safeArv {Z : State} {EL : List (String × Nat)} {vm : Vm} {h : Heap} {x : Addr} {k : ClassId} {ty : FieldType} {n : Int32} {vs : List Value} {d : Value} (hal : Z.vm.Alike vm) (A : Arv Z h x k ty n vs d) (ht : ty ≠ .byte) : Safe Z EL vm h x := by
  obtain ⟨cl, A, -⟩ := A
  exact Safe.arr hal A ht
theorem safeNull {Z : State} {EL : List (String × Nat)} {vm : Vm} {h : Heap} {x : Addr} (hal : Z.vm.Alike vm) (E : Exa Z h x "java/lang/String") (V : Fld Z h x "java/lang/String" "value" "[B" .null) : Safe Z EL vm h x := fun B => by
  obtain ⟨cell, k, e1, e2, e3, -, -⟩ := E
  obtain ⟨p, -, u, a, -, q, -, F, rfl | rfl⟩ := B
  · obtain ⟨cS, ⟨⟨s1, s2, s3, ⟨cv, kv, iv, s4, s4'⟩, ⟨cc, kc, ic, s5, s5'⟩, s6, s7, s8, s9, s10, s11⟩, hfS, hcS⟩, -⟩ := F
    obtain ⟨kv', z4⟩ := Jvm.RoadKit.ff_back (U := Wst Z vm h) hal s4
    have V2 : Fld Z h q.sa "java/lang/String" "value" "[B" (.ref q.sd) := ⟨q.sC, cv, kv', iv, q.fSV, s1, z4, s6, s2, s3, by rw [← hal.assignable]; exact s4', s8⟩
    exact Fld.ne V V2 (by simp) rfl
  · cases (show h[q.sd]? = some q.SA from F.hd).symm.trans e1
    obtain ⟨cS, -, -, f, -⟩ := F
    rw [show (Wst Z vm h).vm = vm from rfl, hal.findClass] at f
    obtain ⟨k1, q1, q2⟩ := Vm.findClass_spec f
    obtain ⟨k2, q3, q4⟩ := Vm.findClass_spec e2
    cases q1.symm.trans q3
    exact absurd (q2.symm.trans q4) (by decide)
theorem strT_ne {Z : State} {a0 : Array Value} {h : Heap} {a t x : Addr} {cs : List Int32} {C : String} {n : Nat} (F : Str Z h a t cs) (E : Exa Z h x C) (w : (Jvm.Cond.instantiable C n).before a0 Z = true) : t ≠ x := by
  obtain ⟨kb, cd, N, vs, E', V, C', A, g⟩ := F
  exact Ne.symm (Exa.neArv E A w)
theorem strA_ne {Z : State} {h : Heap} {a t x : Addr} {cs : List Int32} {C : String} (F : Str Z h a t cs) (E : Exa Z h x C) (hn : "java/lang/String" ≠ C) : a ≠ x := ne_exa F.exa E hn
theorem str0 {Z : State} {h : Heap} {a t : Addr} {k : ClassId} (E : Exa Z h a "java/lang/String") (V : Fld Z h a "java/lang/String" "value" "[B" (.ref t)) (C : Fld Z h a "java/lang/String" "coder" "B" (.int (0 : Int32))) (A : Arv Z h t k .byte (0 : Int32) [] (.int (0 : Int32))) : Str Z h a t [] :=
  ⟨k, 0, 0, [], E, V, C, A, Or.inl ⟨rfl, rfl, rfl, by simp⟩, by simp, by simp⟩
end W
end Jvm.Pilot.@@N@@
namespace Jvm.Pilot.@@N@@
open Jvm Jvm.ClassFile Sem Op Lib Jvm.Free Jvm.Stand Jvm.LawKit Jvm.RoadKit Bundle Jvm.Pilot.@@N@@.Jvm.D Jvm.Pilot.@@N@@.W
theorem m255 (x : Int32) : ¬ (x &&& (255 : Int32)).toUInt32.toUInt16.toUInt32.toInt32 < 0 ∧ ¬ (255 : Int32) < (x &&& (255 : Int32)).toUInt32.toUInt16.toUInt32.toInt32 := by
  rw [i2c_mask]
  have h := c_mask x 255 8 (by decide) (by decide)
  have e1 : (0 : Int32).toInt = 0 := by decide
  have e2 : (255 : Int32).toInt = 255 := by decide
  rw [Int32.lt_iff_toInt_lt, Int32.lt_iff_toInt_lt, h, e1, e2]; omega
theorem narC (x : Int32) : nar .char (x.toUInt32.toUInt16.toUInt32.toInt32) = x.toUInt32.toUInt16.toUInt32.toInt32 := by
  have h1 := c_i2c x
  have h2 := c_i2c (x.toUInt32.toUInt16.toUInt32.toInt32)
  show x.toUInt32.toUInt16.toUInt32.toInt32.toUInt32.toUInt16.toUInt32.toInt32 = x.toUInt32.toUInt16.toUInt32.toInt32
  apply Int32.toInt_inj.mp
  omega

def Low (c : Int32) : Prop := ¬ c < (97 : Int32) ∧ ¬ (122 : Int32) < c
def Rst (c : Int32) : Prop := Low c ∨ (¬ c < (48 : Int32) ∧ ¬ (57 : Int32) < c) ∨ c = (95 : Int32)
instance (c : Int32) : Decidable (Low c) := by unfold Low; infer_instance
instance (c : Int32) : Decidable (Rst c) := by unfold Rst; infer_instance
def Name (cs : List Int32) : Prop := 0 < cs.length ∧ cs.length ≤ 64 ∧ Low (cs.getD 0 0) ∧ ∀ i, i < cs.length → Rst (cs.getD i 0)
theorem rst_num {c : Int32} (h : Rst c) : 48 ≤ c.toInt ∧ c.toInt ≤ 122 := by
  unfold Rst Low at h
  have e1 : (97 : Int32).toInt = 97 := by decide
  have e2 : (122 : Int32).toInt = 122 := by decide
  have e3 : (48 : Int32).toInt = 48 := by decide
  have e4 : (57 : Int32).toInt = 57 := by decide
  have e5 : (95 : Int32).toInt = 95 := by decide
  rw [Int32.lt_iff_toInt_lt, Int32.lt_iff_toInt_lt, Int32.lt_iff_toInt_lt, Int32.lt_iff_toInt_lt, ← Int32.toInt_inj, e1, e2, e3, e4, e5] at h
  omega
theorem rst_nar {c : Int32} (h : Rst c) : nar .char c = c := by
  have h1 := c_i2c c
  have h2 := rst_num h
  show c.toUInt32.toUInt16.toUInt32.toInt32 = c
  apply Int32.toInt_inj.mp
  omega
theorem rst_lat {c : Int32} (h : Rst c) : ¬ c < 0 ∧ ¬ (255 : Int32) < c := by
  have h2 := rst_num h
  have e1 : (0 : Int32).toInt = 0 := by decide
  have e2 : (255 : Int32).toInt = 255 := by decide
  rw [Int32.lt_iff_toInt_lt, Int32.lt_iff_toInt_lt, e1, e2]; omega
theorem nameOf {c : Int32} {ds : List Int32} (h : Low c) (hr : ∀ d ∈ ds, Rst d) (hl : ds.length ≤ 63) : Name (c :: ds) := by
  refine ⟨by simp, by simp; omega, by simpa using h, fun i hi => ?_⟩
  match i, hi with
  | 0, _ => exact Or.inl (by simpa using h)
  | i + 1, hi =>
    have hi' : i < ds.length := by simpa using hi
    have e : (c :: ds).getD (i + 1) 0 = ds[i] := by simp [List.getD_eq_getElem?_getD, hi']
    rw [e]; exact hr _ (List.getElem_mem _)
theorem nameLat {cs : List Int32} (h : Name cs) : ∀ c ∈ cs, ¬ (255 : Int32) < c := fun c hc => by
  obtain ⟨j, hj, rfl⟩ := List.getElem_of_mem hc
  have := rst_lat (h.2.2.2 j hj)
  rw [show cs.getD j 0 = cs[j] by simp [List.getD_eq_getElem?_getD, hj]] at this
  exact this.2
theorem n32i {n : Nat} (h : n ≤ 4000) : (Int32.ofNat n).toInt = n := Int32.toInt_ofNat_of_lt (by omega)
theorem len64 {n : Nat} (h : n ≤ 64) : ¬ (64 : Int32) < Int32.ofNat n := by
  have e : (64 : Int32).toInt = 64 := by decide
  rw [Int32.lt_iff_toInt_lt, n32i (by omega), e]; omega
theorem ltN {i n : Nat} (hi : i ≤ 4000) (hn : n ≤ 4000) : Int32.ofNat i < Int32.ofNat n ↔ i < n := by
  rw [Int32.lt_iff_toInt_lt, n32i hi, n32i hn]; omega
theorem c_lo (x : Int32) : Low ((97 : Int32) + (x &&& (2147483647 : Int32)) % (26 : Int32)).toUInt32.toUInt16.toUInt32.toInt32 := by
  have h := c_mask x 2147483647 31 (by decide) (by decide)
  have r := (c_irem (x &&& (2147483647 : Int32)) 26 26 (by decide)).1 (by omega)
  have a := c_iadd (97 : Int32) ((x &&& (2147483647 : Int32)) % (26 : Int32))
  have c := c_i2c ((97 : Int32) + (x &&& (2147483647 : Int32)) % (26 : Int32))
  have b := Int32.toInt_lt ((97 : Int32) + (x &&& (2147483647 : Int32)) % (26 : Int32))
  have b' := Int32.le_toInt ((97 : Int32) + (x &&& (2147483647 : Int32)) % (26 : Int32))
  have e1 : (97 : Int32).toInt = 97 := by decide
  have e2 : (122 : Int32).toInt = 122 := by decide
  unfold Low
  rw [Int32.lt_iff_toInt_lt, Int32.lt_iff_toInt_lt, e1, e2]; rw [e1] at a; omega
theorem v37 (x : Int32) : 0 ≤ ((x &&& (2147483647 : Int32)) % (37 : Int32)).toInt ∧ ((x &&& (2147483647 : Int32)) % (37 : Int32)).toInt < 37 := by
  have h := c_mask x 2147483647 31 (by decide) (by decide)
  have r := (c_irem (x &&& (2147483647 : Int32)) 37 37 (by decide)).1 (by omega)
  omega
theorem c_r1 {v : Int32} (h0 : 0 ≤ v.toInt) (h : v < (26 : Int32)) : Rst ((97 : Int32) + v).toUInt32.toUInt16.toUInt32.toInt32 := by
  have e0 : (26 : Int32).toInt = 26 := by decide
  rw [Int32.lt_iff_toInt_lt, e0] at h
  have a := c_iadd (97 : Int32) v
  have c := c_i2c ((97 : Int32) + v)
  have b := Int32.toInt_lt ((97 : Int32) + v)
  have b' := Int32.le_toInt ((97 : Int32) + v)
  have e1 : (97 : Int32).toInt = 97 := by decide
  have e2 : (122 : Int32).toInt = 122 := by decide
  refine Or.inl ?_
  unfold Low
  rw [Int32.lt_iff_toInt_lt, Int32.lt_iff_toInt_lt, e1, e2]; rw [e1] at a; omega
theorem c_r2 {v : Int32} (h0 : ¬ v < (26 : Int32)) (h : v < (36 : Int32)) : Rst ((48 : Int32) + (v - (26 : Int32))).toUInt32.toUInt16.toUInt32.toInt32 := by
  have e0 : (26 : Int32).toInt = 26 := by decide
  have e3 : (36 : Int32).toInt = 36 := by decide
  rw [Int32.lt_iff_toInt_lt, e0] at h0
  rw [Int32.lt_iff_toInt_lt, e3] at h
  have s := c_isub v (26 : Int32)
  have s1 := Int32.toInt_lt (v - (26 : Int32))
  have s2 := Int32.le_toInt (v - (26 : Int32))
  have a := c_iadd (48 : Int32) (v - (26 : Int32))
  have c := c_i2c ((48 : Int32) + (v - (26 : Int32)))
  have b := Int32.toInt_lt ((48 : Int32) + (v - (26 : Int32)))
  have b' := Int32.le_toInt ((48 : Int32) + (v - (26 : Int32)))
  have e1 : (48 : Int32).toInt = 48 := by decide
  have e2 : (57 : Int32).toInt = 57 := by decide
  refine Or.inr (Or.inl ?_)
  rw [Int32.lt_iff_toInt_lt, Int32.lt_iff_toInt_lt, e1, e2]; rw [e1] at a; rw [e0] at s; omega
def litCs : List Int32 := [97, 98, 99, 100, 101, 102, 103, 104, 105, 106, 107, 108, 109, 110, 111, 112, 113, 114, 115, 116, 117, 118, 119, 120, 121, 122, 48, 49, 50, 51, 52, 53, 54, 55, 56, 57, 95, 97, 98, 99, 100, 101, 102, 103, 104, 105, 106, 107, 108, 109, 110, 111, 112, 113, 114, 115, 116, 117, 118, 119, 120, 121, 122, 57]
theorem litName : Name litCs := nameOf (by decide) (by decide) (by decide)
theorem litVs : ([.int (97 : Int32), .int (98 : Int32), .int (99 : Int32), .int (100 : Int32), .int (101 : Int32), .int (102 : Int32), .int (103 : Int32), .int (104 : Int32), .int (105 : Int32), .int (106 : Int32), .int (107 : Int32), .int (108 : Int32), .int (109 : Int32), .int (110 : Int32), .int (111 : Int32), .int (112 : Int32), .int (113 : Int32), .int (114 : Int32), .int (115 : Int32), .int (116 : Int32), .int (117 : Int32), .int (118 : Int32), .int (119 : Int32), .int (120 : Int32), .int (121 : Int32), .int (122 : Int32), .int (48 : Int32), .int (49 : Int32), .int (50 : Int32), .int (51 : Int32), .int (52 : Int32), .int (53 : Int32), .int (54 : Int32), .int (55 : Int32), .int (56 : Int32), .int (57 : Int32), .int (95 : Int32), .int (97 : Int32), .int (98 : Int32), .int (99 : Int32), .int (100 : Int32), .int (101 : Int32), .int (102 : Int32), .int (103 : Int32), .int (104 : Int32), .int (105 : Int32), .int (106 : Int32), .int (107 : Int32), .int (108 : Int32), .int (109 : Int32), .int (110 : Int32), .int (111 : Int32), .int (112 : Int32), .int (113 : Int32), .int (114 : Int32), .int (115 : Int32), .int (116 : Int32), .int (117 : Int32), .int (118 : Int32), .int (119 : Int32), .int (120 : Int32), .int (121 : Int32), .int (122 : Int32), .int (57 : Int32)] : List Value) = litCs.map fun c => Value.int (StrChars.lo8 c) := by first | rfl | decide +kernel
theorem strLit {Z : State} {h : Heap} {a t : Addr} {k : ClassId} (E : Exa Z h a "java/lang/String") (V : Fld Z h a "java/lang/String" "value" "[B" (.ref t)) (C : Fld Z h a "java/lang/String" "coder" "B" (.int (0 : Int32))) (A : Arv Z h t k .byte (64 : Int32) [.int (97 : Int32), .int (98 : Int32), .int (99 : Int32), .int (100 : Int32), .int (101 : Int32), .int (102 : Int32), .int (103 : Int32), .int (104 : Int32), .int (105 : Int32), .int (106 : Int32), .int (107 : Int32), .int (108 : Int32), .int (109 : Int32), .int (110 : Int32), .int (111 : Int32), .int (112 : Int32), .int (113 : Int32), .int (114 : Int32), .int (115 : Int32), .int (116 : Int32), .int (117 : Int32), .int (118 : Int32), .int (119 : Int32), .int (120 : Int32), .int (121 : Int32), .int (122 : Int32), .int (48 : Int32), .int (49 : Int32), .int (50 : Int32), .int (51 : Int32), .int (52 : Int32), .int (53 : Int32), .int (54 : Int32), .int (55 : Int32), .int (56 : Int32), .int (57 : Int32), .int (95 : Int32), .int (97 : Int32), .int (98 : Int32), .int (99 : Int32), .int (100 : Int32), .int (101 : Int32), .int (102 : Int32), .int (103 : Int32), .int (104 : Int32), .int (105 : Int32), .int (106 : Int32), .int (107 : Int32), .int (108 : Int32), .int (109 : Int32), .int (110 : Int32), .int (111 : Int32), .int (112 : Int32), .int (113 : Int32), .int (114 : Int32), .int (115 : Int32), .int (116 : Int32), .int (117 : Int32), .int (118 : Int32), .int (119 : Int32), .int (120 : Int32), .int (121 : Int32), .int (122 : Int32), .int (57 : Int32)] (.int 0)) : Str Z h a t litCs :=
  ⟨k, 0, 64, _, E, V, C, A, Or.inl ⟨rfl, by decide, litVs, nameLat litName⟩, by decide, by decide⟩

theorem pn_com_example_dozor_dozor_NamesRequireCollectionNamePinLaw : plainName "com/example/dozor/dozor/NamesRequireCollectionNamePinLaw" = true := by first | (simp [plainName, overriddenIn]; done) | decide +kernel
theorem ef_rm_first (m : MethodId) (x0 : Int32)  : entryFrame m #[(.int x0)] 1 = mkF m 0 #[.val (.int x0)] [] := by first | (simp [entryFrame, mkF, argsToLocals, Value.category]; done) | rfl
theorem d_method_3_code_0 : decode method_3_code 0 = .ok (.bipush 97, 2) := by decide +kernel
theorem d_method_3_code_2 : decode method_3_code 2 = .ok (.iload_n 0, 1) := by decide +kernel
theorem d_method_3_code_3 : decode method_3_code 3 = .ok (.ldc 33, 2) := by decide +kernel
theorem d_method_3_code_5 : decode method_3_code 5 = .ok (.iand, 1) := by decide +kernel
theorem d_method_3_code_6 : decode method_3_code 6 = .ok (.bipush 26, 2) := by decide +kernel
theorem d_method_3_code_8 : decode method_3_code 8 = .ok (.irem, 1) := by decide +kernel
theorem d_method_3_code_9 : decode method_3_code 9 = .ok (.iadd, 1) := by decide +kernel
theorem d_method_3_code_10 : decode method_3_code 10 = .ok (.i2c, 1) := by decide +kernel
theorem d_method_3_code_11 : decode method_3_code 11 = .ok (.ireturn, 1) := by decide +kernel
set_option maxRecDepth 65536 in
set_option maxHeartbeats 40000000 in
theorem rm_first (l : Launch) (Z : State) (a0 : Array Value) (hw : ∀ d ∈ tables_1, d.before a0 Z = true) (p1 : Int32) (h0 : Heap)  :
    MeetsW l Z (⟨"com/example/dozor/dozor/NamesRequireCollectionNamePinLaw", "first", "(I)C"⟩ : MethodName) method_3_code 1 (some .char) ({ frames := 0, cells := 0, slots := 0, locals := 0 } : Room) #[(.int p1)] h0 (Pu h0 (fun v => ∃ c : Int32, v = some (.int c) ∧ Low c)) := by
  refine MeetsW.of (plainFor_of_name pn_com_example_dozor_dozor_NamesRequireCollectionNamePinLaw) ?_
  intro p e s m below meth c s₁ P hx hby hml hZ hown hnm hret hlk X0 e0 K
  have M0 : Mv h0 h0 [] [] := Mv.refl _ _
  refine Go.cast (ef_rm_first m p1 ) ?_
  refine Go.of (T' := s₁) (f' := (mkF m 2 #[.val (.int p1)] [(.int (97 : Int32))])) (fun _ k => XS.bipush X0.here hx rfl (hb hby d_method_3_code_0) k) ?_
  refine Go.of (T' := s₁) (f' := (mkF m 3 #[.val (.int p1)] [(.int p1), (.int (97 : Int32))])) (fun _ k => XS.iloadN X0.here hx rfl (hb hby d_method_3_code_2) rfl k) ?_
  refine Go.of (T' := s₁) (f' := (mkF m 5 #[.val (.int p1)] [(.int (2147483647 : Int32)), (.int p1), (.int (97 : Int32))])) (fun _ k => X0.ldcInt hx hown (mvT hZ (hw _ (List.mem_of_getElem? (i := 4) rfl))) (g := (mkF m 3 #[.val (.int p1)] [(.int p1), (.int (97 : Int32))])) rfl (hb hby d_method_3_code_3) _ k) ?_
  refine Go.of (T' := s₁) (f' := (mkF m 6 #[.val (.int p1)] [(.int (p1 &&& (2147483647 : Int32))), (.int (97 : Int32))])) (fun _ k => XS.iand X0.here hx rfl (hb hby d_method_3_code_5) rfl k) ?_
  refine Go.of (T' := s₁) (f' := (mkF m 8 #[.val (.int p1)] [(.int (26 : Int32)), (.int (p1 &&& (2147483647 : Int32))), (.int (97 : Int32))])) (fun _ k => XS.bipush X0.here hx rfl (hb hby d_method_3_code_6) k) ?_
  refine Go.of (T' := s₁) (f' := (mkF m 9 #[.val (.int p1)] [(.int ((p1 &&& (2147483647 : Int32)) % (26 : Int32))), (.int (97 : Int32))])) (fun _ k => iremM X0 hx rfl (hb hby d_method_3_code_8) rfl (by decide) k) ?_
  refine Go.of (T' := s₁) (f' := (mkF m 10 #[.val (.int p1)] [(.int ((97 : Int32) + ((p1 &&& (2147483647 : Int32)) % (26 : Int32))))])) (fun _ k => XS.iadd X0.here hx rfl (hb hby d_method_3_code_9) rfl k) ?_
  refine Go.of (T' := s₁) (f' := (mkF m 11 #[.val (.int p1)] [(.int (((97 : Int32) + ((p1 &&& (2147483647 : Int32)) % (26 : Int32))).toUInt32.toUInt16.toUInt32.toInt32))])) (fun _ k => XS.i2c X0.here hx rfl (hb hby d_method_3_code_10) rfl k) ?_
  exact goRetI (Q := Pu h0 (fun v => ∃ c : Int32, v = some (.int c) ∧ Low c)) X0 hx (t := .char) hret hlk (congrArg Value.int (narC _)) (by simp) (hb hby d_method_3_code_11) K (by decide) (by decide) e0 (⟨rfl, rfl, _, rfl, c_lo p1⟩)
theorem ef_rm_rest (m : MethodId) (x0 : Int32)  : entryFrame m #[(.int x0)] 2 = mkF m 0 #[.val (.int x0), .unset] [] := by first | (simp [entryFrame, mkF, argsToLocals, Value.category]; done) | rfl
theorem d_method_4_code_0 : decode method_4_code 0 = .ok (.iload_n 0, 1) := by decide +kernel
theorem d_method_4_code_1 : decode method_4_code 1 = .ok (.ldc 33, 2) := by decide +kernel
theorem d_method_4_code_3 : decode method_4_code 3 = .ok (.iand, 1) := by decide +kernel
theorem d_method_4_code_4 : decode method_4_code 4 = .ok (.bipush 37, 2) := by decide +kernel
theorem d_method_4_code_6 : decode method_4_code 6 = .ok (.irem, 1) := by decide +kernel
theorem d_method_4_code_7 : decode method_4_code 7 = .ok (.istore_n 1, 1) := by decide +kernel
theorem d_method_4_code_8 : decode method_4_code 8 = .ok (.iload_n 1, 1) := by decide +kernel
theorem d_method_4_code_9 : decode method_4_code 9 = .ok (.bipush 26, 2) := by decide +kernel
theorem d_method_4_code_11 : decode method_4_code 11 = .ok (.if_icmp .ge 9, 3) := by decide +kernel
theorem d_method_4_code_14 : decode method_4_code 14 = .ok (.bipush 97, 2) := by decide +kernel
theorem d_method_4_code_16 : decode method_4_code 16 = .ok (.iload_n 1, 1) := by decide +kernel
theorem d_method_4_code_17 : decode method_4_code 17 = .ok (.iadd, 1) := by decide +kernel
theorem d_method_4_code_18 : decode method_4_code 18 = .ok (.i2c, 1) := by decide +kernel
theorem d_method_4_code_19 : decode method_4_code 19 = .ok (.ireturn, 1) := by decide +kernel
theorem d_method_4_code_20 : decode method_4_code 20 = .ok (.iload_n 1, 1) := by decide +kernel
theorem d_method_4_code_21 : decode method_4_code 21 = .ok (.bipush 36, 2) := by decide +kernel
theorem d_method_4_code_23 : decode method_4_code 23 = .ok (.if_icmp .ge 12, 3) := by decide +kernel
theorem d_method_4_code_26 : decode method_4_code 26 = .ok (.bipush 48, 2) := by decide +kernel
theorem d_method_4_code_28 : decode method_4_code 28 = .ok (.iload_n 1, 1) := by decide +kernel
theorem d_method_4_code_29 : decode method_4_code 29 = .ok (.bipush 26, 2) := by decide +kernel
theorem d_method_4_code_31 : decode method_4_code 31 = .ok (.isub, 1) := by decide +kernel
theorem d_method_4_code_32 : decode method_4_code 32 = .ok (.iadd, 1) := by decide +kernel
theorem d_method_4_code_33 : decode method_4_code 33 = .ok (.i2c, 1) := by decide +kernel
theorem d_method_4_code_34 : decode method_4_code 34 = .ok (.ireturn, 1) := by decide +kernel
theorem d_method_4_code_35 : decode method_4_code 35 = .ok (.bipush 95, 2) := by decide +kernel
theorem d_method_4_code_37 : decode method_4_code 37 = .ok (.ireturn, 1) := by decide +kernel
set_option maxRecDepth 65536 in
set_option maxHeartbeats 40000000 in
theorem rm_rest (l : Launch) (Z : State) (a0 : Array Value) (hw : ∀ d ∈ tables_1, d.before a0 Z = true) (p1 : Int32) (h0 : Heap)  :
    MeetsW l Z (⟨"com/example/dozor/dozor/NamesRequireCollectionNamePinLaw", "rest", "(I)C"⟩ : MethodName) method_4_code 2 (some .char) ({ frames := 0, cells := 0, slots := 0, locals := 0 } : Room) #[(.int p1)] h0 (Pu h0 (fun v => ∃ c : Int32, v = some (.int c) ∧ Rst c)) := by
  refine MeetsW.of (plainFor_of_name pn_com_example_dozor_dozor_NamesRequireCollectionNamePinLaw) ?_
  intro p e s m below meth c s₁ P hx hby hml hZ hown hnm hret hlk X0 e0 K
  have M0 : Mv h0 h0 [] [] := Mv.refl _ _
  refine Go.cast (ef_rm_rest m p1 ) ?_
  refine Go.of (T' := s₁) (f' := (mkF m 1 #[.val (.int p1), .unset] [(.int p1)])) (fun _ k => XS.iloadN X0.here hx rfl (hb hby d_method_4_code_0) rfl k) ?_
  refine Go.of (T' := s₁) (f' := (mkF m 3 #[.val (.int p1), .unset] [(.int (2147483647 : Int32)), (.int p1)])) (fun _ k => X0.ldcInt hx hown (mvT hZ (hw _ (List.mem_of_getElem? (i := 4) rfl))) (g := (mkF m 1 #[.val (.int p1), .unset] [(.int p1)])) rfl (hb hby d_method_4_code_1) _ k) ?_
  refine Go.of (T' := s₁) (f' := (mkF m 4 #[.val (.int p1), .unset] [(.int (p1 &&& (2147483647 : Int32)))])) (fun _ k => XS.iand X0.here hx rfl (hb hby d_method_4_code_3) rfl k) ?_
  refine Go.of (T' := s₁) (f' := (mkF m 6 #[.val (.int p1), .unset] [(.int (37 : Int32)), (.int (p1 &&& (2147483647 : Int32)))])) (fun _ k => XS.bipush X0.here hx rfl (hb hby d_method_4_code_4) k) ?_
  refine Go.of (T' := s₁) (f' := (mkF m 7 #[.val (.int p1), .unset] [(.int ((p1 &&& (2147483647 : Int32)) % (37 : Int32)))])) (fun _ k => iremM X0 hx rfl (hb hby d_method_4_code_6) rfl (by decide) k) ?_
  refine Go.of (T' := s₁) (f' := (mkF m 8 #[.val (.int p1), .val (.int ((p1 &&& (2147483647 : Int32)) % (37 : Int32)))] [])) (fun _ k => XS.istoreN X0.here hx rfl (hb hby d_method_4_code_7) rfl (l' := #[.val (.int p1), .val (.int ((p1 &&& (2147483647 : Int32)) % (37 : Int32)))]) rfl k) ?_
  refine Go.of (T' := s₁) (f' := (mkF m 9 #[.val (.int p1), .val (.int ((p1 &&& (2147483647 : Int32)) % (37 : Int32)))] [(.int ((p1 &&& (2147483647 : Int32)) % (37 : Int32)))])) (fun _ k => XS.iloadN X0.here hx rfl (hb hby d_method_4_code_8) rfl k) ?_
  refine Go.of (T' := s₁) (f' := (mkF m 11 #[.val (.int p1), .val (.int ((p1 &&& (2147483647 : Int32)) % (37 : Int32)))] [(.int (26 : Int32)), (.int ((p1 &&& (2147483647 : Int32)) % (37 : Int32)))])) (fun _ k => XS.bipush X0.here hx rfl (hb hby d_method_4_code_9) k) ?_
  by_cases hc11 : ((p1 &&& (2147483647 : Int32)) % (37 : Int32)) < (26 : Int32)
  ·
    refine Go.of (T' := s₁) (f' := (mkF m 14 #[.val (.int p1), .val (.int ((p1 &&& (2147483647 : Int32)) % (37 : Int32)))] [])) (fun _ k => XS.icmpNo X0.here hx rfl (hb hby d_method_4_code_11) rfl (tlt hc11).2.1 k) ?_
    refine Go.of (T' := s₁) (f' := (mkF m 16 #[.val (.int p1), .val (.int ((p1 &&& (2147483647 : Int32)) % (37 : Int32)))] [(.int (97 : Int32))])) (fun _ k => XS.bipush X0.here hx rfl (hb hby d_method_4_code_14) k) ?_
    refine Go.of (T' := s₁) (f' := (mkF m 17 #[.val (.int p1), .val (.int ((p1 &&& (2147483647 : Int32)) % (37 : Int32)))] [(.int ((p1 &&& (2147483647 : Int32)) % (37 : Int32))), (.int (97 : Int32))])) (fun _ k => XS.iloadN X0.here hx rfl (hb hby d_method_4_code_16) rfl k) ?_
    refine Go.of (T' := s₁) (f' := (mkF m 18 #[.val (.int p1), .val (.int ((p1 &&& (2147483647 : Int32)) % (37 : Int32)))] [(.int ((97 : Int32) + ((p1 &&& (2147483647 : Int32)) % (37 : Int32))))])) (fun _ k => XS.iadd X0.here hx rfl (hb hby d_method_4_code_17) rfl k) ?_
    refine Go.of (T' := s₁) (f' := (mkF m 19 #[.val (.int p1), .val (.int ((p1 &&& (2147483647 : Int32)) % (37 : Int32)))] [(.int (((97 : Int32) + ((p1 &&& (2147483647 : Int32)) % (37 : Int32))).toUInt32.toUInt16.toUInt32.toInt32))])) (fun _ k => XS.i2c X0.here hx rfl (hb hby d_method_4_code_18) rfl k) ?_
    exact goRetI (Q := Pu h0 (fun v => ∃ c : Int32, v = some (.int c) ∧ Rst c)) X0 hx (t := .char) hret hlk (congrArg Value.int (narC _)) (by simp) (hb hby d_method_4_code_19) K (by decide) (by decide) e0 (⟨rfl, rfl, _, rfl, c_r1 (v37 p1).1 hc11⟩)
  ·
    refine Go.of (T' := s₁) (f' := (mkF m 20 #[.val (.int p1), .val (.int ((p1 &&& (2147483647 : Int32)) % (37 : Int32)))] [])) (fun _ k => XS.icmpYes X0.here hx rfl (pc0 := 11) (pc' := 20) rfl (hb hby d_method_4_code_11) rfl (flt hc11).2.1 (by decide) (by decide) k) ?_
    refine Go.of (T' := s₁) (f' := (mkF m 21 #[.val (.int p1), .val (.int ((p1 &&& (2147483647 : Int32)) % (37 : Int32)))] [(.int ((p1 &&& (2147483647 : Int32)) % (37 : Int32)))])) (fun _ k => XS.iloadN X0.here hx rfl (hb hby d_method_4_code_20) rfl k) ?_
    refine Go.of (T' := s₁) (f' := (mkF m 23 #[.val (.int p1), .val (.int ((p1 &&& (2147483647 : Int32)) % (37 : Int32)))] [(.int (36 : Int32)), (.int ((p1 &&& (2147483647 : Int32)) % (37 : Int32)))])) (fun _ k => XS.bipush X0.here hx rfl (hb hby d_method_4_code_21) k) ?_
    by_cases hc23 : ((p1 &&& (2147483647 : Int32)) % (37 : Int32)) < (36 : Int32)
    ·
      refine Go.of (T' := s₁) (f' := (mkF m 26 #[.val (.int p1), .val (.int ((p1 &&& (2147483647 : Int32)) % (37 : Int32)))] [])) (fun _ k => XS.icmpNo X0.here hx rfl (hb hby d_method_4_code_23) rfl (tlt hc23).2.1 k) ?_
      refine Go.of (T' := s₁) (f' := (mkF m 28 #[.val (.int p1), .val (.int ((p1 &&& (2147483647 : Int32)) % (37 : Int32)))] [(.int (48 : Int32))])) (fun _ k => XS.bipush X0.here hx rfl (hb hby d_method_4_code_26) k) ?_
      refine Go.of (T' := s₁) (f' := (mkF m 29 #[.val (.int p1), .val (.int ((p1 &&& (2147483647 : Int32)) % (37 : Int32)))] [(.int ((p1 &&& (2147483647 : Int32)) % (37 : Int32))), (.int (48 : Int32))])) (fun _ k => XS.iloadN X0.here hx rfl (hb hby d_method_4_code_28) rfl k) ?_
      refine Go.of (T' := s₁) (f' := (mkF m 31 #[.val (.int p1), .val (.int ((p1 &&& (2147483647 : Int32)) % (37 : Int32)))] [(.int (26 : Int32)), (.int ((p1 &&& (2147483647 : Int32)) % (37 : Int32))), (.int (48 : Int32))])) (fun _ k => XS.bipush X0.here hx rfl (hb hby d_method_4_code_29) k) ?_
      refine Go.of (T' := s₁) (f' := (mkF m 32 #[.val (.int p1), .val (.int ((p1 &&& (2147483647 : Int32)) % (37 : Int32)))] [(.int (((p1 &&& (2147483647 : Int32)) % (37 : Int32)) - (26 : Int32))), (.int (48 : Int32))])) (fun _ k => XS.isub X0.here hx rfl (hb hby d_method_4_code_31) rfl k) ?_
      refine Go.of (T' := s₁) (f' := (mkF m 33 #[.val (.int p1), .val (.int ((p1 &&& (2147483647 : Int32)) % (37 : Int32)))] [(.int ((48 : Int32) + (((p1 &&& (2147483647 : Int32)) % (37 : Int32)) - (26 : Int32))))])) (fun _ k => XS.iadd X0.here hx rfl (hb hby d_method_4_code_32) rfl k) ?_
      refine Go.of (T' := s₁) (f' := (mkF m 34 #[.val (.int p1), .val (.int ((p1 &&& (2147483647 : Int32)) % (37 : Int32)))] [(.int (((48 : Int32) + (((p1 &&& (2147483647 : Int32)) % (37 : Int32)) - (26 : Int32))).toUInt32.toUInt16.toUInt32.toInt32))])) (fun _ k => XS.i2c X0.here hx rfl (hb hby d_method_4_code_33) rfl k) ?_
      exact goRetI (Q := Pu h0 (fun v => ∃ c : Int32, v = some (.int c) ∧ Rst c)) X0 hx (t := .char) hret hlk (congrArg Value.int (narC _)) (by simp) (hb hby d_method_4_code_34) K (by decide) (by decide) e0 (⟨rfl, rfl, _, rfl, c_r2 hc11 hc23⟩)
    ·
      refine Go.of (T' := s₁) (f' := (mkF m 35 #[.val (.int p1), .val (.int ((p1 &&& (2147483647 : Int32)) % (37 : Int32)))] [])) (fun _ k => XS.icmpYes X0.here hx rfl (pc0 := 23) (pc' := 35) rfl (hb hby d_method_4_code_23) rfl (flt hc23).2.1 (by decide) (by decide) k) ?_
      refine Go.of (T' := s₁) (f' := (mkF m 37 #[.val (.int p1), .val (.int ((p1 &&& (2147483647 : Int32)) % (37 : Int32)))] [(.int (95 : Int32))])) (fun _ k => XS.bipush X0.here hx rfl (hb hby d_method_4_code_35) k) ?_
      exact goRetI (Q := Pu h0 (fun v => ∃ c : Int32, v = some (.int c) ∧ Rst c)) X0 hx (t := .char) hret hlk rfl (by simp) (hb hby d_method_4_code_37) K (by decide) (by decide) e0 (⟨rfl, rfl, _, rfl, by decide⟩)
theorem pn_com_example_dozor_dozor_Names : plainName "com/example/dozor/dozor/Names" = true := by first | (simp [plainName, overriddenIn]; done) | decide +kernel
theorem ef_rm_low (m : MethodId) (x0 : Int32)  : entryFrame m #[(.int x0)] 1 = mkF m 0 #[.val (.int x0)] [] := by first | (simp [entryFrame, mkF, argsToLocals, Value.category]; done) | rfl
theorem d_prog_13_method_7_code_0 : decode prog_13_method_7_code 0 = .ok (.iload_n 0, 1) := by decide +kernel
theorem d_prog_13_method_7_code_1 : decode prog_13_method_7_code 1 = .ok (.bipush 97, 2) := by decide +kernel
theorem d_prog_13_method_7_code_3 : decode prog_13_method_7_code 3 = .ok (.if_icmp .lt 13, 3) := by decide +kernel
theorem d_prog_13_method_7_code_16 : decode prog_13_method_7_code 16 = .ok (.iconst 0, 1) := by decide +kernel
theorem d_prog_13_method_7_code_17 : decode prog_13_method_7_code 17 = .ok (.ireturn, 1) := by decide +kernel
theorem d_prog_13_method_7_code_6 : decode prog_13_method_7_code 6 = .ok (.iload_n 0, 1) := by decide +kernel
theorem d_prog_13_method_7_code_7 : decode prog_13_method_7_code 7 = .ok (.bipush 122, 2) := by decide +kernel
theorem d_prog_13_method_7_code_9 : decode prog_13_method_7_code 9 = .ok (.if_icmp .gt 7, 3) := by decide +kernel
theorem d_prog_13_method_7_code_12 : decode prog_13_method_7_code 12 = .ok (.iconst 1, 1) := by decide +kernel
theorem d_prog_13_method_7_code_13 : decode prog_13_method_7_code 13 = .ok (.goto 4, 3) := by decide +kernel
set_option maxRecDepth 65536 in
set_option maxHeartbeats 40000000 in
theorem rm_low (l : Launch) (Z : State) (a0 : Array Value) (hw : ∀ d ∈ tables_1, d.before a0 Z = true) (p1 : Int32) (h0 : Heap)  :
    MeetsW l Z (⟨"com/example/dozor/dozor/Names", "isLowerLetter", "(C)Z"⟩ : MethodName) prog_13_method_7_code 1 (some .boolean) ({ frames := 0, cells := 0, slots := 0, locals := 0 } : Room) #[(.int p1)] h0 (Pu h0 (fun v => v = some (.int (bi (Low p1))))) := by
  refine MeetsW.of (plainFor_of_name pn_com_example_dozor_dozor_Names) ?_
  intro p e s m below meth c s₁ P hx hby hml hZ hown hnm hret hlk X0 e0 K
  have M0 : Mv h0 h0 [] [] := Mv.refl _ _
  refine Go.cast (ef_rm_low m p1 ) ?_
  refine Go.of (T' := s₁) (f' := (mkF m 1 #[.val (.int p1)] [(.int p1)])) (fun _ k => XS.iloadN X0.here hx rfl (hb hby d_prog_13_method_7_code_0) rfl k) ?_
  refine Go.of (T' := s₁) (f' := (mkF m 3 #[.val (.int p1)] [(.int (97 : Int32)), (.int p1)])) (fun _ k => XS.bipush X0.here hx rfl (hb hby d_prog_13_method_7_code_1) k) ?_
  by_cases hc3 : p1 < (97 : Int32)
  ·
    refine Go.of (T' := s₁) (f' := (mkF m 16 #[.val (.int p1)] [])) (fun _ k => XS.icmpYes X0.here hx rfl (pc0 := 3) (pc' := 16) rfl (hb hby d_prog_13_method_7_code_3) rfl (tlt hc3).1 (by decide) (by decide) k) ?_
    refine Go.of (T' := s₁) (f' := (mkF m 17 #[.val (.int p1)] [(.int (0 : Int32))])) (fun _ k => XS.iconst X0.here hx rfl (hb hby d_prog_13_method_7_code_16) k) ?_
    exact goRetI (Q := Pu h0 (fun v => v = some (.int (bi (Low p1))))) X0 hx (t := .boolean) hret hlk rfl (by simp) (hb hby d_prog_13_method_7_code_17) K (by decide) (by decide) e0 (⟨rfl, rfl, by rw [bi_f (by rintro ⟨h1, h2⟩; first | exact h1 hc3 | exact h2 hc9)]⟩)
  ·
    refine Go.of (T' := s₁) (f' := (mkF m 6 #[.val (.int p1)] [])) (fun _ k => XS.icmpNo X0.here hx rfl (hb hby d_prog_13_method_7_code_3) rfl (flt hc3).1 k) ?_
    refine Go.of (T' := s₁) (f' := (mkF m 7 #[.val (.int p1)] [(.int p1)])) (fun _ k => XS.iloadN X0.here hx rfl (hb hby d_prog_13_method_7_code_6) rfl k) ?_
    refine Go.of (T' := s₁) (f' := (mkF m 9 #[.val (.int p1)] [(.int (122 : Int32)), (.int p1)])) (fun _ k => XS.bipush X0.here hx rfl (hb hby d_prog_13_method_7_code_7) k) ?_
    by_cases hc9 : (122 : Int32) < p1
    ·
      refine Go.of (T' := s₁) (f' := (mkF m 16 #[.val (.int p1)] [])) (fun _ k => XS.icmpYes X0.here hx rfl (pc0 := 9) (pc' := 16) rfl (hb hby d_prog_13_method_7_code_9) rfl (tlt hc9).2.2.1 (by decide) (by decide) k) ?_
      refine Go.of (T' := s₁) (f' := (mkF m 17 #[.val (.int p1)] [(.int (0 : Int32))])) (fun _ k => XS.iconst X0.here hx rfl (hb hby d_prog_13_method_7_code_16) k) ?_
      exact goRetI (Q := Pu h0 (fun v => v = some (.int (bi (Low p1))))) X0 hx (t := .boolean) hret hlk rfl (by simp) (hb hby d_prog_13_method_7_code_17) K (by decide) (by decide) e0 (⟨rfl, rfl, by rw [bi_f (by rintro ⟨h1, h2⟩; first | exact h1 hc3 | exact h2 hc9)]⟩)
    ·
      refine Go.of (T' := s₁) (f' := (mkF m 12 #[.val (.int p1)] [])) (fun _ k => XS.icmpNo X0.here hx rfl (hb hby d_prog_13_method_7_code_9) rfl (flt hc9).2.2.1 k) ?_
      refine Go.of (T' := s₁) (f' := (mkF m 13 #[.val (.int p1)] [(.int (1 : Int32))])) (fun _ k => XS.iconst X0.here hx rfl (hb hby d_prog_13_method_7_code_12) k) ?_
      refine Go.of (T' := s₁) (f' := (mkF m 17 #[.val (.int p1)] [(.int (1 : Int32))])) (fun _ k => XS.goto X0.here hx rfl (pc0 := 13) (pc' := 17) rfl (hb hby d_prog_13_method_7_code_13) (by decide) (by decide) k) ?_
      exact goRetI (Q := Pu h0 (fun v => v = some (.int (bi (Low p1))))) X0 hx (t := .boolean) hret hlk rfl (by simp) (hb hby d_prog_13_method_7_code_17) K (by decide) (by decide) e0 (⟨rfl, rfl, by rw [bi_t ⟨hc3, hc9⟩]⟩)
theorem ef_rm_require (m : MethodId) (x0 : Addr)  : entryFrame m #[(.ref x0)] 3 = mkF m 0 #[.val (.ref x0), .unset, .unset] [] := by first | (simp [entryFrame, mkF, argsToLocals, Value.category]; done) | rfl
theorem d_prog_13_method_2_code_0 : decode prog_13_method_2_code 0 = .ok (.aload_n 0, 1) := by decide +kernel
theorem d_prog_13_method_2_code_1 : decode prog_13_method_2_code 1 = .ok (.ifnonnull 13, 3) := by decide +kernel
theorem d_prog_13_method_2_code_14 : decode prog_13_method_2_code 14 = .ok (.aload_n 0, 1) := by decide +kernel
theorem d_prog_13_method_2_code_15 : decode prog_13_method_2_code 15 = .ok (.invokevirtual 14, 3) := by decide +kernel
theorem hw_wordsEmp {Z : State} {a0 : Array Value} (hw : ∀ d ∈ tables_1, d.before a0 Z = true) : ∀ d ∈ StrChars.Road.wordsEmp, d.before a0 Z = true := fun d hd => hw d ((by decide +kernel : ∀ d ∈ StrChars.Road.wordsEmp, d ∈ tables_1) d hd)
theorem pd___Z : parseMethodDescriptor "()Z" = some ⟨[], some .boolean⟩ := by decide +kernel
theorem d_prog_13_method_2_code_18 : decode prog_13_method_2_code 18 = .ok (.ifCond .ne 12, 3) := by decide +kernel
theorem d_prog_13_method_2_code_21 : decode prog_13_method_2_code 21 = .ok (.aload_n 0, 1) := by decide +kernel
theorem d_prog_13_method_2_code_22 : decode prog_13_method_2_code 22 = .ok (.invokevirtual 20, 3) := by decide +kernel
theorem hw_wordsLen {Z : State} {a0 : Array Value} (hw : ∀ d ∈ tables_1, d.before a0 Z = true) : ∀ d ∈ StrChars.Road.wordsLen, d.before a0 Z = true := fun d hd => hw d ((by decide +kernel : ∀ d ∈ StrChars.Road.wordsLen, d ∈ tables_1) d hd)
theorem pd___I : parseMethodDescriptor "()I" = some ⟨[], some .int⟩ := by decide +kernel
theorem d_prog_13_method_2_code_25 : decode prog_13_method_2_code 25 = .ok (.bipush 64, 2) := by decide +kernel
theorem d_prog_13_method_2_code_27 : decode prog_13_method_2_code 27 = .ok (.if_icmp .le 20, 3) := by decide +kernel
theorem d_prog_13_method_2_code_47 : decode prog_13_method_2_code 47 = .ok (.aload_n 0, 1) := by decide +kernel
theorem d_prog_13_method_2_code_48 : decode prog_13_method_2_code 48 = .ok (.iconst 0, 1) := by decide +kernel
theorem d_prog_13_method_2_code_49 : decode prog_13_method_2_code 49 = .ok (.invokevirtual 30, 3) := by decide +kernel
theorem hw_wordsChN {Z : State} {a0 : Array Value} (hw : ∀ d ∈ tables_1, d.before a0 Z = true) : ∀ d ∈ StrChars.Road.wordsChN, d.before a0 Z = true := fun d hd => hw d ((by decide +kernel : ∀ d ∈ StrChars.Road.wordsChN, d ∈ tables_1) d hd)
theorem pd__I_C : parseMethodDescriptor "(I)C" = some ⟨[.int], some .char⟩ := by decide +kernel
theorem d_prog_13_method_2_code_52 : decode prog_13_method_2_code 52 = .ok (.invokestatic 34, 3) := by decide +kernel
theorem pd__C_Z : parseMethodDescriptor "(C)Z" = some ⟨[.char], some .boolean⟩ := by decide +kernel
theorem d_prog_13_method_2_code_55 : decode prog_13_method_2_code 55 = .ok (.ifCond .ne 17, 3) := by decide +kernel
theorem d_prog_13_method_2_code_72 : decode prog_13_method_2_code 72 = .ok (.iconst 1, 1) := by decide +kernel
theorem d_prog_13_method_2_code_73 : decode prog_13_method_2_code 73 = .ok (.istore_n 1, 1) := by decide +kernel
theorem d_prog_13_method_2_code_74 : decode prog_13_method_2_code 74 = .ok (.iload_n 1, 1) := by decide +kernel
theorem d_prog_13_method_2_code_75 : decode prog_13_method_2_code 75 = .ok (.aload_n 0, 1) := by decide +kernel
theorem d_prog_13_method_2_code_76 : decode prog_13_method_2_code 76 = .ok (.invokevirtual 20, 3) := by decide +kernel
theorem d_prog_13_method_2_code_79 : decode prog_13_method_2_code 79 = .ok (.if_icmp .ge 54, 3) := by decide +kernel
theorem d_prog_13_method_2_code_82 : decode prog_13_method_2_code 82 = .ok (.aload_n 0, 1) := by decide +kernel
theorem d_prog_13_method_2_code_83 : decode prog_13_method_2_code 83 = .ok (.iload_n 1, 1) := by decide +kernel
theorem d_prog_13_method_2_code_84 : decode prog_13_method_2_code 84 = .ok (.invokevirtual 30, 3) := by decide +kernel
theorem d_prog_13_method_2_code_87 : decode prog_13_method_2_code 87 = .ok (.istore_n 2, 1) := by decide +kernel
theorem d_prog_13_method_2_code_88 : decode prog_13_method_2_code 88 = .ok (.iload_n 2, 1) := by decide +kernel
theorem d_prog_13_method_2_code_89 : decode prog_13_method_2_code 89 = .ok (.invokestatic 34, 3) := by decide +kernel
theorem d_prog_13_method_2_code_127 : decode prog_13_method_2_code 127 = .ok (.iinc 1 1, 3) := by decide +kernel
theorem d_prog_13_method_2_code_130 : decode prog_13_method_2_code 130 = .ok (.goto (-56), 3) := by decide +kernel
theorem d_prog_13_method_2_code_133 : decode prog_13_method_2_code 133 = .ok (.aload_n 0, 1) := by decide +kernel
theorem d_prog_13_method_2_code_134 : decode prog_13_method_2_code 134 = .ok (.areturn, 1) := by decide +kernel
theorem d_prog_13_method_2_code_92 : decode prog_13_method_2_code 92 = .ok (.ifCond .ne 35, 3) := by decide +kernel
theorem d_prog_13_method_2_code_95 : decode prog_13_method_2_code 95 = .ok (.iload_n 2, 1) := by decide +kernel
theorem d_prog_13_method_2_code_96 : decode prog_13_method_2_code 96 = .ok (.bipush 48, 2) := by decide +kernel
theorem d_prog_13_method_2_code_98 : decode prog_13_method_2_code 98 = .ok (.if_icmp .lt 9, 3) := by decide +kernel
theorem d_prog_13_method_2_code_107 : decode prog_13_method_2_code 107 = .ok (.iload_n 2, 1) := by decide +kernel
theorem d_prog_13_method_2_code_108 : decode prog_13_method_2_code 108 = .ok (.bipush 95, 2) := by decide +kernel
theorem d_prog_13_method_2_code_110 : decode prog_13_method_2_code 110 = .ok (.if_icmp .eq 17, 3) := by decide +kernel
theorem d_prog_13_method_2_code_101 : decode prog_13_method_2_code 101 = .ok (.iload_n 2, 1) := by decide +kernel
theorem d_prog_13_method_2_code_102 : decode prog_13_method_2_code 102 = .ok (.bipush 57, 2) := by decide +kernel
theorem d_prog_13_method_2_code_104 : decode prog_13_method_2_code 104 = .ok (.if_icmp .le 23, 3) := by decide +kernel
set_option maxRecDepth 65536 in
set_option maxHeartbeats 40000000 in
theorem rm_require (l : Launch) (Z : State) (a0 : Array Value) (hw : ∀ d ∈ tables_1, d.before a0 Z = true) (a1 t1 : Addr) (cs : List Int32) (zc : Int32) (fm : Value) (h0 : Heap) (S_a1 : Str Z h0 a1 t1 cs) (hl : ∀ c ∈ cs, ¬ (255 : Int32) < c) (hN : Name cs) (Z_cs : Sta Z h0 "java/lang/String" "COMPACT_STRINGS" "Z" (.int zc)) (hz : ¬ zc = 0) (Z_fm : Sta Z h0 "jdk/internal/util/Preconditions" "SIOOBE_FORMATTER" "Ljava/util/function/BiFunction;" fm) (hfm : fm.isRef = true) :
    MeetsW l Z (⟨"com/example/dozor/dozor/Names", "requireCollectionName", "(Ljava/lang/String;)Ljava/lang/String;"⟩ : MethodName) prog_13_method_2_code 3 (some (.object "java/lang/String")) ({ frames := 4, cells := 0, slots := 0, locals := 53 } : Room) #[(.ref a1)] h0 (Pu h0 (fun v => v = some (.ref a1))) := by
  refine MeetsW.of (plainFor_of_name pn_com_example_dozor_dozor_Names) ?_
  intro p e s m below meth c s₁ P hx hby hml hZ hown hnm hret hlk X0 e0 K
  have M0 : Mv h0 h0 [] [] := Mv.refl _ _
  refine Go.cast (ef_rm_require m a1 ) ?_
  refine Go.of (T' := s₁) (f' := (mkF m 1 #[.val (.ref a1), .unset, .unset] [(.ref a1)])) (fun _ k => XS.aloadN X0.here hx rfl (hb hby d_prog_13_method_2_code_0) rfl rfl k) ?_
  refine Go.of (T' := s₁) (f' := (mkF m 14 #[.val (.ref a1), .unset, .unset] [])) (fun _ k => XS.ifnonnullYes X0.here hx rfl (pc0 := 1) (pc' := 14) rfl (hb hby d_prog_13_method_2_code_1) rfl (by decide) (by decide) k) ?_
  refine Go.of (T' := s₁) (f' := (mkF m 15 #[.val (.ref a1), .unset, .unset] [(.ref a1)])) (fun _ k => XS.aloadN X0.here hx rfl (hb hby d_prog_13_method_2_code_14) rfl rfl k) ?_
  refine goV X0 hx hZ (y := (⟨"java/lang/String", "isEmpty", "()Z"⟩ : MethodName)) (z := (⟨"java/lang/String", "isEmpty", "()Z"⟩ : MethodName)) hown (hw _ (List.mem_of_getElem? (i := 45) rfl)) (hw _ (List.mem_of_getElem? (i := 46) rfl)) (notFace_of_selects (args := #[]) (mvT hZ (hw _ (List.mem_of_getElem? (i := 48) rfl)))) (hw _ (List.mem_of_getElem? (i := 48) rfl)) (hw _ (List.mem_of_getElem? (i := 47) rfl)) (by decide) (C := 0) (S := 0) (empStr (W := 0) hZ (hw_wordsEmp hw) (hw _ (List.mem_of_getElem? (i := 10) rfl)) S_a1 (by decide) (by decide)) e0 S_a1.exa (argsL := []) (rest := []) (by rw [hml]; rfl) (lenOf pd___Z rfl) rfl rfl (hb hby d_prog_13_method_2_code_15) (Nat.le_of_eq rfl) (by decide) (by decide) ?_
  intro v1 T1 L1 X1 hQ1
  obtain ⟨nq1, e1, rfl⟩ := hQ1
  replace X1 := standNil X1 nq1
  show Go p e below P T1 (mkF m 18 #[.val (.ref a1), .unset, .unset] [(.int (bi (cs.length = 0)))])
  have hc18 : ¬ (cs.length = 0) := by have := hN.1; omega
  refine Go.of (T' := T1) (f' := (mkF m 21 #[.val (.ref a1), .unset, .unset] [])) (fun _ k => XS.ifNo X1.here hx rfl (hb hby d_prog_13_method_2_code_18) rfl ((if0 _ _).trans (teq (bi_f hc18)).2) k) ?_
  refine Go.of (T' := T1) (f' := (mkF m 22 #[.val (.ref a1), .unset, .unset] [(.ref a1)])) (fun _ k => XS.aloadN X1.here hx rfl (hb hby d_prog_13_method_2_code_21) rfl rfl k) ?_
  refine goV X1 hx hZ (y := (⟨"java/lang/String", "length", "()I"⟩ : MethodName)) (z := (⟨"java/lang/String", "length", "()I"⟩ : MethodName)) hown (hw _ (List.mem_of_getElem? (i := 50) rfl)) (hw _ (List.mem_of_getElem? (i := 51) rfl)) (notFace_of_selects (args := #[]) (mvT hZ (hw _ (List.mem_of_getElem? (i := 53) rfl)))) (hw _ (List.mem_of_getElem? (i := 53) rfl)) (hw _ (List.mem_of_getElem? (i := 52) rfl)) (by decide) (C := 0) (S := 0) (lenStr (W := 0) hZ (hw_wordsLen hw) (hw _ (List.mem_of_getElem? (i := 10) rfl)) S_a1 Z_cs hz (by decide) (by decide)) e1 S_a1.exa (argsL := []) (rest := []) (by rw [hml]; rfl) (lenOf pd___I rfl) rfl rfl (hb hby d_prog_13_method_2_code_22) (Nat.le_of_eq rfl) (by decide) (by decide) ?_
  intro v2 T2 L2 X2 hQ2
  obtain ⟨nq2, e2, rfl⟩ := hQ2
  replace X2 := standNil X2 nq2
  show Go p e below P T2 (mkF m 25 #[.val (.ref a1), .unset, .unset] [(.int (Int32.ofNat cs.length))])
  refine Go.of (T' := T2) (f' := (mkF m 27 #[.val (.ref a1), .unset, .unset] [(.int (64 : Int32)), (.int (Int32.ofNat cs.length))])) (fun _ k => XS.bipush X2.here hx rfl (hb hby d_prog_13_method_2_code_25) k) ?_
  have hc27 : ¬ ((64 : Int32) < (Int32.ofNat cs.length)) := len64 hN.2.1
  refine Go.of (T' := T2) (f' := (mkF m 47 #[.val (.ref a1), .unset, .unset] [])) (fun _ k => XS.icmpYes X2.here hx rfl (pc0 := 27) (pc' := 47) rfl (hb hby d_prog_13_method_2_code_27) rfl (flt hc27).2.2.2 (by decide) (by decide) k) ?_
  refine Go.of (T' := T2) (f' := (mkF m 48 #[.val (.ref a1), .unset, .unset] [(.ref a1)])) (fun _ k => XS.aloadN X2.here hx rfl (hb hby d_prog_13_method_2_code_47) rfl rfl k) ?_
  refine Go.of (T' := T2) (f' := (mkF m 49 #[.val (.ref a1), .unset, .unset] [(.int (0 : Int32)), (.ref a1)])) (fun _ k => XS.iconst X2.here hx rfl (hb hby d_prog_13_method_2_code_48) k) ?_
  refine goV X2 hx hZ (y := (⟨"java/lang/String", "charAt", "(I)C"⟩ : MethodName)) (z := (⟨"java/lang/String", "charAt", "(I)C"⟩ : MethodName)) hown (hw _ (List.mem_of_getElem? (i := 60) rfl)) (hw _ (List.mem_of_getElem? (i := 61) rfl)) (notFace_of_selects (args := #[]) (mvT hZ (hw _ (List.mem_of_getElem? (i := 63) rfl)))) (hw _ (List.mem_of_getElem? (i := 63) rfl)) (hw _ (List.mem_of_getElem? (i := 62) rfl)) (by decide) (C := 0) (S := 0) (chStr (W := 0) hZ (hw_wordsChN hw) (hw _ (List.mem_of_getElem? (i := 10) rfl)) (i := 0) S_a1 hl Z_cs hz Z_fm hfm hN.1 rfl (by decide) (by decide)) e2 S_a1.exa (argsL := [(.int (0 : Int32))]) (rest := []) (by rw [hml]; rfl) (lenOf pd__I_C rfl) rfl rfl (hb hby d_prog_13_method_2_code_49) (Nat.le_of_eq rfl) (by decide) (by decide) ?_
  intro v3 T3 L3 X3 hQ3
  obtain ⟨nq3, e3, rfl⟩ := hQ3
  replace X3 := standNil X3 nq3
  show Go p e below P T3 (mkF m 52 #[.val (.ref a1), .unset, .unset] [(.int (cs.getD 0 0))])
  refine goS X3 hx hZ hown (hw _ (List.mem_of_getElem? (i := 82) rfl)) (hw _ (List.mem_of_getElem? (i := 83) rfl)) (hw _ (List.mem_of_getElem? (i := 43) rfl)) (hw _ (List.mem_of_getElem? (i := 84) rfl)) (by decide) (C := 0) (S := 0) ((rm_low l Z a0 hw (cs.getD 0 0) h0 ).bk (W := 0) hZ (hw _ (List.mem_of_getElem? (i := 84) rfl)) (hw _ (List.mem_of_getElem? (i := 43) rfl)) (by decide) (by decide)) e3 (argsL := [(.int (cs.getD 0 0))]) (rest := []) (by rw [hml]; rfl) (lenOf pd__C_Z rfl) rfl rfl (hb hby d_prog_13_method_2_code_52) (Nat.le_of_eq rfl) (by decide) (by decide) ?_
  intro v4 T4 L4 X4 hQ4
  obtain ⟨nq4, e4, rfl⟩ := hQ4
  replace X4 := standNil X4 nq4
  show Go p e below P T4 (mkF m 55 #[.val (.ref a1), .unset, .unset] [(.int (bi (Low (cs.getD 0 0))))])
  have hc55 : Low (cs.getD 0 0) := hN.2.2.1
  refine Go.of (T' := T4) (f' := (mkF m 72 #[.val (.ref a1), .unset, .unset] [])) (fun _ k => XS.ifYes X4.here hx rfl (pc0 := 55) (pc' := 72) rfl (hb hby d_prog_13_method_2_code_55) rfl ((if0 _ _).trans (feq (bi_ne hc55)).2) (by decide) (by decide) k) ?_
  refine Go.of (T' := T4) (f' := (mkF m 73 #[.val (.ref a1), .unset, .unset] [(.int (1 : Int32))])) (fun _ k => XS.iconst X4.here hx rfl (hb hby d_prog_13_method_2_code_72) k) ?_
  refine Go.of (T' := T4) (f' := (mkF m 74 #[.val (.ref a1), .val (.int (1 : Int32)), .unset] [])) (fun _ k => XS.istoreN X4.here hx rfl (hb hby d_prog_13_method_2_code_73) rfl (l' := #[.val (.ref a1), .val (.int (1 : Int32)), .unset]) rfl k) ?_
  show Go p e below P T4 (mkF m 74 #[.val (.ref a1), .val (.int (Int32.ofNat 1)), .unset] [])
  have hi1 : 1 ≤ cs.length := hN.1
  refine Go.of (T' := T4) (f' := (mkF m 75 #[.val (.ref a1), .val (.int (Int32.ofNat 1)), .unset] [(.int (Int32.ofNat 1))])) (fun _ k => XS.iloadN X4.here hx rfl (hb hby d_prog_13_method_2_code_74) rfl k) ?_
  refine Go.of (T' := T4) (f' := (mkF m 76 #[.val (.ref a1), .val (.int (Int32.ofNat 1)), .unset] [(.ref a1), (.int (Int32.ofNat 1))])) (fun _ k => XS.aloadN X4.here hx rfl (hb hby d_prog_13_method_2_code_75) rfl rfl k) ?_
  refine goV X4 hx hZ (y := (⟨"java/lang/String", "length", "()I"⟩ : MethodName)) (z := (⟨"java/lang/String", "length", "()I"⟩ : MethodName)) hown (hw _ (List.mem_of_getElem? (i := 50) rfl)) (hw _ (List.mem_of_getElem? (i := 51) rfl)) (notFace_of_selects (args := #[]) (mvT hZ (hw _ (List.mem_of_getElem? (i := 53) rfl)))) (hw _ (List.mem_of_getElem? (i := 53) rfl)) (hw _ (List.mem_of_getElem? (i := 52) rfl)) (by decide) (C := 0) (S := 0) (lenStr (W := 1) hZ (hw_wordsLen hw) (hw _ (List.mem_of_getElem? (i := 10) rfl)) S_a1 Z_cs hz (by decide) (by decide)) e4 S_a1.exa (argsL := []) (rest := [(.int (Int32.ofNat 1))]) (by rw [hml]; rfl) (lenOf pd___I rfl) rfl rfl (hb hby d_prog_13_method_2_code_76) (Nat.le_of_eq rfl) (by decide) (by decide) ?_
  intro v5 T5 L5 X5 hQ5
  obtain ⟨nq5, e5, rfl⟩ := hQ5
  replace X5 := standNil X5 nq5
  show Go p e below P T5 (mkF m 79 #[.val (.ref a1), .val (.int (Int32.ofNat 1)), .unset] [(.int (Int32.ofNat cs.length)), (.int (Int32.ofNat 1))])
  by_cases hc79 : (Int32.ofNat 1) < (Int32.ofNat cs.length)
  ·
    refine Go.of (T' := T5) (f' := (mkF m 82 #[.val (.ref a1), .val (.int (Int32.ofNat 1)), .unset] [])) (fun _ k => XS.icmpNo X5.here hx rfl (hb hby d_prog_13_method_2_code_79) rfl (tlt hc79).2.1 k) ?_
    refine Go.of (T' := T5) (f' := (mkF m 83 #[.val (.ref a1), .val (.int (Int32.ofNat 1)), .unset] [(.ref a1)])) (fun _ k => XS.aloadN X5.here hx rfl (hb hby d_prog_13_method_2_code_82) rfl rfl k) ?_
    refine Go.of (T' := T5) (f' := (mkF m 84 #[.val (.ref a1), .val (.int (Int32.ofNat 1)), .unset] [(.int (Int32.ofNat 1)), (.ref a1)])) (fun _ k => XS.iloadN X5.here hx rfl (hb hby d_prog_13_method_2_code_83) rfl k) ?_
    refine goV X5 hx hZ (y := (⟨"java/lang/String", "charAt", "(I)C"⟩ : MethodName)) (z := (⟨"java/lang/String", "charAt", "(I)C"⟩ : MethodName)) hown (hw _ (List.mem_of_getElem? (i := 60) rfl)) (hw _ (List.mem_of_getElem? (i := 61) rfl)) (notFace_of_selects (args := #[]) (mvT hZ (hw _ (List.mem_of_getElem? (i := 63) rfl)))) (hw _ (List.mem_of_getElem? (i := 63) rfl)) (hw _ (List.mem_of_getElem? (i := 62) rfl)) (by decide) (C := 0) (S := 0) (chStr (W := 0) hZ (hw_wordsChN hw) (hw _ (List.mem_of_getElem? (i := 10) rfl)) (i := 1) S_a1 hl Z_cs hz Z_fm hfm ((ltN (by have := hN.2.1; omega) (by have := hN.2.1; omega)).mp hc79) rfl (by decide) (by decide)) e5 S_a1.exa (argsL := [(.int (Int32.ofNat 1))]) (rest := []) (by rw [hml]; rfl) (lenOf pd__I_C rfl) rfl rfl (hb hby d_prog_13_method_2_code_84) (Nat.le_of_eq rfl) (by decide) (by decide) ?_
    intro v6 T6 L6 X6 hQ6
    obtain ⟨nq6, e6, rfl⟩ := hQ6
    replace X6 := standNil X6 nq6
    show Go p e below P T6 (mkF m 87 #[.val (.ref a1), .val (.int (Int32.ofNat 1)), .unset] [(.int (cs.getD 1 0))])
    refine Go.of (T' := T6) (f' := (mkF m 88 #[.val (.ref a1), .val (.int (Int32.ofNat 1)), .val (.int (cs.getD 1 0))] [])) (fun _ k => XS.istoreN X6.here hx rfl (hb hby d_prog_13_method_2_code_87) rfl (l' := #[.val (.ref a1), .val (.int (Int32.ofNat 1)), .val (.int (cs.getD 1 0))]) rfl k) ?_
    refine Go.of (T' := T6) (f' := (mkF m 89 #[.val (.ref a1), .val (.int (Int32.ofNat 1)), .val (.int (cs.getD 1 0))] [(.int (cs.getD 1 0))])) (fun _ k => XS.iloadN X6.here hx rfl (hb hby d_prog_13_method_2_code_88) rfl k) ?_
    refine goS X6 hx hZ hown (hw _ (List.mem_of_getElem? (i := 82) rfl)) (hw _ (List.mem_of_getElem? (i := 83) rfl)) (hw _ (List.mem_of_getElem? (i := 43) rfl)) (hw _ (List.mem_of_getElem? (i := 84) rfl)) (by decide) (C := 0) (S := 0) ((rm_low l Z a0 hw (cs.getD 1 0) h0 ).bk (W := 0) hZ (hw _ (List.mem_of_getElem? (i := 84) rfl)) (hw _ (List.mem_of_getElem? (i := 43) rfl)) (by decide) (by decide)) e6 (argsL := [(.int (cs.getD 1 0))]) (rest := []) (by rw [hml]; rfl) (lenOf pd__C_Z rfl) rfl rfl (hb hby d_prog_13_method_2_code_89) (Nat.le_of_eq rfl) (by decide) (by decide) ?_
    intro v7 T7 L7 X7 hQ7
    obtain ⟨nq7, e7, rfl⟩ := hQ7
    replace X7 := standNil X7 nq7
    show Go p e below P T7 (mkF m 92 #[.val (.ref a1), .val (.int (Int32.ofNat 1)), .val (.int (cs.getD 1 0))] [(.int (bi (Low (cs.getD 1 0))))])
    have J8 : Go p e below P T7 (mkF m 127 #[.val (.ref a1), .val (.int (Int32.ofNat 1)), .val (.int (cs.getD 1 0))] []) := by
      refine Go.of (T' := T7) (f' := (mkF m 130 #[.val (.ref a1), .val (.int ((Int32.ofNat 1) + (1 : Int32))), .val (.int (cs.getD 1 0))] [])) (fun _ k => XS.iinc X7.here hx rfl (hb hby d_prog_13_method_2_code_127) rfl (l' := #[.val (.ref a1), .val (.int ((Int32.ofNat 1) + (1 : Int32))), .val (.int (cs.getD 1 0))]) rfl k) ?_
      refine Go.of (T' := T7) (f' := (mkF m 74 #[.val (.ref a1), .val (.int ((Int32.ofNat 1) + (1 : Int32))), .val (.int (cs.getD 1 0))] [])) (fun _ k => XS.goto X7.here hx rfl (pc0 := 130) (pc' := 74) rfl (hb hby d_prog_13_method_2_code_130) (by decide) (by decide) k) ?_
      have J : ∀ (n i : Nat) (cj : Int32) (Tj : State), cs.length ≤ i + n → i ≤ cs.length → Stand p l e ({ frames := 4, cells := 0, slots := 0, locals := 53 } : Room) s m #[.ref a1] below meth c Tj [] 0 0 → Tj.heap = h0 → Go p e below P Tj (mkF m 74 #[.val (.ref a1), .val (.int (Int32.ofNat i)), .val (.int cj)] []) := by
        clear hc79
        intro n
        induction n with
        | zero =>
          intro i cj Tj hle hi1 Xj ej
          refine Go.of (T' := Tj) (f' := (mkF m 75 #[.val (.ref a1), .val (.int (Int32.ofNat i)), .val (.int cj)] [(.int (Int32.ofNat i))])) (fun _ k => XS.iloadN Xj.here hx rfl (hb hby d_prog_13_method_2_code_74) rfl k) ?_
          refine Go.of (T' := Tj) (f' := (mkF m 76 #[.val (.ref a1), .val (.int (Int32.ofNat i)), .val (.int cj)] [(.ref a1), (.int (Int32.ofNat i))])) (fun _ k => XS.aloadN Xj.here hx rfl (hb hby d_prog_13_method_2_code_75) rfl rfl k) ?_
          refine goV Xj hx hZ (y := (⟨"java/lang/String", "length", "()I"⟩ : MethodName)) (z := (⟨"java/lang/String", "length", "()I"⟩ : MethodName)) hown (hw _ (List.mem_of_getElem? (i := 50) rfl)) (hw _ (List.mem_of_getElem? (i := 51) rfl)) (notFace_of_selects (args := #[]) (mvT hZ (hw _ (List.mem_of_getElem? (i := 53) rfl)))) (hw _ (List.mem_of_getElem? (i := 53) rfl)) (hw _ (List.mem_of_getElem? (i := 52) rfl)) (by decide) (C := 0) (S := 0) (lenStr (W := 1) hZ (hw_wordsLen hw) (hw _ (List.mem_of_getElem? (i := 10) rfl)) S_a1 Z_cs hz (by decide) (by decide)) ej S_a1.exa (argsL := []) (rest := [(.int (Int32.ofNat i))]) (by rw [hml]; rfl) (lenOf pd___I rfl) rfl rfl (hb hby d_prog_13_method_2_code_76) (Nat.le_of_eq rfl) (by decide) (by decide) ?_
          intro v9 T9 L9 X9 hQ9
          obtain ⟨nq9, e9, rfl⟩ := hQ9
          replace X9 := standNil X9 nq9
          show Go p e below P T9 (mkF m 79 #[.val (.ref a1), .val (.int (Int32.ofNat i)), .val (.int cj)] [(.int (Int32.ofNat cs.length)), (.int (Int32.ofNat i))])
          have hc79 : ¬ ((Int32.ofNat i) < (Int32.ofNat cs.length)) := fun q => by have q := (ltN (by have := hN.2.1; omega) (by have := hN.2.1; omega)).mp q; omega
          refine Go.of (T' := T9) (f' := (mkF m 133 #[.val (.ref a1), .val (.int (Int32.ofNat i)), .val (.int cj)] [])) (fun _ k => XS.icmpYes X9.here hx rfl (pc0 := 79) (pc' := 133) rfl (hb hby d_prog_13_method_2_code_79) rfl (flt hc79).2.1 (by decide) (by decide) k) ?_
          refine Go.of (T' := T9) (f' := (mkF m 134 #[.val (.ref a1), .val (.int (Int32.ofNat i)), .val (.int cj)] [(.ref a1)])) (fun _ k => XS.aloadN X9.here hx rfl (hb hby d_prog_13_method_2_code_133) rfl rfl k) ?_
          exact goRetR (Q := Pu h0 (fun v => v = some (.ref a1))) X9 hx hret rfl hlk rfl rfl (hb hby d_prog_13_method_2_code_134) K (by decide) (by decide) e9 (⟨rfl, rfl, rfl⟩)
        | succ n ih =>
          intro i cj Tj hle hi1 Xj ej
          refine Go.of (T' := Tj) (f' := (mkF m 75 #[.val (.ref a1), .val (.int (Int32.ofNat i)), .val (.int cj)] [(.int (Int32.ofNat i))])) (fun _ k => XS.iloadN Xj.here hx rfl (hb hby d_prog_13_method_2_code_74) rfl k) ?_
          refine Go.of (T' := Tj) (f' := (mkF m 76 #[.val (.ref a1), .val (.int (Int32.ofNat i)), .val (.int cj)] [(.ref a1), (.int (Int32.ofNat i))])) (fun _ k => XS.aloadN Xj.here hx rfl (hb hby d_prog_13_method_2_code_75) rfl rfl k) ?_
          refine goV Xj hx hZ (y := (⟨"java/lang/String", "length", "()I"⟩ : MethodName)) (z := (⟨"java/lang/String", "length", "()I"⟩ : MethodName)) hown (hw _ (List.mem_of_getElem? (i := 50) rfl)) (hw _ (List.mem_of_getElem? (i := 51) rfl)) (notFace_of_selects (args := #[]) (mvT hZ (hw _ (List.mem_of_getElem? (i := 53) rfl)))) (hw _ (List.mem_of_getElem? (i := 53) rfl)) (hw _ (List.mem_of_getElem? (i := 52) rfl)) (by decide) (C := 0) (S := 0) (lenStr (W := 1) hZ (hw_wordsLen hw) (hw _ (List.mem_of_getElem? (i := 10) rfl)) S_a1 Z_cs hz (by decide) (by decide)) ej S_a1.exa (argsL := []) (rest := [(.int (Int32.ofNat i))]) (by rw [hml]; rfl) (lenOf pd___I rfl) rfl rfl (hb hby d_prog_13_method_2_code_76) (Nat.le_of_eq rfl) (by decide) (by decide) ?_
          intro v10 T10 L10 X10 hQ10
          obtain ⟨nq10, e10, rfl⟩ := hQ10
          replace X10 := standNil X10 nq10
          show Go p e below P T10 (mkF m 79 #[.val (.ref a1), .val (.int (Int32.ofNat i)), .val (.int cj)] [(.int (Int32.ofNat cs.length)), (.int (Int32.ofNat i))])
          by_cases hc79 : (Int32.ofNat i) < (Int32.ofNat cs.length)
          ·
            refine Go.of (T' := T10) (f' := (mkF m 82 #[.val (.ref a1), .val (.int (Int32.ofNat i)), .val (.int cj)] [])) (fun _ k => XS.icmpNo X10.here hx rfl (hb hby d_prog_13_method_2_code_79) rfl (tlt hc79).2.1 k) ?_
            refine Go.of (T' := T10) (f' := (mkF m 83 #[.val (.ref a1), .val (.int (Int32.ofNat i)), .val (.int cj)] [(.ref a1)])) (fun _ k => XS.aloadN X10.here hx rfl (hb hby d_prog_13_method_2_code_82) rfl rfl k) ?_
            refine Go.of (T' := T10) (f' := (mkF m 84 #[.val (.ref a1), .val (.int (Int32.ofNat i)), .val (.int cj)] [(.int (Int32.ofNat i)), (.ref a1)])) (fun _ k => XS.iloadN X10.here hx rfl (hb hby d_prog_13_method_2_code_83) rfl k) ?_
            refine goV X10 hx hZ (y := (⟨"java/lang/String", "charAt", "(I)C"⟩ : MethodName)) (z := (⟨"java/lang/String", "charAt", "(I)C"⟩ : MethodName)) hown (hw _ (List.mem_of_getElem? (i := 60) rfl)) (hw _ (List.mem_of_getElem? (i := 61) rfl)) (notFace_of_selects (args := #[]) (mvT hZ (hw _ (List.mem_of_getElem? (i := 63) rfl)))) (hw _ (List.mem_of_getElem? (i := 63) rfl)) (hw _ (List.mem_of_getElem? (i := 62) rfl)) (by decide) (C := 0) (S := 0) (chStr (W := 0) hZ (hw_wordsChN hw) (hw _ (List.mem_of_getElem? (i := 10) rfl)) (i := i) S_a1 hl Z_cs hz Z_fm hfm ((ltN (by have := hN.2.1; omega) (by have := hN.2.1; omega)).mp hc79) rfl (by decide) (by decide)) e10 S_a1.exa (argsL := [(.int (Int32.ofNat i))]) (rest := []) (by rw [hml]; rfl) (lenOf pd__I_C rfl) rfl rfl (hb hby d_prog_13_method_2_code_84) (Nat.le_of_eq rfl) (by decide) (by decide) ?_
            intro v11 T11 L11 X11 hQ11
            obtain ⟨nq11, e11, rfl⟩ := hQ11
            replace X11 := standNil X11 nq11
            show Go p e below P T11 (mkF m 87 #[.val (.ref a1), .val (.int (Int32.ofNat i)), .val (.int cj)] [(.int (cs.getD i 0))])
            refine Go.of (T' := T11) (f' := (mkF m 88 #[.val (.ref a1), .val (.int (Int32.ofNat i)), .val (.int (cs.getD i 0))] [])) (fun _ k => XS.istoreN X11.here hx rfl (hb hby d_prog_13_method_2_code_87) rfl (l' := #[.val (.ref a1), .val (.int (Int32.ofNat i)), .val (.int (cs.getD i 0))]) rfl k) ?_
            refine Go.of (T' := T11) (f' := (mkF m 89 #[.val (.ref a1), .val (.int (Int32.ofNat i)), .val (.int (cs.getD i 0))] [(.int (cs.getD i 0))])) (fun _ k => XS.iloadN X11.here hx rfl (hb hby d_prog_13_method_2_code_88) rfl k) ?_
            refine goS X11 hx hZ hown (hw _ (List.mem_of_getElem? (i := 82) rfl)) (hw _ (List.mem_of_getElem? (i := 83) rfl)) (hw _ (List.mem_of_getElem? (i := 43) rfl)) (hw _ (List.mem_of_getElem? (i := 84) rfl)) (by decide) (C := 0) (S := 0) ((rm_low l Z a0 hw (cs.getD i 0) h0 ).bk (W := 0) hZ (hw _ (List.mem_of_getElem? (i := 84) rfl)) (hw _ (List.mem_of_getElem? (i := 43) rfl)) (by decide) (by decide)) e11 (argsL := [(.int (cs.getD i 0))]) (rest := []) (by rw [hml]; rfl) (lenOf pd__C_Z rfl) rfl rfl (hb hby d_prog_13_method_2_code_89) (Nat.le_of_eq rfl) (by decide) (by decide) ?_
            intro v12 T12 L12 X12 hQ12
            obtain ⟨nq12, e12, rfl⟩ := hQ12
            replace X12 := standNil X12 nq12
            show Go p e below P T12 (mkF m 92 #[.val (.ref a1), .val (.int (Int32.ofNat i)), .val (.int (cs.getD i 0))] [(.int (bi (Low (cs.getD i 0))))])
            have J13 : Go p e below P T12 (mkF m 127 #[.val (.ref a1), .val (.int (Int32.ofNat i)), .val (.int (cs.getD i 0))] []) := by
              refine Go.of (T' := T12) (f' := (mkF m 130 #[.val (.ref a1), .val (.int ((Int32.ofNat i) + (1 : Int32))), .val (.int (cs.getD i 0))] [])) (fun _ k => XS.iinc X12.here hx rfl (hb hby d_prog_13_method_2_code_127) rfl (l' := #[.val (.ref a1), .val (.int ((Int32.ofNat i) + (1 : Int32))), .val (.int (cs.getD i 0))]) rfl k) ?_
              refine Go.of (T' := T12) (f' := (mkF m 74 #[.val (.ref a1), .val (.int ((Int32.ofNat i) + (1 : Int32))), .val (.int (cs.getD i 0))] [])) (fun _ k => XS.goto X12.here hx rfl (pc0 := 130) (pc' := 74) rfl (hb hby d_prog_13_method_2_code_130) (by decide) (by decide) k) ?_
              rw [show (Int32.ofNat i) + (1 : Int32) = Int32.ofNat (i + 1) from (Int32.ofNat_add i 1).symm]
              exact ih (i + 1) _ T12 (by omega) ((ltN (by have := hN.2.1; omega) (by have := hN.2.1; omega)).mp hc79) X12 e12
            by_cases hc92 : Low (cs.getD i 0)
            ·
              refine Go.of (T' := T12) (f' := (mkF m 127 #[.val (.ref a1), .val (.int (Int32.ofNat i)), .val (.int (cs.getD i 0))] [])) (fun _ k => XS.ifYes X12.here hx rfl (pc0 := 92) (pc' := 127) rfl (hb hby d_prog_13_method_2_code_92) rfl ((if0 _ _).trans (feq (bi_ne hc92)).2) (by decide) (by decide) k) ?_
              exact J13
            ·
              refine Go.of (T' := T12) (f' := (mkF m 95 #[.val (.ref a1), .val (.int (Int32.ofNat i)), .val (.int (cs.getD i 0))] [])) (fun _ k => XS.ifNo X12.here hx rfl (hb hby d_prog_13_method_2_code_92) rfl ((if0 _ _).trans (teq (bi_f hc92)).2) k) ?_
              refine Go.of (T' := T12) (f' := (mkF m 96 #[.val (.ref a1), .val (.int (Int32.ofNat i)), .val (.int (cs.getD i 0))] [(.int (cs.getD i 0))])) (fun _ k => XS.iloadN X12.here hx rfl (hb hby d_prog_13_method_2_code_95) rfl k) ?_
              refine Go.of (T' := T12) (f' := (mkF m 98 #[.val (.ref a1), .val (.int (Int32.ofNat i)), .val (.int (cs.getD i 0))] [(.int (48 : Int32)), (.int (cs.getD i 0))])) (fun _ k => XS.bipush X12.here hx rfl (hb hby d_prog_13_method_2_code_96) k) ?_
              by_cases hc98 : (cs.getD i 0) < (48 : Int32)
              ·
                refine Go.of (T' := T12) (f' := (mkF m 107 #[.val (.ref a1), .val (.int (Int32.ofNat i)), .val (.int (cs.getD i 0))] [])) (fun _ k => XS.icmpYes X12.here hx rfl (pc0 := 98) (pc' := 107) rfl (hb hby d_prog_13_method_2_code_98) rfl (tlt hc98).1 (by decide) (by decide) k) ?_
                refine Go.of (T' := T12) (f' := (mkF m 108 #[.val (.ref a1), .val (.int (Int32.ofNat i)), .val (.int (cs.getD i 0))] [(.int (cs.getD i 0))])) (fun _ k => XS.iloadN X12.here hx rfl (hb hby d_prog_13_method_2_code_107) rfl k) ?_
                refine Go.of (T' := T12) (f' := (mkF m 110 #[.val (.ref a1), .val (.int (Int32.ofNat i)), .val (.int (cs.getD i 0))] [(.int (95 : Int32)), (.int (cs.getD i 0))])) (fun _ k => XS.bipush X12.here hx rfl (hb hby d_prog_13_method_2_code_108) k) ?_
                have hc110 : (cs.getD i 0) = (95 : Int32) := (hN.2.2.2 i ((ltN (by have := hN.2.1; omega) (by have := hN.2.1; omega)).mp hc79)).elim (fun h => absurd h hc92) (fun h => h.elim (fun h => by first | exact absurd hc98 h.1 | exact absurd hc104 h.2) id)
                refine Go.of (T' := T12) (f' := (mkF m 127 #[.val (.ref a1), .val (.int (Int32.ofNat i)), .val (.int (cs.getD i 0))] [])) (fun _ k => XS.icmpYes X12.here hx rfl (pc0 := 110) (pc' := 127) rfl (hb hby d_prog_13_method_2_code_110) rfl (teq hc110).1 (by decide) (by decide) k) ?_
                exact J13
              ·
                refine Go.of (T' := T12) (f' := (mkF m 101 #[.val (.ref a1), .val (.int (Int32.ofNat i)), .val (.int (cs.getD i 0))] [])) (fun _ k => XS.icmpNo X12.here hx rfl (hb hby d_prog_13_method_2_code_98) rfl (flt hc98).1 k) ?_
                refine Go.of (T' := T12) (f' := (mkF m 102 #[.val (.ref a1), .val (.int (Int32.ofNat i)), .val (.int (cs.getD i 0))] [(.int (cs.getD i 0))])) (fun _ k => XS.iloadN X12.here hx rfl (hb hby d_prog_13_method_2_code_101) rfl k) ?_
                refine Go.of (T' := T12) (f' := (mkF m 104 #[.val (.ref a1), .val (.int (Int32.ofNat i)), .val (.int (cs.getD i 0))] [(.int (57 : Int32)), (.int (cs.getD i 0))])) (fun _ k => XS.bipush X12.here hx rfl (hb hby d_prog_13_method_2_code_102) k) ?_
                by_cases hc104 : (57 : Int32) < (cs.getD i 0)
                ·
                  refine Go.of (T' := T12) (f' := (mkF m 107 #[.val (.ref a1), .val (.int (Int32.ofNat i)), .val (.int (cs.getD i 0))] [])) (fun _ k => XS.icmpNo X12.here hx rfl (hb hby d_prog_13_method_2_code_104) rfl (tlt hc104).2.2.2 k) ?_
                  refine Go.of (T' := T12) (f' := (mkF m 108 #[.val (.ref a1), .val (.int (Int32.ofNat i)), .val (.int (cs.getD i 0))] [(.int (cs.getD i 0))])) (fun _ k => XS.iloadN X12.here hx rfl (hb hby d_prog_13_method_2_code_107) rfl k) ?_
                  refine Go.of (T' := T12) (f' := (mkF m 110 #[.val (.ref a1), .val (.int (Int32.ofNat i)), .val (.int (cs.getD i 0))] [(.int (95 : Int32)), (.int (cs.getD i 0))])) (fun _ k => XS.bipush X12.here hx rfl (hb hby d_prog_13_method_2_code_108) k) ?_
                  have hc110 : (cs.getD i 0) = (95 : Int32) := (hN.2.2.2 i ((ltN (by have := hN.2.1; omega) (by have := hN.2.1; omega)).mp hc79)).elim (fun h => absurd h hc92) (fun h => h.elim (fun h => by first | exact absurd hc98 h.1 | exact absurd hc104 h.2) id)
                  refine Go.of (T' := T12) (f' := (mkF m 127 #[.val (.ref a1), .val (.int (Int32.ofNat i)), .val (.int (cs.getD i 0))] [])) (fun _ k => XS.icmpYes X12.here hx rfl (pc0 := 110) (pc' := 127) rfl (hb hby d_prog_13_method_2_code_110) rfl (teq hc110).1 (by decide) (by decide) k) ?_
                  exact J13
                ·
                  refine Go.of (T' := T12) (f' := (mkF m 127 #[.val (.ref a1), .val (.int (Int32.ofNat i)), .val (.int (cs.getD i 0))] [])) (fun _ k => XS.icmpYes X12.here hx rfl (pc0 := 104) (pc' := 127) rfl (hb hby d_prog_13_method_2_code_104) rfl (flt hc104).2.2.2 (by decide) (by decide) k) ?_
                  exact J13
          ·
            refine Go.of (T' := T10) (f' := (mkF m 133 #[.val (.ref a1), .val (.int (Int32.ofNat i)), .val (.int cj)] [])) (fun _ k => XS.icmpYes X10.here hx rfl (pc0 := 79) (pc' := 133) rfl (hb hby d_prog_13_method_2_code_79) rfl (flt hc79).2.1 (by decide) (by decide) k) ?_
            refine Go.of (T' := T10) (f' := (mkF m 134 #[.val (.ref a1), .val (.int (Int32.ofNat i)), .val (.int cj)] [(.ref a1)])) (fun _ k => XS.aloadN X10.here hx rfl (hb hby d_prog_13_method_2_code_133) rfl rfl k) ?_
            exact goRetR (Q := Pu h0 (fun v => v = some (.ref a1))) X10 hx hret rfl hlk rfl rfl (hb hby d_prog_13_method_2_code_134) K (by decide) (by decide) e10 (⟨rfl, rfl, rfl⟩)
      exact J cs.length 2 _ T7 (by omega) ((ltN (by have := hN.2.1; omega) (by have := hN.2.1; omega)).mp hc79) X7 e7
    by_cases hc92 : Low (cs.getD 1 0)
    ·
      refine Go.of (T' := T7) (f' := (mkF m 127 #[.val (.ref a1), .val (.int (Int32.ofNat 1)), .val (.int (cs.getD 1 0))] [])) (fun _ k => XS.ifYes X7.here hx rfl (pc0 := 92) (pc' := 127) rfl (hb hby d_prog_13_method_2_code_92) rfl ((if0 _ _).trans (feq (bi_ne hc92)).2) (by decide) (by decide) k) ?_
      exact J8
    ·
      refine Go.of (T' := T7) (f' := (mkF m 95 #[.val (.ref a1), .val (.int (Int32.ofNat 1)), .val (.int (cs.getD 1 0))] [])) (fun _ k => XS.ifNo X7.here hx rfl (hb hby d_prog_13_method_2_code_92) rfl ((if0 _ _).trans (teq (bi_f hc92)).2) k) ?_
      refine Go.of (T' := T7) (f' := (mkF m 96 #[.val (.ref a1), .val (.int (Int32.ofNat 1)), .val (.int (cs.getD 1 0))] [(.int (cs.getD 1 0))])) (fun _ k => XS.iloadN X7.here hx rfl (hb hby d_prog_13_method_2_code_95) rfl k) ?_
      refine Go.of (T' := T7) (f' := (mkF m 98 #[.val (.ref a1), .val (.int (Int32.ofNat 1)), .val (.int (cs.getD 1 0))] [(.int (48 : Int32)), (.int (cs.getD 1 0))])) (fun _ k => XS.bipush X7.here hx rfl (hb hby d_prog_13_method_2_code_96) k) ?_
      by_cases hc98 : (cs.getD 1 0) < (48 : Int32)
      ·
        refine Go.of (T' := T7) (f' := (mkF m 107 #[.val (.ref a1), .val (.int (Int32.ofNat 1)), .val (.int (cs.getD 1 0))] [])) (fun _ k => XS.icmpYes X7.here hx rfl (pc0 := 98) (pc' := 107) rfl (hb hby d_prog_13_method_2_code_98) rfl (tlt hc98).1 (by decide) (by decide) k) ?_
        refine Go.of (T' := T7) (f' := (mkF m 108 #[.val (.ref a1), .val (.int (Int32.ofNat 1)), .val (.int (cs.getD 1 0))] [(.int (cs.getD 1 0))])) (fun _ k => XS.iloadN X7.here hx rfl (hb hby d_prog_13_method_2_code_107) rfl k) ?_
        refine Go.of (T' := T7) (f' := (mkF m 110 #[.val (.ref a1), .val (.int (Int32.ofNat 1)), .val (.int (cs.getD 1 0))] [(.int (95 : Int32)), (.int (cs.getD 1 0))])) (fun _ k => XS.bipush X7.here hx rfl (hb hby d_prog_13_method_2_code_108) k) ?_
        have hc110 : (cs.getD 1 0) = (95 : Int32) := (hN.2.2.2 1 ((ltN (by have := hN.2.1; omega) (by have := hN.2.1; omega)).mp hc79)).elim (fun h => absurd h hc92) (fun h => h.elim (fun h => by first | exact absurd hc98 h.1 | exact absurd hc104 h.2) id)
        refine Go.of (T' := T7) (f' := (mkF m 127 #[.val (.ref a1), .val (.int (Int32.ofNat 1)), .val (.int (cs.getD 1 0))] [])) (fun _ k => XS.icmpYes X7.here hx rfl (pc0 := 110) (pc' := 127) rfl (hb hby d_prog_13_method_2_code_110) rfl (teq hc110).1 (by decide) (by decide) k) ?_
        exact J8
      ·
        refine Go.of (T' := T7) (f' := (mkF m 101 #[.val (.ref a1), .val (.int (Int32.ofNat 1)), .val (.int (cs.getD 1 0))] [])) (fun _ k => XS.icmpNo X7.here hx rfl (hb hby d_prog_13_method_2_code_98) rfl (flt hc98).1 k) ?_
        refine Go.of (T' := T7) (f' := (mkF m 102 #[.val (.ref a1), .val (.int (Int32.ofNat 1)), .val (.int (cs.getD 1 0))] [(.int (cs.getD 1 0))])) (fun _ k => XS.iloadN X7.here hx rfl (hb hby d_prog_13_method_2_code_101) rfl k) ?_
        refine Go.of (T' := T7) (f' := (mkF m 104 #[.val (.ref a1), .val (.int (Int32.ofNat 1)), .val (.int (cs.getD 1 0))] [(.int (57 : Int32)), (.int (cs.getD 1 0))])) (fun _ k => XS.bipush X7.here hx rfl (hb hby d_prog_13_method_2_code_102) k) ?_
        by_cases hc104 : (57 : Int32) < (cs.getD 1 0)
        ·
          refine Go.of (T' := T7) (f' := (mkF m 107 #[.val (.ref a1), .val (.int (Int32.ofNat 1)), .val (.int (cs.getD 1 0))] [])) (fun _ k => XS.icmpNo X7.here hx rfl (hb hby d_prog_13_method_2_code_104) rfl (tlt hc104).2.2.2 k) ?_
          refine Go.of (T' := T7) (f' := (mkF m 108 #[.val (.ref a1), .val (.int (Int32.ofNat 1)), .val (.int (cs.getD 1 0))] [(.int (cs.getD 1 0))])) (fun _ k => XS.iloadN X7.here hx rfl (hb hby d_prog_13_method_2_code_107) rfl k) ?_
          refine Go.of (T' := T7) (f' := (mkF m 110 #[.val (.ref a1), .val (.int (Int32.ofNat 1)), .val (.int (cs.getD 1 0))] [(.int (95 : Int32)), (.int (cs.getD 1 0))])) (fun _ k => XS.bipush X7.here hx rfl (hb hby d_prog_13_method_2_code_108) k) ?_
          have hc110 : (cs.getD 1 0) = (95 : Int32) := (hN.2.2.2 1 ((ltN (by have := hN.2.1; omega) (by have := hN.2.1; omega)).mp hc79)).elim (fun h => absurd h hc92) (fun h => h.elim (fun h => by first | exact absurd hc98 h.1 | exact absurd hc104 h.2) id)
          refine Go.of (T' := T7) (f' := (mkF m 127 #[.val (.ref a1), .val (.int (Int32.ofNat 1)), .val (.int (cs.getD 1 0))] [])) (fun _ k => XS.icmpYes X7.here hx rfl (pc0 := 110) (pc' := 127) rfl (hb hby d_prog_13_method_2_code_110) rfl (teq hc110).1 (by decide) (by decide) k) ?_
          exact J8
        ·
          refine Go.of (T' := T7) (f' := (mkF m 127 #[.val (.ref a1), .val (.int (Int32.ofNat 1)), .val (.int (cs.getD 1 0))] [])) (fun _ k => XS.icmpYes X7.here hx rfl (pc0 := 104) (pc' := 127) rfl (hb hby d_prog_13_method_2_code_104) rfl (flt hc104).2.2.2 (by decide) (by decide) k) ?_
          exact J8
  ·
    refine Go.of (T' := T5) (f' := (mkF m 133 #[.val (.ref a1), .val (.int (Int32.ofNat 1)), .unset] [])) (fun _ k => XS.icmpYes X5.here hx rfl (pc0 := 79) (pc' := 133) rfl (hb hby d_prog_13_method_2_code_79) rfl (flt hc79).2.1 (by decide) (by decide) k) ?_
    refine Go.of (T' := T5) (f' := (mkF m 134 #[.val (.ref a1), .val (.int (Int32.ofNat 1)), .unset] [(.ref a1)])) (fun _ k => XS.aloadN X5.here hx rfl (hb hby d_prog_13_method_2_code_133) rfl rfl k) ?_
    exact goRetR (Q := Pu h0 (fun v => v = some (.ref a1))) X5 hx hret rfl hlk rfl rfl (hb hby d_prog_13_method_2_code_134) K (by decide) (by decide) e5 (⟨rfl, rfl, rfl⟩)
theorem hEL_1 {Z : State} {a0 : Array Value} (hw : ∀ d ∈ tables_1, d.before a0 Z = true) : EW Z a0 consts_1 := (EW.cons (hw _ (List.mem_of_getElem? (i := 38) rfl)) (by decide) EW.nil)
theorem ef_rm_law (m : MethodId) (x0 : Int32) (x1 : Int32) (x2 : Int32) (x3 : Int32) (x4 : Int32)  : entryFrame m #[(.int x0), (.int x1), (.int x2), (.int x3), (.int x4)] maxLocals = mkF m 0 #[.val (.int x0), .val (.int x1), .val (.int x2), .val (.int x3), .val (.int x4), .unset, .unset, .unset, .unset, .unset, .unset, .unset, .unset, .unset, .unset, .unset, .unset, .unset, .unset] [] := by first | (simp [entryFrame, mkF, argsToLocals, Value.category, maxLocals]; done) | rfl
theorem hw_words {Z : State} {a0 : Array Value} (hw : ∀ d ∈ tables_1, d.before a0 Z = true) : ∀ d ∈ StrChars.Road.words, d.before a0 Z = true := fun d hd => hw d ((by decide +kernel : ∀ d ∈ StrChars.Road.words, d ∈ tables_1) d hd)
theorem pd___C_V : parseMethodDescriptor "([C)V" = some ⟨[(.array .char)], none⟩ := by decide +kernel
theorem hw_sA {Z : State} {a0 : Array Value} (hw : ∀ d ∈ tables_1, d.before a0 Z = true) : ∀ d ∈ Bundle.stringAtoms, d.before a0 Z = true := fun d hd => hw d ((by decide +kernel : ∀ d ∈ Bundle.stringAtoms, d ∈ tables_1) d hd)
theorem pd__Ljava_lang_String__Ljava_lang_String_ : parseMethodDescriptor "(Ljava/lang/String;)Ljava/lang/String;" = some ⟨[(.object "java/lang/String")], some (.object "java/lang/String")⟩ := by decide +kernel
set_option maxRecDepth 65536 in
set_option maxHeartbeats 40000000 in
theorem rm_law (l : Launch) (Z : State) (a0 : Array Value) (hw : ∀ d ∈ tables_1, d.before a0 Z = true) (p1 p2 p3 p4 p5 zc : Int32) (fm : Value) (h0 : Heap) (Z_cs : Sta Z h0 "java/lang/String" "COMPACT_STRINGS" "Z" (.int zc)) (hz : ¬ zc = 0) (Z_fm : Sta Z h0 "jdk/internal/util/Preconditions" "SIOOBE_FORMATTER" "Ljava/util/function/BiFunction;" fm) (hfm : fm.isRef = true) :
    MeetsH l Z consts_1 x code maxLocals ret room_1 #[(.int p1), (.int p2), (.int p3), (.int p4), (.int p5)] h0 (fun v h L => v = some (.int 1) ∧ Mv h0 h [] L) := by
  refine MeetsH.of (plainFor_of_name pn_com_example_dozor_dozor_NamesRequireCollectionNamePinLaw) ?_
  intro p e s m below meth c s₁ P hx hby hml hZ hown hnm hret hlk X0 e0 hS RH K
  have hk : h0.size ≤ h0.size := Nat.le_refl _
  replace hZ : Z.Warmed39 (s.setVm s.vm).vm := hZ
  replace hown : (s.setVm s.vm).vm.findClass "com/example/dozor/dozor/NamesRequireCollectionNamePinLaw" = some m.cls := hown
  have M0 : Mv h0 h0 [] [] := Mv.refl _ _
  refine Go.cast (ef_rm_law m p1 p2 p3 p4 p5 ) ?_
  refine Go.of (T' := s₁) (f' := (mkF m 1 #[.val (.int p1), .val (.int p2), .val (.int p3), .val (.int p4), .val (.int p5), .unset, .unset, .unset, .unset, .unset, .unset, .unset, .unset, .unset, .unset, .unset, .unset, .unset, .unset] [(.int p2)])) (fun _ k => XS.iloadN X0.here hx rfl (hb hby at_0) rfl k) ?_
  refine goS X0 hx hZ hown (hw _ (List.mem_of_getElem? (i := 0) rfl)) (hw _ (List.mem_of_getElem? (i := 1) rfl)) (hw _ (List.mem_of_getElem? (i := 2) rfl)) (hw _ (List.mem_of_getElem? (i := 3) rfl)) (by decide) (C := 0) (S := 0) ((rm_first l Z a0 hw p2 h0).bk (W := 0) hZ (hw _ (List.mem_of_getElem? (i := 3) rfl)) (hw _ (List.mem_of_getElem? (i := 2) rfl)) (by decide) (by decide)) e0 (argsL := [(.int p2)]) (rest := []) (by rw [hml]; rfl) (lenOf pd__I_C rfl) rfl rfl (hb hby at_1) (Nat.le_of_eq rfl) (by decide) (by decide) ?_
  intro v1 T1 L1 X1 hQ1
  obtain ⟨nq1, e1, c1, rfl, hc1_⟩ := hQ1
  have hR_c1 : Rst c1 := Or.inl hc1_
  replace X1 := standNil X1 nq1
  show Go p e below P T1 (mkF m 4 #[.val (.int p1), .val (.int p2), .val (.int p3), .val (.int p4), .val (.int p5), .unset, .unset, .unset, .unset, .unset, .unset, .unset, .unset, .unset, .unset, .unset, .unset, .unset, .unset] [(.int c1)])
  refine Go.of (T' := T1) (f' := (mkF m 6 #[.val (.int p1), .val (.int p2), .val (.int p3), .val (.int p4), .val (.int p5), .val (.int c1), .unset, .unset, .unset, .unset, .unset, .unset, .unset, .unset, .unset, .unset, .unset, .unset, .unset] [])) (fun _ k => XS.istore X1.here hx rfl (hb hby at_4) rfl (l' := #[.val (.int p1), .val (.int p2), .val (.int p3), .val (.int p4), .val (.int p5), .val (.int c1), .unset, .unset, .unset, .unset, .unset, .unset, .unset, .unset, .unset, .unset, .unset, .unset, .unset]) rfl k) ?_
  refine Go.of (T' := T1) (f' := (mkF m 7 #[.val (.int p1), .val (.int p2), .val (.int p3), .val (.int p4), .val (.int p5), .val (.int c1), .unset, .unset, .unset, .unset, .unset, .unset, .unset, .unset, .unset, .unset, .unset, .unset, .unset] [(.int p3)])) (fun _ k => XS.iloadN X1.here hx rfl (hb hby at_6) rfl k) ?_
  refine goS X1 hx hZ hown (hw _ (List.mem_of_getElem? (i := 5) rfl)) (hw _ (List.mem_of_getElem? (i := 6) rfl)) (hw _ (List.mem_of_getElem? (i := 2) rfl)) (hw _ (List.mem_of_getElem? (i := 7) rfl)) (by decide) (C := 0) (S := 0) ((rm_rest l Z a0 hw p3 h0).bk (W := 0) hZ (hw _ (List.mem_of_getElem? (i := 7) rfl)) (hw _ (List.mem_of_getElem? (i := 2) rfl)) (by decide) (by decide)) e1 (argsL := [(.int p3)]) (rest := []) (by rw [hml]; rfl) (lenOf pd__I_C rfl) rfl rfl (hb hby at_7) (Nat.le_of_eq rfl) (by decide) (by decide) ?_
  intro v2 T2 L2 X2 hQ2
  obtain ⟨nq2, e2, c2, rfl, hc2_⟩ := hQ2
  have hR_c2 : Rst c2 := hc2_
  replace X2 := standNil X2 nq2
  show Go p e below P T2 (mkF m 10 #[.val (.int p1), .val (.int p2), .val (.int p3), .val (.int p4), .val (.int p5), .val (.int c1), .unset, .unset, .unset, .unset, .unset, .unset, .unset, .unset, .unset, .unset, .unset, .unset, .unset] [(.int c2)])
  refine Go.of (T' := T2) (f' := (mkF m 12 #[.val (.int p1), .val (.int p2), .val (.int p3), .val (.int p4), .val (.int p5), .val (.int c1), .val (.int c2), .unset, .unset, .unset, .unset, .unset, .unset, .unset, .unset, .unset, .unset, .unset, .unset] [])) (fun _ k => XS.istore X2.here hx rfl (hb hby at_10) rfl (l' := #[.val (.int p1), .val (.int p2), .val (.int p3), .val (.int p4), .val (.int p5), .val (.int c1), .val (.int c2), .unset, .unset, .unset, .unset, .unset, .unset, .unset, .unset, .unset, .unset, .unset, .unset]) rfl k) ?_
  refine Go.of (T' := T2) (f' := (mkF m 13 #[.val (.int p1), .val (.int p2), .val (.int p3), .val (.int p4), .val (.int p5), .val (.int c1), .val (.int c2), .unset, .unset, .unset, .unset, .unset, .unset, .unset, .unset, .unset, .unset, .unset, .unset] [(.int p4)])) (fun _ k => XS.iloadN X2.here hx rfl (hb hby at_12) rfl k) ?_
  refine goS X2 hx hZ hown (hw _ (List.mem_of_getElem? (i := 5) rfl)) (hw _ (List.mem_of_getElem? (i := 6) rfl)) (hw _ (List.mem_of_getElem? (i := 2) rfl)) (hw _ (List.mem_of_getElem? (i := 7) rfl)) (by decide) (C := 0) (S := 0) ((rm_rest l Z a0 hw p4 h0).bk (W := 0) hZ (hw _ (List.mem_of_getElem? (i := 7) rfl)) (hw _ (List.mem_of_getElem? (i := 2) rfl)) (by decide) (by decide)) e2 (argsL := [(.int p4)]) (rest := []) (by rw [hml]; rfl) (lenOf pd__I_C rfl) rfl rfl (hb hby at_13) (Nat.le_of_eq rfl) (by decide) (by decide) ?_
  intro v3 T3 L3 X3 hQ3
  obtain ⟨nq3, e3, c3, rfl, hc3_⟩ := hQ3
  have hR_c3 : Rst c3 := hc3_
  replace X3 := standNil X3 nq3
  show Go p e below P T3 (mkF m 16 #[.val (.int p1), .val (.int p2), .val (.int p3), .val (.int p4), .val (.int p5), .val (.int c1), .val (.int c2), .unset, .unset, .unset, .unset, .unset, .unset, .unset, .unset, .unset, .unset, .unset, .unset] [(.int c3)])
  refine Go.of (T' := T3) (f' := (mkF m 18 #[.val (.int p1), .val (.int p2), .val (.int p3), .val (.int p4), .val (.int p5), .val (.int c1), .val (.int c2), .val (.int c3), .unset, .unset, .unset, .unset, .unset, .unset, .unset, .unset, .unset, .unset, .unset] [])) (fun _ k => XS.istore X3.here hx rfl (hb hby at_16) rfl (l' := #[.val (.int p1), .val (.int p2), .val (.int p3), .val (.int p4), .val (.int p5), .val (.int c1), .val (.int c2), .val (.int c3), .unset, .unset, .unset, .unset, .unset, .unset, .unset, .unset, .unset, .unset, .unset]) rfl k) ?_
  refine Go.of (T' := T3) (f' := (mkF m 20 #[.val (.int p1), .val (.int p2), .val (.int p3), .val (.int p4), .val (.int p5), .val (.int c1), .val (.int c2), .val (.int c3), .unset, .unset, .unset, .unset, .unset, .unset, .unset, .unset, .unset, .unset, .unset] [(.int p5)])) (fun _ k => XS.iload X3.here hx rfl (hb hby at_18) rfl k) ?_
  refine goS X3 hx hZ hown (hw _ (List.mem_of_getElem? (i := 5) rfl)) (hw _ (List.mem_of_getElem? (i := 6) rfl)) (hw _ (List.mem_of_getElem? (i := 2) rfl)) (hw _ (List.mem_of_getElem? (i := 7) rfl)) (by decide) (C := 0) (S := 0) ((rm_rest l Z a0 hw p5 h0).bk (W := 0) hZ (hw _ (List.mem_of_getElem? (i := 7) rfl)) (hw _ (List.mem_of_getElem? (i := 2) rfl)) (by decide) (by decide)) e3 (argsL := [(.int p5)]) (rest := []) (by rw [hml]; rfl) (lenOf pd__I_C rfl) rfl rfl (hb hby at_20) (Nat.le_of_eq rfl) (by decide) (by decide) ?_
  intro v4 T4 L4 X4 hQ4
  obtain ⟨nq4, e4, c4, rfl, hc4_⟩ := hQ4
  have hR_c4 : Rst c4 := hc4_
  replace X4 := standNil X4 nq4
  show Go p e below P T4 (mkF m 23 #[.val (.int p1), .val (.int p2), .val (.int p3), .val (.int p4), .val (.int p5), .val (.int c1), .val (.int c2), .val (.int c3), .unset, .unset, .unset, .unset, .unset, .unset, .unset, .unset, .unset, .unset, .unset] [(.int c4)])
  refine Go.of (T' := T4) (f' := (mkF m 25 #[.val (.int p1), .val (.int p2), .val (.int p3), .val (.int p4), .val (.int p5), .val (.int c1), .val (.int c2), .val (.int c3), .val (.int c4), .unset, .unset, .unset, .unset, .unset, .unset, .unset, .unset, .unset, .unset] [])) (fun _ k => XS.istore X4.here hx rfl (hb hby at_23) rfl (l' := #[.val (.int p1), .val (.int p2), .val (.int p3), .val (.int p4), .val (.int p5), .val (.int c1), .val (.int c2), .val (.int c3), .val (.int c4), .unset, .unset, .unset, .unset, .unset, .unset, .unset, .unset, .unset, .unset]) rfl k) ?_
  refine Go.of (T' := T4) (f' := (mkF m 26 #[.val (.int p1), .val (.int p2), .val (.int p3), .val (.int p4), .val (.int p5), .val (.int c1), .val (.int c2), .val (.int c3), .val (.int c4), .unset, .unset, .unset, .unset, .unset, .unset, .unset, .unset, .unset, .unset] [(.int (1 : Int32))])) (fun _ k => XS.iconst X4.here hx rfl (hb hby at_25) k) ?_
  obtain ⟨T5, h5, k5, X5, e5, E5, A5, st5⟩ := newP X4 hx hZ (hw _ (List.mem_of_getElem? (i := 8) rfl)) e4 (g := (mkF m 26 #[.val (.int p1), .val (.int p2), .val (.int p3), .val (.int p4), .val (.int p5), .val (.int c1), .val (.int c2), .val (.int c3), .val (.int c4), .unset, .unset, .unset, .unset, .unset, .unset, .unset, .unset, .unset, .unset] [(.int (1 : Int32))])) rfl (hb hby at_26) rfl (by decide) (cap := 1) (by decide) (by decide) (by decide) (by decide)
  obtain ⟨b5, g5⟩ : ∃ z, z = h0.size := ⟨_, rfl⟩
  rw [← g5] at A5 st5
  have fr_b5 : h0.size ≤ b5 := Nat.le_trans M0.le (Nat.le_of_eq g5.symm)
  have Sf_b5 := Safe.new (Z := Z) (EL := consts_1) (vm := s.vm) (Nat.le_of_eq g5.symm)
  have K5 := keepE E5
  have M5 := M0.ext E5
  replace hk := Nat.le_trans hk (K5).1
  have hs6 := CHr.keep (K5) sf0 RH.1
  replace Sf_b5 := Safe.keep (K5) sf0 RH.1 Sf_b5
  replace RH := RH.trans hs6
  replace Z_cs := StaKeep Z_cs K5 all0
  replace Z_fm := StaKeep Z_fm K5 all0
  have V_b5 : Arv Z h5 b5 k5 .char (1 : Int32) [(.int (0 : Int32))] (.int (0 : Int32)) := (Arv.new A5 (by decide)).pad (pad_rep [] (.int (0 : Int32)) 1)
  refine Go.of (T' := T5) (f' := (mkF m 28 #[.val (.int p1), .val (.int p2), .val (.int p3), .val (.int p4), .val (.int p5), .val (.int c1), .val (.int c2), .val (.int c3), .val (.int c4), .unset, .unset, .unset, .unset, .unset, .unset, .unset, .unset, .unset, .unset] [(.ref b5)])) st5 ?_
  refine Go.of (T' := T5) (f' := (mkF m 30 #[.val (.int p1), .val (.int p2), .val (.int p3), .val (.int p4), .val (.int p5), .val (.int c1), .val (.int c2), .val (.int c3), .val (.int c4), .val (.ref b5), .unset, .unset, .unset, .unset, .unset, .unset, .unset, .unset, .unset] [])) (fun _ k => XS.astore X5.here hx rfl (hb hby at_28) rfl rfl (l' := #[.val (.int p1), .val (.int p2), .val (.int p3), .val (.int p4), .val (.int p5), .val (.int c1), .val (.int c2), .val (.int c3), .val (.int c4), .val (.ref b5), .unset, .unset, .unset, .unset, .unset, .unset, .unset, .unset, .unset]) rfl k) ?_
  refine Go.of (T' := T5) (f' := (mkF m 31 #[.val (.int p1), .val (.int p2), .val (.int p3), .val (.int p4), .val (.int p5), .val (.int c1), .val (.int c2), .val (.int c3), .val (.int c4), .val (.ref b5), .unset, .unset, .unset, .unset, .unset, .unset, .unset, .unset, .unset] [(.int (2 : Int32))])) (fun _ k => XS.iconst X5.here hx rfl (hb hby at_30) k) ?_
  obtain ⟨T7, h7, k7, X7, e7, E7, A7, st7⟩ := newP X5 hx hZ (hw _ (List.mem_of_getElem? (i := 8) rfl)) e5 (g := (mkF m 31 #[.val (.int p1), .val (.int p2), .val (.int p3), .val (.int p4), .val (.int p5), .val (.int c1), .val (.int c2), .val (.int c3), .val (.int c4), .val (.ref b5), .unset, .unset, .unset, .unset, .unset, .unset, .unset, .unset, .unset] [(.int (2 : Int32))])) rfl (hb hby at_31) rfl (by decide) (cap := 2) (by decide) (by decide) (by decide) (by decide)
  obtain ⟨b7, g7⟩ : ∃ z, z = h5.size := ⟨_, rfl⟩
  rw [← g7] at A7 st7
  have ne_b5_b7 : b5 ≠ b7 := Nat.ne_of_lt (Nat.lt_of_lt_of_le V_b5.lt (Nat.le_of_eq g7.symm))
  have fr_b7 : h0.size ≤ b7 := Nat.le_trans M5.le (Nat.le_of_eq g7.symm)
  have Sf_b7 := Safe.new (Z := Z) (EL := consts_1) (vm := s.vm) (Nat.le_of_eq g7.symm)
  have K7 := keepE E7
  have M7 := M5.ext E7
  replace hk := Nat.le_trans hk (K7).1
  have hs8 := CHr.keep (K7) sf0 RH.1
  replace Sf_b5 := Safe.keep (K7) sf0 RH.1 Sf_b5
  replace Sf_b7 := Safe.keep (K7) sf0 RH.1 Sf_b7
  replace RH := RH.trans hs8
  replace Z_cs := StaKeep Z_cs K7 all0
  replace Z_fm := StaKeep Z_fm K7 all0
  replace V_b5 := V_b5.keep K7 nin0
  have V_b7 : Arv Z h7 b7 k7 .char (2 : Int32) [(.int (0 : Int32)), (.int (0 : Int32))] (.int (0 : Int32)) := (Arv.new A7 (by decide)).pad (pad_rep [] (.int (0 : Int32)) 2)
  refine Go.of (T' := T7) (f' := (mkF m 33 #[.val (.int p1), .val (.int p2), .val (.int p3), .val (.int p4), .val (.int p5), .val (.int c1), .val (.int c2), .val (.int c3), .val (.int c4), .val (.ref b5), .unset, .unset, .unset, .unset, .unset, .unset, .unset, .unset, .unset] [(.ref b7)])) st7 ?_
  refine Go.of (T' := T7) (f' := (mkF m 35 #[.val (.int p1), .val (.int p2), .val (.int p3), .val (.int p4), .val (.int p5), .val (.int c1), .val (.int c2), .val (.int c3), .val (.int c4), .val (.ref b5), .val (.ref b7), .unset, .unset, .unset, .unset, .unset, .unset, .unset, .unset] [])) (fun _ k => XS.astore X7.here hx rfl (hb hby at_33) rfl rfl (l' := #[.val (.int p1), .val (.int p2), .val (.int p3), .val (.int p4), .val (.int p5), .val (.int c1), .val (.int c2), .val (.int c3), .val (.int c4), .val (.ref b5), .val (.ref b7), .unset, .unset, .unset, .unset, .unset, .unset, .unset, .unset]) rfl k) ?_
  refine Go.of (T' := T7) (f' := (mkF m 36 #[.val (.int p1), .val (.int p2), .val (.int p3), .val (.int p4), .val (.int p5), .val (.int c1), .val (.int c2), .val (.int c3), .val (.int c4), .val (.ref b5), .val (.ref b7), .unset, .unset, .unset, .unset, .unset, .unset, .unset, .unset] [(.int (3 : Int32))])) (fun _ k => XS.iconst X7.here hx rfl (hb hby at_35) k) ?_
  obtain ⟨T9, h9, k9, X9, e9, E9, A9, st9⟩ := newP X7 hx hZ (hw _ (List.mem_of_getElem? (i := 8) rfl)) e7 (g := (mkF m 36 #[.val (.int p1), .val (.int p2), .val (.int p3), .val (.int p4), .val (.int p5), .val (.int c1), .val (.int c2), .val (.int c3), .val (.int c4), .val (.ref b5), .val (.ref b7), .unset, .unset, .unset, .unset, .unset, .unset, .unset, .unset] [(.int (3 : Int32))])) rfl (hb hby at_36) rfl (by decide) (cap := 3) (by decide) (by decide) (by decide) (by decide)
  obtain ⟨b9, g9⟩ : ∃ z, z = h7.size := ⟨_, rfl⟩
  rw [← g9] at A9 st9
  have ne_b5_b9 : b5 ≠ b9 := Nat.ne_of_lt (Nat.lt_of_lt_of_le V_b5.lt (Nat.le_of_eq g9.symm))
  have ne_b7_b9 : b7 ≠ b9 := Nat.ne_of_lt (Nat.lt_of_lt_of_le V_b7.lt (Nat.le_of_eq g9.symm))
  have fr_b9 : h0.size ≤ b9 := Nat.le_trans M7.le (Nat.le_of_eq g9.symm)
  have Sf_b9 := Safe.new (Z := Z) (EL := consts_1) (vm := s.vm) (Nat.le_of_eq g9.symm)
  have K9 := keepE E9
  have M9 := M7.ext E9
  replace hk := Nat.le_trans hk (K9).1
  have hs10 := CHr.keep (K9) sf0 RH.1
  replace Sf_b5 := Safe.keep (K9) sf0 RH.1 Sf_b5
  replace Sf_b7 := Safe.keep (K9) sf0 RH.1 Sf_b7
  replace Sf_b9 := Safe.keep (K9) sf0 RH.1 Sf_b9
  replace RH := RH.trans hs10
  replace Z_cs := StaKeep Z_cs K9 all0
  replace Z_fm := StaKeep Z_fm K9 all0
  replace V_b5 := V_b5.keep K9 nin0
  replace V_b7 := V_b7.keep K9 nin0
  have V_b9 : Arv Z h9 b9 k9 .char (3 : Int32) [(.int (0 : Int32)), (.int (0 : Int32)), (.int (0 : Int32))] (.int (0 : Int32)) := (Arv.new A9 (by decide)).pad (pad_rep [] (.int (0 : Int32)) 3)
  refine Go.of (T' := T9) (f' := (mkF m 38 #[.val (.int p1), .val (.int p2), .val (.int p3), .val (.int p4), .val (.int p5), .val (.int c1), .val (.int c2), .val (.int c3), .val (.int c4), .val (.ref b5), .val (.ref b7), .unset, .unset, .unset, .unset, .unset, .unset, .unset, .unset] [(.ref b9)])) st9 ?_
  refine Go.of (T' := T9) (f' := (mkF m 40 #[.val (.int p1), .val (.int p2), .val (.int p3), .val (.int p4), .val (.int p5), .val (.int c1), .val (.int c2), .val (.int c3), .val (.int c4), .val (.ref b5), .val (.ref b7), .val (.ref b9), .unset, .unset, .unset, .unset, .unset, .unset, .unset] [])) (fun _ k => XS.astore X9.here hx rfl (hb hby at_38) rfl rfl (l' := #[.val (.int p1), .val (.int p2), .val (.int p3), .val (.int p4), .val (.int p5), .val (.int c1), .val (.int c2), .val (.int c3), .val (.int c4), .val (.ref b5), .val (.ref b7), .val (.ref b9), .unset, .unset, .unset, .unset, .unset, .unset, .unset]) rfl k) ?_
  refine Go.of (T' := T9) (f' := (mkF m 41 #[.val (.int p1), .val (.int p2), .val (.int p3), .val (.int p4), .val (.int p5), .val (.int c1), .val (.int c2), .val (.int c3), .val (.int c4), .val (.ref b5), .val (.ref b7), .val (.ref b9), .unset, .unset, .unset, .unset, .unset, .unset, .unset] [(.int (4 : Int32))])) (fun _ k => XS.iconst X9.here hx rfl (hb hby at_40) k) ?_
  obtain ⟨T11, h11, k11, X11, e11, E11, A11, st11⟩ := newP X9 hx hZ (hw _ (List.mem_of_getElem? (i := 8) rfl)) e9 (g := (mkF m 41 #[.val (.int p1), .val (.int p2), .val (.int p3), .val (.int p4), .val (.int p5), .val (.int c1), .val (.int c2), .val (.int c3), .val (.int c4), .val (.ref b5), .val (.ref b7), .val (.ref b9), .unset, .unset, .unset, .unset, .unset, .unset, .unset] [(.int (4 : Int32))])) rfl (hb hby at_41) rfl (by decide) (cap := 4) (by decide) (by decide) (by decide) (by decide)
  obtain ⟨b11, g11⟩ : ∃ z, z = h9.size := ⟨_, rfl⟩
  rw [← g11] at A11 st11
  have ne_b5_b11 : b5 ≠ b11 := Nat.ne_of_lt (Nat.lt_of_lt_of_le V_b5.lt (Nat.le_of_eq g11.symm))
  have ne_b7_b11 : b7 ≠ b11 := Nat.ne_of_lt (Nat.lt_of_lt_of_le V_b7.lt (Nat.le_of_eq g11.symm))
  have ne_b9_b11 : b9 ≠ b11 := Nat.ne_of_lt (Nat.lt_of_lt_of_le V_b9.lt (Nat.le_of_eq g11.symm))
  have fr_b11 : h0.size ≤ b11 := Nat.le_trans M9.le (Nat.le_of_eq g11.symm)
  have Sf_b11 := Safe.new (Z := Z) (EL := consts_1) (vm := s.vm) (Nat.le_of_eq g11.symm)
  have K11 := keepE E11
  have M11 := M9.ext E11
  replace hk := Nat.le_trans hk (K11).1
  have hs12 := CHr.keep (K11) sf0 RH.1
  replace Sf_b5 := Safe.keep (K11) sf0 RH.1 Sf_b5
  replace Sf_b7 := Safe.keep (K11) sf0 RH.1 Sf_b7
  replace Sf_b9 := Safe.keep (K11) sf0 RH.1 Sf_b9
  replace Sf_b11 := Safe.keep (K11) sf0 RH.1 Sf_b11
  replace RH := RH.trans hs12
  replace Z_cs := StaKeep Z_cs K11 all0
  replace Z_fm := StaKeep Z_fm K11 all0
  replace V_b5 := V_b5.keep K11 nin0
  replace V_b7 := V_b7.keep K11 nin0
  replace V_b9 := V_b9.keep K11 nin0
  have V_b11 : Arv Z h11 b11 k11 .char (4 : Int32) [(.int (0 : Int32)), (.int (0 : Int32)), (.int (0 : Int32)), (.int (0 : Int32))] (.int (0 : Int32)) := (Arv.new A11 (by decide)).pad (pad_rep [] (.int (0 : Int32)) 4)
  refine Go.of (T' := T11) (f' := (mkF m 43 #[.val (.int p1), .val (.int p2), .val (.int p3), .val (.int p4), .val (.int p5), .val (.int c1), .val (.int c2), .val (.int c3), .val (.int c4), .val (.ref b5), .val (.ref b7), .val (.ref b9), .unset, .unset, .unset, .unset, .unset, .unset, .unset] [(.ref b11)])) st11 ?_
  refine Go.of (T' := T11) (f' := (mkF m 45 #[.val (.int p1), .val (.int p2), .val (.int p3), .val (.int p4), .val (.int p5), .val (.int c1), .val (.int c2), .val (.int c3), .val (.int c4), .val (.ref b5), .val (.ref b7), .val (.ref b9), .val (.ref b11), .unset, .unset, .unset, .unset, .unset, .unset] [])) (fun _ k => XS.astore X11.here hx rfl (hb hby at_43) rfl rfl (l' := #[.val (.int p1), .val (.int p2), .val (.int p3), .val (.int p4), .val (.int p5), .val (.int c1), .val (.int c2), .val (.int c3), .val (.int c4), .val (.ref b5), .val (.ref b7), .val (.ref b9), .val (.ref b11), .unset, .unset, .unset, .unset, .unset, .unset]) rfl k) ?_
  refine Go.of (T' := T11) (f' := (mkF m 47 #[.val (.int p1), .val (.int p2), .val (.int p3), .val (.int p4), .val (.int p5), .val (.int c1), .val (.int c2), .val (.int c3), .val (.int c4), .val (.ref b5), .val (.ref b7), .val (.ref b9), .val (.ref b11), .unset, .unset, .unset, .unset, .unset, .unset] [(.ref b5)])) (fun _ k => XS.aload X11.here hx rfl (hb hby at_45) rfl rfl k) ?_
  refine Go.of (T' := T11) (f' := (mkF m 48 #[.val (.int p1), .val (.int p2), .val (.int p3), .val (.int p4), .val (.int p5), .val (.int c1), .val (.int c2), .val (.int c3), .val (.int c4), .val (.ref b5), .val (.ref b7), .val (.ref b9), .val (.ref b11), .unset, .unset, .unset, .unset, .unset, .unset] [(.int (0 : Int32)), (.ref b5)])) (fun _ k => XS.iconst X11.here hx rfl (hb hby at_47) k) ?_
  refine Go.of (T' := T11) (f' := (mkF m 50 #[.val (.int p1), .val (.int p2), .val (.int p3), .val (.int p4), .val (.int p5), .val (.int c1), .val (.int c2), .val (.int c3), .val (.int c4), .val (.ref b5), .val (.ref b7), .val (.ref b9), .val (.ref b11), .unset, .unset, .unset, .unset, .unset, .unset] [(.int c1), (.int (0 : Int32)), (.ref b5)])) (fun _ k => XS.iload X11.here hx rfl (hb hby at_48) rfl k) ?_
  obtain ⟨cl13, Ar13, cq13, Sz13, Nn13, Hs13, Gs13⟩ := id V_b5
  have hin13 : ¬ ((0 : Int32) < 0 ∨ cl13.slots.size ≤ ((0 : Int32)).toNatClampNeg) := inb_of Sz13 ⟨by decide, by decide⟩
  obtain ⟨T13, h13, X13, e13, W13, st13⟩ := stC X11 hx hZ e11 Ar13 (j := (0 : Int32)) hin13 (g := (mkF m 50 #[.val (.int p1), .val (.int p2), .val (.int p3), .val (.int p4), .val (.int p5), .val (.int c1), .val (.int c2), .val (.int c3), .val (.int c4), .val (.ref b5), .val (.ref b7), .val (.ref b9), .val (.ref b11), .unset, .unset, .unset, .unset, .unset, .unset] [(.int c1), (.int (0 : Int32)), (.ref b5)])) rfl rfl (hb hby at_50)
  have fq13 : fits .char (.int (nar .char c1)) = true := fits_nar_char _
  rw [show nar .char c1 = c1 from rst_nar hR_c1] at W13 fq13
  have V13 := Arv.set Ar13 cq13 Sz13 Nn13 Hs13 Gs13 fq13 W13 0 rfl (Nat.le_of_ble_eq_true rfl)
  have V_b5_o := V_b5
  have K13 := Keep.of_wr W13
  have M13 := M11.wr W13 (Or.inr fr_b5)
  replace hk := Nat.le_trans hk (K13).1
  have hq14 : ∀ x ∈ ([b5] : List Addr), Safe Z consts_1 s.vm h11 x := (sfS Sf_b5 sf0)
  have hs14 := CHr.keep (K13) hq14 RH.1
  replace Sf_b5 := Safe.keep (K13) hq14 RH.1 Sf_b5
  replace Sf_b7 := Safe.keep (K13) hq14 RH.1 Sf_b7
  replace Sf_b9 := Safe.keep (K13) hq14 RH.1 Sf_b9
  replace Sf_b11 := Safe.keep (K13) hq14 RH.1 Sf_b11
  replace RH := RH.trans hs14
  replace Z_cs := StaKeep Z_cs K13 (allS (staArv V_b5_o) all0)
  replace Z_fm := StaKeep Z_fm K13 (allS (staArv V_b5_o) all0)
  replace V_b7 := V_b7.keep K13 (ninS (Ne.symm ne_b5_b7) nin0)
  replace V_b9 := V_b9.keep K13 (ninS (Ne.symm ne_b5_b9) nin0)
  replace V_b11 := V_b11.keep K13 (ninS (Ne.symm ne_b5_b11) nin0)
  replace V_b5 : Arv Z h13 b5 k5 .char (1 : Int32) [(.int c1)] (.int (0 : Int32)) := V13
  refine Go.of (T' := T13) (f' := (mkF m 51 #[.val (.int p1), .val (.int p2), .val (.int p3), .val (.int p4), .val (.int p5), .val (.int c1), .val (.int c2), .val (.int c3), .val (.int c4), .val (.ref b5), .val (.ref b7), .val (.ref b9), .val (.ref b11), .unset, .unset, .unset, .unset, .unset, .unset] [])) st13 ?_
  refine Go.of (T' := T13) (f' := (mkF m 53 #[.val (.int p1), .val (.int p2), .val (.int p3), .val (.int p4), .val (.int p5), .val (.int c1), .val (.int c2), .val (.int c3), .val (.int c4), .val (.ref b5), .val (.ref b7), .val (.ref b9), .val (.ref b11), .unset, .unset, .unset, .unset, .unset, .unset] [(.ref b7)])) (fun _ k => XS.aload X13.here hx rfl (hb hby at_51) rfl rfl k) ?_
  refine Go.of (T' := T13) (f' := (mkF m 54 #[.val (.int p1), .val (.int p2), .val (.int p3), .val (.int p4), .val (.int p5), .val (.int c1), .val (.int c2), .val (.int c3), .val (.int c4), .val (.ref b5), .val (.ref b7), .val (.ref b9), .val (.ref b11), .unset, .unset, .unset, .unset, .unset, .unset] [(.int (0 : Int32)), (.ref b7)])) (fun _ k => XS.iconst X13.here hx rfl (hb hby at_53) k) ?_
  refine Go.of (T' := T13) (f' := (mkF m 56 #[.val (.int p1), .val (.int p2), .val (.int p3), .val (.int p4), .val (.int p5), .val (.int c1), .val (.int c2), .val (.int c3), .val (.int c4), .val (.ref b5), .val (.ref b7), .val (.ref b9), .val (.ref b11), .unset, .unset, .unset, .unset, .unset, .unset] [(.int c1), (.int (0 : Int32)), (.ref b7)])) (fun _ k => XS.iload X13.here hx rfl (hb hby at_54) rfl k) ?_
  obtain ⟨cl15, Ar15, cq15, Sz15, Nn15, Hs15, Gs15⟩ := id V_b7
  have hin15 : ¬ ((0 : Int32) < 0 ∨ cl15.slots.size ≤ ((0 : Int32)).toNatClampNeg) := inb_of Sz15 ⟨by decide, by decide⟩
  obtain ⟨T15, h15, X15, e15, W15, st15⟩ := stC X13 hx hZ e13 Ar15 (j := (0 : Int32)) hin15 (g := (mkF m 56 #[.val (.int p1), .val (.int p2), .val (.int p3), .val (.int p4), .val (.int p5), .val (.int c1), .val (.int c2), .val (.int c3), .val (.int c4), .val (.ref b5), .val (.ref b7), .val (.ref b9), .val (.ref b11), .unset, .unset, .unset, .unset, .unset, .unset] [(.int c1), (.int (0 : Int32)), (.ref b7)])) rfl rfl (hb hby at_56)
  have fq15 : fits .char (.int (nar .char c1)) = true := fits_nar_char _
  rw [show nar .char c1 = c1 from rst_nar hR_c1] at W15 fq15
  have V15 := Arv.set Ar15 cq15 Sz15 Nn15 Hs15 Gs15 fq15 W15 0 rfl (Nat.le_of_ble_eq_true rfl)
  have V_b7_o := V_b7
  have K15 := Keep.of_wr W15
  have M15 := M13.wr W15 (Or.inr fr_b7)
  replace hk := Nat.le_trans hk (K15).1
  have hq16 : ∀ x ∈ ([b7] : List Addr), Safe Z consts_1 s.vm h13 x := (sfS Sf_b7 sf0)
  have hs16 := CHr.keep (K15) hq16 RH.1
  replace Sf_b5 := Safe.keep (K15) hq16 RH.1 Sf_b5
  replace Sf_b7 := Safe.keep (K15) hq16 RH.1 Sf_b7
  replace Sf_b9 := Safe.keep (K15) hq16 RH.1 Sf_b9
  replace Sf_b11 := Safe.keep (K15) hq16 RH.1 Sf_b11
  replace RH := RH.trans hs16
  replace Z_cs := StaKeep Z_cs K15 (allS (staArv V_b7_o) all0)
  replace Z_fm := StaKeep Z_fm K15 (allS (staArv V_b7_o) all0)
  replace V_b5 := V_b5.keep K15 (ninS ne_b5_b7 nin0)
  replace V_b9 := V_b9.keep K15 (ninS (Ne.symm ne_b7_b9) nin0)
  replace V_b11 := V_b11.keep K15 (ninS (Ne.symm ne_b7_b11) nin0)
  replace V_b7 : Arv Z h15 b7 k7 .char (2 : Int32) [(.int c1), (.int (0 : Int32))] (.int (0 : Int32)) := V15
  refine Go.of (T' := T15) (f' := (mkF m 57 #[.val (.int p1), .val (.int p2), .val (.int p3), .val (.int p4), .val (.int p5), .val (.int c1), .val (.int c2), .val (.int c3), .val (.int c4), .val (.ref b5), .val (.ref b7), .val (.ref b9), .val (.ref b11), .unset, .unset, .unset, .unset, .unset, .unset] [])) st15 ?_
  refine Go.of (T' := T15) (f' := (mkF m 59 #[.val (.int p1), .val (.int p2), .val (.int p3), .val (.int p4), .val (.int p5), .val (.int c1), .val (.int c2), .val (.int c3), .val (.int c4), .val (.ref b5), .val (.ref b7), .val (.ref b9), .val (.ref b11), .unset, .unset, .unset, .unset, .unset, .unset] [(.ref b7)])) (fun _ k => XS.aload X15.here hx rfl (hb hby at_57) rfl rfl k) ?_
  refine Go.of (T' := T15) (f' := (mkF m 60 #[.val (.int p1), .val (.int p2), .val (.int p3), .val (.int p4), .val (.int p5), .val (.int c1), .val (.int c2), .val (.int c3), .val (.int c4), .val (.ref b5), .val (.ref b7), .val (.ref b9), .val (.ref b11), .unset, .unset, .unset, .unset, .unset, .unset] [(.int (1 : Int32)), (.ref b7)])) (fun _ k => XS.iconst X15.here hx rfl (hb hby at_59) k) ?_
  refine Go.of (T' := T15) (f' := (mkF m 62 #[.val (.int p1), .val (.int p2), .val (.int p3), .val (.int p4), .val (.int p5), .val (.int c1), .val (.int c2), .val (.int c3), .val (.int c4), .val (.ref b5), .val (.ref b7), .val (.ref b9), .val (.ref b11), .unset, .unset, .unset, .unset, .unset, .unset] [(.int c2), (.int (1 : Int32)), (.ref b7)])) (fun _ k => XS.iload X15.here hx rfl (hb hby at_60) rfl k) ?_
  obtain ⟨cl17, Ar17, cq17, Sz17, Nn17, Hs17, Gs17⟩ := id V_b7
  have hin17 : ¬ ((1 : Int32) < 0 ∨ cl17.slots.size ≤ ((1 : Int32)).toNatClampNeg) := inb_of Sz17 ⟨by decide, by decide⟩
  obtain ⟨T17, h17, X17, e17, W17, st17⟩ := stC X15 hx hZ e15 Ar17 (j := (1 : Int32)) hin17 (g := (mkF m 62 #[.val (.int p1), .val (.int p2), .val (.int p3), .val (.int p4), .val (.int p5), .val (.int c1), .val (.int c2), .val (.int c3), .val (.int c4), .val (.ref b5), .val (.ref b7), .val (.ref b9), .val (.ref b11), .unset, .unset, .unset, .unset, .unset, .unset] [(.int c2), (.int (1 : Int32)), (.ref b7)])) rfl rfl (hb hby at_62)
  have fq17 : fits .char (.int (nar .char c2)) = true := fits_nar_char _
  rw [show nar .char c2 = c2 from rst_nar hR_c2] at W17 fq17
  have V17 := Arv.set Ar17 cq17 Sz17 Nn17 Hs17 Gs17 fq17 W17 1 rfl (Nat.le_of_ble_eq_true rfl)
  have V_b7_o := V_b7
  have K17 := Keep.of_wr W17
  have M17 := M15.wr W17 (Or.inr fr_b7)
  replace hk := Nat.le_trans hk (K17).1
  have hq18 : ∀ x ∈ ([b7] : List Addr), Safe Z consts_1 s.vm h15 x := (sfS Sf_b7 sf0)
  have hs18 := CHr.keep (K17) hq18 RH.1
  replace Sf_b5 := Safe.keep (K17) hq18 RH.1 Sf_b5
  replace Sf_b7 := Safe.keep (K17) hq18 RH.1 Sf_b7
  replace Sf_b9 := Safe.keep (K17) hq18 RH.1 Sf_b9
  replace Sf_b11 := Safe.keep (K17) hq18 RH.1 Sf_b11
  replace RH := RH.trans hs18
  replace Z_cs := StaKeep Z_cs K17 (allS (staArv V_b7_o) all0)
  replace Z_fm := StaKeep Z_fm K17 (allS (staArv V_b7_o) all0)
  replace V_b5 := V_b5.keep K17 (ninS ne_b5_b7 nin0)
  replace V_b9 := V_b9.keep K17 (ninS (Ne.symm ne_b7_b9) nin0)
  replace V_b11 := V_b11.keep K17 (ninS (Ne.symm ne_b7_b11) nin0)
  replace V_b7 : Arv Z h17 b7 k7 .char (2 : Int32) [(.int c1), (.int c2)] (.int (0 : Int32)) := V17
  refine Go.of (T' := T17) (f' := (mkF m 63 #[.val (.int p1), .val (.int p2), .val (.int p3), .val (.int p4), .val (.int p5), .val (.int c1), .val (.int c2), .val (.int c3), .val (.int c4), .val (.ref b5), .val (.ref b7), .val (.ref b9), .val (.ref b11), .unset, .unset, .unset, .unset, .unset, .unset] [])) st17 ?_
  refine Go.of (T' := T17) (f' := (mkF m 65 #[.val (.int p1), .val (.int p2), .val (.int p3), .val (.int p4), .val (.int p5), .val (.int c1), .val (.int c2), .val (.int c3), .val (.int c4), .val (.ref b5), .val (.ref b7), .val (.ref b9), .val (.ref b11), .unset, .unset, .unset, .unset, .unset, .unset] [(.ref b9)])) (fun _ k => XS.aload X17.here hx rfl (hb hby at_63) rfl rfl k) ?_
  refine Go.of (T' := T17) (f' := (mkF m 66 #[.val (.int p1), .val (.int p2), .val (.int p3), .val (.int p4), .val (.int p5), .val (.int c1), .val (.int c2), .val (.int c3), .val (.int c4), .val (.ref b5), .val (.ref b7), .val (.ref b9), .val (.ref b11), .unset, .unset, .unset, .unset, .unset, .unset] [(.int (0 : Int32)), (.ref b9)])) (fun _ k => XS.iconst X17.here hx rfl (hb hby at_65) k) ?_
  refine Go.of (T' := T17) (f' := (mkF m 68 #[.val (.int p1), .val (.int p2), .val (.int p3), .val (.int p4), .val (.int p5), .val (.int c1), .val (.int c2), .val (.int c3), .val (.int c4), .val (.ref b5), .val (.ref b7), .val (.ref b9), .val (.ref b11), .unset, .unset, .unset, .unset, .unset, .unset] [(.int c1), (.int (0 : Int32)), (.ref b9)])) (fun _ k => XS.iload X17.here hx rfl (hb hby at_66) rfl k) ?_
  obtain ⟨cl19, Ar19, cq19, Sz19, Nn19, Hs19, Gs19⟩ := id V_b9
  have hin19 : ¬ ((0 : Int32) < 0 ∨ cl19.slots.size ≤ ((0 : Int32)).toNatClampNeg) := inb_of Sz19 ⟨by decide, by decide⟩
  obtain ⟨T19, h19, X19, e19, W19, st19⟩ := stC X17 hx hZ e17 Ar19 (j := (0 : Int32)) hin19 (g := (mkF m 68 #[.val (.int p1), .val (.int p2), .val (.int p3), .val (.int p4), .val (.int p5), .val (.int c1), .val (.int c2), .val (.int c3), .val (.int c4), .val (.ref b5), .val (.ref b7), .val (.ref b9), .val (.ref b11), .unset, .unset, .unset, .unset, .unset, .unset] [(.int c1), (.int (0 : Int32)), (.ref b9)])) rfl rfl (hb hby at_68)
  have fq19 : fits .char (.int (nar .char c1)) = true := fits_nar_char _
  rw [show nar .char c1 = c1 from rst_nar hR_c1] at W19 fq19
  have V19 := Arv.set Ar19 cq19 Sz19 Nn19 Hs19 Gs19 fq19 W19 0 rfl (Nat.le_of_ble_eq_true rfl)
  have V_b9_o := V_b9
  have K19 := Keep.of_wr W19
  have M19 := M17.wr W19 (Or.inr fr_b9)
  replace hk := Nat.le_trans hk (K19).1
  have hq20 : ∀ x ∈ ([b9] : List Addr), Safe Z consts_1 s.vm h17 x := (sfS Sf_b9 sf0)
  have hs20 := CHr.keep (K19) hq20 RH.1
  replace Sf_b5 := Safe.keep (K19) hq20 RH.1 Sf_b5
  replace Sf_b7 := Safe.keep (K19) hq20 RH.1 Sf_b7
  replace Sf_b9 := Safe.keep (K19) hq20 RH.1 Sf_b9
  replace Sf_b11 := Safe.keep (K19) hq20 RH.1 Sf_b11
  replace RH := RH.trans hs20
  replace Z_cs := StaKeep Z_cs K19 (allS (staArv V_b9_o) all0)
  replace Z_fm := StaKeep Z_fm K19 (allS (staArv V_b9_o) all0)
  replace V_b5 := V_b5.keep K19 (ninS ne_b5_b9 nin0)
  replace V_b7 := V_b7.keep K19 (ninS ne_b7_b9 nin0)
  replace V_b11 := V_b11.keep K19 (ninS (Ne.symm ne_b9_b11) nin0)
  replace V_b9 : Arv Z h19 b9 k9 .char (3 : Int32) [(.int c1), (.int (0 : Int32)), (.int (0 : Int32))] (.int (0 : Int32)) := V19
  refine Go.of (T' := T19) (f' := (mkF m 69 #[.val (.int p1), .val (.int p2), .val (.int p3), .val (.int p4), .val (.int p5), .val (.int c1), .val (.int c2), .val (.int c3), .val (.int c4), .val (.ref b5), .val (.ref b7), .val (.ref b9), .val (.ref b11), .unset, .unset, .unset, .unset, .unset, .unset] [])) st19 ?_
  refine Go.of (T' := T19) (f' := (mkF m 71 #[.val (.int p1), .val (.int p2), .val (.int p3), .val (.int p4), .val (.int p5), .val (.int c1), .val (.int c2), .val (.int c3), .val (.int c4), .val (.ref b5), .val (.ref b7), .val (.ref b9), .val (.ref b11), .unset, .unset, .unset, .unset, .unset, .unset] [(.ref b9)])) (fun _ k => XS.aload X19.here hx rfl (hb hby at_69) rfl rfl k) ?_
  refine Go.of (T' := T19) (f' := (mkF m 72 #[.val (.int p1), .val (.int p2), .val (.int p3), .val (.int p4), .val (.int p5), .val (.int c1), .val (.int c2), .val (.int c3), .val (.int c4), .val (.ref b5), .val (.ref b7), .val (.ref b9), .val (.ref b11), .unset, .unset, .unset, .unset, .unset, .unset] [(.int (1 : Int32)), (.ref b9)])) (fun _ k => XS.iconst X19.here hx rfl (hb hby at_71) k) ?_
  refine Go.of (T' := T19) (f' := (mkF m 74 #[.val (.int p1), .val (.int p2), .val (.int p3), .val (.int p4), .val (.int p5), .val (.int c1), .val (.int c2), .val (.int c3), .val (.int c4), .val (.ref b5), .val (.ref b7), .val (.ref b9), .val (.ref b11), .unset, .unset, .unset, .unset, .unset, .unset] [(.int c2), (.int (1 : Int32)), (.ref b9)])) (fun _ k => XS.iload X19.here hx rfl (hb hby at_72) rfl k) ?_
  obtain ⟨cl21, Ar21, cq21, Sz21, Nn21, Hs21, Gs21⟩ := id V_b9
  have hin21 : ¬ ((1 : Int32) < 0 ∨ cl21.slots.size ≤ ((1 : Int32)).toNatClampNeg) := inb_of Sz21 ⟨by decide, by decide⟩
  obtain ⟨T21, h21, X21, e21, W21, st21⟩ := stC X19 hx hZ e19 Ar21 (j := (1 : Int32)) hin21 (g := (mkF m 74 #[.val (.int p1), .val (.int p2), .val (.int p3), .val (.int p4), .val (.int p5), .val (.int c1), .val (.int c2), .val (.int c3), .val (.int c4), .val (.ref b5), .val (.ref b7), .val (.ref b9), .val (.ref b11), .unset, .unset, .unset, .unset, .unset, .unset] [(.int c2), (.int (1 : Int32)), (.ref b9)])) rfl rfl (hb hby at_74)
  have fq21 : fits .char (.int (nar .char c2)) = true := fits_nar_char _
  rw [show nar .char c2 = c2 from rst_nar hR_c2] at W21 fq21
  have V21 := Arv.set Ar21 cq21 Sz21 Nn21 Hs21 Gs21 fq21 W21 1 rfl (Nat.le_of_ble_eq_true rfl)
  have V_b9_o := V_b9
  have K21 := Keep.of_wr W21
  have M21 := M19.wr W21 (Or.inr fr_b9)
  replace hk := Nat.le_trans hk (K21).1
  have hq22 : ∀ x ∈ ([b9] : List Addr), Safe Z consts_1 s.vm h19 x := (sfS Sf_b9 sf0)
  have hs22 := CHr.keep (K21) hq22 RH.1
  replace Sf_b5 := Safe.keep (K21) hq22 RH.1 Sf_b5
  replace Sf_b7 := Safe.keep (K21) hq22 RH.1 Sf_b7
  replace Sf_b9 := Safe.keep (K21) hq22 RH.1 Sf_b9
  replace Sf_b11 := Safe.keep (K21) hq22 RH.1 Sf_b11
  replace RH := RH.trans hs22
  replace Z_cs := StaKeep Z_cs K21 (allS (staArv V_b9_o) all0)
  replace Z_fm := StaKeep Z_fm K21 (allS (staArv V_b9_o) all0)
  replace V_b5 := V_b5.keep K21 (ninS ne_b5_b9 nin0)
  replace V_b7 := V_b7.keep K21 (ninS ne_b7_b9 nin0)
  replace V_b11 := V_b11.keep K21 (ninS (Ne.symm ne_b9_b11) nin0)
  replace V_b9 : Arv Z h21 b9 k9 .char (3 : Int32) [(.int c1), (.int c2), (.int (0 : Int32))] (.int (0 : Int32)) := V21
  refine Go.of (T' := T21) (f' := (mkF m 75 #[.val (.int p1), .val (.int p2), .val (.int p3), .val (.int p4), .val (.int p5), .val (.int c1), .val (.int c2), .val (.int c3), .val (.int c4), .val (.ref b5), .val (.ref b7), .val (.ref b9), .val (.ref b11), .unset, .unset, .unset, .unset, .unset, .unset] [])) st21 ?_
  refine Go.of (T' := T21) (f' := (mkF m 77 #[.val (.int p1), .val (.int p2), .val (.int p3), .val (.int p4), .val (.int p5), .val (.int c1), .val (.int c2), .val (.int c3), .val (.int c4), .val (.ref b5), .val (.ref b7), .val (.ref b9), .val (.ref b11), .unset, .unset, .unset, .unset, .unset, .unset] [(.ref b9)])) (fun _ k => XS.aload X21.here hx rfl (hb hby at_75) rfl rfl k) ?_
  refine Go.of (T' := T21) (f' := (mkF m 78 #[.val (.int p1), .val (.int p2), .val (.int p3), .val (.int p4), .val (.int p5), .val (.int c1), .val (.int c2), .val (.int c3), .val (.int c4), .val (.ref b5), .val (.ref b7), .val (.ref b9), .val (.ref b11), .unset, .unset, .unset, .unset, .unset, .unset] [(.int (2 : Int32)), (.ref b9)])) (fun _ k => XS.iconst X21.here hx rfl (hb hby at_77) k) ?_
  refine Go.of (T' := T21) (f' := (mkF m 80 #[.val (.int p1), .val (.int p2), .val (.int p3), .val (.int p4), .val (.int p5), .val (.int c1), .val (.int c2), .val (.int c3), .val (.int c4), .val (.ref b5), .val (.ref b7), .val (.ref b9), .val (.ref b11), .unset, .unset, .unset, .unset, .unset, .unset] [(.int c3), (.int (2 : Int32)), (.ref b9)])) (fun _ k => XS.iload X21.here hx rfl (hb hby at_78) rfl k) ?_
  obtain ⟨cl23, Ar23, cq23, Sz23, Nn23, Hs23, Gs23⟩ := id V_b9
  have hin23 : ¬ ((2 : Int32) < 0 ∨ cl23.slots.size ≤ ((2 : Int32)).toNatClampNeg) := inb_of Sz23 ⟨by decide, by decide⟩
  obtain ⟨T23, h23, X23, e23, W23, st23⟩ := stC X21 hx hZ e21 Ar23 (j := (2 : Int32)) hin23 (g := (mkF m 80 #[.val (.int p1), .val (.int p2), .val (.int p3), .val (.int p4), .val (.int p5), .val (.int c1), .val (.int c2), .val (.int c3), .val (.int c4), .val (.ref b5), .val (.ref b7), .val (.ref b9), .val (.ref b11), .unset, .unset, .unset, .unset, .unset, .unset] [(.int c3), (.int (2 : Int32)), (.ref b9)])) rfl rfl (hb hby at_80)
  have fq23 : fits .char (.int (nar .char c3)) = true := fits_nar_char _
  rw [show nar .char c3 = c3 from rst_nar hR_c3] at W23 fq23
  have V23 := Arv.set Ar23 cq23 Sz23 Nn23 Hs23 Gs23 fq23 W23 2 rfl (Nat.le_of_ble_eq_true rfl)
  have V_b9_o := V_b9
  have K23 := Keep.of_wr W23
  have M23 := M21.wr W23 (Or.inr fr_b9)
  replace hk := Nat.le_trans hk (K23).1
  have hq24 : ∀ x ∈ ([b9] : List Addr), Safe Z consts_1 s.vm h21 x := (sfS Sf_b9 sf0)
  have hs24 := CHr.keep (K23) hq24 RH.1
  replace Sf_b5 := Safe.keep (K23) hq24 RH.1 Sf_b5
  replace Sf_b7 := Safe.keep (K23) hq24 RH.1 Sf_b7
  replace Sf_b9 := Safe.keep (K23) hq24 RH.1 Sf_b9
  replace Sf_b11 := Safe.keep (K23) hq24 RH.1 Sf_b11
  replace RH := RH.trans hs24
  replace Z_cs := StaKeep Z_cs K23 (allS (staArv V_b9_o) all0)
  replace Z_fm := StaKeep Z_fm K23 (allS (staArv V_b9_o) all0)
  replace V_b5 := V_b5.keep K23 (ninS ne_b5_b9 nin0)
  replace V_b7 := V_b7.keep K23 (ninS ne_b7_b9 nin0)
  replace V_b11 := V_b11.keep K23 (ninS (Ne.symm ne_b9_b11) nin0)
  replace V_b9 : Arv Z h23 b9 k9 .char (3 : Int32) [(.int c1), (.int c2), (.int c3)] (.int (0 : Int32)) := V23
  refine Go.of (T' := T23) (f' := (mkF m 81 #[.val (.int p1), .val (.int p2), .val (.int p3), .val (.int p4), .val (.int p5), .val (.int c1), .val (.int c2), .val (.int c3), .val (.int c4), .val (.ref b5), .val (.ref b7), .val (.ref b9), .val (.ref b11), .unset, .unset, .unset, .unset, .unset, .unset] [])) st23 ?_
  refine Go.of (T' := T23) (f' := (mkF m 83 #[.val (.int p1), .val (.int p2), .val (.int p3), .val (.int p4), .val (.int p5), .val (.int c1), .val (.int c2), .val (.int c3), .val (.int c4), .val (.ref b5), .val (.ref b7), .val (.ref b9), .val (.ref b11), .unset, .unset, .unset, .unset, .unset, .unset] [(.ref b11)])) (fun _ k => XS.aload X23.here hx rfl (hb hby at_81) rfl rfl k) ?_
  refine Go.of (T' := T23) (f' := (mkF m 84 #[.val (.int p1), .val (.int p2), .val (.int p3), .val (.int p4), .val (.int p5), .val (.int c1), .val (.int c2), .val (.int c3), .val (.int c4), .val (.ref b5), .val (.ref b7), .val (.ref b9), .val (.ref b11), .unset, .unset, .unset, .unset, .unset, .unset] [(.int (0 : Int32)), (.ref b11)])) (fun _ k => XS.iconst X23.here hx rfl (hb hby at_83) k) ?_
  refine Go.of (T' := T23) (f' := (mkF m 86 #[.val (.int p1), .val (.int p2), .val (.int p3), .val (.int p4), .val (.int p5), .val (.int c1), .val (.int c2), .val (.int c3), .val (.int c4), .val (.ref b5), .val (.ref b7), .val (.ref b9), .val (.ref b11), .unset, .unset, .unset, .unset, .unset, .unset] [(.int c1), (.int (0 : Int32)), (.ref b11)])) (fun _ k => XS.iload X23.here hx rfl (hb hby at_84) rfl k) ?_
  obtain ⟨cl25, Ar25, cq25, Sz25, Nn25, Hs25, Gs25⟩ := id V_b11
  have hin25 : ¬ ((0 : Int32) < 0 ∨ cl25.slots.size ≤ ((0 : Int32)).toNatClampNeg) := inb_of Sz25 ⟨by decide, by decide⟩
  obtain ⟨T25, h25, X25, e25, W25, st25⟩ := stC X23 hx hZ e23 Ar25 (j := (0 : Int32)) hin25 (g := (mkF m 86 #[.val (.int p1), .val (.int p2), .val (.int p3), .val (.int p4), .val (.int p5), .val (.int c1), .val (.int c2), .val (.int c3), .val (.int c4), .val (.ref b5), .val (.ref b7), .val (.ref b9), .val (.ref b11), .unset, .unset, .unset, .unset, .unset, .unset] [(.int c1), (.int (0 : Int32)), (.ref b11)])) rfl rfl (hb hby at_86)
  have fq25 : fits .char (.int (nar .char c1)) = true := fits_nar_char _
  rw [show nar .char c1 = c1 from rst_nar hR_c1] at W25 fq25
  have V25 := Arv.set Ar25 cq25 Sz25 Nn25 Hs25 Gs25 fq25 W25 0 rfl (Nat.le_of_ble_eq_true rfl)
  have V_b11_o := V_b11
  have K25 := Keep.of_wr W25
  have M25 := M23.wr W25 (Or.inr fr_b11)
  replace hk := Nat.le_trans hk (K25).1
  have hq26 : ∀ x ∈ ([b11] : List Addr), Safe Z consts_1 s.vm h23 x := (sfS Sf_b11 sf0)
  have hs26 := CHr.keep (K25) hq26 RH.1
  replace Sf_b5 := Safe.keep (K25) hq26 RH.1 Sf_b5
  replace Sf_b7 := Safe.keep (K25) hq26 RH.1 Sf_b7
  replace Sf_b9 := Safe.keep (K25) hq26 RH.1 Sf_b9
  replace Sf_b11 := Safe.keep (K25) hq26 RH.1 Sf_b11
  replace RH := RH.trans hs26
  replace Z_cs := StaKeep Z_cs K25 (allS (staArv V_b11_o) all0)
  replace Z_fm := StaKeep Z_fm K25 (allS (staArv V_b11_o) all0)
  replace V_b5 := V_b5.keep K25 (ninS ne_b5_b11 nin0)
  replace V_b7 := V_b7.keep K25 (ninS ne_b7_b11 nin0)
  replace V_b9 := V_b9.keep K25 (ninS ne_b9_b11 nin0)
  replace V_b11 : Arv Z h25 b11 k11 .char (4 : Int32) [(.int c1), (.int (0 : Int32)), (.int (0 : Int32)), (.int (0 : Int32))] (.int (0 : Int32)) := V25
  refine Go.of (T' := T25) (f' := (mkF m 87 #[.val (.int p1), .val (.int p2), .val (.int p3), .val (.int p4), .val (.int p5), .val (.int c1), .val (.int c2), .val (.int c3), .val (.int c4), .val (.ref b5), .val (.ref b7), .val (.ref b9), .val (.ref b11), .unset, .unset, .unset, .unset, .unset, .unset] [])) st25 ?_
  refine Go.of (T' := T25) (f' := (mkF m 89 #[.val (.int p1), .val (.int p2), .val (.int p3), .val (.int p4), .val (.int p5), .val (.int c1), .val (.int c2), .val (.int c3), .val (.int c4), .val (.ref b5), .val (.ref b7), .val (.ref b9), .val (.ref b11), .unset, .unset, .unset, .unset, .unset, .unset] [(.ref b11)])) (fun _ k => XS.aload X25.here hx rfl (hb hby at_87) rfl rfl k) ?_
  refine Go.of (T' := T25) (f' := (mkF m 90 #[.val (.int p1), .val (.int p2), .val (.int p3), .val (.int p4), .val (.int p5), .val (.int c1), .val (.int c2), .val (.int c3), .val (.int c4), .val (.ref b5), .val (.ref b7), .val (.ref b9), .val (.ref b11), .unset, .unset, .unset, .unset, .unset, .unset] [(.int (1 : Int32)), (.ref b11)])) (fun _ k => XS.iconst X25.here hx rfl (hb hby at_89) k) ?_
  refine Go.of (T' := T25) (f' := (mkF m 92 #[.val (.int p1), .val (.int p2), .val (.int p3), .val (.int p4), .val (.int p5), .val (.int c1), .val (.int c2), .val (.int c3), .val (.int c4), .val (.ref b5), .val (.ref b7), .val (.ref b9), .val (.ref b11), .unset, .unset, .unset, .unset, .unset, .unset] [(.int c2), (.int (1 : Int32)), (.ref b11)])) (fun _ k => XS.iload X25.here hx rfl (hb hby at_90) rfl k) ?_
  obtain ⟨cl27, Ar27, cq27, Sz27, Nn27, Hs27, Gs27⟩ := id V_b11
  have hin27 : ¬ ((1 : Int32) < 0 ∨ cl27.slots.size ≤ ((1 : Int32)).toNatClampNeg) := inb_of Sz27 ⟨by decide, by decide⟩
  obtain ⟨T27, h27, X27, e27, W27, st27⟩ := stC X25 hx hZ e25 Ar27 (j := (1 : Int32)) hin27 (g := (mkF m 92 #[.val (.int p1), .val (.int p2), .val (.int p3), .val (.int p4), .val (.int p5), .val (.int c1), .val (.int c2), .val (.int c3), .val (.int c4), .val (.ref b5), .val (.ref b7), .val (.ref b9), .val (.ref b11), .unset, .unset, .unset, .unset, .unset, .unset] [(.int c2), (.int (1 : Int32)), (.ref b11)])) rfl rfl (hb hby at_92)
  have fq27 : fits .char (.int (nar .char c2)) = true := fits_nar_char _
  rw [show nar .char c2 = c2 from rst_nar hR_c2] at W27 fq27
  have V27 := Arv.set Ar27 cq27 Sz27 Nn27 Hs27 Gs27 fq27 W27 1 rfl (Nat.le_of_ble_eq_true rfl)
  have V_b11_o := V_b11
  have K27 := Keep.of_wr W27
  have M27 := M25.wr W27 (Or.inr fr_b11)
  replace hk := Nat.le_trans hk (K27).1
  have hq28 : ∀ x ∈ ([b11] : List Addr), Safe Z consts_1 s.vm h25 x := (sfS Sf_b11 sf0)
  have hs28 := CHr.keep (K27) hq28 RH.1
  replace Sf_b5 := Safe.keep (K27) hq28 RH.1 Sf_b5
  replace Sf_b7 := Safe.keep (K27) hq28 RH.1 Sf_b7
  replace Sf_b9 := Safe.keep (K27) hq28 RH.1 Sf_b9
  replace Sf_b11 := Safe.keep (K27) hq28 RH.1 Sf_b11
  replace RH := RH.trans hs28
  replace Z_cs := StaKeep Z_cs K27 (allS (staArv V_b11_o) all0)
  replace Z_fm := StaKeep Z_fm K27 (allS (staArv V_b11_o) all0)
  replace V_b5 := V_b5.keep K27 (ninS ne_b5_b11 nin0)
  replace V_b7 := V_b7.keep K27 (ninS ne_b7_b11 nin0)
  replace V_b9 := V_b9.keep K27 (ninS ne_b9_b11 nin0)
  replace V_b11 : Arv Z h27 b11 k11 .char (4 : Int32) [(.int c1), (.int c2), (.int (0 : Int32)), (.int (0 : Int32))] (.int (0 : Int32)) := V27
  refine Go.of (T' := T27) (f' := (mkF m 93 #[.val (.int p1), .val (.int p2), .val (.int p3), .val (.int p4), .val (.int p5), .val (.int c1), .val (.int c2), .val (.int c3), .val (.int c4), .val (.ref b5), .val (.ref b7), .val (.ref b9), .val (.ref b11), .unset, .unset, .unset, .unset, .unset, .unset] [])) st27 ?_
  refine Go.of (T' := T27) (f' := (mkF m 95 #[.val (.int p1), .val (.int p2), .val (.int p3), .val (.int p4), .val (.int p5), .val (.int c1), .val (.int c2), .val (.int c3), .val (.int c4), .val (.ref b5), .val (.ref b7), .val (.ref b9), .val (.ref b11), .unset, .unset, .unset, .unset, .unset, .unset] [(.ref b11)])) (fun _ k => XS.aload X27.here hx rfl (hb hby at_93) rfl rfl k) ?_
  refine Go.of (T' := T27) (f' := (mkF m 96 #[.val (.int p1), .val (.int p2), .val (.int p3), .val (.int p4), .val (.int p5), .val (.int c1), .val (.int c2), .val (.int c3), .val (.int c4), .val (.ref b5), .val (.ref b7), .val (.ref b9), .val (.ref b11), .unset, .unset, .unset, .unset, .unset, .unset] [(.int (2 : Int32)), (.ref b11)])) (fun _ k => XS.iconst X27.here hx rfl (hb hby at_95) k) ?_
  refine Go.of (T' := T27) (f' := (mkF m 98 #[.val (.int p1), .val (.int p2), .val (.int p3), .val (.int p4), .val (.int p5), .val (.int c1), .val (.int c2), .val (.int c3), .val (.int c4), .val (.ref b5), .val (.ref b7), .val (.ref b9), .val (.ref b11), .unset, .unset, .unset, .unset, .unset, .unset] [(.int c3), (.int (2 : Int32)), (.ref b11)])) (fun _ k => XS.iload X27.here hx rfl (hb hby at_96) rfl k) ?_
  obtain ⟨cl29, Ar29, cq29, Sz29, Nn29, Hs29, Gs29⟩ := id V_b11
  have hin29 : ¬ ((2 : Int32) < 0 ∨ cl29.slots.size ≤ ((2 : Int32)).toNatClampNeg) := inb_of Sz29 ⟨by decide, by decide⟩
  obtain ⟨T29, h29, X29, e29, W29, st29⟩ := stC X27 hx hZ e27 Ar29 (j := (2 : Int32)) hin29 (g := (mkF m 98 #[.val (.int p1), .val (.int p2), .val (.int p3), .val (.int p4), .val (.int p5), .val (.int c1), .val (.int c2), .val (.int c3), .val (.int c4), .val (.ref b5), .val (.ref b7), .val (.ref b9), .val (.ref b11), .unset, .unset, .unset, .unset, .unset, .unset] [(.int c3), (.int (2 : Int32)), (.ref b11)])) rfl rfl (hb hby at_98)
  have fq29 : fits .char (.int (nar .char c3)) = true := fits_nar_char _
  rw [show nar .char c3 = c3 from rst_nar hR_c3] at W29 fq29
  have V29 := Arv.set Ar29 cq29 Sz29 Nn29 Hs29 Gs29 fq29 W29 2 rfl (Nat.le_of_ble_eq_true rfl)
  have V_b11_o := V_b11
  have K29 := Keep.of_wr W29
  have M29 := M27.wr W29 (Or.inr fr_b11)
  replace hk := Nat.le_trans hk (K29).1
  have hq30 : ∀ x ∈ ([b11] : List Addr), Safe Z consts_1 s.vm h27 x := (sfS Sf_b11 sf0)
  have hs30 := CHr.keep (K29) hq30 RH.1
  replace Sf_b5 := Safe.keep (K29) hq30 RH.1 Sf_b5
  replace Sf_b7 := Safe.keep (K29) hq30 RH.1 Sf_b7
  replace Sf_b9 := Safe.keep (K29) hq30 RH.1 Sf_b9
  replace Sf_b11 := Safe.keep (K29) hq30 RH.1 Sf_b11
  replace RH := RH.trans hs30
  replace Z_cs := StaKeep Z_cs K29 (allS (staArv V_b11_o) all0)
  replace Z_fm := StaKeep Z_fm K29 (allS (staArv V_b11_o) all0)
  replace V_b5 := V_b5.keep K29 (ninS ne_b5_b11 nin0)
  replace V_b7 := V_b7.keep K29 (ninS ne_b7_b11 nin0)
  replace V_b9 := V_b9.keep K29 (ninS ne_b9_b11 nin0)
  replace V_b11 : Arv Z h29 b11 k11 .char (4 : Int32) [(.int c1), (.int c2), (.int c3), (.int (0 : Int32))] (.int (0 : Int32)) := V29
  refine Go.of (T' := T29) (f' := (mkF m 99 #[.val (.int p1), .val (.int p2), .val (.int p3), .val (.int p4), .val (.int p5), .val (.int c1), .val (.int c2), .val (.int c3), .val (.int c4), .val (.ref b5), .val (.ref b7), .val (.ref b9), .val (.ref b11), .unset, .unset, .unset, .unset, .unset, .unset] [])) st29 ?_
  refine Go.of (T' := T29) (f' := (mkF m 101 #[.val (.int p1), .val (.int p2), .val (.int p3), .val (.int p4), .val (.int p5), .val (.int c1), .val (.int c2), .val (.int c3), .val (.int c4), .val (.ref b5), .val (.ref b7), .val (.ref b9), .val (.ref b11), .unset, .unset, .unset, .unset, .unset, .unset] [(.ref b11)])) (fun _ k => XS.aload X29.here hx rfl (hb hby at_99) rfl rfl k) ?_
  refine Go.of (T' := T29) (f' := (mkF m 102 #[.val (.int p1), .val (.int p2), .val (.int p3), .val (.int p4), .val (.int p5), .val (.int c1), .val (.int c2), .val (.int c3), .val (.int c4), .val (.ref b5), .val (.ref b7), .val (.ref b9), .val (.ref b11), .unset, .unset, .unset, .unset, .unset, .unset] [(.int (3 : Int32)), (.ref b11)])) (fun _ k => XS.iconst X29.here hx rfl (hb hby at_101) k) ?_
  refine Go.of (T' := T29) (f' := (mkF m 104 #[.val (.int p1), .val (.int p2), .val (.int p3), .val (.int p4), .val (.int p5), .val (.int c1), .val (.int c2), .val (.int c3), .val (.int c4), .val (.ref b5), .val (.ref b7), .val (.ref b9), .val (.ref b11), .unset, .unset, .unset, .unset, .unset, .unset] [(.int c4), (.int (3 : Int32)), (.ref b11)])) (fun _ k => XS.iload X29.here hx rfl (hb hby at_102) rfl k) ?_
  obtain ⟨cl31, Ar31, cq31, Sz31, Nn31, Hs31, Gs31⟩ := id V_b11
  have hin31 : ¬ ((3 : Int32) < 0 ∨ cl31.slots.size ≤ ((3 : Int32)).toNatClampNeg) := inb_of Sz31 ⟨by decide, by decide⟩
  obtain ⟨T31, h31, X31, e31, W31, st31⟩ := stC X29 hx hZ e29 Ar31 (j := (3 : Int32)) hin31 (g := (mkF m 104 #[.val (.int p1), .val (.int p2), .val (.int p3), .val (.int p4), .val (.int p5), .val (.int c1), .val (.int c2), .val (.int c3), .val (.int c4), .val (.ref b5), .val (.ref b7), .val (.ref b9), .val (.ref b11), .unset, .unset, .unset, .unset, .unset, .unset] [(.int c4), (.int (3 : Int32)), (.ref b11)])) rfl rfl (hb hby at_104)
  have fq31 : fits .char (.int (nar .char c4)) = true := fits_nar_char _
  rw [show nar .char c4 = c4 from rst_nar hR_c4] at W31 fq31
  have V31 := Arv.set Ar31 cq31 Sz31 Nn31 Hs31 Gs31 fq31 W31 3 rfl (Nat.le_of_ble_eq_true rfl)
  have V_b11_o := V_b11
  have K31 := Keep.of_wr W31
  have M31 := M29.wr W31 (Or.inr fr_b11)
  replace hk := Nat.le_trans hk (K31).1
  have hq32 : ∀ x ∈ ([b11] : List Addr), Safe Z consts_1 s.vm h29 x := (sfS Sf_b11 sf0)
  have hs32 := CHr.keep (K31) hq32 RH.1
  replace Sf_b5 := Safe.keep (K31) hq32 RH.1 Sf_b5
  replace Sf_b7 := Safe.keep (K31) hq32 RH.1 Sf_b7
  replace Sf_b9 := Safe.keep (K31) hq32 RH.1 Sf_b9
  replace Sf_b11 := Safe.keep (K31) hq32 RH.1 Sf_b11
  replace RH := RH.trans hs32
  replace Z_cs := StaKeep Z_cs K31 (allS (staArv V_b11_o) all0)
  replace Z_fm := StaKeep Z_fm K31 (allS (staArv V_b11_o) all0)
  replace V_b5 := V_b5.keep K31 (ninS ne_b5_b11 nin0)
  replace V_b7 := V_b7.keep K31 (ninS ne_b7_b11 nin0)
  replace V_b9 := V_b9.keep K31 (ninS ne_b9_b11 nin0)
  replace V_b11 : Arv Z h31 b11 k11 .char (4 : Int32) [(.int c1), (.int c2), (.int c3), (.int c4)] (.int (0 : Int32)) := V31
  refine Go.of (T' := T31) (f' := (mkF m 105 #[.val (.int p1), .val (.int p2), .val (.int p3), .val (.int p4), .val (.int p5), .val (.int c1), .val (.int c2), .val (.int c3), .val (.int c4), .val (.ref b5), .val (.ref b7), .val (.ref b9), .val (.ref b11), .unset, .unset, .unset, .unset, .unset, .unset] [])) st31 ?_
  refine Go.of (T' := T31) (f' := (mkF m 106 #[.val (.int p1), .val (.int p2), .val (.int p3), .val (.int p4), .val (.int p5), .val (.int c1), .val (.int c2), .val (.int c3), .val (.int c4), .val (.ref b5), .val (.ref b7), .val (.ref b9), .val (.ref b11), .unset, .unset, .unset, .unset, .unset, .unset] [(.int p1)])) (fun _ k => XS.iloadN X31.here hx rfl (hb hby at_105) rfl k) ?_
  refine Go.of (T' := T31) (f' := (mkF m 107 #[.val (.int p1), .val (.int p2), .val (.int p3), .val (.int p4), .val (.int p5), .val (.int c1), .val (.int c2), .val (.int c3), .val (.int c4), .val (.ref b5), .val (.ref b7), .val (.ref b9), .val (.ref b11), .unset, .unset, .unset, .unset, .unset, .unset] [(.int (3 : Int32)), (.int p1)])) (fun _ k => XS.iconst X31.here hx rfl (hb hby at_106) k) ?_
  refine Go.of (T' := T31) (f' := (mkF m 108 #[.val (.int p1), .val (.int p2), .val (.int p3), .val (.int p4), .val (.int p5), .val (.int c1), .val (.int c2), .val (.int c3), .val (.int c4), .val (.ref b5), .val (.ref b7), .val (.ref b9), .val (.ref b11), .unset, .unset, .unset, .unset, .unset, .unset] [(.int (p1 &&& (3 : Int32)))])) (fun _ k => XS.iand X31.here hx rfl (hb hby at_107) rfl k) ?_
  refine Go.of (T' := T31) (f' := (mkF m 110 #[.val (.int p1), .val (.int p2), .val (.int p3), .val (.int p4), .val (.int p5), .val (.int c1), .val (.int c2), .val (.int c3), .val (.int c4), .val (.ref b5), .val (.ref b7), .val (.ref b9), .val (.ref b11), .val (.int (p1 &&& (3 : Int32))), .unset, .unset, .unset, .unset, .unset] [])) (fun _ k => XS.istore X31.here hx rfl (hb hby at_108) rfl (l' := #[.val (.int p1), .val (.int p2), .val (.int p3), .val (.int p4), .val (.int p5), .val (.int c1), .val (.int c2), .val (.int c3), .val (.int c4), .val (.ref b5), .val (.ref b7), .val (.ref b9), .val (.ref b11), .val (.int (p1 &&& (3 : Int32))), .unset, .unset, .unset, .unset, .unset]) rfl k) ?_
  refine Go.of (T' := T31) (f' := (mkF m 112 #[.val (.int p1), .val (.int p2), .val (.int p3), .val (.int p4), .val (.int p5), .val (.int c1), .val (.int c2), .val (.int c3), .val (.int c4), .val (.ref b5), .val (.ref b7), .val (.ref b9), .val (.ref b11), .val (.int (p1 &&& (3 : Int32))), .unset, .unset, .unset, .unset, .unset] [(.int (p1 &&& (3 : Int32)))])) (fun _ k => XS.iload X31.here hx rfl (hb hby at_110) rfl k) ?_
  by_cases hc112 : (p1 &&& (3 : Int32)) = (0 : Int32)
  ·
    refine Go.of (T' := T31) (f' := (mkF m 115 #[.val (.int p1), .val (.int p2), .val (.int p3), .val (.int p4), .val (.int p5), .val (.int c1), .val (.int c2), .val (.int c3), .val (.int c4), .val (.ref b5), .val (.ref b7), .val (.ref b9), .val (.ref b11), .val (.int (p1 &&& (3 : Int32))), .unset, .unset, .unset, .unset, .unset] [])) (fun _ k => XS.ifNo X31.here hx rfl (hb hby at_112) rfl ((if0 _ _).trans (teq hc112).2) k) ?_
    refine Go.of (T' := T31) (f' := (mkF m 117 #[.val (.int p1), .val (.int p2), .val (.int p3), .val (.int p4), .val (.int p5), .val (.int c1), .val (.int c2), .val (.int c3), .val (.int c4), .val (.ref b5), .val (.ref b7), .val (.ref b9), .val (.ref b11), .val (.int (p1 &&& (3 : Int32))), .unset, .unset, .unset, .unset, .unset] [(.ref b5)])) (fun _ k => XS.aload X31.here hx rfl (hb hby at_115) rfl rfl k) ?_
    refine Go.of (T' := T31) (f' := (mkF m 119 #[.val (.int p1), .val (.int p2), .val (.int p3), .val (.int p4), .val (.int p5), .val (.int c1), .val (.int c2), .val (.int c3), .val (.int c4), .val (.ref b5), .val (.ref b7), .val (.ref b9), .val (.ref b11), .val (.int (p1 &&& (3 : Int32))), .val (.ref b5), .unset, .unset, .unset, .unset] [])) (fun _ k => XS.astore X31.here hx rfl (hb hby at_117) rfl rfl (l' := #[.val (.int p1), .val (.int p2), .val (.int p3), .val (.int p4), .val (.int p5), .val (.int c1), .val (.int c2), .val (.int c3), .val (.int c4), .val (.ref b5), .val (.ref b7), .val (.ref b9), .val (.ref b11), .val (.int (p1 &&& (3 : Int32))), .val (.ref b5), .unset, .unset, .unset, .unset]) rfl k) ?_
    refine Go.of (T' := T31) (f' := (mkF m 152 #[.val (.int p1), .val (.int p2), .val (.int p3), .val (.int p4), .val (.int p5), .val (.int c1), .val (.int c2), .val (.int c3), .val (.int c4), .val (.ref b5), .val (.ref b7), .val (.ref b9), .val (.ref b11), .val (.int (p1 &&& (3 : Int32))), .val (.ref b5), .unset, .unset, .unset, .unset] [])) (fun _ k => XS.goto X31.here hx rfl (pc0 := 119) (pc' := 152) rfl (hb hby at_119) (by decide) (by decide) k) ?_
    obtain ⟨T33, h33, X33, e33, E33, A33, D33, -, st33⟩ := newO X31 hx hZ hown (hw _ (List.mem_of_getElem? (i := 9) rfl)) (hw _ (List.mem_of_getElem? (i := 10) rfl)) (hw _ (List.mem_of_getElem? (i := 11) rfl)) e31 (g := (mkF m 152 #[.val (.int p1), .val (.int p2), .val (.int p3), .val (.int p4), .val (.int p5), .val (.int c1), .val (.int c2), .val (.int c3), .val (.int c4), .val (.ref b5), .val (.ref b7), .val (.ref b9), .val (.ref b11), .val (.int (p1 &&& (3 : Int32))), .val (.ref b5), .unset, .unset, .unset, .unset] [])) rfl (hb hby at_152) (by decide) (by decide)
    obtain ⟨b33, g33⟩ : ∃ z, z = h31.size := ⟨_, rfl⟩
    rw [← g33] at A33 D33 st33
    have ne_b5_b33 : b5 ≠ b33 := Nat.ne_of_lt (Nat.lt_of_lt_of_le V_b5.lt (Nat.le_of_eq g33.symm))
    have ne_b7_b33 : b7 ≠ b33 := Nat.ne_of_lt (Nat.lt_of_lt_of_le V_b7.lt (Nat.le_of_eq g33.symm))
    have ne_b9_b33 : b9 ≠ b33 := Nat.ne_of_lt (Nat.lt_of_lt_of_le V_b9.lt (Nat.le_of_eq g33.symm))
    have ne_b11_b33 : b11 ≠ b33 := Nat.ne_of_lt (Nat.lt_of_lt_of_le V_b11.lt (Nat.le_of_eq g33.symm))
    have fr_b33 : h0.size ≤ b33 := Nat.le_trans M31.le (Nat.le_of_eq g33.symm)
    have Sf_b33 := Safe.new (Z := Z) (EL := consts_1) (vm := s.vm) (Nat.le_of_eq g33.symm)
    have K33 := keepE E33
    have M33 := M31.ext E33
    replace hk := Nat.le_trans hk (K33).1
    have hs34 := CHr.keep (K33) sf0 RH.1
    replace Sf_b5 := Safe.keep (K33) sf0 RH.1 Sf_b5
    replace Sf_b7 := Safe.keep (K33) sf0 RH.1 Sf_b7
    replace Sf_b9 := Safe.keep (K33) sf0 RH.1 Sf_b9
    replace Sf_b11 := Safe.keep (K33) sf0 RH.1 Sf_b11
    replace Sf_b33 := Safe.keep (K33) sf0 RH.1 Sf_b33
    replace RH := RH.trans hs34
    replace Z_cs := StaKeep Z_cs K33 all0
    replace Z_fm := StaKeep Z_fm K33 all0
    replace V_b5 := V_b5.keep K33 nin0
    replace V_b7 := V_b7.keep K33 nin0
    replace V_b9 := V_b9.keep K33 nin0
    replace V_b11 := V_b11.keep K33 nin0
    have E_b33 := A33
    have F_coder_b33 : Fld Z h33 b33 "java/lang/String" "coder" "B" (.int (0 : Int32)) := D33 (Or.inr (hw _ (List.mem_of_getElem? (i := 35) rfl))) (ty := .byte) (by decide)
    have F_value_b33 : Fld Z h33 b33 "java/lang/String" "value" "[B" .null := D33 (Or.inr (hw _ (List.mem_of_getElem? (i := 37) rfl))) (ty := (.array .byte)) (by decide)
    refine Go.of (T' := T33) (f' := (mkF m 155 #[.val (.int p1), .val (.int p2), .val (.int p3), .val (.int p4), .val (.int p5), .val (.int c1), .val (.int c2), .val (.int c3), .val (.int c4), .val (.ref b5), .val (.ref b7), .val (.ref b9), .val (.ref b11), .val (.int (p1 &&& (3 : Int32))), .val (.ref b5), .unset, .unset, .unset, .unset] [(.ref b33)])) st33 ?_
    refine Go.of (T' := T33) (f' := (mkF m 156 #[.val (.int p1), .val (.int p2), .val (.int p3), .val (.int p4), .val (.int p5), .val (.int c1), .val (.int c2), .val (.int c3), .val (.int c4), .val (.ref b5), .val (.ref b7), .val (.ref b9), .val (.ref b11), .val (.int (p1 &&& (3 : Int32))), .val (.ref b5), .unset, .unset, .unset, .unset] [(.ref b33), (.ref b33)])) (fun _ k => XS.dup X33.here hx rfl (hb hby at_155) rfl rfl k) ?_
    refine Go.of (T' := T33) (f' := (mkF m 158 #[.val (.int p1), .val (.int p2), .val (.int p3), .val (.int p4), .val (.int p5), .val (.int c1), .val (.int c2), .val (.int c3), .val (.int c4), .val (.ref b5), .val (.ref b7), .val (.ref b9), .val (.ref b11), .val (.int (p1 &&& (3 : Int32))), .val (.ref b5), .unset, .unset, .unset, .unset] [(.ref b5), (.ref b33), (.ref b33)])) (fun _ k => XS.aload X33.here hx rfl (hb hby at_156) rfl rfl k) ?_
    refine goI X33 hx hZ rfl hown (hw _ (List.mem_of_getElem? (i := 12) rfl)) (hw _ (List.mem_of_getElem? (i := 13) rfl)) (hw _ (List.mem_of_getElem? (i := 14) rfl)) (by decide) (C := 1) (S := 1) (newStr (W := 1) hZ (hw_words hw) (hw _ (List.mem_of_getElem? (i := 10) rfl)) (cs := [c1]) E_b33 F_value_b33 F_coder_b33 V_b5 rfl Z_cs hz (n := 1) rfl rfl (by decide) (by decide) (by intro c hc; simp only [List.mem_cons, List.not_mem_nil, or_false] at hc; rcases hc with rfl <;> first | exact rst_lat hR_c1) (by decide) (by decide)) e33 (argsL := [(.ref b5)]) (rest := [(.ref b33)]) (by rw [hml]; rfl) (lenOf pd___C_V rfl) rfl rfl (hb hby at_158) (Nat.le_of_eq rfl) (by decide) (by decide) ?_
    intro v35 T35 L35 X35 hQ35
    obtain ⟨h35, e35⟩ : ∃ z, T35.heap = z := ⟨_, rfl⟩
    rw [e35] at hQ35
    have E_b33_o := E_b33
    obtain ⟨rfl, Mc35, t35, le35, S35⟩ := hQ35
    have ne_b5_t35 : b5 ≠ t35 := Nat.ne_of_lt (Nat.lt_of_lt_of_le V_b5.lt le35)
    have ne_b7_t35 : b7 ≠ t35 := Nat.ne_of_lt (Nat.lt_of_lt_of_le V_b7.lt le35)
    have ne_b9_t35 : b9 ≠ t35 := Nat.ne_of_lt (Nat.lt_of_lt_of_le V_b9.lt le35)
    have ne_b11_t35 : b11 ≠ t35 := Nat.ne_of_lt (Nat.lt_of_lt_of_le V_b11.lt le35)
    have ne_b33_t35 : b33 ≠ t35 := Nat.ne_of_lt (Nat.lt_of_lt_of_le E_b33.lt le35)
    have fr_t35 : h0.size ≤ t35 := Nat.le_trans M33.le le35
    have Sf_t35 := Safe.new (Z := Z) (EL := consts_1) (vm := s.vm) le35
    have M35 := M33.app Mc35 (allS (Or.inr fr_b33) all0)
    replace hk := Nat.le_trans hk (Mc35.1).1
    have hq36 : ∀ x ∈ ([b33] : List Addr), Safe Z consts_1 s.vm h33 x := (sfS Sf_b33 sf0)
    have hs36 := CHr.keep (Mc35.1) hq36 RH.1
    replace Sf_b5 := Safe.keep (Mc35.1) hq36 RH.1 Sf_b5
    replace Sf_b7 := Safe.keep (Mc35.1) hq36 RH.1 Sf_b7
    replace Sf_b9 := Safe.keep (Mc35.1) hq36 RH.1 Sf_b9
    replace Sf_b11 := Safe.keep (Mc35.1) hq36 RH.1 Sf_b11
    replace Sf_b33 := Safe.keep (Mc35.1) hq36 RH.1 Sf_b33
    replace Sf_t35 := Safe.keep (Mc35.1) hq36 RH.1 Sf_t35
    replace RH := RH.trans hs36
    replace Z_cs := StaKeep Z_cs Mc35.1 (allS (staExa E_b33_o) all0)
    replace Z_fm := StaKeep Z_fm Mc35.1 (allS (staExa E_b33_o) all0)
    replace V_b5 := V_b5.keep Mc35.1 (ninS ne_b5_b33 nin0)
    replace V_b7 := V_b7.keep Mc35.1 (ninS ne_b7_b33 nin0)
    replace V_b9 := V_b9.keep Mc35.1 (ninS ne_b9_b33 nin0)
    replace V_b11 := V_b11.keep Mc35.1 (ninS ne_b11_b33 nin0)
    replace E_b33 := E_b33.keep Mc35.1
    have S_b33 := S35
    show Go p e below P T35 (mkF m 161 #[.val (.int p1), .val (.int p2), .val (.int p3), .val (.int p4), .val (.int p5), .val (.int c1), .val (.int c2), .val (.int c3), .val (.int c4), .val (.ref b5), .val (.ref b7), .val (.ref b9), .val (.ref b11), .val (.int (p1 &&& (3 : Int32))), .val (.ref b5), .unset, .unset, .unset, .unset] [(.ref b33)])
    refine Go.of (T' := T35) (f' := (mkF m 163 #[.val (.int p1), .val (.int p2), .val (.int p3), .val (.int p4), .val (.int p5), .val (.int c1), .val (.int c2), .val (.int c3), .val (.int c4), .val (.ref b5), .val (.ref b7), .val (.ref b9), .val (.ref b11), .val (.int (p1 &&& (3 : Int32))), .val (.ref b5), .val (.ref b33), .unset, .unset, .unset] [])) (fun _ k => XS.astore X35.here hx rfl (hb hby at_161) rfl rfl (l' := #[.val (.int p1), .val (.int p2), .val (.int p3), .val (.int p4), .val (.int p5), .val (.int c1), .val (.int c2), .val (.int c3), .val (.int c4), .val (.ref b5), .val (.ref b7), .val (.ref b9), .val (.ref b11), .val (.int (p1 &&& (3 : Int32))), .val (.ref b5), .val (.ref b33), .unset, .unset, .unset]) rfl k) ?_
    have hNm : Name [c1] := nameOf hc1_ (by intro d hd; simp only [List.mem_cons, List.not_mem_nil, or_false] at hd) (by simp)
    obtain ⟨sa37, T37, h37, k37, sb37, kb37, X37, e37, E37, hS37, hk37, hZ37, hown37, E_sa37, F_cd37, F_vl37, V_sb37, -, -, A37, -, hne37, st37⟩ := ldcCH X35 hx hZ hown (hw _ (List.mem_of_getElem? (i := 38) rfl)) (hw_sA hw) e35 hS hk (hEL_1 hw) (by decide) RH.1 (vs := [.int (97 : Int32), .int (98 : Int32), .int (99 : Int32), .int (100 : Int32), .int (101 : Int32), .int (102 : Int32), .int (103 : Int32), .int (104 : Int32), .int (105 : Int32), .int (106 : Int32), .int (107 : Int32), .int (108 : Int32), .int (109 : Int32), .int (110 : Int32), .int (111 : Int32), .int (112 : Int32), .int (113 : Int32), .int (114 : Int32), .int (115 : Int32), .int (116 : Int32), .int (117 : Int32), .int (118 : Int32), .int (119 : Int32), .int (120 : Int32), .int (121 : Int32), .int (122 : Int32), .int (48 : Int32), .int (49 : Int32), .int (50 : Int32), .int (51 : Int32), .int (52 : Int32), .int (53 : Int32), .int (54 : Int32), .int (55 : Int32), .int (56 : Int32), .int (57 : Int32), .int (95 : Int32), .int (97 : Int32), .int (98 : Int32), .int (99 : Int32), .int (100 : Int32), .int (101 : Int32), .int (102 : Int32), .int (103 : Int32), .int (104 : Int32), .int (105 : Int32), .int (106 : Int32), .int (107 : Int32), .int (108 : Int32), .int (109 : Int32), .int (110 : Int32), .int (111 : Int32), .int (112 : Int32), .int (113 : Int32), .int (114 : Int32), .int (115 : Int32), .int (116 : Int32), .int (117 : Int32), .int (118 : Int32), .int (119 : Int32), .int (120 : Int32), .int (121 : Int32), .int (122 : Int32), .int (57 : Int32)]) (z := (64 : Int32)) ⟨by decide, by decide⟩ (by decide) (by decide) (g := (mkF m 163 #[.val (.int p1), .val (.int p2), .val (.int p3), .val (.int p4), .val (.int p5), .val (.int c1), .val (.int c2), .val (.int c3), .val (.int c4), .val (.ref b5), .val (.ref b7), .val (.ref b9), .val (.ref b11), .val (.int (p1 &&& (3 : Int32))), .val (.ref b5), .val (.ref b33), .unset, .unset, .unset] [])) rfl (hb hby at_163) (n := 256) (by decide) (by decide) (by decide) (by decide)
    have K37 := keepE E37
    have M37 := M35.ext E37
    clear hS hk
    replace Sf_b5 := CHr.safe A37 V_b5.lt Sf_b5
    replace Sf_b7 := CHr.safe A37 V_b7.lt Sf_b7
    replace Sf_b9 := CHr.safe A37 V_b9.lt Sf_b9
    replace Sf_b11 := CHr.safe A37 V_b11.lt Sf_b11
    replace Sf_b33 := CHr.safe A37 S_b33.lt1 Sf_b33
    replace Sf_t35 := CHr.safe A37 S_b33.lt2 Sf_t35
    replace RH := RH.trans A37
    replace Z_cs := StaKeep Z_cs K37 all0
    replace Z_fm := StaKeep Z_fm K37 all0
    replace V_b5 := V_b5.keep K37 nin0
    replace V_b7 := V_b7.keep K37 nin0
    replace V_b9 := V_b9.keep K37 nin0
    replace V_b11 := V_b11.keep K37 nin0
    replace S_b33 := S_b33.keep K37 nin0 nin0
    have hS := hS37
    have hk := hk37
    replace hZ := hZ37
    replace hown := hown37
    have ne_b5_sa37 := (hne37 _ Sf_b5).1
    have ne_b5_sb37 := (hne37 _ Sf_b5).2
    have ne_b7_sa37 := (hne37 _ Sf_b7).1
    have ne_b7_sb37 := (hne37 _ Sf_b7).2
    have ne_b9_sa37 := (hne37 _ Sf_b9).1
    have ne_b9_sb37 := (hne37 _ Sf_b9).2
    have ne_b11_sa37 := (hne37 _ Sf_b11).1
    have ne_b11_sb37 := (hne37 _ Sf_b11).2
    have ne_b33_sa37 := (hne37 _ Sf_b33).1
    have ne_b33_sb37 := (hne37 _ Sf_b33).2
    have ne_t35_sa37 := (hne37 _ Sf_t35).1
    have ne_t35_sb37 := (hne37 _ Sf_t35).2
    refine Go.of (T' := T37) (f' := (mkF m 165 #[.val (.int p1), .val (.int p2), .val (.int p3), .val (.int p4), .val (.int p5), .val (.int c1), .val (.int c2), .val (.int c3), .val (.int c4), .val (.ref b5), .val (.ref b7), .val (.ref b9), .val (.ref b11), .val (.int (p1 &&& (3 : Int32))), .val (.ref b5), .val (.ref b33), .unset, .unset, .unset] [(.ref sa37)])) st37 ?_
    have S_lit := strLit E_sa37 F_vl37 F_cd37 V_sb37
    refine Go.of (T' := T37) (f' := (mkF m 167 #[.val (.int p1), .val (.int p2), .val (.int p3), .val (.int p4), .val (.int p5), .val (.int c1), .val (.int c2), .val (.int c3), .val (.int c4), .val (.ref b5), .val (.ref b7), .val (.ref b9), .val (.ref b11), .val (.int (p1 &&& (3 : Int32))), .val (.ref b5), .val (.ref b33), .val (.ref sa37), .unset, .unset] [])) (fun _ k => XS.astore X37.here hx rfl (hb hby at_165) rfl rfl (l' := #[.val (.int p1), .val (.int p2), .val (.int p3), .val (.int p4), .val (.int p5), .val (.int c1), .val (.int c2), .val (.int c3), .val (.int c4), .val (.ref b5), .val (.ref b7), .val (.ref b9), .val (.ref b11), .val (.int (p1 &&& (3 : Int32))), .val (.ref b5), .val (.ref b33), .val (.ref sa37), .unset, .unset]) rfl k) ?_
    refine Go.of (T' := T37) (f' := (mkF m 169 #[.val (.int p1), .val (.int p2), .val (.int p3), .val (.int p4), .val (.int p5), .val (.int c1), .val (.int c2), .val (.int c3), .val (.int c4), .val (.ref b5), .val (.ref b7), .val (.ref b9), .val (.ref b11), .val (.int (p1 &&& (3 : Int32))), .val (.ref b5), .val (.ref b33), .val (.ref sa37), .unset, .unset] [(.ref b33)])) (fun _ k => XS.aload X37.here hx rfl (hb hby at_167) rfl rfl k) ?_
    refine goS X37 hx hZ hown (hw _ (List.mem_of_getElem? (i := 41) rfl)) (hw _ (List.mem_of_getElem? (i := 42) rfl)) (hw _ (List.mem_of_getElem? (i := 43) rfl)) (hw _ (List.mem_of_getElem? (i := 44) rfl)) (by decide) (C := 0) (S := 0) ((rm_require l Z a0 hw b33 t35 [c1] zc fm h37 S_b33 (nameLat hNm) hNm Z_cs hz Z_fm hfm).bk (W := 0) hZ (hw _ (List.mem_of_getElem? (i := 44) rfl)) (hw _ (List.mem_of_getElem? (i := 43) rfl)) (by decide) (by decide)) e37 (argsL := [(.ref b33)]) (rest := []) (by rw [hml]; rfl) (lenOf pd__Ljava_lang_String__Ljava_lang_String_ rfl) rfl rfl (hb hby at_169) (Nat.le_of_eq rfl) (by decide) (by decide) ?_
    intro v38 T38 L38 X38 hQ38
    obtain ⟨nq38, e38, rfl⟩ := hQ38
    replace X38 := standNil X38 nq38
    show Go p e below P T38 (mkF m 172 #[.val (.int p1), .val (.int p2), .val (.int p3), .val (.int p4), .val (.int p5), .val (.int c1), .val (.int c2), .val (.int c3), .val (.int c4), .val (.ref b5), .val (.ref b7), .val (.ref b9), .val (.ref b11), .val (.int (p1 &&& (3 : Int32))), .val (.ref b5), .val (.ref b33), .val (.ref sa37), .unset, .unset] [(.ref b33)])
    refine Go.of (T' := T38) (f' := (mkF m 174 #[.val (.int p1), .val (.int p2), .val (.int p3), .val (.int p4), .val (.int p5), .val (.int c1), .val (.int c2), .val (.int c3), .val (.int c4), .val (.ref b5), .val (.ref b7), .val (.ref b9), .val (.ref b11), .val (.int (p1 &&& (3 : Int32))), .val (.ref b5), .val (.ref b33), .val (.ref sa37), .val (.ref b33), .unset] [])) (fun _ k => XS.astore X38.here hx rfl (hb hby at_172) rfl rfl (l' := #[.val (.int p1), .val (.int p2), .val (.int p3), .val (.int p4), .val (.int p5), .val (.int c1), .val (.int c2), .val (.int c3), .val (.int c4), .val (.ref b5), .val (.ref b7), .val (.ref b9), .val (.ref b11), .val (.int (p1 &&& (3 : Int32))), .val (.ref b5), .val (.ref b33), .val (.ref sa37), .val (.ref b33), .unset]) rfl k) ?_
    refine Go.of (T' := T38) (f' := (mkF m 176 #[.val (.int p1), .val (.int p2), .val (.int p3), .val (.int p4), .val (.int p5), .val (.int c1), .val (.int c2), .val (.int c3), .val (.int c4), .val (.ref b5), .val (.ref b7), .val (.ref b9), .val (.ref b11), .val (.int (p1 &&& (3 : Int32))), .val (.ref b5), .val (.ref b33), .val (.ref sa37), .val (.ref b33), .unset] [(.ref sa37)])) (fun _ k => XS.aload X38.here hx rfl (hb hby at_174) rfl rfl k) ?_
    refine goS X38 hx hZ hown (hw _ (List.mem_of_getElem? (i := 41) rfl)) (hw _ (List.mem_of_getElem? (i := 42) rfl)) (hw _ (List.mem_of_getElem? (i := 43) rfl)) (hw _ (List.mem_of_getElem? (i := 44) rfl)) (by decide) (C := 0) (S := 0) ((rm_require l Z a0 hw sa37 sb37 litCs zc fm h37 S_lit (nameLat litName) litName Z_cs hz Z_fm hfm).bk (W := 0) hZ (hw _ (List.mem_of_getElem? (i := 44) rfl)) (hw _ (List.mem_of_getElem? (i := 43) rfl)) (by decide) (by decide)) e38 (argsL := [(.ref sa37)]) (rest := []) (by rw [hml]; rfl) (lenOf pd__Ljava_lang_String__Ljava_lang_String_ rfl) rfl rfl (hb hby at_176) (Nat.le_of_eq rfl) (by decide) (by decide) ?_
    intro v39 T39 L39 X39 hQ39
    obtain ⟨nq39, e39, rfl⟩ := hQ39
    replace X39 := standNil X39 nq39
    show Go p e below P T39 (mkF m 179 #[.val (.int p1), .val (.int p2), .val (.int p3), .val (.int p4), .val (.int p5), .val (.int c1), .val (.int c2), .val (.int c3), .val (.int c4), .val (.ref b5), .val (.ref b7), .val (.ref b9), .val (.ref b11), .val (.int (p1 &&& (3 : Int32))), .val (.ref b5), .val (.ref b33), .val (.ref sa37), .val (.ref b33), .unset] [(.ref sa37)])
    refine Go.of (T' := T39) (f' := (mkF m 181 #[.val (.int p1), .val (.int p2), .val (.int p3), .val (.int p4), .val (.int p5), .val (.int c1), .val (.int c2), .val (.int c3), .val (.int c4), .val (.ref b5), .val (.ref b7), .val (.ref b9), .val (.ref b11), .val (.int (p1 &&& (3 : Int32))), .val (.ref b5), .val (.ref b33), .val (.ref sa37), .val (.ref b33), .val (.ref sa37)] [])) (fun _ k => XS.astore X39.here hx rfl (hb hby at_179) rfl rfl (l' := #[.val (.int p1), .val (.int p2), .val (.int p3), .val (.int p4), .val (.int p5), .val (.int c1), .val (.int c2), .val (.int c3), .val (.int c4), .val (.ref b5), .val (.ref b7), .val (.ref b9), .val (.ref b11), .val (.int (p1 &&& (3 : Int32))), .val (.ref b5), .val (.ref b33), .val (.ref sa37), .val (.ref b33), .val (.ref sa37)]) rfl k) ?_
    refine Go.of (T' := T39) (f' := (mkF m 183 #[.val (.int p1), .val (.int p2), .val (.int p3), .val (.int p4), .val (.int p5), .val (.int c1), .val (.int c2), .val (.int c3), .val (.int c4), .val (.ref b5), .val (.ref b7), .val (.ref b9), .val (.ref b11), .val (.int (p1 &&& (3 : Int32))), .val (.ref b5), .val (.ref b33), .val (.ref sa37), .val (.ref b33), .val (.ref sa37)] [(.ref b33)])) (fun _ k => XS.aload X39.here hx rfl (hb hby at_181) rfl rfl k) ?_
    refine Go.of (T' := T39) (f' := (mkF m 185 #[.val (.int p1), .val (.int p2), .val (.int p3), .val (.int p4), .val (.int p5), .val (.int c1), .val (.int c2), .val (.int c3), .val (.int c4), .val (.ref b5), .val (.ref b7), .val (.ref b9), .val (.ref b11), .val (.int (p1 &&& (3 : Int32))), .val (.ref b5), .val (.ref b33), .val (.ref sa37), .val (.ref b33), .val (.ref sa37)] [(.ref b33), (.ref b33)])) (fun _ k => XS.aload X39.here hx rfl (hb hby at_183) rfl rfl k) ?_
    refine Go.of (T' := T39) (f' := (mkF m 188 #[.val (.int p1), .val (.int p2), .val (.int p3), .val (.int p4), .val (.int p5), .val (.int c1), .val (.int c2), .val (.int c3), .val (.int c4), .val (.ref b5), .val (.ref b7), .val (.ref b9), .val (.ref b11), .val (.int (p1 &&& (3 : Int32))), .val (.ref b5), .val (.ref b33), .val (.ref sa37), .val (.ref b33), .val (.ref sa37)] [])) (fun _ k => Jvm.RoadKit.acmp (g := (mkF m 185 #[.val (.int p1), .val (.int p2), .val (.int p3), .val (.int p4), .val (.int p5), .val (.int c1), .val (.int c2), .val (.int c3), .val (.int c4), .val (.ref b5), .val (.ref b7), .val (.ref b9), .val (.ref b11), .val (.int (p1 &&& (3 : Int32))), .val (.ref b5), .val (.ref b33), .val (.ref sa37), .val (.ref b33), .val (.ref sa37)] [(.ref b33), (.ref b33)])) X39 hx rfl rfl rfl (pc0 := 185) (pc' := 188) (same := true) rfl (hb hby at_185) rfl (decide_eq_true rfl) (by decide) (by decide) k) ?_
    refine Go.of (T' := T39) (f' := (mkF m 190 #[.val (.int p1), .val (.int p2), .val (.int p3), .val (.int p4), .val (.int p5), .val (.int c1), .val (.int c2), .val (.int c3), .val (.int c4), .val (.ref b5), .val (.ref b7), .val (.ref b9), .val (.ref b11), .val (.int (p1 &&& (3 : Int32))), .val (.ref b5), .val (.ref b33), .val (.ref sa37), .val (.ref b33), .val (.ref sa37)] [(.ref sa37)])) (fun _ k => XS.aload X39.here hx rfl (hb hby at_188) rfl rfl k) ?_
    refine Go.of (T' := T39) (f' := (mkF m 192 #[.val (.int p1), .val (.int p2), .val (.int p3), .val (.int p4), .val (.int p5), .val (.int c1), .val (.int c2), .val (.int c3), .val (.int c4), .val (.ref b5), .val (.ref b7), .val (.ref b9), .val (.ref b11), .val (.int (p1 &&& (3 : Int32))), .val (.ref b5), .val (.ref b33), .val (.ref sa37), .val (.ref b33), .val (.ref sa37)] [(.ref sa37), (.ref sa37)])) (fun _ k => XS.aload X39.here hx rfl (hb hby at_190) rfl rfl k) ?_
    refine Go.of (T' := T39) (f' := (mkF m 195 #[.val (.int p1), .val (.int p2), .val (.int p3), .val (.int p4), .val (.int p5), .val (.int c1), .val (.int c2), .val (.int c3), .val (.int c4), .val (.ref b5), .val (.ref b7), .val (.ref b9), .val (.ref b11), .val (.int (p1 &&& (3 : Int32))), .val (.ref b5), .val (.ref b33), .val (.ref sa37), .val (.ref b33), .val (.ref sa37)] [])) (fun _ k => Jvm.RoadKit.acmp (g := (mkF m 192 #[.val (.int p1), .val (.int p2), .val (.int p3), .val (.int p4), .val (.int p5), .val (.int c1), .val (.int c2), .val (.int c3), .val (.int c4), .val (.ref b5), .val (.ref b7), .val (.ref b9), .val (.ref b11), .val (.int (p1 &&& (3 : Int32))), .val (.ref b5), .val (.ref b33), .val (.ref sa37), .val (.ref b33), .val (.ref sa37)] [(.ref sa37), (.ref sa37)])) X39 hx rfl rfl rfl (pc0 := 192) (pc' := 195) (same := true) rfl (hb hby at_192) rfl (decide_eq_true rfl) (by decide) (by decide) k) ?_
    refine Go.of (T' := T39) (f' := (mkF m 197 #[.val (.int p1), .val (.int p2), .val (.int p3), .val (.int p4), .val (.int p5), .val (.int c1), .val (.int c2), .val (.int c3), .val (.int c4), .val (.ref b5), .val (.ref b7), .val (.ref b9), .val (.ref b11), .val (.int (p1 &&& (3 : Int32))), .val (.ref b5), .val (.ref b33), .val (.ref sa37), .val (.ref b33), .val (.ref sa37)] [(.ref sa37)])) (fun _ k => XS.aload X39.here hx rfl (hb hby at_195) rfl rfl k) ?_
    refine goV X39 hx hZ (y := (⟨"java/lang/String", "length", "()I"⟩ : MethodName)) (z := (⟨"java/lang/String", "length", "()I"⟩ : MethodName)) hown (hw _ (List.mem_of_getElem? (i := 85) rfl)) (hw _ (List.mem_of_getElem? (i := 51) rfl)) (notFace_of_selects (args := #[]) (mvT hZ (hw _ (List.mem_of_getElem? (i := 53) rfl)))) (hw _ (List.mem_of_getElem? (i := 53) rfl)) (hw _ (List.mem_of_getElem? (i := 52) rfl)) (by decide) (C := 0) (S := 0) (lenStr (W := 0) hZ (hw_wordsLen hw) (hw _ (List.mem_of_getElem? (i := 10) rfl)) S_lit Z_cs hz (by decide) (by decide)) e39 S_lit.exa (argsL := []) (rest := []) (by rw [hml]; rfl) (lenOf pd___I rfl) rfl rfl (hb hby at_197) (Nat.le_of_eq rfl) (by decide) (by decide) ?_
    intro v40 T40 L40 X40 hQ40
    obtain ⟨nq40, e40, rfl⟩ := hQ40
    replace X40 := standNil X40 nq40
    show Go p e below P T40 (mkF m 200 #[.val (.int p1), .val (.int p2), .val (.int p3), .val (.int p4), .val (.int p5), .val (.int c1), .val (.int c2), .val (.int c3), .val (.int c4), .val (.ref b5), .val (.ref b7), .val (.ref b9), .val (.ref b11), .val (.int (p1 &&& (3 : Int32))), .val (.ref b5), .val (.ref b33), .val (.ref sa37), .val (.ref b33), .val (.ref sa37)] [(.int (Int32.ofNat litCs.length))])
    refine Go.of (T' := T40) (f' := (mkF m 202 #[.val (.int p1), .val (.int p2), .val (.int p3), .val (.int p4), .val (.int p5), .val (.int c1), .val (.int c2), .val (.int c3), .val (.int c4), .val (.ref b5), .val (.ref b7), .val (.ref b9), .val (.ref b11), .val (.int (p1 &&& (3 : Int32))), .val (.ref b5), .val (.ref b33), .val (.ref sa37), .val (.ref b33), .val (.ref sa37)] [(.int (64 : Int32)), (.int (Int32.ofNat litCs.length))])) (fun _ k => XS.bipush X40.here hx rfl (hb hby at_200) k) ?_
    have hc202 : (Int32.ofNat litCs.length) = (64 : Int32) := by decide
    refine Go.of (T' := T40) (f' := (mkF m 205 #[.val (.int p1), .val (.int p2), .val (.int p3), .val (.int p4), .val (.int p5), .val (.int c1), .val (.int c2), .val (.int c3), .val (.int c4), .val (.ref b5), .val (.ref b7), .val (.ref b9), .val (.ref b11), .val (.int (p1 &&& (3 : Int32))), .val (.ref b5), .val (.ref b33), .val (.ref sa37), .val (.ref b33), .val (.ref sa37)] [])) (fun _ k => XS.icmpNo X40.here hx rfl (hb hby at_202) rfl (teq hc202).2 k) ?_
    refine Go.of (T' := T40) (f' := (mkF m 206 #[.val (.int p1), .val (.int p2), .val (.int p3), .val (.int p4), .val (.int p5), .val (.int c1), .val (.int c2), .val (.int c3), .val (.int c4), .val (.ref b5), .val (.ref b7), .val (.ref b9), .val (.ref b11), .val (.int (p1 &&& (3 : Int32))), .val (.ref b5), .val (.ref b33), .val (.ref sa37), .val (.ref b33), .val (.ref sa37)] [(.int (1 : Int32))])) (fun _ k => XS.iconst X40.here hx rfl (hb hby at_205) k) ?_
    refine Go.of (T' := T40) (f' := (mkF m 210 #[.val (.int p1), .val (.int p2), .val (.int p3), .val (.int p4), .val (.int p5), .val (.int c1), .val (.int c2), .val (.int c3), .val (.int c4), .val (.ref b5), .val (.ref b7), .val (.ref b9), .val (.ref b11), .val (.int (p1 &&& (3 : Int32))), .val (.ref b5), .val (.ref b33), .val (.ref sa37), .val (.ref b33), .val (.ref sa37)] [(.int (1 : Int32))])) (fun _ k => XS.goto X40.here hx rfl (pc0 := 206) (pc' := 210) rfl (hb hby at_206) (by decide) (by decide) k) ?_
    exact goRetIH (Q := fun v h L => v = some (.int 1) ∧ Mv h0 h [] L) X40 hx hZ hS hk (hEL_1 hw) RH (t := .boolean) hret hlk rfl (by simp) (hb hby at_210) K (by decide) (by decide) e40 (⟨rfl, M37⟩)
  ·
    refine Go.of (T' := T31) (f' := (mkF m 122 #[.val (.int p1), .val (.int p2), .val (.int p3), .val (.int p4), .val (.int p5), .val (.int c1), .val (.int c2), .val (.int c3), .val (.int c4), .val (.ref b5), .val (.ref b7), .val (.ref b9), .val (.ref b11), .val (.int (p1 &&& (3 : Int32))), .unset, .unset, .unset, .unset, .unset] [])) (fun _ k => XS.ifYes X31.here hx rfl (pc0 := 112) (pc' := 122) rfl (hb hby at_112) rfl ((if0 _ _).trans (feq hc112).2) (by decide) (by decide) k) ?_
    refine Go.of (T' := T31) (f' := (mkF m 124 #[.val (.int p1), .val (.int p2), .val (.int p3), .val (.int p4), .val (.int p5), .val (.int c1), .val (.int c2), .val (.int c3), .val (.int c4), .val (.ref b5), .val (.ref b7), .val (.ref b9), .val (.ref b11), .val (.int (p1 &&& (3 : Int32))), .unset, .unset, .unset, .unset, .unset] [(.int (p1 &&& (3 : Int32)))])) (fun _ k => XS.iload X31.here hx rfl (hb hby at_122) rfl k) ?_
    refine Go.of (T' := T31) (f' := (mkF m 125 #[.val (.int p1), .val (.int p2), .val (.int p3), .val (.int p4), .val (.int p5), .val (.int c1), .val (.int c2), .val (.int c3), .val (.int c4), .val (.ref b5), .val (.ref b7), .val (.ref b9), .val (.ref b11), .val (.int (p1 &&& (3 : Int32))), .unset, .unset, .unset, .unset, .unset] [(.int (1 : Int32)), (.int (p1 &&& (3 : Int32)))])) (fun _ k => XS.iconst X31.here hx rfl (hb hby at_124) k) ?_
    by_cases hc125 : (p1 &&& (3 : Int32)) = (1 : Int32)
    ·
      refine Go.of (T' := T31) (f' := (mkF m 128 #[.val (.int p1), .val (.int p2), .val (.int p3), .val (.int p4), .val (.int p5), .val (.int c1), .val (.int c2), .val (.int c3), .val (.int c4), .val (.ref b5), .val (.ref b7), .val (.ref b9), .val (.ref b11), .val (.int (p1 &&& (3 : Int32))), .unset, .unset, .unset, .unset, .unset] [])) (fun _ k => XS.icmpNo X31.here hx rfl (hb hby at_125) rfl (teq hc125).2 k) ?_
      refine Go.of (T' := T31) (f' := (mkF m 130 #[.val (.int p1), .val (.int p2), .val (.int p3), .val (.int p4), .val (.int p5), .val (.int c1), .val (.int c2), .val (.int c3), .val (.int c4), .val (.ref b5), .val (.ref b7), .val (.ref b9), .val (.ref b11), .val (.int (p1 &&& (3 : Int32))), .unset, .unset, .unset, .unset, .unset] [(.ref b7)])) (fun _ k => XS.aload X31.here hx rfl (hb hby at_128) rfl rfl k) ?_
      refine Go.of (T' := T31) (f' := (mkF m 132 #[.val (.int p1), .val (.int p2), .val (.int p3), .val (.int p4), .val (.int p5), .val (.int c1), .val (.int c2), .val (.int c3), .val (.int c4), .val (.ref b5), .val (.ref b7), .val (.ref b9), .val (.ref b11), .val (.int (p1 &&& (3 : Int32))), .val (.ref b7), .unset, .unset, .unset, .unset] [])) (fun _ k => XS.astore X31.here hx rfl (hb hby at_130) rfl rfl (l' := #[.val (.int p1), .val (.int p2), .val (.int p3), .val (.int p4), .val (.int p5), .val (.int c1), .val (.int c2), .val (.int c3), .val (.int c4), .val (.ref b5), .val (.ref b7), .val (.ref b9), .val (.ref b11), .val (.int (p1 &&& (3 : Int32))), .val (.ref b7), .unset, .unset, .unset, .unset]) rfl k) ?_
      refine Go.of (T' := T31) (f' := (mkF m 152 #[.val (.int p1), .val (.int p2), .val (.int p3), .val (.int p4), .val (.int p5), .val (.int c1), .val (.int c2), .val (.int c3), .val (.int c4), .val (.ref b5), .val (.ref b7), .val (.ref b9), .val (.ref b11), .val (.int (p1 &&& (3 : Int32))), .val (.ref b7), .unset, .unset, .unset, .unset] [])) (fun _ k => XS.goto X31.here hx rfl (pc0 := 132) (pc' := 152) rfl (hb hby at_132) (by decide) (by decide) k) ?_
      obtain ⟨T41, h41, X41, e41, E41, A41, D41, -, st41⟩ := newO X31 hx hZ hown (hw _ (List.mem_of_getElem? (i := 9) rfl)) (hw _ (List.mem_of_getElem? (i := 10) rfl)) (hw _ (List.mem_of_getElem? (i := 11) rfl)) e31 (g := (mkF m 152 #[.val (.int p1), .val (.int p2), .val (.int p3), .val (.int p4), .val (.int p5), .val (.int c1), .val (.int c2), .val (.int c3), .val (.int c4), .val (.ref b5), .val (.ref b7), .val (.ref b9), .val (.ref b11), .val (.int (p1 &&& (3 : Int32))), .val (.ref b7), .unset, .unset, .unset, .unset] [])) rfl (hb hby at_152) (by decide) (by decide)
      obtain ⟨b41, g41⟩ : ∃ z, z = h31.size := ⟨_, rfl⟩
      rw [← g41] at A41 D41 st41
      have ne_b5_b41 : b5 ≠ b41 := Nat.ne_of_lt (Nat.lt_of_lt_of_le V_b5.lt (Nat.le_of_eq g41.symm))
      have ne_b7_b41 : b7 ≠ b41 := Nat.ne_of_lt (Nat.lt_of_lt_of_le V_b7.lt (Nat.le_of_eq g41.symm))
      have ne_b9_b41 : b9 ≠ b41 := Nat.ne_of_lt (Nat.lt_of_lt_of_le V_b9.lt (Nat.le_of_eq g41.symm))
      have ne_b11_b41 : b11 ≠ b41 := Nat.ne_of_lt (Nat.lt_of_lt_of_le V_b11.lt (Nat.le_of_eq g41.symm))
      have fr_b41 : h0.size ≤ b41 := Nat.le_trans M31.le (Nat.le_of_eq g41.symm)
      have Sf_b41 := Safe.new (Z := Z) (EL := consts_1) (vm := s.vm) (Nat.le_of_eq g41.symm)
      have K41 := keepE E41
      have M41 := M31.ext E41
      replace hk := Nat.le_trans hk (K41).1
      have hs42 := CHr.keep (K41) sf0 RH.1
      replace Sf_b5 := Safe.keep (K41) sf0 RH.1 Sf_b5
      replace Sf_b7 := Safe.keep (K41) sf0 RH.1 Sf_b7
      replace Sf_b9 := Safe.keep (K41) sf0 RH.1 Sf_b9
      replace Sf_b11 := Safe.keep (K41) sf0 RH.1 Sf_b11
      replace Sf_b41 := Safe.keep (K41) sf0 RH.1 Sf_b41
      replace RH := RH.trans hs42
      replace Z_cs := StaKeep Z_cs K41 all0
      replace Z_fm := StaKeep Z_fm K41 all0
      replace V_b5 := V_b5.keep K41 nin0
      replace V_b7 := V_b7.keep K41 nin0
      replace V_b9 := V_b9.keep K41 nin0
      replace V_b11 := V_b11.keep K41 nin0
      have E_b41 := A41
      have F_coder_b41 : Fld Z h41 b41 "java/lang/String" "coder" "B" (.int (0 : Int32)) := D41 (Or.inr (hw _ (List.mem_of_getElem? (i := 35) rfl))) (ty := .byte) (by decide)
      have F_value_b41 : Fld Z h41 b41 "java/lang/String" "value" "[B" .null := D41 (Or.inr (hw _ (List.mem_of_getElem? (i := 37) rfl))) (ty := (.array .byte)) (by decide)
      refine Go.of (T' := T41) (f' := (mkF m 155 #[.val (.int p1), .val (.int p2), .val (.int p3), .val (.int p4), .val (.int p5), .val (.int c1), .val (.int c2), .val (.int c3), .val (.int c4), .val (.ref b5), .val (.ref b7), .val (.ref b9), .val (.ref b11), .val (.int (p1 &&& (3 : Int32))), .val (.ref b7), .unset, .unset, .unset, .unset] [(.ref b41)])) st41 ?_
      refine Go.of (T' := T41) (f' := (mkF m 156 #[.val (.int p1), .val (.int p2), .val (.int p3), .val (.int p4), .val (.int p5), .val (.int c1), .val (.int c2), .val (.int c3), .val (.int c4), .val (.ref b5), .val (.ref b7), .val (.ref b9), .val (.ref b11), .val (.int (p1 &&& (3 : Int32))), .val (.ref b7), .unset, .unset, .unset, .unset] [(.ref b41), (.ref b41)])) (fun _ k => XS.dup X41.here hx rfl (hb hby at_155) rfl rfl k) ?_
      refine Go.of (T' := T41) (f' := (mkF m 158 #[.val (.int p1), .val (.int p2), .val (.int p3), .val (.int p4), .val (.int p5), .val (.int c1), .val (.int c2), .val (.int c3), .val (.int c4), .val (.ref b5), .val (.ref b7), .val (.ref b9), .val (.ref b11), .val (.int (p1 &&& (3 : Int32))), .val (.ref b7), .unset, .unset, .unset, .unset] [(.ref b7), (.ref b41), (.ref b41)])) (fun _ k => XS.aload X41.here hx rfl (hb hby at_156) rfl rfl k) ?_
      refine goI X41 hx hZ rfl hown (hw _ (List.mem_of_getElem? (i := 12) rfl)) (hw _ (List.mem_of_getElem? (i := 13) rfl)) (hw _ (List.mem_of_getElem? (i := 14) rfl)) (by decide) (C := 1) (S := 2) (newStr (W := 1) hZ (hw_words hw) (hw _ (List.mem_of_getElem? (i := 10) rfl)) (cs := [c1, c2]) E_b41 F_value_b41 F_coder_b41 V_b7 rfl Z_cs hz (n := 2) rfl rfl (by decide) (by decide) (by intro c hc; simp only [List.mem_cons, List.not_mem_nil, or_false] at hc; rcases hc with rfl | rfl <;> first | exact rst_lat hR_c1 | exact rst_lat hR_c2) (by decide) (by decide)) e41 (argsL := [(.ref b7)]) (rest := [(.ref b41)]) (by rw [hml]; rfl) (lenOf pd___C_V rfl) rfl rfl (hb hby at_158) (Nat.le_of_eq rfl) (by decide) (by decide) ?_
      intro v43 T43 L43 X43 hQ43
      obtain ⟨h43, e43⟩ : ∃ z, T43.heap = z := ⟨_, rfl⟩
      rw [e43] at hQ43
      have E_b41_o := E_b41
      obtain ⟨rfl, Mc43, t43, le43, S43⟩ := hQ43
      have ne_b5_t43 : b5 ≠ t43 := Nat.ne_of_lt (Nat.lt_of_lt_of_le V_b5.lt le43)
      have ne_b7_t43 : b7 ≠ t43 := Nat.ne_of_lt (Nat.lt_of_lt_of_le V_b7.lt le43)
      have ne_b9_t43 : b9 ≠ t43 := Nat.ne_of_lt (Nat.lt_of_lt_of_le V_b9.lt le43)
      have ne_b11_t43 : b11 ≠ t43 := Nat.ne_of_lt (Nat.lt_of_lt_of_le V_b11.lt le43)
      have ne_b41_t43 : b41 ≠ t43 := Nat.ne_of_lt (Nat.lt_of_lt_of_le E_b41.lt le43)
      have fr_t43 : h0.size ≤ t43 := Nat.le_trans M41.le le43
      have Sf_t43 := Safe.new (Z := Z) (EL := consts_1) (vm := s.vm) le43
      have M43 := M41.app Mc43 (allS (Or.inr fr_b41) all0)
      replace hk := Nat.le_trans hk (Mc43.1).1
      have hq44 : ∀ x ∈ ([b41] : List Addr), Safe Z consts_1 s.vm h41 x := (sfS Sf_b41 sf0)
      have hs44 := CHr.keep (Mc43.1) hq44 RH.1
      replace Sf_b5 := Safe.keep (Mc43.1) hq44 RH.1 Sf_b5
      replace Sf_b7 := Safe.keep (Mc43.1) hq44 RH.1 Sf_b7
      replace Sf_b9 := Safe.keep (Mc43.1) hq44 RH.1 Sf_b9
      replace Sf_b11 := Safe.keep (Mc43.1) hq44 RH.1 Sf_b11
      replace Sf_b41 := Safe.keep (Mc43.1) hq44 RH.1 Sf_b41
      replace Sf_t43 := Safe.keep (Mc43.1) hq44 RH.1 Sf_t43
      replace RH := RH.trans hs44
      replace Z_cs := StaKeep Z_cs Mc43.1 (allS (staExa E_b41_o) all0)
      replace Z_fm := StaKeep Z_fm Mc43.1 (allS (staExa E_b41_o) all0)
      replace V_b5 := V_b5.keep Mc43.1 (ninS ne_b5_b41 nin0)
      replace V_b7 := V_b7.keep Mc43.1 (ninS ne_b7_b41 nin0)
      replace V_b9 := V_b9.keep Mc43.1 (ninS ne_b9_b41 nin0)
      replace V_b11 := V_b11.keep Mc43.1 (ninS ne_b11_b41 nin0)
      replace E_b41 := E_b41.keep Mc43.1
      have S_b41 := S43
      show Go p e below P T43 (mkF m 161 #[.val (.int p1), .val (.int p2), .val (.int p3), .val (.int p4), .val (.int p5), .val (.int c1), .val (.int c2), .val (.int c3), .val (.int c4), .val (.ref b5), .val (.ref b7), .val (.ref b9), .val (.ref b11), .val (.int (p1 &&& (3 : Int32))), .val (.ref b7), .unset, .unset, .unset, .unset] [(.ref b41)])
      refine Go.of (T' := T43) (f' := (mkF m 163 #[.val (.int p1), .val (.int p2), .val (.int p3), .val (.int p4), .val (.int p5), .val (.int c1), .val (.int c2), .val (.int c3), .val (.int c4), .val (.ref b5), .val (.ref b7), .val (.ref b9), .val (.ref b11), .val (.int (p1 &&& (3 : Int32))), .val (.ref b7), .val (.ref b41), .unset, .unset, .unset] [])) (fun _ k => XS.astore X43.here hx rfl (hb hby at_161) rfl rfl (l' := #[.val (.int p1), .val (.int p2), .val (.int p3), .val (.int p4), .val (.int p5), .val (.int c1), .val (.int c2), .val (.int c3), .val (.int c4), .val (.ref b5), .val (.ref b7), .val (.ref b9), .val (.ref b11), .val (.int (p1 &&& (3 : Int32))), .val (.ref b7), .val (.ref b41), .unset, .unset, .unset]) rfl k) ?_
      have hNm : Name [c1, c2] := nameOf hc1_ (by intro d hd; simp only [List.mem_cons, List.not_mem_nil, or_false] at hd; rcases hd with rfl <;> first | exact hR_c1 | exact hR_c2) (by simp)
      obtain ⟨sa45, T45, h45, k45, sb45, kb45, X45, e45, E45, hS45, hk45, hZ45, hown45, E_sa45, F_cd45, F_vl45, V_sb45, -, -, A45, -, hne45, st45⟩ := ldcCH X43 hx hZ hown (hw _ (List.mem_of_getElem? (i := 38) rfl)) (hw_sA hw) e43 hS hk (hEL_1 hw) (by decide) RH.1 (vs := [.int (97 : Int32), .int (98 : Int32), .int (99 : Int32), .int (100 : Int32), .int (101 : Int32), .int (102 : Int32), .int (103 : Int32), .int (104 : Int32), .int (105 : Int32), .int (106 : Int32), .int (107 : Int32), .int (108 : Int32), .int (109 : Int32), .int (110 : Int32), .int (111 : Int32), .int (112 : Int32), .int (113 : Int32), .int (114 : Int32), .int (115 : Int32), .int (116 : Int32), .int (117 : Int32), .int (118 : Int32), .int (119 : Int32), .int (120 : Int32), .int (121 : Int32), .int (122 : Int32), .int (48 : Int32), .int (49 : Int32), .int (50 : Int32), .int (51 : Int32), .int (52 : Int32), .int (53 : Int32), .int (54 : Int32), .int (55 : Int32), .int (56 : Int32), .int (57 : Int32), .int (95 : Int32), .int (97 : Int32), .int (98 : Int32), .int (99 : Int32), .int (100 : Int32), .int (101 : Int32), .int (102 : Int32), .int (103 : Int32), .int (104 : Int32), .int (105 : Int32), .int (106 : Int32), .int (107 : Int32), .int (108 : Int32), .int (109 : Int32), .int (110 : Int32), .int (111 : Int32), .int (112 : Int32), .int (113 : Int32), .int (114 : Int32), .int (115 : Int32), .int (116 : Int32), .int (117 : Int32), .int (118 : Int32), .int (119 : Int32), .int (120 : Int32), .int (121 : Int32), .int (122 : Int32), .int (57 : Int32)]) (z := (64 : Int32)) ⟨by decide, by decide⟩ (by decide) (by decide) (g := (mkF m 163 #[.val (.int p1), .val (.int p2), .val (.int p3), .val (.int p4), .val (.int p5), .val (.int c1), .val (.int c2), .val (.int c3), .val (.int c4), .val (.ref b5), .val (.ref b7), .val (.ref b9), .val (.ref b11), .val (.int (p1 &&& (3 : Int32))), .val (.ref b7), .val (.ref b41), .unset, .unset, .unset] [])) rfl (hb hby at_163) (n := 256) (by decide) (by decide) (by decide) (by decide)
      have K45 := keepE E45
      have M45 := M43.ext E45
      clear hS hk
      replace Sf_b5 := CHr.safe A45 V_b5.lt Sf_b5
      replace Sf_b7 := CHr.safe A45 V_b7.lt Sf_b7
      replace Sf_b9 := CHr.safe A45 V_b9.lt Sf_b9
      replace Sf_b11 := CHr.safe A45 V_b11.lt Sf_b11
      replace Sf_b41 := CHr.safe A45 S_b41.lt1 Sf_b41
      replace Sf_t43 := CHr.safe A45 S_b41.lt2 Sf_t43
      replace RH := RH.trans A45
      replace Z_cs := StaKeep Z_cs K45 all0
      replace Z_fm := StaKeep Z_fm K45 all0
      replace V_b5 := V_b5.keep K45 nin0
      replace V_b7 := V_b7.keep K45 nin0
      replace V_b9 := V_b9.keep K45 nin0
      replace V_b11 := V_b11.keep K45 nin0
      replace S_b41 := S_b41.keep K45 nin0 nin0
      have hS := hS45
      have hk := hk45
      replace hZ := hZ45
      replace hown := hown45
      have ne_b5_sa45 := (hne45 _ Sf_b5).1
      have ne_b5_sb45 := (hne45 _ Sf_b5).2
      have ne_b7_sa45 := (hne45 _ Sf_b7).1
      have ne_b7_sb45 := (hne45 _ Sf_b7).2
      have ne_b9_sa45 := (hne45 _ Sf_b9).1
      have ne_b9_sb45 := (hne45 _ Sf_b9).2
      have ne_b11_sa45 := (hne45 _ Sf_b11).1
      have ne_b11_sb45 := (hne45 _ Sf_b11).2
      have ne_b41_sa45 := (hne45 _ Sf_b41).1
      have ne_b41_sb45 := (hne45 _ Sf_b41).2
      have ne_t43_sa45 := (hne45 _ Sf_t43).1
      have ne_t43_sb45 := (hne45 _ Sf_t43).2
      refine Go.of (T' := T45) (f' := (mkF m 165 #[.val (.int p1), .val (.int p2), .val (.int p3), .val (.int p4), .val (.int p5), .val (.int c1), .val (.int c2), .val (.int c3), .val (.int c4), .val (.ref b5), .val (.ref b7), .val (.ref b9), .val (.ref b11), .val (.int (p1 &&& (3 : Int32))), .val (.ref b7), .val (.ref b41), .unset, .unset, .unset] [(.ref sa45)])) st45 ?_
      have S_lit := strLit E_sa45 F_vl45 F_cd45 V_sb45
      refine Go.of (T' := T45) (f' := (mkF m 167 #[.val (.int p1), .val (.int p2), .val (.int p3), .val (.int p4), .val (.int p5), .val (.int c1), .val (.int c2), .val (.int c3), .val (.int c4), .val (.ref b5), .val (.ref b7), .val (.ref b9), .val (.ref b11), .val (.int (p1 &&& (3 : Int32))), .val (.ref b7), .val (.ref b41), .val (.ref sa45), .unset, .unset] [])) (fun _ k => XS.astore X45.here hx rfl (hb hby at_165) rfl rfl (l' := #[.val (.int p1), .val (.int p2), .val (.int p3), .val (.int p4), .val (.int p5), .val (.int c1), .val (.int c2), .val (.int c3), .val (.int c4), .val (.ref b5), .val (.ref b7), .val (.ref b9), .val (.ref b11), .val (.int (p1 &&& (3 : Int32))), .val (.ref b7), .val (.ref b41), .val (.ref sa45), .unset, .unset]) rfl k) ?_
      refine Go.of (T' := T45) (f' := (mkF m 169 #[.val (.int p1), .val (.int p2), .val (.int p3), .val (.int p4), .val (.int p5), .val (.int c1), .val (.int c2), .val (.int c3), .val (.int c4), .val (.ref b5), .val (.ref b7), .val (.ref b9), .val (.ref b11), .val (.int (p1 &&& (3 : Int32))), .val (.ref b7), .val (.ref b41), .val (.ref sa45), .unset, .unset] [(.ref b41)])) (fun _ k => XS.aload X45.here hx rfl (hb hby at_167) rfl rfl k) ?_
      refine goS X45 hx hZ hown (hw _ (List.mem_of_getElem? (i := 41) rfl)) (hw _ (List.mem_of_getElem? (i := 42) rfl)) (hw _ (List.mem_of_getElem? (i := 43) rfl)) (hw _ (List.mem_of_getElem? (i := 44) rfl)) (by decide) (C := 0) (S := 0) ((rm_require l Z a0 hw b41 t43 [c1, c2] zc fm h45 S_b41 (nameLat hNm) hNm Z_cs hz Z_fm hfm).bk (W := 0) hZ (hw _ (List.mem_of_getElem? (i := 44) rfl)) (hw _ (List.mem_of_getElem? (i := 43) rfl)) (by decide) (by decide)) e45 (argsL := [(.ref b41)]) (rest := []) (by rw [hml]; rfl) (lenOf pd__Ljava_lang_String__Ljava_lang_String_ rfl) rfl rfl (hb hby at_169) (Nat.le_of_eq rfl) (by decide) (by decide) ?_
      intro v46 T46 L46 X46 hQ46
      obtain ⟨nq46, e46, rfl⟩ := hQ46
      replace X46 := standNil X46 nq46
      show Go p e below P T46 (mkF m 172 #[.val (.int p1), .val (.int p2), .val (.int p3), .val (.int p4), .val (.int p5), .val (.int c1), .val (.int c2), .val (.int c3), .val (.int c4), .val (.ref b5), .val (.ref b7), .val (.ref b9), .val (.ref b11), .val (.int (p1 &&& (3 : Int32))), .val (.ref b7), .val (.ref b41), .val (.ref sa45), .unset, .unset] [(.ref b41)])
      refine Go.of (T' := T46) (f' := (mkF m 174 #[.val (.int p1), .val (.int p2), .val (.int p3), .val (.int p4), .val (.int p5), .val (.int c1), .val (.int c2), .val (.int c3), .val (.int c4), .val (.ref b5), .val (.ref b7), .val (.ref b9), .val (.ref b11), .val (.int (p1 &&& (3 : Int32))), .val (.ref b7), .val (.ref b41), .val (.ref sa45), .val (.ref b41), .unset] [])) (fun _ k => XS.astore X46.here hx rfl (hb hby at_172) rfl rfl (l' := #[.val (.int p1), .val (.int p2), .val (.int p3), .val (.int p4), .val (.int p5), .val (.int c1), .val (.int c2), .val (.int c3), .val (.int c4), .val (.ref b5), .val (.ref b7), .val (.ref b9), .val (.ref b11), .val (.int (p1 &&& (3 : Int32))), .val (.ref b7), .val (.ref b41), .val (.ref sa45), .val (.ref b41), .unset]) rfl k) ?_
      refine Go.of (T' := T46) (f' := (mkF m 176 #[.val (.int p1), .val (.int p2), .val (.int p3), .val (.int p4), .val (.int p5), .val (.int c1), .val (.int c2), .val (.int c3), .val (.int c4), .val (.ref b5), .val (.ref b7), .val (.ref b9), .val (.ref b11), .val (.int (p1 &&& (3 : Int32))), .val (.ref b7), .val (.ref b41), .val (.ref sa45), .val (.ref b41), .unset] [(.ref sa45)])) (fun _ k => XS.aload X46.here hx rfl (hb hby at_174) rfl rfl k) ?_
      refine goS X46 hx hZ hown (hw _ (List.mem_of_getElem? (i := 41) rfl)) (hw _ (List.mem_of_getElem? (i := 42) rfl)) (hw _ (List.mem_of_getElem? (i := 43) rfl)) (hw _ (List.mem_of_getElem? (i := 44) rfl)) (by decide) (C := 0) (S := 0) ((rm_require l Z a0 hw sa45 sb45 litCs zc fm h45 S_lit (nameLat litName) litName Z_cs hz Z_fm hfm).bk (W := 0) hZ (hw _ (List.mem_of_getElem? (i := 44) rfl)) (hw _ (List.mem_of_getElem? (i := 43) rfl)) (by decide) (by decide)) e46 (argsL := [(.ref sa45)]) (rest := []) (by rw [hml]; rfl) (lenOf pd__Ljava_lang_String__Ljava_lang_String_ rfl) rfl rfl (hb hby at_176) (Nat.le_of_eq rfl) (by decide) (by decide) ?_
      intro v47 T47 L47 X47 hQ47
      obtain ⟨nq47, e47, rfl⟩ := hQ47
      replace X47 := standNil X47 nq47
      show Go p e below P T47 (mkF m 179 #[.val (.int p1), .val (.int p2), .val (.int p3), .val (.int p4), .val (.int p5), .val (.int c1), .val (.int c2), .val (.int c3), .val (.int c4), .val (.ref b5), .val (.ref b7), .val (.ref b9), .val (.ref b11), .val (.int (p1 &&& (3 : Int32))), .val (.ref b7), .val (.ref b41), .val (.ref sa45), .val (.ref b41), .unset] [(.ref sa45)])
      refine Go.of (T' := T47) (f' := (mkF m 181 #[.val (.int p1), .val (.int p2), .val (.int p3), .val (.int p4), .val (.int p5), .val (.int c1), .val (.int c2), .val (.int c3), .val (.int c4), .val (.ref b5), .val (.ref b7), .val (.ref b9), .val (.ref b11), .val (.int (p1 &&& (3 : Int32))), .val (.ref b7), .val (.ref b41), .val (.ref sa45), .val (.ref b41), .val (.ref sa45)] [])) (fun _ k => XS.astore X47.here hx rfl (hb hby at_179) rfl rfl (l' := #[.val (.int p1), .val (.int p2), .val (.int p3), .val (.int p4), .val (.int p5), .val (.int c1), .val (.int c2), .val (.int c3), .val (.int c4), .val (.ref b5), .val (.ref b7), .val (.ref b9), .val (.ref b11), .val (.int (p1 &&& (3 : Int32))), .val (.ref b7), .val (.ref b41), .val (.ref sa45), .val (.ref b41), .val (.ref sa45)]) rfl k) ?_
      refine Go.of (T' := T47) (f' := (mkF m 183 #[.val (.int p1), .val (.int p2), .val (.int p3), .val (.int p4), .val (.int p5), .val (.int c1), .val (.int c2), .val (.int c3), .val (.int c4), .val (.ref b5), .val (.ref b7), .val (.ref b9), .val (.ref b11), .val (.int (p1 &&& (3 : Int32))), .val (.ref b7), .val (.ref b41), .val (.ref sa45), .val (.ref b41), .val (.ref sa45)] [(.ref b41)])) (fun _ k => XS.aload X47.here hx rfl (hb hby at_181) rfl rfl k) ?_
      refine Go.of (T' := T47) (f' := (mkF m 185 #[.val (.int p1), .val (.int p2), .val (.int p3), .val (.int p4), .val (.int p5), .val (.int c1), .val (.int c2), .val (.int c3), .val (.int c4), .val (.ref b5), .val (.ref b7), .val (.ref b9), .val (.ref b11), .val (.int (p1 &&& (3 : Int32))), .val (.ref b7), .val (.ref b41), .val (.ref sa45), .val (.ref b41), .val (.ref sa45)] [(.ref b41), (.ref b41)])) (fun _ k => XS.aload X47.here hx rfl (hb hby at_183) rfl rfl k) ?_
      refine Go.of (T' := T47) (f' := (mkF m 188 #[.val (.int p1), .val (.int p2), .val (.int p3), .val (.int p4), .val (.int p5), .val (.int c1), .val (.int c2), .val (.int c3), .val (.int c4), .val (.ref b5), .val (.ref b7), .val (.ref b9), .val (.ref b11), .val (.int (p1 &&& (3 : Int32))), .val (.ref b7), .val (.ref b41), .val (.ref sa45), .val (.ref b41), .val (.ref sa45)] [])) (fun _ k => Jvm.RoadKit.acmp (g := (mkF m 185 #[.val (.int p1), .val (.int p2), .val (.int p3), .val (.int p4), .val (.int p5), .val (.int c1), .val (.int c2), .val (.int c3), .val (.int c4), .val (.ref b5), .val (.ref b7), .val (.ref b9), .val (.ref b11), .val (.int (p1 &&& (3 : Int32))), .val (.ref b7), .val (.ref b41), .val (.ref sa45), .val (.ref b41), .val (.ref sa45)] [(.ref b41), (.ref b41)])) X47 hx rfl rfl rfl (pc0 := 185) (pc' := 188) (same := true) rfl (hb hby at_185) rfl (decide_eq_true rfl) (by decide) (by decide) k) ?_
      refine Go.of (T' := T47) (f' := (mkF m 190 #[.val (.int p1), .val (.int p2), .val (.int p3), .val (.int p4), .val (.int p5), .val (.int c1), .val (.int c2), .val (.int c3), .val (.int c4), .val (.ref b5), .val (.ref b7), .val (.ref b9), .val (.ref b11), .val (.int (p1 &&& (3 : Int32))), .val (.ref b7), .val (.ref b41), .val (.ref sa45), .val (.ref b41), .val (.ref sa45)] [(.ref sa45)])) (fun _ k => XS.aload X47.here hx rfl (hb hby at_188) rfl rfl k) ?_
      refine Go.of (T' := T47) (f' := (mkF m 192 #[.val (.int p1), .val (.int p2), .val (.int p3), .val (.int p4), .val (.int p5), .val (.int c1), .val (.int c2), .val (.int c3), .val (.int c4), .val (.ref b5), .val (.ref b7), .val (.ref b9), .val (.ref b11), .val (.int (p1 &&& (3 : Int32))), .val (.ref b7), .val (.ref b41), .val (.ref sa45), .val (.ref b41), .val (.ref sa45)] [(.ref sa45), (.ref sa45)])) (fun _ k => XS.aload X47.here hx rfl (hb hby at_190) rfl rfl k) ?_
      refine Go.of (T' := T47) (f' := (mkF m 195 #[.val (.int p1), .val (.int p2), .val (.int p3), .val (.int p4), .val (.int p5), .val (.int c1), .val (.int c2), .val (.int c3), .val (.int c4), .val (.ref b5), .val (.ref b7), .val (.ref b9), .val (.ref b11), .val (.int (p1 &&& (3 : Int32))), .val (.ref b7), .val (.ref b41), .val (.ref sa45), .val (.ref b41), .val (.ref sa45)] [])) (fun _ k => Jvm.RoadKit.acmp (g := (mkF m 192 #[.val (.int p1), .val (.int p2), .val (.int p3), .val (.int p4), .val (.int p5), .val (.int c1), .val (.int c2), .val (.int c3), .val (.int c4), .val (.ref b5), .val (.ref b7), .val (.ref b9), .val (.ref b11), .val (.int (p1 &&& (3 : Int32))), .val (.ref b7), .val (.ref b41), .val (.ref sa45), .val (.ref b41), .val (.ref sa45)] [(.ref sa45), (.ref sa45)])) X47 hx rfl rfl rfl (pc0 := 192) (pc' := 195) (same := true) rfl (hb hby at_192) rfl (decide_eq_true rfl) (by decide) (by decide) k) ?_
      refine Go.of (T' := T47) (f' := (mkF m 197 #[.val (.int p1), .val (.int p2), .val (.int p3), .val (.int p4), .val (.int p5), .val (.int c1), .val (.int c2), .val (.int c3), .val (.int c4), .val (.ref b5), .val (.ref b7), .val (.ref b9), .val (.ref b11), .val (.int (p1 &&& (3 : Int32))), .val (.ref b7), .val (.ref b41), .val (.ref sa45), .val (.ref b41), .val (.ref sa45)] [(.ref sa45)])) (fun _ k => XS.aload X47.here hx rfl (hb hby at_195) rfl rfl k) ?_
      refine goV X47 hx hZ (y := (⟨"java/lang/String", "length", "()I"⟩ : MethodName)) (z := (⟨"java/lang/String", "length", "()I"⟩ : MethodName)) hown (hw _ (List.mem_of_getElem? (i := 85) rfl)) (hw _ (List.mem_of_getElem? (i := 51) rfl)) (notFace_of_selects (args := #[]) (mvT hZ (hw _ (List.mem_of_getElem? (i := 53) rfl)))) (hw _ (List.mem_of_getElem? (i := 53) rfl)) (hw _ (List.mem_of_getElem? (i := 52) rfl)) (by decide) (C := 0) (S := 0) (lenStr (W := 0) hZ (hw_wordsLen hw) (hw _ (List.mem_of_getElem? (i := 10) rfl)) S_lit Z_cs hz (by decide) (by decide)) e47 S_lit.exa (argsL := []) (rest := []) (by rw [hml]; rfl) (lenOf pd___I rfl) rfl rfl (hb hby at_197) (Nat.le_of_eq rfl) (by decide) (by decide) ?_
      intro v48 T48 L48 X48 hQ48
      obtain ⟨nq48, e48, rfl⟩ := hQ48
      replace X48 := standNil X48 nq48
      show Go p e below P T48 (mkF m 200 #[.val (.int p1), .val (.int p2), .val (.int p3), .val (.int p4), .val (.int p5), .val (.int c1), .val (.int c2), .val (.int c3), .val (.int c4), .val (.ref b5), .val (.ref b7), .val (.ref b9), .val (.ref b11), .val (.int (p1 &&& (3 : Int32))), .val (.ref b7), .val (.ref b41), .val (.ref sa45), .val (.ref b41), .val (.ref sa45)] [(.int (Int32.ofNat litCs.length))])
      refine Go.of (T' := T48) (f' := (mkF m 202 #[.val (.int p1), .val (.int p2), .val (.int p3), .val (.int p4), .val (.int p5), .val (.int c1), .val (.int c2), .val (.int c3), .val (.int c4), .val (.ref b5), .val (.ref b7), .val (.ref b9), .val (.ref b11), .val (.int (p1 &&& (3 : Int32))), .val (.ref b7), .val (.ref b41), .val (.ref sa45), .val (.ref b41), .val (.ref sa45)] [(.int (64 : Int32)), (.int (Int32.ofNat litCs.length))])) (fun _ k => XS.bipush X48.here hx rfl (hb hby at_200) k) ?_
      have hc202 : (Int32.ofNat litCs.length) = (64 : Int32) := by decide
      refine Go.of (T' := T48) (f' := (mkF m 205 #[.val (.int p1), .val (.int p2), .val (.int p3), .val (.int p4), .val (.int p5), .val (.int c1), .val (.int c2), .val (.int c3), .val (.int c4), .val (.ref b5), .val (.ref b7), .val (.ref b9), .val (.ref b11), .val (.int (p1 &&& (3 : Int32))), .val (.ref b7), .val (.ref b41), .val (.ref sa45), .val (.ref b41), .val (.ref sa45)] [])) (fun _ k => XS.icmpNo X48.here hx rfl (hb hby at_202) rfl (teq hc202).2 k) ?_
      refine Go.of (T' := T48) (f' := (mkF m 206 #[.val (.int p1), .val (.int p2), .val (.int p3), .val (.int p4), .val (.int p5), .val (.int c1), .val (.int c2), .val (.int c3), .val (.int c4), .val (.ref b5), .val (.ref b7), .val (.ref b9), .val (.ref b11), .val (.int (p1 &&& (3 : Int32))), .val (.ref b7), .val (.ref b41), .val (.ref sa45), .val (.ref b41), .val (.ref sa45)] [(.int (1 : Int32))])) (fun _ k => XS.iconst X48.here hx rfl (hb hby at_205) k) ?_
      refine Go.of (T' := T48) (f' := (mkF m 210 #[.val (.int p1), .val (.int p2), .val (.int p3), .val (.int p4), .val (.int p5), .val (.int c1), .val (.int c2), .val (.int c3), .val (.int c4), .val (.ref b5), .val (.ref b7), .val (.ref b9), .val (.ref b11), .val (.int (p1 &&& (3 : Int32))), .val (.ref b7), .val (.ref b41), .val (.ref sa45), .val (.ref b41), .val (.ref sa45)] [(.int (1 : Int32))])) (fun _ k => XS.goto X48.here hx rfl (pc0 := 206) (pc' := 210) rfl (hb hby at_206) (by decide) (by decide) k) ?_
      exact goRetIH (Q := fun v h L => v = some (.int 1) ∧ Mv h0 h [] L) X48 hx hZ hS hk (hEL_1 hw) RH (t := .boolean) hret hlk rfl (by simp) (hb hby at_210) K (by decide) (by decide) e48 (⟨rfl, M45⟩)
    ·
      refine Go.of (T' := T31) (f' := (mkF m 135 #[.val (.int p1), .val (.int p2), .val (.int p3), .val (.int p4), .val (.int p5), .val (.int c1), .val (.int c2), .val (.int c3), .val (.int c4), .val (.ref b5), .val (.ref b7), .val (.ref b9), .val (.ref b11), .val (.int (p1 &&& (3 : Int32))), .unset, .unset, .unset, .unset, .unset] [])) (fun _ k => XS.icmpYes X31.here hx rfl (pc0 := 125) (pc' := 135) rfl (hb hby at_125) rfl (feq hc125).2 (by decide) (by decide) k) ?_
      refine Go.of (T' := T31) (f' := (mkF m 137 #[.val (.int p1), .val (.int p2), .val (.int p3), .val (.int p4), .val (.int p5), .val (.int c1), .val (.int c2), .val (.int c3), .val (.int c4), .val (.ref b5), .val (.ref b7), .val (.ref b9), .val (.ref b11), .val (.int (p1 &&& (3 : Int32))), .unset, .unset, .unset, .unset, .unset] [(.int (p1 &&& (3 : Int32)))])) (fun _ k => XS.iload X31.here hx rfl (hb hby at_135) rfl k) ?_
      refine Go.of (T' := T31) (f' := (mkF m 138 #[.val (.int p1), .val (.int p2), .val (.int p3), .val (.int p4), .val (.int p5), .val (.int c1), .val (.int c2), .val (.int c3), .val (.int c4), .val (.ref b5), .val (.ref b7), .val (.ref b9), .val (.ref b11), .val (.int (p1 &&& (3 : Int32))), .unset, .unset, .unset, .unset, .unset] [(.int (2 : Int32)), (.int (p1 &&& (3 : Int32)))])) (fun _ k => XS.iconst X31.here hx rfl (hb hby at_137) k) ?_
      by_cases hc138 : (p1 &&& (3 : Int32)) = (2 : Int32)
      ·
        refine Go.of (T' := T31) (f' := (mkF m 141 #[.val (.int p1), .val (.int p2), .val (.int p3), .val (.int p4), .val (.int p5), .val (.int c1), .val (.int c2), .val (.int c3), .val (.int c4), .val (.ref b5), .val (.ref b7), .val (.ref b9), .val (.ref b11), .val (.int (p1 &&& (3 : Int32))), .unset, .unset, .unset, .unset, .unset] [])) (fun _ k => XS.icmpNo X31.here hx rfl (hb hby at_138) rfl (teq hc138).2 k) ?_
        refine Go.of (T' := T31) (f' := (mkF m 143 #[.val (.int p1), .val (.int p2), .val (.int p3), .val (.int p4), .val (.int p5), .val (.int c1), .val (.int c2), .val (.int c3), .val (.int c4), .val (.ref b5), .val (.ref b7), .val (.ref b9), .val (.ref b11), .val (.int (p1 &&& (3 : Int32))), .unset, .unset, .unset, .unset, .unset] [(.ref b9)])) (fun _ k => XS.aload X31.here hx rfl (hb hby at_141) rfl rfl k) ?_
        refine Go.of (T' := T31) (f' := (mkF m 145 #[.val (.int p1), .val (.int p2), .val (.int p3), .val (.int p4), .val (.int p5), .val (.int c1), .val (.int c2), .val (.int c3), .val (.int c4), .val (.ref b5), .val (.ref b7), .val (.ref b9), .val (.ref b11), .val (.int (p1 &&& (3 : Int32))), .val (.ref b9), .unset, .unset, .unset, .unset] [])) (fun _ k => XS.astore X31.here hx rfl (hb hby at_143) rfl rfl (l' := #[.val (.int p1), .val (.int p2), .val (.int p3), .val (.int p4), .val (.int p5), .val (.int c1), .val (.int c2), .val (.int c3), .val (.int c4), .val (.ref b5), .val (.ref b7), .val (.ref b9), .val (.ref b11), .val (.int (p1 &&& (3 : Int32))), .val (.ref b9), .unset, .unset, .unset, .unset]) rfl k) ?_
        refine Go.of (T' := T31) (f' := (mkF m 152 #[.val (.int p1), .val (.int p2), .val (.int p3), .val (.int p4), .val (.int p5), .val (.int c1), .val (.int c2), .val (.int c3), .val (.int c4), .val (.ref b5), .val (.ref b7), .val (.ref b9), .val (.ref b11), .val (.int (p1 &&& (3 : Int32))), .val (.ref b9), .unset, .unset, .unset, .unset] [])) (fun _ k => XS.goto X31.here hx rfl (pc0 := 145) (pc' := 152) rfl (hb hby at_145) (by decide) (by decide) k) ?_
        obtain ⟨T49, h49, X49, e49, E49, A49, D49, -, st49⟩ := newO X31 hx hZ hown (hw _ (List.mem_of_getElem? (i := 9) rfl)) (hw _ (List.mem_of_getElem? (i := 10) rfl)) (hw _ (List.mem_of_getElem? (i := 11) rfl)) e31 (g := (mkF m 152 #[.val (.int p1), .val (.int p2), .val (.int p3), .val (.int p4), .val (.int p5), .val (.int c1), .val (.int c2), .val (.int c3), .val (.int c4), .val (.ref b5), .val (.ref b7), .val (.ref b9), .val (.ref b11), .val (.int (p1 &&& (3 : Int32))), .val (.ref b9), .unset, .unset, .unset, .unset] [])) rfl (hb hby at_152) (by decide) (by decide)
        obtain ⟨b49, g49⟩ : ∃ z, z = h31.size := ⟨_, rfl⟩
        rw [← g49] at A49 D49 st49
        have ne_b5_b49 : b5 ≠ b49 := Nat.ne_of_lt (Nat.lt_of_lt_of_le V_b5.lt (Nat.le_of_eq g49.symm))
        have ne_b7_b49 : b7 ≠ b49 := Nat.ne_of_lt (Nat.lt_of_lt_of_le V_b7.lt (Nat.le_of_eq g49.symm))
        have ne_b9_b49 : b9 ≠ b49 := Nat.ne_of_lt (Nat.lt_of_lt_of_le V_b9.lt (Nat.le_of_eq g49.symm))
        have ne_b11_b49 : b11 ≠ b49 := Nat.ne_of_lt (Nat.lt_of_lt_of_le V_b11.lt (Nat.le_of_eq g49.symm))
        have fr_b49 : h0.size ≤ b49 := Nat.le_trans M31.le (Nat.le_of_eq g49.symm)
        have Sf_b49 := Safe.new (Z := Z) (EL := consts_1) (vm := s.vm) (Nat.le_of_eq g49.symm)
        have K49 := keepE E49
        have M49 := M31.ext E49
        replace hk := Nat.le_trans hk (K49).1
        have hs50 := CHr.keep (K49) sf0 RH.1
        replace Sf_b5 := Safe.keep (K49) sf0 RH.1 Sf_b5
        replace Sf_b7 := Safe.keep (K49) sf0 RH.1 Sf_b7
        replace Sf_b9 := Safe.keep (K49) sf0 RH.1 Sf_b9
        replace Sf_b11 := Safe.keep (K49) sf0 RH.1 Sf_b11
        replace Sf_b49 := Safe.keep (K49) sf0 RH.1 Sf_b49
        replace RH := RH.trans hs50
        replace Z_cs := StaKeep Z_cs K49 all0
        replace Z_fm := StaKeep Z_fm K49 all0
        replace V_b5 := V_b5.keep K49 nin0
        replace V_b7 := V_b7.keep K49 nin0
        replace V_b9 := V_b9.keep K49 nin0
        replace V_b11 := V_b11.keep K49 nin0
        have E_b49 := A49
        have F_coder_b49 : Fld Z h49 b49 "java/lang/String" "coder" "B" (.int (0 : Int32)) := D49 (Or.inr (hw _ (List.mem_of_getElem? (i := 35) rfl))) (ty := .byte) (by decide)
        have F_value_b49 : Fld Z h49 b49 "java/lang/String" "value" "[B" .null := D49 (Or.inr (hw _ (List.mem_of_getElem? (i := 37) rfl))) (ty := (.array .byte)) (by decide)
        refine Go.of (T' := T49) (f' := (mkF m 155 #[.val (.int p1), .val (.int p2), .val (.int p3), .val (.int p4), .val (.int p5), .val (.int c1), .val (.int c2), .val (.int c3), .val (.int c4), .val (.ref b5), .val (.ref b7), .val (.ref b9), .val (.ref b11), .val (.int (p1 &&& (3 : Int32))), .val (.ref b9), .unset, .unset, .unset, .unset] [(.ref b49)])) st49 ?_
        refine Go.of (T' := T49) (f' := (mkF m 156 #[.val (.int p1), .val (.int p2), .val (.int p3), .val (.int p4), .val (.int p5), .val (.int c1), .val (.int c2), .val (.int c3), .val (.int c4), .val (.ref b5), .val (.ref b7), .val (.ref b9), .val (.ref b11), .val (.int (p1 &&& (3 : Int32))), .val (.ref b9), .unset, .unset, .unset, .unset] [(.ref b49), (.ref b49)])) (fun _ k => XS.dup X49.here hx rfl (hb hby at_155) rfl rfl k) ?_
        refine Go.of (T' := T49) (f' := (mkF m 158 #[.val (.int p1), .val (.int p2), .val (.int p3), .val (.int p4), .val (.int p5), .val (.int c1), .val (.int c2), .val (.int c3), .val (.int c4), .val (.ref b5), .val (.ref b7), .val (.ref b9), .val (.ref b11), .val (.int (p1 &&& (3 : Int32))), .val (.ref b9), .unset, .unset, .unset, .unset] [(.ref b9), (.ref b49), (.ref b49)])) (fun _ k => XS.aload X49.here hx rfl (hb hby at_156) rfl rfl k) ?_
        refine goI X49 hx hZ rfl hown (hw _ (List.mem_of_getElem? (i := 12) rfl)) (hw _ (List.mem_of_getElem? (i := 13) rfl)) (hw _ (List.mem_of_getElem? (i := 14) rfl)) (by decide) (C := 1) (S := 3) (newStr (W := 1) hZ (hw_words hw) (hw _ (List.mem_of_getElem? (i := 10) rfl)) (cs := [c1, c2, c3]) E_b49 F_value_b49 F_coder_b49 V_b9 rfl Z_cs hz (n := 3) rfl rfl (by decide) (by decide) (by intro c hc; simp only [List.mem_cons, List.not_mem_nil, or_false] at hc; rcases hc with rfl | rfl | rfl <;> first | exact rst_lat hR_c1 | exact rst_lat hR_c2 | exact rst_lat hR_c3) (by decide) (by decide)) e49 (argsL := [(.ref b9)]) (rest := [(.ref b49)]) (by rw [hml]; rfl) (lenOf pd___C_V rfl) rfl rfl (hb hby at_158) (Nat.le_of_eq rfl) (by decide) (by decide) ?_
        intro v51 T51 L51 X51 hQ51
        obtain ⟨h51, e51⟩ : ∃ z, T51.heap = z := ⟨_, rfl⟩
        rw [e51] at hQ51
        have E_b49_o := E_b49
        obtain ⟨rfl, Mc51, t51, le51, S51⟩ := hQ51
        have ne_b5_t51 : b5 ≠ t51 := Nat.ne_of_lt (Nat.lt_of_lt_of_le V_b5.lt le51)
        have ne_b7_t51 : b7 ≠ t51 := Nat.ne_of_lt (Nat.lt_of_lt_of_le V_b7.lt le51)
        have ne_b9_t51 : b9 ≠ t51 := Nat.ne_of_lt (Nat.lt_of_lt_of_le V_b9.lt le51)
        have ne_b11_t51 : b11 ≠ t51 := Nat.ne_of_lt (Nat.lt_of_lt_of_le V_b11.lt le51)
        have ne_b49_t51 : b49 ≠ t51 := Nat.ne_of_lt (Nat.lt_of_lt_of_le E_b49.lt le51)
        have fr_t51 : h0.size ≤ t51 := Nat.le_trans M49.le le51
        have Sf_t51 := Safe.new (Z := Z) (EL := consts_1) (vm := s.vm) le51
        have M51 := M49.app Mc51 (allS (Or.inr fr_b49) all0)
        replace hk := Nat.le_trans hk (Mc51.1).1
        have hq52 : ∀ x ∈ ([b49] : List Addr), Safe Z consts_1 s.vm h49 x := (sfS Sf_b49 sf0)
        have hs52 := CHr.keep (Mc51.1) hq52 RH.1
        replace Sf_b5 := Safe.keep (Mc51.1) hq52 RH.1 Sf_b5
        replace Sf_b7 := Safe.keep (Mc51.1) hq52 RH.1 Sf_b7
        replace Sf_b9 := Safe.keep (Mc51.1) hq52 RH.1 Sf_b9
        replace Sf_b11 := Safe.keep (Mc51.1) hq52 RH.1 Sf_b11
        replace Sf_b49 := Safe.keep (Mc51.1) hq52 RH.1 Sf_b49
        replace Sf_t51 := Safe.keep (Mc51.1) hq52 RH.1 Sf_t51
        replace RH := RH.trans hs52
        replace Z_cs := StaKeep Z_cs Mc51.1 (allS (staExa E_b49_o) all0)
        replace Z_fm := StaKeep Z_fm Mc51.1 (allS (staExa E_b49_o) all0)
        replace V_b5 := V_b5.keep Mc51.1 (ninS ne_b5_b49 nin0)
        replace V_b7 := V_b7.keep Mc51.1 (ninS ne_b7_b49 nin0)
        replace V_b9 := V_b9.keep Mc51.1 (ninS ne_b9_b49 nin0)
        replace V_b11 := V_b11.keep Mc51.1 (ninS ne_b11_b49 nin0)
        replace E_b49 := E_b49.keep Mc51.1
        have S_b49 := S51
        show Go p e below P T51 (mkF m 161 #[.val (.int p1), .val (.int p2), .val (.int p3), .val (.int p4), .val (.int p5), .val (.int c1), .val (.int c2), .val (.int c3), .val (.int c4), .val (.ref b5), .val (.ref b7), .val (.ref b9), .val (.ref b11), .val (.int (p1 &&& (3 : Int32))), .val (.ref b9), .unset, .unset, .unset, .unset] [(.ref b49)])
        refine Go.of (T' := T51) (f' := (mkF m 163 #[.val (.int p1), .val (.int p2), .val (.int p3), .val (.int p4), .val (.int p5), .val (.int c1), .val (.int c2), .val (.int c3), .val (.int c4), .val (.ref b5), .val (.ref b7), .val (.ref b9), .val (.ref b11), .val (.int (p1 &&& (3 : Int32))), .val (.ref b9), .val (.ref b49), .unset, .unset, .unset] [])) (fun _ k => XS.astore X51.here hx rfl (hb hby at_161) rfl rfl (l' := #[.val (.int p1), .val (.int p2), .val (.int p3), .val (.int p4), .val (.int p5), .val (.int c1), .val (.int c2), .val (.int c3), .val (.int c4), .val (.ref b5), .val (.ref b7), .val (.ref b9), .val (.ref b11), .val (.int (p1 &&& (3 : Int32))), .val (.ref b9), .val (.ref b49), .unset, .unset, .unset]) rfl k) ?_
        have hNm : Name [c1, c2, c3] := nameOf hc1_ (by intro d hd; simp only [List.mem_cons, List.not_mem_nil, or_false] at hd; rcases hd with rfl | rfl <;> first | exact hR_c1 | exact hR_c2 | exact hR_c3) (by simp)
        obtain ⟨sa53, T53, h53, k53, sb53, kb53, X53, e53, E53, hS53, hk53, hZ53, hown53, E_sa53, F_cd53, F_vl53, V_sb53, -, -, A53, -, hne53, st53⟩ := ldcCH X51 hx hZ hown (hw _ (List.mem_of_getElem? (i := 38) rfl)) (hw_sA hw) e51 hS hk (hEL_1 hw) (by decide) RH.1 (vs := [.int (97 : Int32), .int (98 : Int32), .int (99 : Int32), .int (100 : Int32), .int (101 : Int32), .int (102 : Int32), .int (103 : Int32), .int (104 : Int32), .int (105 : Int32), .int (106 : Int32), .int (107 : Int32), .int (108 : Int32), .int (109 : Int32), .int (110 : Int32), .int (111 : Int32), .int (112 : Int32), .int (113 : Int32), .int (114 : Int32), .int (115 : Int32), .int (116 : Int32), .int (117 : Int32), .int (118 : Int32), .int (119 : Int32), .int (120 : Int32), .int (121 : Int32), .int (122 : Int32), .int (48 : Int32), .int (49 : Int32), .int (50 : Int32), .int (51 : Int32), .int (52 : Int32), .int (53 : Int32), .int (54 : Int32), .int (55 : Int32), .int (56 : Int32), .int (57 : Int32), .int (95 : Int32), .int (97 : Int32), .int (98 : Int32), .int (99 : Int32), .int (100 : Int32), .int (101 : Int32), .int (102 : Int32), .int (103 : Int32), .int (104 : Int32), .int (105 : Int32), .int (106 : Int32), .int (107 : Int32), .int (108 : Int32), .int (109 : Int32), .int (110 : Int32), .int (111 : Int32), .int (112 : Int32), .int (113 : Int32), .int (114 : Int32), .int (115 : Int32), .int (116 : Int32), .int (117 : Int32), .int (118 : Int32), .int (119 : Int32), .int (120 : Int32), .int (121 : Int32), .int (122 : Int32), .int (57 : Int32)]) (z := (64 : Int32)) ⟨by decide, by decide⟩ (by decide) (by decide) (g := (mkF m 163 #[.val (.int p1), .val (.int p2), .val (.int p3), .val (.int p4), .val (.int p5), .val (.int c1), .val (.int c2), .val (.int c3), .val (.int c4), .val (.ref b5), .val (.ref b7), .val (.ref b9), .val (.ref b11), .val (.int (p1 &&& (3 : Int32))), .val (.ref b9), .val (.ref b49), .unset, .unset, .unset] [])) rfl (hb hby at_163) (n := 256) (by decide) (by decide) (by decide) (by decide)
        have K53 := keepE E53
        have M53 := M51.ext E53
        clear hS hk
        replace Sf_b5 := CHr.safe A53 V_b5.lt Sf_b5
        replace Sf_b7 := CHr.safe A53 V_b7.lt Sf_b7
        replace Sf_b9 := CHr.safe A53 V_b9.lt Sf_b9
        replace Sf_b11 := CHr.safe A53 V_b11.lt Sf_b11
        replace Sf_b49 := CHr.safe A53 S_b49.lt1 Sf_b49
        replace Sf_t51 := CHr.safe A53 S_b49.lt2 Sf_t51
        replace RH := RH.trans A53
        replace Z_cs := StaKeep Z_cs K53 all0
        replace Z_fm := StaKeep Z_fm K53 all0
        replace V_b5 := V_b5.keep K53 nin0
        replace V_b7 := V_b7.keep K53 nin0
        replace V_b9 := V_b9.keep K53 nin0
        replace V_b11 := V_b11.keep K53 nin0
        replace S_b49 := S_b49.keep K53 nin0 nin0
        have hS := hS53
        have hk := hk53
        replace hZ := hZ53
        replace hown := hown53
        have ne_b5_sa53 := (hne53 _ Sf_b5).1
        have ne_b5_sb53 := (hne53 _ Sf_b5).2
        have ne_b7_sa53 := (hne53 _ Sf_b7).1
        have ne_b7_sb53 := (hne53 _ Sf_b7).2
        have ne_b9_sa53 := (hne53 _ Sf_b9).1
        have ne_b9_sb53 := (hne53 _ Sf_b9).2
        have ne_b11_sa53 := (hne53 _ Sf_b11).1
        have ne_b11_sb53 := (hne53 _ Sf_b11).2
        have ne_b49_sa53 := (hne53 _ Sf_b49).1
        have ne_b49_sb53 := (hne53 _ Sf_b49).2
        have ne_t51_sa53 := (hne53 _ Sf_t51).1
        have ne_t51_sb53 := (hne53 _ Sf_t51).2
        refine Go.of (T' := T53) (f' := (mkF m 165 #[.val (.int p1), .val (.int p2), .val (.int p3), .val (.int p4), .val (.int p5), .val (.int c1), .val (.int c2), .val (.int c3), .val (.int c4), .val (.ref b5), .val (.ref b7), .val (.ref b9), .val (.ref b11), .val (.int (p1 &&& (3 : Int32))), .val (.ref b9), .val (.ref b49), .unset, .unset, .unset] [(.ref sa53)])) st53 ?_
        have S_lit := strLit E_sa53 F_vl53 F_cd53 V_sb53
        refine Go.of (T' := T53) (f' := (mkF m 167 #[.val (.int p1), .val (.int p2), .val (.int p3), .val (.int p4), .val (.int p5), .val (.int c1), .val (.int c2), .val (.int c3), .val (.int c4), .val (.ref b5), .val (.ref b7), .val (.ref b9), .val (.ref b11), .val (.int (p1 &&& (3 : Int32))), .val (.ref b9), .val (.ref b49), .val (.ref sa53), .unset, .unset] [])) (fun _ k => XS.astore X53.here hx rfl (hb hby at_165) rfl rfl (l' := #[.val (.int p1), .val (.int p2), .val (.int p3), .val (.int p4), .val (.int p5), .val (.int c1), .val (.int c2), .val (.int c3), .val (.int c4), .val (.ref b5), .val (.ref b7), .val (.ref b9), .val (.ref b11), .val (.int (p1 &&& (3 : Int32))), .val (.ref b9), .val (.ref b49), .val (.ref sa53), .unset, .unset]) rfl k) ?_
        refine Go.of (T' := T53) (f' := (mkF m 169 #[.val (.int p1), .val (.int p2), .val (.int p3), .val (.int p4), .val (.int p5), .val (.int c1), .val (.int c2), .val (.int c3), .val (.int c4), .val (.ref b5), .val (.ref b7), .val (.ref b9), .val (.ref b11), .val (.int (p1 &&& (3 : Int32))), .val (.ref b9), .val (.ref b49), .val (.ref sa53), .unset, .unset] [(.ref b49)])) (fun _ k => XS.aload X53.here hx rfl (hb hby at_167) rfl rfl k) ?_
        refine goS X53 hx hZ hown (hw _ (List.mem_of_getElem? (i := 41) rfl)) (hw _ (List.mem_of_getElem? (i := 42) rfl)) (hw _ (List.mem_of_getElem? (i := 43) rfl)) (hw _ (List.mem_of_getElem? (i := 44) rfl)) (by decide) (C := 0) (S := 0) ((rm_require l Z a0 hw b49 t51 [c1, c2, c3] zc fm h53 S_b49 (nameLat hNm) hNm Z_cs hz Z_fm hfm).bk (W := 0) hZ (hw _ (List.mem_of_getElem? (i := 44) rfl)) (hw _ (List.mem_of_getElem? (i := 43) rfl)) (by decide) (by decide)) e53 (argsL := [(.ref b49)]) (rest := []) (by rw [hml]; rfl) (lenOf pd__Ljava_lang_String__Ljava_lang_String_ rfl) rfl rfl (hb hby at_169) (Nat.le_of_eq rfl) (by decide) (by decide) ?_
        intro v54 T54 L54 X54 hQ54
        obtain ⟨nq54, e54, rfl⟩ := hQ54
        replace X54 := standNil X54 nq54
        show Go p e below P T54 (mkF m 172 #[.val (.int p1), .val (.int p2), .val (.int p3), .val (.int p4), .val (.int p5), .val (.int c1), .val (.int c2), .val (.int c3), .val (.int c4), .val (.ref b5), .val (.ref b7), .val (.ref b9), .val (.ref b11), .val (.int (p1 &&& (3 : Int32))), .val (.ref b9), .val (.ref b49), .val (.ref sa53), .unset, .unset] [(.ref b49)])
        refine Go.of (T' := T54) (f' := (mkF m 174 #[.val (.int p1), .val (.int p2), .val (.int p3), .val (.int p4), .val (.int p5), .val (.int c1), .val (.int c2), .val (.int c3), .val (.int c4), .val (.ref b5), .val (.ref b7), .val (.ref b9), .val (.ref b11), .val (.int (p1 &&& (3 : Int32))), .val (.ref b9), .val (.ref b49), .val (.ref sa53), .val (.ref b49), .unset] [])) (fun _ k => XS.astore X54.here hx rfl (hb hby at_172) rfl rfl (l' := #[.val (.int p1), .val (.int p2), .val (.int p3), .val (.int p4), .val (.int p5), .val (.int c1), .val (.int c2), .val (.int c3), .val (.int c4), .val (.ref b5), .val (.ref b7), .val (.ref b9), .val (.ref b11), .val (.int (p1 &&& (3 : Int32))), .val (.ref b9), .val (.ref b49), .val (.ref sa53), .val (.ref b49), .unset]) rfl k) ?_
        refine Go.of (T' := T54) (f' := (mkF m 176 #[.val (.int p1), .val (.int p2), .val (.int p3), .val (.int p4), .val (.int p5), .val (.int c1), .val (.int c2), .val (.int c3), .val (.int c4), .val (.ref b5), .val (.ref b7), .val (.ref b9), .val (.ref b11), .val (.int (p1 &&& (3 : Int32))), .val (.ref b9), .val (.ref b49), .val (.ref sa53), .val (.ref b49), .unset] [(.ref sa53)])) (fun _ k => XS.aload X54.here hx rfl (hb hby at_174) rfl rfl k) ?_
        refine goS X54 hx hZ hown (hw _ (List.mem_of_getElem? (i := 41) rfl)) (hw _ (List.mem_of_getElem? (i := 42) rfl)) (hw _ (List.mem_of_getElem? (i := 43) rfl)) (hw _ (List.mem_of_getElem? (i := 44) rfl)) (by decide) (C := 0) (S := 0) ((rm_require l Z a0 hw sa53 sb53 litCs zc fm h53 S_lit (nameLat litName) litName Z_cs hz Z_fm hfm).bk (W := 0) hZ (hw _ (List.mem_of_getElem? (i := 44) rfl)) (hw _ (List.mem_of_getElem? (i := 43) rfl)) (by decide) (by decide)) e54 (argsL := [(.ref sa53)]) (rest := []) (by rw [hml]; rfl) (lenOf pd__Ljava_lang_String__Ljava_lang_String_ rfl) rfl rfl (hb hby at_176) (Nat.le_of_eq rfl) (by decide) (by decide) ?_
        intro v55 T55 L55 X55 hQ55
        obtain ⟨nq55, e55, rfl⟩ := hQ55
        replace X55 := standNil X55 nq55
        show Go p e below P T55 (mkF m 179 #[.val (.int p1), .val (.int p2), .val (.int p3), .val (.int p4), .val (.int p5), .val (.int c1), .val (.int c2), .val (.int c3), .val (.int c4), .val (.ref b5), .val (.ref b7), .val (.ref b9), .val (.ref b11), .val (.int (p1 &&& (3 : Int32))), .val (.ref b9), .val (.ref b49), .val (.ref sa53), .val (.ref b49), .unset] [(.ref sa53)])
        refine Go.of (T' := T55) (f' := (mkF m 181 #[.val (.int p1), .val (.int p2), .val (.int p3), .val (.int p4), .val (.int p5), .val (.int c1), .val (.int c2), .val (.int c3), .val (.int c4), .val (.ref b5), .val (.ref b7), .val (.ref b9), .val (.ref b11), .val (.int (p1 &&& (3 : Int32))), .val (.ref b9), .val (.ref b49), .val (.ref sa53), .val (.ref b49), .val (.ref sa53)] [])) (fun _ k => XS.astore X55.here hx rfl (hb hby at_179) rfl rfl (l' := #[.val (.int p1), .val (.int p2), .val (.int p3), .val (.int p4), .val (.int p5), .val (.int c1), .val (.int c2), .val (.int c3), .val (.int c4), .val (.ref b5), .val (.ref b7), .val (.ref b9), .val (.ref b11), .val (.int (p1 &&& (3 : Int32))), .val (.ref b9), .val (.ref b49), .val (.ref sa53), .val (.ref b49), .val (.ref sa53)]) rfl k) ?_
        refine Go.of (T' := T55) (f' := (mkF m 183 #[.val (.int p1), .val (.int p2), .val (.int p3), .val (.int p4), .val (.int p5), .val (.int c1), .val (.int c2), .val (.int c3), .val (.int c4), .val (.ref b5), .val (.ref b7), .val (.ref b9), .val (.ref b11), .val (.int (p1 &&& (3 : Int32))), .val (.ref b9), .val (.ref b49), .val (.ref sa53), .val (.ref b49), .val (.ref sa53)] [(.ref b49)])) (fun _ k => XS.aload X55.here hx rfl (hb hby at_181) rfl rfl k) ?_
        refine Go.of (T' := T55) (f' := (mkF m 185 #[.val (.int p1), .val (.int p2), .val (.int p3), .val (.int p4), .val (.int p5), .val (.int c1), .val (.int c2), .val (.int c3), .val (.int c4), .val (.ref b5), .val (.ref b7), .val (.ref b9), .val (.ref b11), .val (.int (p1 &&& (3 : Int32))), .val (.ref b9), .val (.ref b49), .val (.ref sa53), .val (.ref b49), .val (.ref sa53)] [(.ref b49), (.ref b49)])) (fun _ k => XS.aload X55.here hx rfl (hb hby at_183) rfl rfl k) ?_
        refine Go.of (T' := T55) (f' := (mkF m 188 #[.val (.int p1), .val (.int p2), .val (.int p3), .val (.int p4), .val (.int p5), .val (.int c1), .val (.int c2), .val (.int c3), .val (.int c4), .val (.ref b5), .val (.ref b7), .val (.ref b9), .val (.ref b11), .val (.int (p1 &&& (3 : Int32))), .val (.ref b9), .val (.ref b49), .val (.ref sa53), .val (.ref b49), .val (.ref sa53)] [])) (fun _ k => Jvm.RoadKit.acmp (g := (mkF m 185 #[.val (.int p1), .val (.int p2), .val (.int p3), .val (.int p4), .val (.int p5), .val (.int c1), .val (.int c2), .val (.int c3), .val (.int c4), .val (.ref b5), .val (.ref b7), .val (.ref b9), .val (.ref b11), .val (.int (p1 &&& (3 : Int32))), .val (.ref b9), .val (.ref b49), .val (.ref sa53), .val (.ref b49), .val (.ref sa53)] [(.ref b49), (.ref b49)])) X55 hx rfl rfl rfl (pc0 := 185) (pc' := 188) (same := true) rfl (hb hby at_185) rfl (decide_eq_true rfl) (by decide) (by decide) k) ?_
        refine Go.of (T' := T55) (f' := (mkF m 190 #[.val (.int p1), .val (.int p2), .val (.int p3), .val (.int p4), .val (.int p5), .val (.int c1), .val (.int c2), .val (.int c3), .val (.int c4), .val (.ref b5), .val (.ref b7), .val (.ref b9), .val (.ref b11), .val (.int (p1 &&& (3 : Int32))), .val (.ref b9), .val (.ref b49), .val (.ref sa53), .val (.ref b49), .val (.ref sa53)] [(.ref sa53)])) (fun _ k => XS.aload X55.here hx rfl (hb hby at_188) rfl rfl k) ?_
        refine Go.of (T' := T55) (f' := (mkF m 192 #[.val (.int p1), .val (.int p2), .val (.int p3), .val (.int p4), .val (.int p5), .val (.int c1), .val (.int c2), .val (.int c3), .val (.int c4), .val (.ref b5), .val (.ref b7), .val (.ref b9), .val (.ref b11), .val (.int (p1 &&& (3 : Int32))), .val (.ref b9), .val (.ref b49), .val (.ref sa53), .val (.ref b49), .val (.ref sa53)] [(.ref sa53), (.ref sa53)])) (fun _ k => XS.aload X55.here hx rfl (hb hby at_190) rfl rfl k) ?_
        refine Go.of (T' := T55) (f' := (mkF m 195 #[.val (.int p1), .val (.int p2), .val (.int p3), .val (.int p4), .val (.int p5), .val (.int c1), .val (.int c2), .val (.int c3), .val (.int c4), .val (.ref b5), .val (.ref b7), .val (.ref b9), .val (.ref b11), .val (.int (p1 &&& (3 : Int32))), .val (.ref b9), .val (.ref b49), .val (.ref sa53), .val (.ref b49), .val (.ref sa53)] [])) (fun _ k => Jvm.RoadKit.acmp (g := (mkF m 192 #[.val (.int p1), .val (.int p2), .val (.int p3), .val (.int p4), .val (.int p5), .val (.int c1), .val (.int c2), .val (.int c3), .val (.int c4), .val (.ref b5), .val (.ref b7), .val (.ref b9), .val (.ref b11), .val (.int (p1 &&& (3 : Int32))), .val (.ref b9), .val (.ref b49), .val (.ref sa53), .val (.ref b49), .val (.ref sa53)] [(.ref sa53), (.ref sa53)])) X55 hx rfl rfl rfl (pc0 := 192) (pc' := 195) (same := true) rfl (hb hby at_192) rfl (decide_eq_true rfl) (by decide) (by decide) k) ?_
        refine Go.of (T' := T55) (f' := (mkF m 197 #[.val (.int p1), .val (.int p2), .val (.int p3), .val (.int p4), .val (.int p5), .val (.int c1), .val (.int c2), .val (.int c3), .val (.int c4), .val (.ref b5), .val (.ref b7), .val (.ref b9), .val (.ref b11), .val (.int (p1 &&& (3 : Int32))), .val (.ref b9), .val (.ref b49), .val (.ref sa53), .val (.ref b49), .val (.ref sa53)] [(.ref sa53)])) (fun _ k => XS.aload X55.here hx rfl (hb hby at_195) rfl rfl k) ?_
        refine goV X55 hx hZ (y := (⟨"java/lang/String", "length", "()I"⟩ : MethodName)) (z := (⟨"java/lang/String", "length", "()I"⟩ : MethodName)) hown (hw _ (List.mem_of_getElem? (i := 85) rfl)) (hw _ (List.mem_of_getElem? (i := 51) rfl)) (notFace_of_selects (args := #[]) (mvT hZ (hw _ (List.mem_of_getElem? (i := 53) rfl)))) (hw _ (List.mem_of_getElem? (i := 53) rfl)) (hw _ (List.mem_of_getElem? (i := 52) rfl)) (by decide) (C := 0) (S := 0) (lenStr (W := 0) hZ (hw_wordsLen hw) (hw _ (List.mem_of_getElem? (i := 10) rfl)) S_lit Z_cs hz (by decide) (by decide)) e55 S_lit.exa (argsL := []) (rest := []) (by rw [hml]; rfl) (lenOf pd___I rfl) rfl rfl (hb hby at_197) (Nat.le_of_eq rfl) (by decide) (by decide) ?_
        intro v56 T56 L56 X56 hQ56
        obtain ⟨nq56, e56, rfl⟩ := hQ56
        replace X56 := standNil X56 nq56
        show Go p e below P T56 (mkF m 200 #[.val (.int p1), .val (.int p2), .val (.int p3), .val (.int p4), .val (.int p5), .val (.int c1), .val (.int c2), .val (.int c3), .val (.int c4), .val (.ref b5), .val (.ref b7), .val (.ref b9), .val (.ref b11), .val (.int (p1 &&& (3 : Int32))), .val (.ref b9), .val (.ref b49), .val (.ref sa53), .val (.ref b49), .val (.ref sa53)] [(.int (Int32.ofNat litCs.length))])
        refine Go.of (T' := T56) (f' := (mkF m 202 #[.val (.int p1), .val (.int p2), .val (.int p3), .val (.int p4), .val (.int p5), .val (.int c1), .val (.int c2), .val (.int c3), .val (.int c4), .val (.ref b5), .val (.ref b7), .val (.ref b9), .val (.ref b11), .val (.int (p1 &&& (3 : Int32))), .val (.ref b9), .val (.ref b49), .val (.ref sa53), .val (.ref b49), .val (.ref sa53)] [(.int (64 : Int32)), (.int (Int32.ofNat litCs.length))])) (fun _ k => XS.bipush X56.here hx rfl (hb hby at_200) k) ?_
        have hc202 : (Int32.ofNat litCs.length) = (64 : Int32) := by decide
        refine Go.of (T' := T56) (f' := (mkF m 205 #[.val (.int p1), .val (.int p2), .val (.int p3), .val (.int p4), .val (.int p5), .val (.int c1), .val (.int c2), .val (.int c3), .val (.int c4), .val (.ref b5), .val (.ref b7), .val (.ref b9), .val (.ref b11), .val (.int (p1 &&& (3 : Int32))), .val (.ref b9), .val (.ref b49), .val (.ref sa53), .val (.ref b49), .val (.ref sa53)] [])) (fun _ k => XS.icmpNo X56.here hx rfl (hb hby at_202) rfl (teq hc202).2 k) ?_
        refine Go.of (T' := T56) (f' := (mkF m 206 #[.val (.int p1), .val (.int p2), .val (.int p3), .val (.int p4), .val (.int p5), .val (.int c1), .val (.int c2), .val (.int c3), .val (.int c4), .val (.ref b5), .val (.ref b7), .val (.ref b9), .val (.ref b11), .val (.int (p1 &&& (3 : Int32))), .val (.ref b9), .val (.ref b49), .val (.ref sa53), .val (.ref b49), .val (.ref sa53)] [(.int (1 : Int32))])) (fun _ k => XS.iconst X56.here hx rfl (hb hby at_205) k) ?_
        refine Go.of (T' := T56) (f' := (mkF m 210 #[.val (.int p1), .val (.int p2), .val (.int p3), .val (.int p4), .val (.int p5), .val (.int c1), .val (.int c2), .val (.int c3), .val (.int c4), .val (.ref b5), .val (.ref b7), .val (.ref b9), .val (.ref b11), .val (.int (p1 &&& (3 : Int32))), .val (.ref b9), .val (.ref b49), .val (.ref sa53), .val (.ref b49), .val (.ref sa53)] [(.int (1 : Int32))])) (fun _ k => XS.goto X56.here hx rfl (pc0 := 206) (pc' := 210) rfl (hb hby at_206) (by decide) (by decide) k) ?_
        exact goRetIH (Q := fun v h L => v = some (.int 1) ∧ Mv h0 h [] L) X56 hx hZ hS hk (hEL_1 hw) RH (t := .boolean) hret hlk rfl (by simp) (hb hby at_210) K (by decide) (by decide) e56 (⟨rfl, M53⟩)
      ·
        refine Go.of (T' := T31) (f' := (mkF m 148 #[.val (.int p1), .val (.int p2), .val (.int p3), .val (.int p4), .val (.int p5), .val (.int c1), .val (.int c2), .val (.int c3), .val (.int c4), .val (.ref b5), .val (.ref b7), .val (.ref b9), .val (.ref b11), .val (.int (p1 &&& (3 : Int32))), .unset, .unset, .unset, .unset, .unset] [])) (fun _ k => XS.icmpYes X31.here hx rfl (pc0 := 138) (pc' := 148) rfl (hb hby at_138) rfl (feq hc138).2 (by decide) (by decide) k) ?_
        refine Go.of (T' := T31) (f' := (mkF m 150 #[.val (.int p1), .val (.int p2), .val (.int p3), .val (.int p4), .val (.int p5), .val (.int c1), .val (.int c2), .val (.int c3), .val (.int c4), .val (.ref b5), .val (.ref b7), .val (.ref b9), .val (.ref b11), .val (.int (p1 &&& (3 : Int32))), .unset, .unset, .unset, .unset, .unset] [(.ref b11)])) (fun _ k => XS.aload X31.here hx rfl (hb hby at_148) rfl rfl k) ?_
        refine Go.of (T' := T31) (f' := (mkF m 152 #[.val (.int p1), .val (.int p2), .val (.int p3), .val (.int p4), .val (.int p5), .val (.int c1), .val (.int c2), .val (.int c3), .val (.int c4), .val (.ref b5), .val (.ref b7), .val (.ref b9), .val (.ref b11), .val (.int (p1 &&& (3 : Int32))), .val (.ref b11), .unset, .unset, .unset, .unset] [])) (fun _ k => XS.astore X31.here hx rfl (hb hby at_150) rfl rfl (l' := #[.val (.int p1), .val (.int p2), .val (.int p3), .val (.int p4), .val (.int p5), .val (.int c1), .val (.int c2), .val (.int c3), .val (.int c4), .val (.ref b5), .val (.ref b7), .val (.ref b9), .val (.ref b11), .val (.int (p1 &&& (3 : Int32))), .val (.ref b11), .unset, .unset, .unset, .unset]) rfl k) ?_
        obtain ⟨T57, h57, X57, e57, E57, A57, D57, -, st57⟩ := newO X31 hx hZ hown (hw _ (List.mem_of_getElem? (i := 9) rfl)) (hw _ (List.mem_of_getElem? (i := 10) rfl)) (hw _ (List.mem_of_getElem? (i := 11) rfl)) e31 (g := (mkF m 152 #[.val (.int p1), .val (.int p2), .val (.int p3), .val (.int p4), .val (.int p5), .val (.int c1), .val (.int c2), .val (.int c3), .val (.int c4), .val (.ref b5), .val (.ref b7), .val (.ref b9), .val (.ref b11), .val (.int (p1 &&& (3 : Int32))), .val (.ref b11), .unset, .unset, .unset, .unset] [])) rfl (hb hby at_152) (by decide) (by decide)
        obtain ⟨b57, g57⟩ : ∃ z, z = h31.size := ⟨_, rfl⟩
        rw [← g57] at A57 D57 st57
        have ne_b5_b57 : b5 ≠ b57 := Nat.ne_of_lt (Nat.lt_of_lt_of_le V_b5.lt (Nat.le_of_eq g57.symm))
        have ne_b7_b57 : b7 ≠ b57 := Nat.ne_of_lt (Nat.lt_of_lt_of_le V_b7.lt (Nat.le_of_eq g57.symm))
        have ne_b9_b57 : b9 ≠ b57 := Nat.ne_of_lt (Nat.lt_of_lt_of_le V_b9.lt (Nat.le_of_eq g57.symm))
        have ne_b11_b57 : b11 ≠ b57 := Nat.ne_of_lt (Nat.lt_of_lt_of_le V_b11.lt (Nat.le_of_eq g57.symm))
        have fr_b57 : h0.size ≤ b57 := Nat.le_trans M31.le (Nat.le_of_eq g57.symm)
        have Sf_b57 := Safe.new (Z := Z) (EL := consts_1) (vm := s.vm) (Nat.le_of_eq g57.symm)
        have K57 := keepE E57
        have M57 := M31.ext E57
        replace hk := Nat.le_trans hk (K57).1
        have hs58 := CHr.keep (K57) sf0 RH.1
        replace Sf_b5 := Safe.keep (K57) sf0 RH.1 Sf_b5
        replace Sf_b7 := Safe.keep (K57) sf0 RH.1 Sf_b7
        replace Sf_b9 := Safe.keep (K57) sf0 RH.1 Sf_b9
        replace Sf_b11 := Safe.keep (K57) sf0 RH.1 Sf_b11
        replace Sf_b57 := Safe.keep (K57) sf0 RH.1 Sf_b57
        replace RH := RH.trans hs58
        replace Z_cs := StaKeep Z_cs K57 all0
        replace Z_fm := StaKeep Z_fm K57 all0
        replace V_b5 := V_b5.keep K57 nin0
        replace V_b7 := V_b7.keep K57 nin0
        replace V_b9 := V_b9.keep K57 nin0
        replace V_b11 := V_b11.keep K57 nin0
        have E_b57 := A57
        have F_coder_b57 : Fld Z h57 b57 "java/lang/String" "coder" "B" (.int (0 : Int32)) := D57 (Or.inr (hw _ (List.mem_of_getElem? (i := 35) rfl))) (ty := .byte) (by decide)
        have F_value_b57 : Fld Z h57 b57 "java/lang/String" "value" "[B" .null := D57 (Or.inr (hw _ (List.mem_of_getElem? (i := 37) rfl))) (ty := (.array .byte)) (by decide)
        refine Go.of (T' := T57) (f' := (mkF m 155 #[.val (.int p1), .val (.int p2), .val (.int p3), .val (.int p4), .val (.int p5), .val (.int c1), .val (.int c2), .val (.int c3), .val (.int c4), .val (.ref b5), .val (.ref b7), .val (.ref b9), .val (.ref b11), .val (.int (p1 &&& (3 : Int32))), .val (.ref b11), .unset, .unset, .unset, .unset] [(.ref b57)])) st57 ?_
        refine Go.of (T' := T57) (f' := (mkF m 156 #[.val (.int p1), .val (.int p2), .val (.int p3), .val (.int p4), .val (.int p5), .val (.int c1), .val (.int c2), .val (.int c3), .val (.int c4), .val (.ref b5), .val (.ref b7), .val (.ref b9), .val (.ref b11), .val (.int (p1 &&& (3 : Int32))), .val (.ref b11), .unset, .unset, .unset, .unset] [(.ref b57), (.ref b57)])) (fun _ k => XS.dup X57.here hx rfl (hb hby at_155) rfl rfl k) ?_
        refine Go.of (T' := T57) (f' := (mkF m 158 #[.val (.int p1), .val (.int p2), .val (.int p3), .val (.int p4), .val (.int p5), .val (.int c1), .val (.int c2), .val (.int c3), .val (.int c4), .val (.ref b5), .val (.ref b7), .val (.ref b9), .val (.ref b11), .val (.int (p1 &&& (3 : Int32))), .val (.ref b11), .unset, .unset, .unset, .unset] [(.ref b11), (.ref b57), (.ref b57)])) (fun _ k => XS.aload X57.here hx rfl (hb hby at_156) rfl rfl k) ?_
        refine goI X57 hx hZ rfl hown (hw _ (List.mem_of_getElem? (i := 12) rfl)) (hw _ (List.mem_of_getElem? (i := 13) rfl)) (hw _ (List.mem_of_getElem? (i := 14) rfl)) (by decide) (C := 1) (S := 4) (newStr (W := 1) hZ (hw_words hw) (hw _ (List.mem_of_getElem? (i := 10) rfl)) (cs := [c1, c2, c3, c4]) E_b57 F_value_b57 F_coder_b57 V_b11 rfl Z_cs hz (n := 4) rfl rfl (by decide) (by decide) (by intro c hc; simp only [List.mem_cons, List.not_mem_nil, or_false] at hc; rcases hc with rfl | rfl | rfl | rfl <;> first | exact rst_lat hR_c1 | exact rst_lat hR_c2 | exact rst_lat hR_c3 | exact rst_lat hR_c4) (by decide) (by decide)) e57 (argsL := [(.ref b11)]) (rest := [(.ref b57)]) (by rw [hml]; rfl) (lenOf pd___C_V rfl) rfl rfl (hb hby at_158) (Nat.le_of_eq rfl) (by decide) (by decide) ?_
        intro v59 T59 L59 X59 hQ59
        obtain ⟨h59, e59⟩ : ∃ z, T59.heap = z := ⟨_, rfl⟩
        rw [e59] at hQ59
        have E_b57_o := E_b57
        obtain ⟨rfl, Mc59, t59, le59, S59⟩ := hQ59
        have ne_b5_t59 : b5 ≠ t59 := Nat.ne_of_lt (Nat.lt_of_lt_of_le V_b5.lt le59)
        have ne_b7_t59 : b7 ≠ t59 := Nat.ne_of_lt (Nat.lt_of_lt_of_le V_b7.lt le59)
        have ne_b9_t59 : b9 ≠ t59 := Nat.ne_of_lt (Nat.lt_of_lt_of_le V_b9.lt le59)
        have ne_b11_t59 : b11 ≠ t59 := Nat.ne_of_lt (Nat.lt_of_lt_of_le V_b11.lt le59)
        have ne_b57_t59 : b57 ≠ t59 := Nat.ne_of_lt (Nat.lt_of_lt_of_le E_b57.lt le59)
        have fr_t59 : h0.size ≤ t59 := Nat.le_trans M57.le le59
        have Sf_t59 := Safe.new (Z := Z) (EL := consts_1) (vm := s.vm) le59
        have M59 := M57.app Mc59 (allS (Or.inr fr_b57) all0)
        replace hk := Nat.le_trans hk (Mc59.1).1
        have hq60 : ∀ x ∈ ([b57] : List Addr), Safe Z consts_1 s.vm h57 x := (sfS Sf_b57 sf0)
        have hs60 := CHr.keep (Mc59.1) hq60 RH.1
        replace Sf_b5 := Safe.keep (Mc59.1) hq60 RH.1 Sf_b5
        replace Sf_b7 := Safe.keep (Mc59.1) hq60 RH.1 Sf_b7
        replace Sf_b9 := Safe.keep (Mc59.1) hq60 RH.1 Sf_b9
        replace Sf_b11 := Safe.keep (Mc59.1) hq60 RH.1 Sf_b11
        replace Sf_b57 := Safe.keep (Mc59.1) hq60 RH.1 Sf_b57
        replace Sf_t59 := Safe.keep (Mc59.1) hq60 RH.1 Sf_t59
        replace RH := RH.trans hs60
        replace Z_cs := StaKeep Z_cs Mc59.1 (allS (staExa E_b57_o) all0)
        replace Z_fm := StaKeep Z_fm Mc59.1 (allS (staExa E_b57_o) all0)
        replace V_b5 := V_b5.keep Mc59.1 (ninS ne_b5_b57 nin0)
        replace V_b7 := V_b7.keep Mc59.1 (ninS ne_b7_b57 nin0)
        replace V_b9 := V_b9.keep Mc59.1 (ninS ne_b9_b57 nin0)
        replace V_b11 := V_b11.keep Mc59.1 (ninS ne_b11_b57 nin0)
        replace E_b57 := E_b57.keep Mc59.1
        have S_b57 := S59
        show Go p e below P T59 (mkF m 161 #[.val (.int p1), .val (.int p2), .val (.int p3), .val (.int p4), .val (.int p5), .val (.int c1), .val (.int c2), .val (.int c3), .val (.int c4), .val (.ref b5), .val (.ref b7), .val (.ref b9), .val (.ref b11), .val (.int (p1 &&& (3 : Int32))), .val (.ref b11), .unset, .unset, .unset, .unset] [(.ref b57)])
        refine Go.of (T' := T59) (f' := (mkF m 163 #[.val (.int p1), .val (.int p2), .val (.int p3), .val (.int p4), .val (.int p5), .val (.int c1), .val (.int c2), .val (.int c3), .val (.int c4), .val (.ref b5), .val (.ref b7), .val (.ref b9), .val (.ref b11), .val (.int (p1 &&& (3 : Int32))), .val (.ref b11), .val (.ref b57), .unset, .unset, .unset] [])) (fun _ k => XS.astore X59.here hx rfl (hb hby at_161) rfl rfl (l' := #[.val (.int p1), .val (.int p2), .val (.int p3), .val (.int p4), .val (.int p5), .val (.int c1), .val (.int c2), .val (.int c3), .val (.int c4), .val (.ref b5), .val (.ref b7), .val (.ref b9), .val (.ref b11), .val (.int (p1 &&& (3 : Int32))), .val (.ref b11), .val (.ref b57), .unset, .unset, .unset]) rfl k) ?_
        have hNm : Name [c1, c2, c3, c4] := nameOf hc1_ (by intro d hd; simp only [List.mem_cons, List.not_mem_nil, or_false] at hd; rcases hd with rfl | rfl | rfl <;> first | exact hR_c1 | exact hR_c2 | exact hR_c3 | exact hR_c4) (by simp)
        obtain ⟨sa61, T61, h61, k61, sb61, kb61, X61, e61, E61, hS61, hk61, hZ61, hown61, E_sa61, F_cd61, F_vl61, V_sb61, -, -, A61, -, hne61, st61⟩ := ldcCH X59 hx hZ hown (hw _ (List.mem_of_getElem? (i := 38) rfl)) (hw_sA hw) e59 hS hk (hEL_1 hw) (by decide) RH.1 (vs := [.int (97 : Int32), .int (98 : Int32), .int (99 : Int32), .int (100 : Int32), .int (101 : Int32), .int (102 : Int32), .int (103 : Int32), .int (104 : Int32), .int (105 : Int32), .int (106 : Int32), .int (107 : Int32), .int (108 : Int32), .int (109 : Int32), .int (110 : Int32), .int (111 : Int32), .int (112 : Int32), .int (113 : Int32), .int (114 : Int32), .int (115 : Int32), .int (116 : Int32), .int (117 : Int32), .int (118 : Int32), .int (119 : Int32), .int (120 : Int32), .int (121 : Int32), .int (122 : Int32), .int (48 : Int32), .int (49 : Int32), .int (50 : Int32), .int (51 : Int32), .int (52 : Int32), .int (53 : Int32), .int (54 : Int32), .int (55 : Int32), .int (56 : Int32), .int (57 : Int32), .int (95 : Int32), .int (97 : Int32), .int (98 : Int32), .int (99 : Int32), .int (100 : Int32), .int (101 : Int32), .int (102 : Int32), .int (103 : Int32), .int (104 : Int32), .int (105 : Int32), .int (106 : Int32), .int (107 : Int32), .int (108 : Int32), .int (109 : Int32), .int (110 : Int32), .int (111 : Int32), .int (112 : Int32), .int (113 : Int32), .int (114 : Int32), .int (115 : Int32), .int (116 : Int32), .int (117 : Int32), .int (118 : Int32), .int (119 : Int32), .int (120 : Int32), .int (121 : Int32), .int (122 : Int32), .int (57 : Int32)]) (z := (64 : Int32)) ⟨by decide, by decide⟩ (by decide) (by decide) (g := (mkF m 163 #[.val (.int p1), .val (.int p2), .val (.int p3), .val (.int p4), .val (.int p5), .val (.int c1), .val (.int c2), .val (.int c3), .val (.int c4), .val (.ref b5), .val (.ref b7), .val (.ref b9), .val (.ref b11), .val (.int (p1 &&& (3 : Int32))), .val (.ref b11), .val (.ref b57), .unset, .unset, .unset] [])) rfl (hb hby at_163) (n := 256) (by decide) (by decide) (by decide) (by decide)
        have K61 := keepE E61
        have M61 := M59.ext E61
        clear hS hk
        replace Sf_b5 := CHr.safe A61 V_b5.lt Sf_b5
        replace Sf_b7 := CHr.safe A61 V_b7.lt Sf_b7
        replace Sf_b9 := CHr.safe A61 V_b9.lt Sf_b9
        replace Sf_b11 := CHr.safe A61 V_b11.lt Sf_b11
        replace Sf_b57 := CHr.safe A61 S_b57.lt1 Sf_b57
        replace Sf_t59 := CHr.safe A61 S_b57.lt2 Sf_t59
        replace RH := RH.trans A61
        replace Z_cs := StaKeep Z_cs K61 all0
        replace Z_fm := StaKeep Z_fm K61 all0
        replace V_b5 := V_b5.keep K61 nin0
        replace V_b7 := V_b7.keep K61 nin0
        replace V_b9 := V_b9.keep K61 nin0
        replace V_b11 := V_b11.keep K61 nin0
        replace S_b57 := S_b57.keep K61 nin0 nin0
        have hS := hS61
        have hk := hk61
        replace hZ := hZ61
        replace hown := hown61
        have ne_b5_sa61 := (hne61 _ Sf_b5).1
        have ne_b5_sb61 := (hne61 _ Sf_b5).2
        have ne_b7_sa61 := (hne61 _ Sf_b7).1
        have ne_b7_sb61 := (hne61 _ Sf_b7).2
        have ne_b9_sa61 := (hne61 _ Sf_b9).1
        have ne_b9_sb61 := (hne61 _ Sf_b9).2
        have ne_b11_sa61 := (hne61 _ Sf_b11).1
        have ne_b11_sb61 := (hne61 _ Sf_b11).2
        have ne_b57_sa61 := (hne61 _ Sf_b57).1
        have ne_b57_sb61 := (hne61 _ Sf_b57).2
        have ne_t59_sa61 := (hne61 _ Sf_t59).1
        have ne_t59_sb61 := (hne61 _ Sf_t59).2
        refine Go.of (T' := T61) (f' := (mkF m 165 #[.val (.int p1), .val (.int p2), .val (.int p3), .val (.int p4), .val (.int p5), .val (.int c1), .val (.int c2), .val (.int c3), .val (.int c4), .val (.ref b5), .val (.ref b7), .val (.ref b9), .val (.ref b11), .val (.int (p1 &&& (3 : Int32))), .val (.ref b11), .val (.ref b57), .unset, .unset, .unset] [(.ref sa61)])) st61 ?_
        have S_lit := strLit E_sa61 F_vl61 F_cd61 V_sb61
        refine Go.of (T' := T61) (f' := (mkF m 167 #[.val (.int p1), .val (.int p2), .val (.int p3), .val (.int p4), .val (.int p5), .val (.int c1), .val (.int c2), .val (.int c3), .val (.int c4), .val (.ref b5), .val (.ref b7), .val (.ref b9), .val (.ref b11), .val (.int (p1 &&& (3 : Int32))), .val (.ref b11), .val (.ref b57), .val (.ref sa61), .unset, .unset] [])) (fun _ k => XS.astore X61.here hx rfl (hb hby at_165) rfl rfl (l' := #[.val (.int p1), .val (.int p2), .val (.int p3), .val (.int p4), .val (.int p5), .val (.int c1), .val (.int c2), .val (.int c3), .val (.int c4), .val (.ref b5), .val (.ref b7), .val (.ref b9), .val (.ref b11), .val (.int (p1 &&& (3 : Int32))), .val (.ref b11), .val (.ref b57), .val (.ref sa61), .unset, .unset]) rfl k) ?_
        refine Go.of (T' := T61) (f' := (mkF m 169 #[.val (.int p1), .val (.int p2), .val (.int p3), .val (.int p4), .val (.int p5), .val (.int c1), .val (.int c2), .val (.int c3), .val (.int c4), .val (.ref b5), .val (.ref b7), .val (.ref b9), .val (.ref b11), .val (.int (p1 &&& (3 : Int32))), .val (.ref b11), .val (.ref b57), .val (.ref sa61), .unset, .unset] [(.ref b57)])) (fun _ k => XS.aload X61.here hx rfl (hb hby at_167) rfl rfl k) ?_
        refine goS X61 hx hZ hown (hw _ (List.mem_of_getElem? (i := 41) rfl)) (hw _ (List.mem_of_getElem? (i := 42) rfl)) (hw _ (List.mem_of_getElem? (i := 43) rfl)) (hw _ (List.mem_of_getElem? (i := 44) rfl)) (by decide) (C := 0) (S := 0) ((rm_require l Z a0 hw b57 t59 [c1, c2, c3, c4] zc fm h61 S_b57 (nameLat hNm) hNm Z_cs hz Z_fm hfm).bk (W := 0) hZ (hw _ (List.mem_of_getElem? (i := 44) rfl)) (hw _ (List.mem_of_getElem? (i := 43) rfl)) (by decide) (by decide)) e61 (argsL := [(.ref b57)]) (rest := []) (by rw [hml]; rfl) (lenOf pd__Ljava_lang_String__Ljava_lang_String_ rfl) rfl rfl (hb hby at_169) (Nat.le_of_eq rfl) (by decide) (by decide) ?_
        intro v62 T62 L62 X62 hQ62
        obtain ⟨nq62, e62, rfl⟩ := hQ62
        replace X62 := standNil X62 nq62
        show Go p e below P T62 (mkF m 172 #[.val (.int p1), .val (.int p2), .val (.int p3), .val (.int p4), .val (.int p5), .val (.int c1), .val (.int c2), .val (.int c3), .val (.int c4), .val (.ref b5), .val (.ref b7), .val (.ref b9), .val (.ref b11), .val (.int (p1 &&& (3 : Int32))), .val (.ref b11), .val (.ref b57), .val (.ref sa61), .unset, .unset] [(.ref b57)])
        refine Go.of (T' := T62) (f' := (mkF m 174 #[.val (.int p1), .val (.int p2), .val (.int p3), .val (.int p4), .val (.int p5), .val (.int c1), .val (.int c2), .val (.int c3), .val (.int c4), .val (.ref b5), .val (.ref b7), .val (.ref b9), .val (.ref b11), .val (.int (p1 &&& (3 : Int32))), .val (.ref b11), .val (.ref b57), .val (.ref sa61), .val (.ref b57), .unset] [])) (fun _ k => XS.astore X62.here hx rfl (hb hby at_172) rfl rfl (l' := #[.val (.int p1), .val (.int p2), .val (.int p3), .val (.int p4), .val (.int p5), .val (.int c1), .val (.int c2), .val (.int c3), .val (.int c4), .val (.ref b5), .val (.ref b7), .val (.ref b9), .val (.ref b11), .val (.int (p1 &&& (3 : Int32))), .val (.ref b11), .val (.ref b57), .val (.ref sa61), .val (.ref b57), .unset]) rfl k) ?_
        refine Go.of (T' := T62) (f' := (mkF m 176 #[.val (.int p1), .val (.int p2), .val (.int p3), .val (.int p4), .val (.int p5), .val (.int c1), .val (.int c2), .val (.int c3), .val (.int c4), .val (.ref b5), .val (.ref b7), .val (.ref b9), .val (.ref b11), .val (.int (p1 &&& (3 : Int32))), .val (.ref b11), .val (.ref b57), .val (.ref sa61), .val (.ref b57), .unset] [(.ref sa61)])) (fun _ k => XS.aload X62.here hx rfl (hb hby at_174) rfl rfl k) ?_
        refine goS X62 hx hZ hown (hw _ (List.mem_of_getElem? (i := 41) rfl)) (hw _ (List.mem_of_getElem? (i := 42) rfl)) (hw _ (List.mem_of_getElem? (i := 43) rfl)) (hw _ (List.mem_of_getElem? (i := 44) rfl)) (by decide) (C := 0) (S := 0) ((rm_require l Z a0 hw sa61 sb61 litCs zc fm h61 S_lit (nameLat litName) litName Z_cs hz Z_fm hfm).bk (W := 0) hZ (hw _ (List.mem_of_getElem? (i := 44) rfl)) (hw _ (List.mem_of_getElem? (i := 43) rfl)) (by decide) (by decide)) e62 (argsL := [(.ref sa61)]) (rest := []) (by rw [hml]; rfl) (lenOf pd__Ljava_lang_String__Ljava_lang_String_ rfl) rfl rfl (hb hby at_176) (Nat.le_of_eq rfl) (by decide) (by decide) ?_
        intro v63 T63 L63 X63 hQ63
        obtain ⟨nq63, e63, rfl⟩ := hQ63
        replace X63 := standNil X63 nq63
        show Go p e below P T63 (mkF m 179 #[.val (.int p1), .val (.int p2), .val (.int p3), .val (.int p4), .val (.int p5), .val (.int c1), .val (.int c2), .val (.int c3), .val (.int c4), .val (.ref b5), .val (.ref b7), .val (.ref b9), .val (.ref b11), .val (.int (p1 &&& (3 : Int32))), .val (.ref b11), .val (.ref b57), .val (.ref sa61), .val (.ref b57), .unset] [(.ref sa61)])
        refine Go.of (T' := T63) (f' := (mkF m 181 #[.val (.int p1), .val (.int p2), .val (.int p3), .val (.int p4), .val (.int p5), .val (.int c1), .val (.int c2), .val (.int c3), .val (.int c4), .val (.ref b5), .val (.ref b7), .val (.ref b9), .val (.ref b11), .val (.int (p1 &&& (3 : Int32))), .val (.ref b11), .val (.ref b57), .val (.ref sa61), .val (.ref b57), .val (.ref sa61)] [])) (fun _ k => XS.astore X63.here hx rfl (hb hby at_179) rfl rfl (l' := #[.val (.int p1), .val (.int p2), .val (.int p3), .val (.int p4), .val (.int p5), .val (.int c1), .val (.int c2), .val (.int c3), .val (.int c4), .val (.ref b5), .val (.ref b7), .val (.ref b9), .val (.ref b11), .val (.int (p1 &&& (3 : Int32))), .val (.ref b11), .val (.ref b57), .val (.ref sa61), .val (.ref b57), .val (.ref sa61)]) rfl k) ?_
        refine Go.of (T' := T63) (f' := (mkF m 183 #[.val (.int p1), .val (.int p2), .val (.int p3), .val (.int p4), .val (.int p5), .val (.int c1), .val (.int c2), .val (.int c3), .val (.int c4), .val (.ref b5), .val (.ref b7), .val (.ref b9), .val (.ref b11), .val (.int (p1 &&& (3 : Int32))), .val (.ref b11), .val (.ref b57), .val (.ref sa61), .val (.ref b57), .val (.ref sa61)] [(.ref b57)])) (fun _ k => XS.aload X63.here hx rfl (hb hby at_181) rfl rfl k) ?_
        refine Go.of (T' := T63) (f' := (mkF m 185 #[.val (.int p1), .val (.int p2), .val (.int p3), .val (.int p4), .val (.int p5), .val (.int c1), .val (.int c2), .val (.int c3), .val (.int c4), .val (.ref b5), .val (.ref b7), .val (.ref b9), .val (.ref b11), .val (.int (p1 &&& (3 : Int32))), .val (.ref b11), .val (.ref b57), .val (.ref sa61), .val (.ref b57), .val (.ref sa61)] [(.ref b57), (.ref b57)])) (fun _ k => XS.aload X63.here hx rfl (hb hby at_183) rfl rfl k) ?_
        refine Go.of (T' := T63) (f' := (mkF m 188 #[.val (.int p1), .val (.int p2), .val (.int p3), .val (.int p4), .val (.int p5), .val (.int c1), .val (.int c2), .val (.int c3), .val (.int c4), .val (.ref b5), .val (.ref b7), .val (.ref b9), .val (.ref b11), .val (.int (p1 &&& (3 : Int32))), .val (.ref b11), .val (.ref b57), .val (.ref sa61), .val (.ref b57), .val (.ref sa61)] [])) (fun _ k => Jvm.RoadKit.acmp (g := (mkF m 185 #[.val (.int p1), .val (.int p2), .val (.int p3), .val (.int p4), .val (.int p5), .val (.int c1), .val (.int c2), .val (.int c3), .val (.int c4), .val (.ref b5), .val (.ref b7), .val (.ref b9), .val (.ref b11), .val (.int (p1 &&& (3 : Int32))), .val (.ref b11), .val (.ref b57), .val (.ref sa61), .val (.ref b57), .val (.ref sa61)] [(.ref b57), (.ref b57)])) X63 hx rfl rfl rfl (pc0 := 185) (pc' := 188) (same := true) rfl (hb hby at_185) rfl (decide_eq_true rfl) (by decide) (by decide) k) ?_
        refine Go.of (T' := T63) (f' := (mkF m 190 #[.val (.int p1), .val (.int p2), .val (.int p3), .val (.int p4), .val (.int p5), .val (.int c1), .val (.int c2), .val (.int c3), .val (.int c4), .val (.ref b5), .val (.ref b7), .val (.ref b9), .val (.ref b11), .val (.int (p1 &&& (3 : Int32))), .val (.ref b11), .val (.ref b57), .val (.ref sa61), .val (.ref b57), .val (.ref sa61)] [(.ref sa61)])) (fun _ k => XS.aload X63.here hx rfl (hb hby at_188) rfl rfl k) ?_
        refine Go.of (T' := T63) (f' := (mkF m 192 #[.val (.int p1), .val (.int p2), .val (.int p3), .val (.int p4), .val (.int p5), .val (.int c1), .val (.int c2), .val (.int c3), .val (.int c4), .val (.ref b5), .val (.ref b7), .val (.ref b9), .val (.ref b11), .val (.int (p1 &&& (3 : Int32))), .val (.ref b11), .val (.ref b57), .val (.ref sa61), .val (.ref b57), .val (.ref sa61)] [(.ref sa61), (.ref sa61)])) (fun _ k => XS.aload X63.here hx rfl (hb hby at_190) rfl rfl k) ?_
        refine Go.of (T' := T63) (f' := (mkF m 195 #[.val (.int p1), .val (.int p2), .val (.int p3), .val (.int p4), .val (.int p5), .val (.int c1), .val (.int c2), .val (.int c3), .val (.int c4), .val (.ref b5), .val (.ref b7), .val (.ref b9), .val (.ref b11), .val (.int (p1 &&& (3 : Int32))), .val (.ref b11), .val (.ref b57), .val (.ref sa61), .val (.ref b57), .val (.ref sa61)] [])) (fun _ k => Jvm.RoadKit.acmp (g := (mkF m 192 #[.val (.int p1), .val (.int p2), .val (.int p3), .val (.int p4), .val (.int p5), .val (.int c1), .val (.int c2), .val (.int c3), .val (.int c4), .val (.ref b5), .val (.ref b7), .val (.ref b9), .val (.ref b11), .val (.int (p1 &&& (3 : Int32))), .val (.ref b11), .val (.ref b57), .val (.ref sa61), .val (.ref b57), .val (.ref sa61)] [(.ref sa61), (.ref sa61)])) X63 hx rfl rfl rfl (pc0 := 192) (pc' := 195) (same := true) rfl (hb hby at_192) rfl (decide_eq_true rfl) (by decide) (by decide) k) ?_
        refine Go.of (T' := T63) (f' := (mkF m 197 #[.val (.int p1), .val (.int p2), .val (.int p3), .val (.int p4), .val (.int p5), .val (.int c1), .val (.int c2), .val (.int c3), .val (.int c4), .val (.ref b5), .val (.ref b7), .val (.ref b9), .val (.ref b11), .val (.int (p1 &&& (3 : Int32))), .val (.ref b11), .val (.ref b57), .val (.ref sa61), .val (.ref b57), .val (.ref sa61)] [(.ref sa61)])) (fun _ k => XS.aload X63.here hx rfl (hb hby at_195) rfl rfl k) ?_
        refine goV X63 hx hZ (y := (⟨"java/lang/String", "length", "()I"⟩ : MethodName)) (z := (⟨"java/lang/String", "length", "()I"⟩ : MethodName)) hown (hw _ (List.mem_of_getElem? (i := 85) rfl)) (hw _ (List.mem_of_getElem? (i := 51) rfl)) (notFace_of_selects (args := #[]) (mvT hZ (hw _ (List.mem_of_getElem? (i := 53) rfl)))) (hw _ (List.mem_of_getElem? (i := 53) rfl)) (hw _ (List.mem_of_getElem? (i := 52) rfl)) (by decide) (C := 0) (S := 0) (lenStr (W := 0) hZ (hw_wordsLen hw) (hw _ (List.mem_of_getElem? (i := 10) rfl)) S_lit Z_cs hz (by decide) (by decide)) e63 S_lit.exa (argsL := []) (rest := []) (by rw [hml]; rfl) (lenOf pd___I rfl) rfl rfl (hb hby at_197) (Nat.le_of_eq rfl) (by decide) (by decide) ?_
        intro v64 T64 L64 X64 hQ64
        obtain ⟨nq64, e64, rfl⟩ := hQ64
        replace X64 := standNil X64 nq64
        show Go p e below P T64 (mkF m 200 #[.val (.int p1), .val (.int p2), .val (.int p3), .val (.int p4), .val (.int p5), .val (.int c1), .val (.int c2), .val (.int c3), .val (.int c4), .val (.ref b5), .val (.ref b7), .val (.ref b9), .val (.ref b11), .val (.int (p1 &&& (3 : Int32))), .val (.ref b11), .val (.ref b57), .val (.ref sa61), .val (.ref b57), .val (.ref sa61)] [(.int (Int32.ofNat litCs.length))])
        refine Go.of (T' := T64) (f' := (mkF m 202 #[.val (.int p1), .val (.int p2), .val (.int p3), .val (.int p4), .val (.int p5), .val (.int c1), .val (.int c2), .val (.int c3), .val (.int c4), .val (.ref b5), .val (.ref b7), .val (.ref b9), .val (.ref b11), .val (.int (p1 &&& (3 : Int32))), .val (.ref b11), .val (.ref b57), .val (.ref sa61), .val (.ref b57), .val (.ref sa61)] [(.int (64 : Int32)), (.int (Int32.ofNat litCs.length))])) (fun _ k => XS.bipush X64.here hx rfl (hb hby at_200) k) ?_
        have hc202 : (Int32.ofNat litCs.length) = (64 : Int32) := by decide
        refine Go.of (T' := T64) (f' := (mkF m 205 #[.val (.int p1), .val (.int p2), .val (.int p3), .val (.int p4), .val (.int p5), .val (.int c1), .val (.int c2), .val (.int c3), .val (.int c4), .val (.ref b5), .val (.ref b7), .val (.ref b9), .val (.ref b11), .val (.int (p1 &&& (3 : Int32))), .val (.ref b11), .val (.ref b57), .val (.ref sa61), .val (.ref b57), .val (.ref sa61)] [])) (fun _ k => XS.icmpNo X64.here hx rfl (hb hby at_202) rfl (teq hc202).2 k) ?_
        refine Go.of (T' := T64) (f' := (mkF m 206 #[.val (.int p1), .val (.int p2), .val (.int p3), .val (.int p4), .val (.int p5), .val (.int c1), .val (.int c2), .val (.int c3), .val (.int c4), .val (.ref b5), .val (.ref b7), .val (.ref b9), .val (.ref b11), .val (.int (p1 &&& (3 : Int32))), .val (.ref b11), .val (.ref b57), .val (.ref sa61), .val (.ref b57), .val (.ref sa61)] [(.int (1 : Int32))])) (fun _ k => XS.iconst X64.here hx rfl (hb hby at_205) k) ?_
        refine Go.of (T' := T64) (f' := (mkF m 210 #[.val (.int p1), .val (.int p2), .val (.int p3), .val (.int p4), .val (.int p5), .val (.int c1), .val (.int c2), .val (.int c3), .val (.int c4), .val (.ref b5), .val (.ref b7), .val (.ref b9), .val (.ref b11), .val (.int (p1 &&& (3 : Int32))), .val (.ref b11), .val (.ref b57), .val (.ref sa61), .val (.ref b57), .val (.ref sa61)] [(.int (1 : Int32))])) (fun _ k => XS.goto X64.here hx rfl (pc0 := 206) (pc' := 210) rfl (hb hby at_206) (by decide) (by decide) k) ?_
        exact goRetIH (Q := fun v h L => v = some (.int 1) ∧ Mv h0 h [] L) X64 hx hZ hS hk (hEL_1 hw) RH (t := .boolean) hret hlk rfl (by simp) (hb hby at_210) K (by decide) (by decide) e64 (⟨rfl, M61⟩)
set_option maxRecDepth 65536 in
set_option maxHeartbeats 40000000 in
theorem comes_1 {Post : Tables → Env → Array Value → State → Outcome → State → Prop} (hpost : ∀ tb e args s v u, (limb_1_1.after args s (.returned v) u = true ∧ limb_1_2.after args s (.returned v) u = true ∧ True) → ReturnedEndW s (.returned v) u (Jvm.fieldLocs frame_1_writes args s ++ Jvm.arrayLocs frame_1_arrays args s ++ Jvm.staticLocs frame_1_statics s) 24 1152 → Post tb e args s (.returned v) u) :
    ArmFor flags0 classFile x code maxLocals ret World_1 tables_1 room_1 Calls_1 rest_1 Pre_1 Post := by
  intro l hfl _ _ p e ha hc hk s m args below hf hA hF happ hP
  obtain ⟨hcalls, hrest, hpre⟩ := hP
  obtain ⟨-, -, -, hnamed, -, -, -, hat⟩ := (Spec.applies_iff hf).mp happ
  obtain ⟨hg, hn⟩ := and_e (Cond.before_iff.mp (show (Jvm.Cond.and given_1 narrow_1).before args s = true from hpre))
  obtain ⟨g1, g2⟩ := and_e hg
  obtain ⟨g3, g4⟩ := and_e g2
  obtain ⟨g5, g6⟩ := and_e g4
  obtain ⟨g7, g8⟩ := and_e g6
  obtain ⟨g9, g10⟩ := and_e g8
  obtain ⟨w0, w1, w2, w3, w4, rfl⟩ : ∃ w0 w1 w2 w3 w4 : Value, args = #[w0, w1, w2, w3, w4] := by
    have hs : args.size = 5 := by simpa [Cond.value, given_1] using g1
    obtain ⟨L⟩ := args
    match L, hs with
    | [w0, w1, w2, w3, w4], _ => exact ⟨w0, w1, w2, w3, w4, rfl⟩
  have hw := fun d (hd : d ∈ tables_1) => atoms_spec (ws := Jvm.Cond.code x code maxLocals ret :: tables_1) hat d (List.mem_cons_of_mem _ hd)
  have hfit : Fit s := fun {y c} hc i hi => by
    obtain ⟨ha, rfl⟩ := Array.getElem?_eq_some_iff.mp hc
    have q := List.all_eq_true.mp ((Array.all_eq_true_iff_forall_mem.mp hF) _ (Array.getElem_mem ha)) i (List.mem_range.mpr hi)
    simpa [Array.getElem?_eq_getElem hi] using q
  obtain ⟨hsets, hown0⟩ := atoms_of _ (rest_1_c_eq ▸ (show rest_1_c.before _ s = true from hrest))
  have hr0 := Cond.before_iff.mp hown0
  obtain ⟨i0, ei0⟩ := is_v g3
  obtain rfl : w0 = (.int i0) := Option.some.inj ei0
  obtain ⟨i1, ei1⟩ := is_v g5
  obtain rfl : w1 = (.int i1) := Option.some.inj ei1
  obtain ⟨i2, ei2⟩ := is_v g7
  obtain rfl : w2 = (.int i2) := Option.some.inj ei2
  obtain ⟨i3, ei3⟩ := is_v g9
  obtain rfl : w3 = (.int i3) := Option.some.inj ei3
  obtain ⟨i4, ei4⟩ := is_v g10
  obtain rfl : w4 = (.int i4) := Option.some.inj ei4
  have H0 : CHv s consts_1 s.vm s.heap := CHv.start (hEL_1 hw) (fun p hp => hcalls.1 p hp) (hsets _ (List.mem_of_getElem? (i := 2) rfl)) (hw _ (List.mem_of_getElem? (i := 27) rfl)) (hw _ (List.mem_of_getElem? (i := 10) rfl))
  have n3 := not_v (Cond.before_iff.mp (hsets _ (List.mem_of_getElem? (i := 2) rfl)))
  obtain ⟨zc, ezc⟩ := is_v (Cond.before_iff.mp (hsets _ (List.mem_of_getElem? (i := 1) rfl)))
  have Z_cs : Sta s s.heap "java/lang/String" "COMPACT_STRINGS" "Z" (.int zc) := Sta.start ezc (Or.inl (hsets _ (List.mem_of_getElem? (i := 0) rfl)))
  have hz : ¬ (zc = (0 : Int32)) := gotF (Cond.eq_ints ezc (Term.int_eval (0))) n3
  obtain ⟨fm, efm, hfm⟩ := isR_v (Cond.before_iff.mp (hsets _ (List.mem_of_getElem? (i := 8) rfl)))
  have Z_fm : Sta s s.heap "jdk/internal/util/Preconditions" "SIOOBE_FORMATTER" "Ljava/util/function/BiFunction;" fm := Sta.start efm (Or.inl (hsets _ (List.mem_of_getElem? (i := 7) rfl)))
  obtain ⟨n, o, h1, h2, h3, _, L, rfl, ⟨rfl, M⟩, _, hq⟩ := rm_law l s _ hw i0 i1 i2 i3 i4 zc fm s.heap Z_cs hz Z_fm hfm tables_1 p e ha hc hk s m _ below hf ((Spec.applies_iff_loose hf).mp happ).1 ⟨rfl, State.Warmed39.refl s, rfl, H0⟩ trivial
  refine ⟨n, _, h1, h2, h3, hpost _ _ _ _ _ _ ⟨Cond.after_iff.mpr rfl, Cond.after_iff.mpr (eq_i res_at (Term.int_eval (1)) rfl), trivial⟩ ⟨hq.1, hq.2.1, hq.2.2.1, (hq.2.2.2.sift fun y hy => Or.inr (M.fr y hy)).mono (by decide) (by decide)⟩⟩
theorem main_1_1 : Claimed_1_1 := comes_1 fun _ _ _ _ _ _ h hF => ⟨h.1, hF⟩
theorem main_1_2 : Claimed_1_2 := comes_1 fun _ _ _ _ _ _ h hF => ⟨h.2.1, hF⟩
end Jvm.Pilot.@@N@@
namespace Jvm.Pilot.@@N@@
open Jvm Jvm.ClassFile Sem Op Lib Jvm.Free Jvm.Stand Jvm.Pilot.@@N@@.Jvm.D
/-! MADE BY PROGRAM (witnessworld.py) out of the Statement's table words and the real class files: 20 classes; the members and pool entries that the words name. The judged class is class 1, her method 1. -/
namespace start1
open Jvm.ClassFile
def u (s : String) : CpInfo := .utf8 (stringToUtf16 s)
/-- a pool by its gaps: so many unusable entries, then the entry; so many at the end -/
def gap : Nat → List CpInfo → List CpInfo
  | 0, r => r
  | n + 1, r => .unusable :: gap n r
def poolList (es : List (Nat × CpInfo)) (last : Nat) : List CpInfo := es.foldr (fun e r => gap e.1 (e.2 :: r)) (gap last [])
def pool (es : List (Nat × CpInfo)) (last : Nat) : Array CpInfo := ⟨poolList es last⟩
def fileOf (pool : Array CpInfo) (this : Nat) (attrs : Array Attribute := #[]) (ms : Array MethodInfo := #[]) (fl : Nat := 33) (sup : Nat := 0) (ifs : Array Nat := #[]) (fds : Array FieldInfo := #[]) : ClassFile where
  minorVersion := 0
  majorVersion := 65
  constantPool := pool
  accessFlags := fl
  thisClass := this
  superClass := sup
  interfaces := ifs
  fields := fds
  methods := ms
  attributes := attrs
def plain (name : String) (sup : Option ClassId) : Class where
  name := name
  kind := .ordinary
  loader := none
  accessFlags := 33
  super := sup
  interfaces := #[]
  cf := none
  fields := #[]
  methods := #[]
  instanceTypes := #[]
  staticTypes := #[]
  resolved := #[]
  callSites := []
  init := .initialized
  statics := none
  mirror := none

def pool0 : Array CpInfo := pool [(5, u "<init>"), (0, u "()V"), (1, .class_ 10), (1, u "java/lang/Object")] 113

def k0c0 : Code := { maxStack := 0, maxLocals := 1, code := object_method_1_code, exceptionTable := #[], attributes := #[] }
def k0m0 : Method := { name := "<init>", desc := "()V", sig := { parameters := [], returnType := none }, accessFlags := 1, code := some k0c0 }
/-- java/lang/Object -/
def k0 : Class := { plain "java/lang/Object" none with
  accessFlags := 33
  interfaces := #[]
  cf := some (fileOf pool0 8 #[] #[{ accessFlags := 1, nameIndex := 5, descriptorIndex := 6, attributes := #[] }] 33 0 #[] #[])
  fields := #[]
  methods := #[k0m0]
  instanceTypes := #[]
  staticTypes := #[]
  resolved := Array.replicate 124 none
  statics := none }

def pool1 : Array CpInfo := pool [(2, .class_ 4), (1, u "java/lang/Object"), (0, u "<init>"), (0, u "()V"), (0, .methodref 8 9), (0, .class_ 10), (0, .nameAndType 11 12), (0, u "com/example/dozor/dozor/NamesRequireCollectionNamePinLaw"), (0, u "first"), (0, u "(I)C"), (0, .methodref 8 14), (0, .nameAndType 15 12), (0, u "rest"), (0, .class_ 17), (0, u "java/lang/String"), (0, .methodref 16 19), (0, .nameAndType 5 20), (0, u "([C)V"), (0, .string 22), (0, u "abcdefghijklmnopqrstuvwxyz0123456789_abcdefghijklmnopqrstuvwxyz9"), (0, .methodref 24 25), (0, .class_ 26), (0, .nameAndType 27 28), (0, u "com/example/dozor/dozor/Names"), (0, u "requireCollectionName"), (0, u "(Ljava/lang/String;)Ljava/lang/String;"), (0, .methodref 16 30), (0, .nameAndType 31 32), (0, u "length"), (0, u "()I"), (0, .integer 2147483647), (2, u "law"), (0, u "(IIIII)Z")] 5

def k1m0 : Method := { name := "<init>", desc := "()V", sig := { parameters := [], returnType := none }, accessFlags := 1, code := none }
def k1c1 : Code := { maxStack := 3, maxLocals := 19, code := code, exceptionTable := #[], attributes := #[] }
def k1m1 : Method := { name := "law", desc := "(IIIII)Z", sig := { parameters := [.int, .int, .int, .int, .int], returnType := some .boolean }, accessFlags := 9, code := some k1c1 }
def k1c2 : Code := { maxStack := 3, maxLocals := 1, code := method_3_code, exceptionTable := #[], attributes := #[] }
def k1m2 : Method := { name := "first", desc := "(I)C", sig := { parameters := [.int], returnType := some .char }, accessFlags := 10, code := some k1c2 }
def k1c3 : Code := { maxStack := 3, maxLocals := 2, code := method_4_code, exceptionTable := #[], attributes := #[] }
def k1m3 : Method := { name := "rest", desc := "(I)C", sig := { parameters := [.int], returnType := some .char }, accessFlags := 10, code := some k1c3 }
/-- com/example/dozor/dozor/NamesRequireCollectionNamePinLaw -/
def k1 : Class := { plain "com/example/dozor/dozor/NamesRequireCollectionNamePinLaw" (some 0) with
  accessFlags := 49
  interfaces := #[]
  cf := some (fileOf pool1 8 #[] #[{ accessFlags := 1, nameIndex := 5, descriptorIndex := 6, attributes := #[] }, { accessFlags := 9, nameIndex := 36, descriptorIndex := 37, attributes := #[] }, { accessFlags := 10, nameIndex := 11, descriptorIndex := 12, attributes := #[] }, { accessFlags := 10, nameIndex := 15, descriptorIndex := 12, attributes := #[] }] 49 2 #[] #[])
  fields := #[]
  methods := #[k1m0, k1m1, k1m2, k1m3]
  instanceTypes := #[]
  staticTypes := #[]
  resolved := Array.replicate 43 none
  statics := none }

def pool2 : Array CpInfo := pool [(1, .class_ 2), (0, u "java/io/Serializable"), (0, .class_ 4), (0, u "java/lang/Object")] 2

/-- java/io/Serializable -/
def k2 : Class := { plain "java/io/Serializable" (some 0) with
  accessFlags := 1537
  interfaces := #[]
  cf := some (fileOf pool2 1 #[] #[] 1537 3 #[] #[])
  fields := #[]
  methods := #[]
  instanceTypes := #[]
  staticTypes := #[]
  resolved := Array.replicate 7 none
  statics := none }

def pool3 : Array CpInfo := pool [(1, .class_ 2), (0, u "java/lang/Comparable"), (0, .class_ 4), (0, u "java/lang/Object")] 7

/-- java/lang/Comparable -/
def k3 : Class := { plain "java/lang/Comparable" (some 0) with
  accessFlags := 1537
  interfaces := #[]
  cf := some (fileOf pool3 1 #[] #[] 1537 3 #[] #[])
  fields := #[]
  methods := #[]
  instanceTypes := #[]
  staticTypes := #[]
  resolved := Array.replicate 12 none
  statics := none }

def pool4 : Array CpInfo := pool [(2, .class_ 4), (1, u "java/lang/CharSequence"), (42, .class_ 48), (0, u "java/lang/CharSequence$1CodePointIterator"), (10, .class_ 60), (0, u "java/lang/CharSequence$1CharIterator"), (5, .class_ 67), (0, u "java/lang/Object")] 63

/-- java/lang/CharSequence -/
def k4 : Class := { plain "java/lang/CharSequence" (some 0) with
  accessFlags := 1537
  interfaces := #[]
  cf := some (fileOf pool4 2 #[.nestMembers #[47, 59]] #[] 1537 66 #[] #[])
  fields := #[]
  methods := #[]
  instanceTypes := #[]
  staticTypes := #[]
  resolved := Array.replicate 131 none
  statics := none }

def pool5 : Array CpInfo := pool [(1, .class_ 2), (0, u "java/lang/constant/Constable"), (0, .class_ 4), (0, u "java/lang/Object")] 6

/-- java/lang/constant/Constable -/
def k5 : Class := { plain "java/lang/constant/Constable" (some 0) with
  accessFlags := 1537
  interfaces := #[]
  cf := some (fileOf pool5 1 #[] #[] 1537 3 #[] #[])
  fields := #[]
  methods := #[]
  instanceTypes := #[]
  staticTypes := #[]
  resolved := Array.replicate 11 none
  statics := none }

def pool6 : Array CpInfo := pool [(1, .class_ 2), (0, u "java/lang/constant/ConstantDesc"), (0, .class_ 4), (0, u "java/lang/Object")] 32

/-- java/lang/constant/ConstantDesc -/
def k6 : Class := { plain "java/lang/constant/ConstantDesc" (some 0) with
  accessFlags := 1537
  interfaces := #[]
  cf := some (fileOf pool6 1 #[] #[] 1537 3 #[] #[])
  fields := #[]
  methods := #[]
  instanceTypes := #[]
  staticTypes := #[]
  resolved := Array.replicate 37 none
  statics := none }

def pool7 : Array CpInfo := pool [(1, .methodref 2 3), (0, .class_ 4), (0, .nameAndType 5 6), (0, u "java/lang/Object"), (0, u "<init>"), (0, u "()V"), (2, .fieldref 10 11), (0, .class_ 12), (0, .nameAndType 13 14), (0, u "java/lang/String"), (0, u "value"), (0, u "[B"), (0, .fieldref 10 16), (0, .nameAndType 17 18), (0, u "coder"), (0, u "B"), (2, u "hash"), (0, u "I"), (2, u "hashIsZero"), (0, u "Z"), (0, .methodref 10 28), (0, .nameAndType 5 29), (0, u "([CIILjava/lang/Void;)V"), (8, .fieldref 10 39), (0, .nameAndType 40 26), (0, u "COMPACT_STRINGS"), (1, .class_ 44), (1, u "java/lang/StringUTF16"), (0, u "compress"), (1, .methodref 42 48), (0, .nameAndType 49 50), (0, u "coderFromArrayLen"), (0, u "([BI)B"), (56, .class_ 109), (1, u "java/lang/StringLatin1"), (32, u "()Z"), (34, .methodref 42 178), (0, .nameAndType 45 179), (0, u "([CII)[B"), (154, u "()I"), (0, .methodref 10 336), (0, .nameAndType 17 337), (0, u "()B"), (25, u "([BI)C"), (27, u "(II)V"), (35, u "(I)C"), (64, .methodref 10 493), (0, .nameAndType 494 142), (0, u "isLatin1"), (0, .methodref 107 496), (0, .nameAndType 497 363), (0, u "charAt"), (3, u "checkIndex"), (5, u "length"), (67, .class_ 576), (0, u "java/lang/CharSequence"), (22, u "CASE_INSENSITIVE_ORDER"), (0, u "Ljava/util/Comparator;"), (91, u "isEmpty"), (317, u "([C)V"), (42, .fieldref 1054 1055), (0, .class_ 1056), (0, .nameAndType 1057 1058), (0, u "jdk/internal/util/Preconditions"), (0, u "SIOOBE_FORMATTER"), (0, u "Ljava/util/function/BiFunction;"), (0, .methodref 1054 1060), (0, .nameAndType 501 1061), (0, u "(IILjava/util/function/BiFunction;)I"), (39, u "serialPersistentFields"), (0, u "[Ljava/io/ObjectStreamField;"), (0, .class_ 1104), (0, u "java/lang/String$CaseInsensitiveComparator"), (1, .class_ 1107), (0, u "java/io/Serializable"), (0, .class_ 1109), (0, u "java/lang/Comparable"), (0, .class_ 1111), (0, u "java/lang/constant/Constable"), (0, .class_ 1113), (0, u "java/lang/constant/ConstantDesc"), (2, u "serialVersionUID"), (0, u "J"), (3, u "REPL"), (0, u "C"), (2, u "LATIN1"), (1, u "UTF16")] 323

def k7m0 : Method := { name := "<init>", desc := "()V", sig := { parameters := [], returnType := none }, accessFlags := 1, code := none }
def k7c1 : Code := { maxStack := 5, maxLocals := 2, code := jdk_42_method_3_code, exceptionTable := #[], attributes := #[] }
def k7m1 : Method := { name := "<init>", desc := "([C)V", sig := { parameters := [(.array .char)], returnType := none }, accessFlags := 1, code := some k7c1 }
def k7c2 : Code := { maxStack := 2, maxLocals := 1, code := jdk_42_method_54_code, exceptionTable := #[], attributes := #[] }
def k7m2 : Method := { name := "length", desc := "()I", sig := { parameters := [], returnType := some .int }, accessFlags := 1, code := some k7c2 }
def k7c3 : Code := { maxStack := 1, maxLocals := 1, code := jdk_42_method_55_code, exceptionTable := #[], attributes := #[] }
def k7m3 : Method := { name := "isEmpty", desc := "()Z", sig := { parameters := [], returnType := some .boolean }, accessFlags := 1, code := some k7c3 }
def k7c4 : Code := { maxStack := 2, maxLocals := 2, code := jdk_42_method_56_code, exceptionTable := #[], attributes := #[] }
def k7m4 : Method := { name := "charAt", desc := "(I)C", sig := { parameters := [.int], returnType := some .char }, accessFlags := 1, code := some k7c4 }
def k7c5 : Code := { maxStack := 4, maxLocals := 6, code := jdk_42_method_149_code, exceptionTable := #[], attributes := #[] }
def k7m5 : Method := { name := "<init>", desc := "([CIILjava/lang/Void;)V", sig := { parameters := [(.array .char), .int, .int, (.object "java/lang/Void")], returnType := none }, accessFlags := 2, code := some k7c5 }
def k7c6 : Code := { maxStack := 1, maxLocals := 1, code := jdk_42_method_152_code, exceptionTable := #[], attributes := #[] }
def k7m6 : Method := { name := "coder", desc := "()B", sig := { parameters := [], returnType := some .byte }, accessFlags := 0, code := some k7c6 }
def k7c7 : Code := { maxStack := 1, maxLocals := 1, code := jdk_42_method_154_code, exceptionTable := #[], attributes := #[] }
def k7m7 : Method := { name := "isLatin1", desc := "()Z", sig := { parameters := [], returnType := some .boolean }, accessFlags := 0, code := some k7c7 }
def k7c8 : Code := { maxStack := 3, maxLocals := 2, code := jdk_42_method_155_code, exceptionTable := #[], attributes := #[] }
def k7m8 : Method := { name := "checkIndex", desc := "(II)V", sig := { parameters := [.int, .int], returnType := none }, accessFlags := 8, code := some k7c8 }
/-- java/lang/String -/
def k7 : Class := { plain "java/lang/String" (some 0) with
  accessFlags := 49
  interfaces := #[2, 3, 4, 5, 6]
  cf := some (fileOf pool7 10 #[.nestMembers #[1103]] #[{ accessFlags := 1, nameIndex := 5, descriptorIndex := 6, attributes := #[] }, { accessFlags := 1, nameIndex := 5, descriptorIndex := 1010, attributes := #[] }, { accessFlags := 1, nameIndex := 507, descriptorIndex := 334, attributes := #[] }, { accessFlags := 1, nameIndex := 692, descriptorIndex := 142, attributes := #[] }, { accessFlags := 1, nameIndex := 497, descriptorIndex := 427, attributes := #[] }, { accessFlags := 2, nameIndex := 5, descriptorIndex := 29, attributes := #[] }, { accessFlags := 0, nameIndex := 17, descriptorIndex := 337, attributes := #[] }, { accessFlags := 0, nameIndex := 494, descriptorIndex := 142, attributes := #[] }, { accessFlags := 8, nameIndex := 501, descriptorIndex := 391, attributes := #[] }] 49 2 #[1106, 1108, 575, 1110, 1112] #[{ accessFlags := 18, nameIndex := 13, descriptorIndex := 14, attributes := #[] }, { accessFlags := 18, nameIndex := 17, descriptorIndex := 18, attributes := #[] }, { accessFlags := 2, nameIndex := 21, descriptorIndex := 22, attributes := #[] }, { accessFlags := 2, nameIndex := 25, descriptorIndex := 26, attributes := #[] }, { accessFlags := 26, nameIndex := 1116, descriptorIndex := 1117, attributes := #[] }, { accessFlags := 24, nameIndex := 40, descriptorIndex := 26, attributes := #[] }, { accessFlags := 26, nameIndex := 1101, descriptorIndex := 1102, attributes := #[] }, { accessFlags := 26, nameIndex := 1121, descriptorIndex := 1122, attributes := #[] }, { accessFlags := 25, nameIndex := 599, descriptorIndex := 600, attributes := #[] }, { accessFlags := 24, nameIndex := 1125, descriptorIndex := 18, attributes := #[] }, { accessFlags := 24, nameIndex := 1127, descriptorIndex := 18, attributes := #[] }])
  fields := #[{ name := "value", type := (.array .byte), accessFlags := 18, slot := 0, constantValue := 0 }, { name := "coder", type := .byte, accessFlags := 18, slot := 1, constantValue := 0 }, { name := "hash", type := .int, accessFlags := 2, slot := 2, constantValue := 0 }, { name := "hashIsZero", type := .boolean, accessFlags := 2, slot := 3, constantValue := 0 }, { name := "serialVersionUID", type := .long, accessFlags := 26, slot := 0, constantValue := 0 }, { name := "COMPACT_STRINGS", type := .boolean, accessFlags := 24, slot := 1, constantValue := 0 }, { name := "serialPersistentFields", type := (.array (.object "java/io/ObjectStreamField")), accessFlags := 26, slot := 2, constantValue := 0 }, { name := "REPL", type := .char, accessFlags := 26, slot := 3, constantValue := 0 }, { name := "CASE_INSENSITIVE_ORDER", type := (.object "java/util/Comparator"), accessFlags := 25, slot := 4, constantValue := 0 }, { name := "LATIN1", type := .byte, accessFlags := 24, slot := 5, constantValue := 0 }, { name := "UTF16", type := .byte, accessFlags := 24, slot := 6, constantValue := 0 }]
  methods := #[k7m0, k7m1, k7m2, k7m3, k7m4, k7m5, k7m6, k7m7, k7m8]
  instanceTypes := #[(.array .byte), .byte, .int, .boolean]
  staticTypes := #[.long, .boolean, (.array (.object "java/io/ObjectStreamField")), .char, (.object "java/util/Comparator"), .byte, .byte]
  resolved := Array.replicate 1451 none
  statics := some 0 }

def pool8 : Array CpInfo := pool [(6, .class_ 8), (1, u "java/lang/Object"), (0, u "<init>"), (0, u "()V"), (1, .class_ 14), (1, u "java/lang/StringUTF16"), (31, u "$assertionsDisabled"), (0, u "Z"), (13, u "HI_BYTE_SHIFT"), (0, u "I"), (2, u "LO_BYTE_SHIFT"), (49, .methodref 12 116), (0, .nameAndType 117 118), (0, u "compress"), (0, u "([CI[BII)I"), (3, u "([CII)[B"), (138, u "coderFromArrayLen"), (0, u "([BI)B"), (106, .class_ 371), (1, u "java/lang/StringUTF16$LinesSpliterator"), (58, u "MAX_LENGTH"), (196, .class_ 628), (0, u "java/lang/StringUTF16$CodePointsSpliterator"), (0, .class_ 630), (0, u "java/lang/StringUTF16$CharsSpliterator")] 4

def k8m0 : Method := { name := "<init>", desc := "()V", sig := { parameters := [], returnType := none }, accessFlags := 0, code := none }
def k8c1 : Code := { maxStack := 2, maxLocals := 2, code := jdk_52_method_15_code, exceptionTable := #[], attributes := #[] }
def k8m1 : Method := { name := "coderFromArrayLen", desc := "([BI)B", sig := { parameters := [(.array .byte), .int], returnType := some .byte }, accessFlags := 8, code := some k8c1 }
def k8c2 : Code := { maxStack := 5, maxLocals := 6, code := jdk_52_method_16_code, exceptionTable := #[], attributes := #[] }
def k8m2 : Method := { name := "compress", desc := "([CII)[B", sig := { parameters := [(.array .char), .int, .int], returnType := some (.array .byte) }, accessFlags := 9, code := some k8c2 }
def k8c3 : Code := { maxStack := 3, maxLocals := 7, code := jdk_52_method_21_code, exceptionTable := #[], attributes := #[] }
def k8m3 : Method := { name := "compress", desc := "([CI[BII)I", sig := { parameters := [(.array .char), .int, (.array .byte), .int, .int], returnType := some .int }, accessFlags := 9, code := some k8c3 }
/-- java/lang/StringUTF16 -/
def k8 : Class := { plain "java/lang/StringUTF16" (some 0) with
  accessFlags := 48
  interfaces := #[]
  cf := some (fileOf pool8 12 #[.nestMembers #[627, 629, 369]] #[{ accessFlags := 0, nameIndex := 9, descriptorIndex := 10, attributes := #[] }, { accessFlags := 8, nameIndex := 261, descriptorIndex := 262, attributes := #[] }, { accessFlags := 9, nameIndex := 117, descriptorIndex := 122, attributes := #[] }, { accessFlags := 9, nameIndex := 117, descriptorIndex := 118, attributes := #[] }] 48 6 #[] #[{ accessFlags := 26, nameIndex := 61, descriptorIndex := 62, attributes := #[] }, { accessFlags := 26, nameIndex := 65, descriptorIndex := 62, attributes := #[] }, { accessFlags := 24, nameIndex := 430, descriptorIndex := 62, attributes := #[] }, { accessFlags := 4120, nameIndex := 46, descriptorIndex := 47, attributes := #[] }])
  fields := #[{ name := "HI_BYTE_SHIFT", type := .int, accessFlags := 26, slot := 0, constantValue := 0 }, { name := "LO_BYTE_SHIFT", type := .int, accessFlags := 26, slot := 1, constantValue := 0 }, { name := "MAX_LENGTH", type := .int, accessFlags := 24, slot := 2, constantValue := 0 }, { name := "$assertionsDisabled", type := .boolean, accessFlags := 4120, slot := 3, constantValue := 0 }]
  methods := #[k8m0, k8m1, k8m2, k8m3]
  instanceTypes := #[]
  staticTypes := #[.int, .int, .int, .boolean]
  resolved := Array.replicate 635 none
  statics := none }

def pool9 : Array CpInfo := pool [(2, .class_ 4), (1, u "java/lang/Object"), (0, u "<init>"), (0, u "()V"), (7, .methodref 15 16), (0, .class_ 17), (0, .nameAndType 18 19), (0, u "java/lang/String"), (0, u "isEmpty"), (0, u "()Z"), (0, .methodref 15 21), (0, .nameAndType 22 23), (0, u "length"), (0, u "()I"), (0, .class_ 25), (0, u "com/example/dozor/dozor/Names"), (4, .methodref 15 31), (0, .nameAndType 32 33), (0, u "charAt"), (0, u "(I)C"), (0, .methodref 24 35), (0, .nameAndType 36 37), (0, u "isLowerLetter"), (0, u "(C)Z"), (2, u "(Ljava/lang/String;)Ljava/lang/String;"), (49, u "MAX_COLLECTION_NAME_LENGTH"), (0, u "I"), (2, u "MAX_ID_BYTES"), (1, u "MAX_OWNER_LENGTH"), (3, u "requireCollectionName")] 28

def k9m0 : Method := { name := "<init>", desc := "()V", sig := { parameters := [], returnType := none }, accessFlags := 2, code := none }
def k9c1 : Code := { maxStack := 3, maxLocals := 3, code := prog_13_method_2_code, exceptionTable := #[], attributes := #[] }
def k9m1 : Method := { name := "requireCollectionName", desc := "(Ljava/lang/String;)Ljava/lang/String;", sig := { parameters := [(.object "java/lang/String")], returnType := some (.object "java/lang/String") }, accessFlags := 8, code := some k9c1 }
def k9c2 : Code := { maxStack := 2, maxLocals := 1, code := prog_13_method_7_code, exceptionTable := #[], attributes := #[] }
def k9m2 : Method := { name := "isLowerLetter", desc := "(C)Z", sig := { parameters := [.char], returnType := some .boolean }, accessFlags := 10, code := some k9c2 }
/-- com/example/dozor/dozor/Names -/
def k9 : Class := { plain "com/example/dozor/dozor/Names" (some 0) with
  accessFlags := 48
  interfaces := #[]
  cf := some (fileOf pool9 24 #[] #[{ accessFlags := 2, nameIndex := 5, descriptorIndex := 6, attributes := #[] }, { accessFlags := 8, nameIndex := 100, descriptorIndex := 40, attributes := #[] }, { accessFlags := 10, nameIndex := 36, descriptorIndex := 37, attributes := #[] }] 48 2 #[] #[{ accessFlags := 24, nameIndex := 90, descriptorIndex := 91, attributes := #[] }, { accessFlags := 24, nameIndex := 94, descriptorIndex := 91, attributes := #[] }, { accessFlags := 24, nameIndex := 96, descriptorIndex := 91, attributes := #[] }])
  fields := #[{ name := "MAX_COLLECTION_NAME_LENGTH", type := .int, accessFlags := 24, slot := 0, constantValue := 0 }, { name := "MAX_ID_BYTES", type := .int, accessFlags := 24, slot := 1, constantValue := 0 }, { name := "MAX_OWNER_LENGTH", type := .int, accessFlags := 24, slot := 2, constantValue := 0 }]
  methods := #[k9m0, k9m1, k9m2]
  instanceTypes := #[]
  staticTypes := #[.int, .int, .int]
  resolved := Array.replicate 129 none
  statics := none }

def pool10 : Array CpInfo := pool [(1, .class_ 2), (0, u "java/lang/String"), (1, .class_ 6), (1, u "java/lang/Object"), (0, u "<init>"), (0, u "()V"), (0, .methodref 1 10), (0, .nameAndType 11 12), (0, u "checkIndex"), (0, u "(II)V"), (1, .class_ 16), (1, u "java/lang/StringLatin1"), (36, u "([BI)C"), (67, u "$assertionsDisabled"), (0, u "Z"), (98, .class_ 223), (1, u "java/lang/StringLatin1$LinesSpliterator"), (28, u "charAt"), (137, .class_ 391), (0, u "java/lang/StringLatin1$CharsSpliterator")] 3

def k10m0 : Method := { name := "<init>", desc := "()V", sig := { parameters := [], returnType := none }, accessFlags := 0, code := none }
def k10c1 : Code := { maxStack := 2, maxLocals := 2, code := jdk_43_method_2_code, exceptionTable := #[], attributes := #[] }
def k10m1 : Method := { name := "charAt", desc := "([BI)C", sig := { parameters := [(.array .byte), .int], returnType := some .char }, accessFlags := 9, code := some k10c1 }
/-- java/lang/StringLatin1 -/
def k10 : Class := { plain "java/lang/StringLatin1" (some 0) with
  accessFlags := 48
  interfaces := #[]
  cf := some (fileOf pool10 14 #[.nestMembers #[390, 221]] #[{ accessFlags := 0, nameIndex := 7, descriptorIndex := 8, attributes := #[] }, { accessFlags := 9, nameIndex := 252, descriptorIndex := 53, attributes := #[] }] 48 4 #[] #[{ accessFlags := 4120, nameIndex := 121, descriptorIndex := 122, attributes := #[] }])
  fields := #[{ name := "$assertionsDisabled", type := .boolean, accessFlags := 4120, slot := 0, constantValue := 0 }]
  methods := #[k10m0, k10m1]
  instanceTypes := #[]
  staticTypes := #[.boolean]
  resolved := Array.replicate 395 none
  statics := none }

def pool11 : Array CpInfo := pool [(2, .class_ 4), (1, u "java/lang/Object"), (0, u "<init>"), (0, u "()V"), (17, .class_ 26), (1, u "jdk/internal/util/Preconditions"), (6, u "checkIndex"), (21, .class_ 56), (0, u "jdk/internal/util/Preconditions$4"), (57, .class_ 115), (0, u "jdk/internal/util/Preconditions$1"), (7, u "SIOOBE_FORMATTER"), (0, u "Ljava/util/function/BiFunction;"), (0, .class_ 126), (0, u "jdk/internal/util/Preconditions$2"), (3, u "AIOOBE_FORMATTER"), (0, .class_ 132), (0, u "jdk/internal/util/Preconditions$3"), (3, u "IOOBE_FORMATTER"), (41, u "(IILjava/util/function/BiFunction;)I")] 15

def k11m0 : Method := { name := "<init>", desc := "()V", sig := { parameters := [], returnType := none }, accessFlags := 1, code := none }
def k11c1 : Code := { maxStack := 3, maxLocals := 3, code := jdk_41_method_11_code, exceptionTable := #[], attributes := #[] }
def k11m1 : Method := { name := "checkIndex", desc := "(IILjava/util/function/BiFunction;)I", sig := { parameters := [.int, .int, (.object "java/util/function/BiFunction")], returnType := some .int }, accessFlags := 9, code := some k11c1 }
/-- jdk/internal/util/Preconditions -/
def k11 : Class := { plain "jdk/internal/util/Preconditions" (some 0) with
  accessFlags := 33
  interfaces := #[]
  cf := some (fileOf pool11 24 #[.nestMembers #[55, 131, 125, 114]] #[{ accessFlags := 1, nameIndex := 5, descriptorIndex := 6, attributes := #[] }, { accessFlags := 9, nameIndex := 33, descriptorIndex := 178, attributes := #[] }] 33 2 #[] #[{ accessFlags := 25, nameIndex := 123, descriptorIndex := 124, attributes := #[] }, { accessFlags := 25, nameIndex := 130, descriptorIndex := 124, attributes := #[] }, { accessFlags := 25, nameIndex := 136, descriptorIndex := 124, attributes := #[] }])
  fields := #[{ name := "SIOOBE_FORMATTER", type := (.object "java/util/function/BiFunction"), accessFlags := 25, slot := 0, constantValue := 0 }, { name := "AIOOBE_FORMATTER", type := (.object "java/util/function/BiFunction"), accessFlags := 25, slot := 1, constantValue := 0 }, { name := "IOOBE_FORMATTER", type := (.object "java/util/function/BiFunction"), accessFlags := 25, slot := 2, constantValue := 0 }]
  methods := #[k11m0, k11m1]
  instanceTypes := #[]
  staticTypes := #[(.object "java/util/function/BiFunction"), (.object "java/util/function/BiFunction"), (.object "java/util/function/BiFunction")]
  resolved := Array.replicate 194 none
  statics := some 1 }

def pool12 : Array CpInfo := pool [(9, u "<init>"), (6, .class_ 18), (1, u "java/lang/Object"), (0, u "()V"), (1, .class_ 23), (1, u "jdk/internal/util/ArraysSupport"), (0, u "LOG2_ARRAY_LONG_INDEX_SCALE"), (0, u "I"), (2, u "U"), (0, u "Ljdk/internal/misc/Unsafe;"), (8, u "BIG_ENDIAN"), (0, u "Z"), (8, u "LOG2_BYTE_BIT_SIZE"), (4, u "LOG2_ARRAY_INT_INDEX_SCALE"), (54, u "JLA"), (0, u "Ljdk/internal/access/JavaLangAccess;"), (11, u "LOG2_ARRAY_BOOLEAN_INDEX_SCALE"), (9, u "LOG2_ARRAY_BYTE_INDEX_SCALE"), (5, u "LOG2_ARRAY_CHAR_INDEX_SCALE"), (5, u "LOG2_ARRAY_SHORT_INDEX_SCALE"), (18, u "LOG2_ARRAY_FLOAT_INDEX_SCALE"), (24, u "LOG2_ARRAY_DOUBLE_INDEX_SCALE"), (89, u "T_BOOLEAN"), (2, u "T_CHAR"), (1, u "T_FLOAT"), (1, u "T_DOUBLE"), (1, u "T_BYTE"), (1, u "T_SHORT"), (1, u "T_INT"), (1, u "T_LONG"), (1, u "SOFT_MAX_ARRAY_LENGTH")] 83

def k12m0 : Method := { name := "<init>", desc := "()V", sig := { parameters := [], returnType := none }, accessFlags := 2, code := none }
/-- jdk/internal/util/ArraysSupport -/
def k12 : Class := { plain "jdk/internal/util/ArraysSupport" (some 0) with
  accessFlags := 33
  interfaces := #[]
  cf := some (fileOf pool12 21 #[] #[{ accessFlags := 2, nameIndex := 9, descriptorIndex := 19, attributes := #[] }] 33 16 #[] #[{ accessFlags := 24, nameIndex := 28, descriptorIndex := 29, attributes := #[] }, { accessFlags := 26, nameIndex := 38, descriptorIndex := 39, attributes := #[] }, { accessFlags := 25, nameIndex := 121, descriptorIndex := 25, attributes := #[] }, { accessFlags := 25, nameIndex := 131, descriptorIndex := 25, attributes := #[] }, { accessFlags := 25, nameIndex := 137, descriptorIndex := 25, attributes := #[] }, { accessFlags := 25, nameIndex := 143, descriptorIndex := 25, attributes := #[] }, { accessFlags := 25, nameIndex := 53, descriptorIndex := 25, attributes := #[] }, { accessFlags := 25, nameIndex := 24, descriptorIndex := 25, attributes := #[] }, { accessFlags := 25, nameIndex := 162, descriptorIndex := 25, attributes := #[] }, { accessFlags := 25, nameIndex := 187, descriptorIndex := 25, attributes := #[] }, { accessFlags := 26, nameIndex := 48, descriptorIndex := 25, attributes := #[] }, { accessFlags := 25, nameIndex := 277, descriptorIndex := 25, attributes := #[] }, { accessFlags := 25, nameIndex := 280, descriptorIndex := 25, attributes := #[] }, { accessFlags := 25, nameIndex := 282, descriptorIndex := 25, attributes := #[] }, { accessFlags := 25, nameIndex := 284, descriptorIndex := 25, attributes := #[] }, { accessFlags := 25, nameIndex := 286, descriptorIndex := 25, attributes := #[] }, { accessFlags := 25, nameIndex := 288, descriptorIndex := 25, attributes := #[] }, { accessFlags := 25, nameIndex := 290, descriptorIndex := 25, attributes := #[] }, { accessFlags := 25, nameIndex := 292, descriptorIndex := 25, attributes := #[] }, { accessFlags := 26, nameIndex := 108, descriptorIndex := 109, attributes := #[] }, { accessFlags := 25, nameIndex := 294, descriptorIndex := 25, attributes := #[] }])
  fields := #[{ name := "U", type := (.object "jdk/internal/misc/Unsafe"), accessFlags := 24, slot := 0, constantValue := 0 }, { name := "BIG_ENDIAN", type := .boolean, accessFlags := 26, slot := 1, constantValue := 0 }, { name := "LOG2_ARRAY_BOOLEAN_INDEX_SCALE", type := .int, accessFlags := 25, slot := 2, constantValue := 0 }, { name := "LOG2_ARRAY_BYTE_INDEX_SCALE", type := .int, accessFlags := 25, slot := 3, constantValue := 0 }, { name := "LOG2_ARRAY_CHAR_INDEX_SCALE", type := .int, accessFlags := 25, slot := 4, constantValue := 0 }, { name := "LOG2_ARRAY_SHORT_INDEX_SCALE", type := .int, accessFlags := 25, slot := 5, constantValue := 0 }, { name := "LOG2_ARRAY_INT_INDEX_SCALE", type := .int, accessFlags := 25, slot := 6, constantValue := 0 }, { name := "LOG2_ARRAY_LONG_INDEX_SCALE", type := .int, accessFlags := 25, slot := 7, constantValue := 0 }, { name := "LOG2_ARRAY_FLOAT_INDEX_SCALE", type := .int, accessFlags := 25, slot := 8, constantValue := 0 }, { name := "LOG2_ARRAY_DOUBLE_INDEX_SCALE", type := .int, accessFlags := 25, slot := 9, constantValue := 0 }, { name := "LOG2_BYTE_BIT_SIZE", type := .int, accessFlags := 26, slot := 10, constantValue := 0 }, { name := "T_BOOLEAN", type := .int, accessFlags := 25, slot := 11, constantValue := 0 }, { name := "T_CHAR", type := .int, accessFlags := 25, slot := 12, constantValue := 0 }, { name := "T_FLOAT", type := .int, accessFlags := 25, slot := 13, constantValue := 0 }, { name := "T_DOUBLE", type := .int, accessFlags := 25, slot := 14, constantValue := 0 }, { name := "T_BYTE", type := .int, accessFlags := 25, slot := 15, constantValue := 0 }, { name := "T_SHORT", type := .int, accessFlags := 25, slot := 16, constantValue := 0 }, { name := "T_INT", type := .int, accessFlags := 25, slot := 17, constantValue := 0 }, { name := "T_LONG", type := .int, accessFlags := 25, slot := 18, constantValue := 0 }, { name := "JLA", type := (.object "jdk/internal/access/JavaLangAccess"), accessFlags := 26, slot := 19, constantValue := 0 }, { name := "SOFT_MAX_ARRAY_LENGTH", type := .int, accessFlags := 25, slot := 20, constantValue := 0 }]
  methods := #[k12m0]
  instanceTypes := #[]
  staticTypes := #[(.object "jdk/internal/misc/Unsafe"), .boolean, .int, .int, .int, .int, .int, .int, .int, .int, .int, .int, .int, .int, .int, .int, .int, .int, .int, (.object "jdk/internal/access/JavaLangAccess"), .int]
  resolved := Array.replicate 378 none
  statics := none }

def pool13 : Array CpInfo := pool [(1, u "java/lang/Cloneable"), (0, .class_ 1), (0, u "java/lang/Object"), (0, .class_ 3)] 3

/-- java/lang/Cloneable -/
def k13 : Class := { plain "java/lang/Cloneable" (some 0) with
  accessFlags := 1537
  interfaces := #[]
  cf := some (fileOf pool13 2 #[] #[] 1537 4 #[] #[])
  fields := #[]
  methods := #[]
  instanceTypes := #[]
  staticTypes := #[]
  resolved := Array.replicate 8 none
  statics := none }

/-- the primitive byte -/
def k14 : Class := { plain "byte" none with kind := .primitive 'B', accessFlags := 0x411 }
/-- [B -/
def k15 : Class := { plain "[B" (some 0) with kind := .array 14 .byte, interfaces := #[13, 2], accessFlags := 1041 }

/-- the primitive char -/
def k16 : Class := { plain "char" none with kind := .primitive 'C', accessFlags := 0x411 }
/-- [C -/
def k17 : Class := { plain "[C" (some 0) with kind := .array 16 .char, interfaces := #[13, 2], accessFlags := 1041 }

/-- the primitive int -/
def k18 : Class := { plain "int" none with kind := .primitive 'I', accessFlags := 0x411 }
/-- [I -/
def k19 : Class := { plain "[I" (some 0) with kind := .array 18 .int, interfaces := #[13, 2], accessFlags := 1041 }

def heap : Heap := #[{ cls := 7, slots := #[.long 0, .int 1, .null, .int 0, .null, .int 0, .int 0], vm := .statics 7 },
  { cls := 11, slots := #[.null, .null, .null], vm := .statics 11 }]
def classes : Array Class := #[k0, k1, k2, k3, k4, k5, k6, k7, k8, k9, k10, k11, k12, k13, k14, k15, k16, k17, k18, k19]
def interned : List (Array UInt16 × Addr) := []
def slotsUsed : Nat := 10
def theMethod : MethodId := ⟨1, 1⟩
def args0 : Array Value := #[.int 5, .int 6, .int 7, .int 8, .int 9]
def aboutOver (below : List Frame) : State where
  vm := { classes := classes, interned := interned.toArray }
  heap := heap
  slotsUsed := slotsUsed
  threads := #[{ frames := .invoking theMethod args0 :: below }]
def below0 : List Frame := [.native { method := ⟨0, 0⟩, args := #[] }]
def about1 : State := aboutOver below0
def p0 : Program := .bare "" "" ""
def e0 : Env := launch0.env 0 0 0
theorem w_frames : about1.frames = Frame.invoking theMethod args0 :: below0 := rfl
set_option maxRecDepth 65536 in
theorem w_args : argsFit about1.vm theMethod args0 = true := by decide +kernel
set_option maxRecDepth 65536 in
theorem w_heap : heapFits about1 = true := by decide +kernel
set_option maxRecDepth 65536 in
theorem w_runnable : about1.curStatus? = some .runnable := by decide +kernel
set_option maxRecDepth 65536 in
theorem w_alone : about1.alone = true := by decide +kernel
set_option maxRecDepth 65536 in
theorem w_named : about1.methodNamed? x = some theMethod := by decide +kernel
set_option maxRecDepth 65536 in
theorem w_hears : about1.hears theMethod below0 = true := by decide +kernel
set_option maxRecDepth 65536 in
theorem w_ripe : about1.ripe theMethod args0 below0 = true := by decide +kernel
theorem w_running : about1.status = .running := rfl
set_option maxRecDepth 65536 in
theorem w_room : about1.hasRoom e0.platform room_1 = true :=
  launch0.hasRoom_least _ room_1 (by decide +kernel) (by decide +kernel) (by decide +kernel) (by decide +kernel) (by decide +kernel) (by decide +kernel)
theorem allAtoms_all (ts : List Jvm.Cond) (a : Array Jvm.Value) (st : Jvm.State) : (allAtoms ts).before a st = ts.all (fun c => c.before a st) := by
  induction ts with
  | nil => rfl
  | cons c t ih =>
    show (Jvm.Cond.and c (allAtoms t)).before a st = _
    rw [Jvm.Cond.before_and, ih, List.all_cons]
def words1 : List Jvm.Cond := Jvm.Cond.code x code maxLocals ret :: tables_1
/-- a 'code' word, met by the world's own term for the bytes: nothing is compared byte by byte -/
theorem code_word {y : MethodName} {bytes : ByteArray} {mx : Nat} {rt : Option FieldType} {a : Array Value} {s : State} {m : MethodId} {meth : Method} {c : Code} (h1 : s.methodNamed? y = some m) (h2 : s.vm.method? m = some meth) (h3 : meth.code = some c) (h4 : c.code = bytes)
    (h5 : (c.maxLocals == mx && c.exceptionTable.isEmpty && decide (c.maxStack ≤ mostOperands) && decide (meth.sig.returnType = rt) && !meth.locks && decide (parseMethodDescriptor y.desc = some meth.sig)) = true) : (Jvm.Cond.code y bytes mx rt).before a s = true := by
  simp only [Bool.and_eq_true, beq_iff_eq, Bool.not_eq_true', decide_eq_true_eq] at h5
  obtain ⟨⟨⟨⟨⟨g1, g2⟩, g3⟩, g4⟩, g5⟩, g6⟩ := h5
  simp [Cond.before, Cond.holds, Cond.value, h1, h2, h3, h4, g1, g2, g3, g4, g5, g6]
def isCode : Jvm.Cond → Bool
  | .code _ _ _ _ => true
  | _ => false
theorem all_split {L : List Jvm.Cond} {P : Jvm.Cond → Bool} (h1 : L.all (fun c => isCode c || P c) = true) (h2 : ∀ c ∈ L.filter isCode, P c = true) : L.all P = true := by
  refine List.all_eq_true.mpr fun c hc => ?_
  have h := List.all_eq_true.mp h1 c hc
  rcases Bool.eq_false_or_eq_true (isCode c) with hi | hi
  · exact h2 c (List.mem_filter.mpr ⟨hc, hi⟩)
  · simpa [hi] using h
set_option maxRecDepth 65536 in
theorem w_c0 : (Jvm.Cond.code x code maxLocals ret).before args0 about1 = true := code_word (m := ⟨1, 1⟩) (meth := k1m1) (c := k1c1) (by decide +kernel) rfl rfl rfl (by decide +kernel)
set_option maxRecDepth 65536 in
theorem w_c1 : (Jvm.Cond.code ({ cls := "com/example/dozor/dozor/NamesRequireCollectionNamePinLaw", name := "first", desc := "(I)C" } : Jvm.MethodName) method_3_code (1 : Nat) (Option.some Jvm.ClassFile.FieldType.char)).before args0 about1 = true := code_word (m := ⟨1, 2⟩) (meth := k1m2) (c := k1c2) (by decide +kernel) rfl rfl rfl (by decide +kernel)
set_option maxRecDepth 65536 in
theorem w_c2 : (Jvm.Cond.code ({ cls := "com/example/dozor/dozor/NamesRequireCollectionNamePinLaw", name := "rest", desc := "(I)C" } : Jvm.MethodName) method_4_code (2 : Nat) (Option.some Jvm.ClassFile.FieldType.char)).before args0 about1 = true := code_word (m := ⟨1, 3⟩) (meth := k1m3) (c := k1c3) (by decide +kernel) rfl rfl rfl (by decide +kernel)
set_option maxRecDepth 65536 in
theorem w_c3 : (Jvm.Cond.code ({ cls := "java/lang/String", name := "<init>", desc := "([C)V" } : Jvm.MethodName) jdk_42_method_3_code (2 : Nat) (Option.none : Option Jvm.ClassFile.FieldType)).before args0 about1 = true := code_word (m := ⟨7, 1⟩) (meth := k7m1) (c := k7c1) (by decide +kernel) rfl rfl rfl (by decide +kernel)
set_option maxRecDepth 65536 in
theorem w_c4 : (Jvm.Cond.code ({ cls := "java/lang/String", name := "<init>", desc := "([CIILjava/lang/Void;)V" } : Jvm.MethodName) jdk_42_method_149_code (6 : Nat) (Option.none : Option Jvm.ClassFile.FieldType)).before args0 about1 = true := code_word (m := ⟨7, 5⟩) (meth := k7m5) (c := k7c5) (by decide +kernel) rfl rfl rfl (by decide +kernel)
set_option maxRecDepth 65536 in
theorem w_c5 : (Jvm.Cond.code ({ cls := "java/lang/Object", name := "<init>", desc := "()V" } : Jvm.MethodName) object_method_1_code (1 : Nat) (Option.none : Option Jvm.ClassFile.FieldType)).before args0 about1 = true := code_word (m := ⟨0, 0⟩) (meth := k0m0) (c := k0c0) (by decide +kernel) rfl rfl rfl (by decide +kernel)
set_option maxRecDepth 65536 in
theorem w_c6 : (Jvm.Cond.code ({ cls := "java/lang/StringUTF16", name := "compress", desc := "([CII)[B" } : Jvm.MethodName) jdk_52_method_16_code (6 : Nat) (Option.some (Jvm.ClassFile.FieldType.array Jvm.ClassFile.FieldType.byte))).before args0 about1 = true := code_word (m := ⟨8, 2⟩) (meth := k8m2) (c := k8c2) (by decide +kernel) rfl rfl rfl (by decide +kernel)
set_option maxRecDepth 65536 in
theorem w_c7 : (Jvm.Cond.code ({ cls := "java/lang/StringUTF16", name := "compress", desc := "([CI[BII)I" } : Jvm.MethodName) jdk_52_method_21_code (7 : Nat) (Option.some Jvm.ClassFile.FieldType.int)).before args0 about1 = true := code_word (m := ⟨8, 3⟩) (meth := k8m3) (c := k8c3) (by decide +kernel) rfl rfl rfl (by decide +kernel)
set_option maxRecDepth 65536 in
theorem w_c8 : (Jvm.Cond.code ({ cls := "java/lang/StringUTF16", name := "coderFromArrayLen", desc := "([BI)B" } : Jvm.MethodName) jdk_52_method_15_code (2 : Nat) (Option.some Jvm.ClassFile.FieldType.byte)).before args0 about1 = true := code_word (m := ⟨8, 1⟩) (meth := k8m1) (c := k8c1) (by decide +kernel) rfl rfl rfl (by decide +kernel)
set_option maxRecDepth 65536 in
theorem w_c9 : (Jvm.Cond.code ({ cls := "com/example/dozor/dozor/Names", name := "requireCollectionName", desc := "(Ljava/lang/String;)Ljava/lang/String;" } : Jvm.MethodName) prog_13_method_2_code (3 : Nat) (Option.some (Jvm.ClassFile.FieldType.object "java/lang/String"))).before args0 about1 = true := code_word (m := ⟨9, 1⟩) (meth := k9m1) (c := k9c1) (by decide +kernel) rfl rfl rfl (by decide +kernel)
set_option maxRecDepth 65536 in
theorem w_c10 : (Jvm.Cond.code ({ cls := "java/lang/String", name := "isEmpty", desc := "()Z" } : Jvm.MethodName) jdk_42_method_55_code (1 : Nat) (Option.some Jvm.ClassFile.FieldType.boolean)).before args0 about1 = true := code_word (m := ⟨7, 3⟩) (meth := k7m3) (c := k7c3) (by decide +kernel) rfl rfl rfl (by decide +kernel)
set_option maxRecDepth 65536 in
theorem w_c11 : (Jvm.Cond.code ({ cls := "java/lang/String", name := "length", desc := "()I" } : Jvm.MethodName) jdk_42_method_54_code (1 : Nat) (Option.some Jvm.ClassFile.FieldType.int)).before args0 about1 = true := code_word (m := ⟨7, 2⟩) (meth := k7m2) (c := k7c2) (by decide +kernel) rfl rfl rfl (by decide +kernel)
set_option maxRecDepth 65536 in
theorem w_c12 : (Jvm.Cond.code ({ cls := "java/lang/String", name := "coder", desc := "()B" } : Jvm.MethodName) jdk_42_method_152_code (1 : Nat) (Option.some Jvm.ClassFile.FieldType.byte)).before args0 about1 = true := code_word (m := ⟨7, 6⟩) (meth := k7m6) (c := k7c6) (by decide +kernel) rfl rfl rfl (by decide +kernel)
set_option maxRecDepth 65536 in
theorem w_c13 : (Jvm.Cond.code ({ cls := "java/lang/String", name := "charAt", desc := "(I)C" } : Jvm.MethodName) jdk_42_method_56_code (2 : Nat) (Option.some Jvm.ClassFile.FieldType.char)).before args0 about1 = true := code_word (m := ⟨7, 4⟩) (meth := k7m4) (c := k7c4) (by decide +kernel) rfl rfl rfl (by decide +kernel)
set_option maxRecDepth 65536 in
theorem w_c14 : (Jvm.Cond.code ({ cls := "java/lang/String", name := "isLatin1", desc := "()Z" } : Jvm.MethodName) jdk_42_method_154_code (1 : Nat) (Option.some Jvm.ClassFile.FieldType.boolean)).before args0 about1 = true := code_word (m := ⟨7, 7⟩) (meth := k7m7) (c := k7c7) (by decide +kernel) rfl rfl rfl (by decide +kernel)
set_option maxRecDepth 65536 in
theorem w_c15 : (Jvm.Cond.code ({ cls := "java/lang/StringLatin1", name := "charAt", desc := "([BI)C" } : Jvm.MethodName) jdk_43_method_2_code (2 : Nat) (Option.some Jvm.ClassFile.FieldType.char)).before args0 about1 = true := code_word (m := ⟨10, 1⟩) (meth := k10m1) (c := k10c1) (by decide +kernel) rfl rfl rfl (by decide +kernel)
set_option maxRecDepth 65536 in
theorem w_c16 : (Jvm.Cond.code ({ cls := "java/lang/String", name := "checkIndex", desc := "(II)V" } : Jvm.MethodName) jdk_42_method_155_code (2 : Nat) (Option.none : Option Jvm.ClassFile.FieldType)).before args0 about1 = true := code_word (m := ⟨7, 8⟩) (meth := k7m8) (c := k7c8) (by decide +kernel) rfl rfl rfl (by decide +kernel)
set_option maxRecDepth 65536 in
theorem w_c17 : (Jvm.Cond.code ({ cls := "jdk/internal/util/Preconditions", name := "checkIndex", desc := "(IILjava/util/function/BiFunction;)I" } : Jvm.MethodName) jdk_41_method_11_code (3 : Nat) (Option.some Jvm.ClassFile.FieldType.int)).before args0 about1 = true := code_word (m := ⟨11, 1⟩) (meth := k11m1) (c := k11c1) (by decide +kernel) rfl rfl rfl (by decide +kernel)
set_option maxRecDepth 65536 in
theorem w_c18 : (Jvm.Cond.code ({ cls := "com/example/dozor/dozor/Names", name := "isLowerLetter", desc := "(C)Z" } : Jvm.MethodName) prog_13_method_7_code (1 : Nat) (Option.some Jvm.ClassFile.FieldType.boolean)).before args0 about1 = true := code_word (m := ⟨9, 2⟩) (meth := k9m2) (c := k9c2) (by decide +kernel) rfl rfl rfl (by decide +kernel)
def codes1 : List Jvm.Cond := [Jvm.Cond.code x code maxLocals ret, Jvm.Cond.code ({ cls := "com/example/dozor/dozor/NamesRequireCollectionNamePinLaw", name := "first", desc := "(I)C" } : Jvm.MethodName) method_3_code (1 : Nat) (Option.some Jvm.ClassFile.FieldType.char), Jvm.Cond.code ({ cls := "com/example/dozor/dozor/NamesRequireCollectionNamePinLaw", name := "rest", desc := "(I)C" } : Jvm.MethodName) method_4_code (2 : Nat) (Option.some Jvm.ClassFile.FieldType.char), Jvm.Cond.code ({ cls := "java/lang/String", name := "<init>", desc := "([C)V" } : Jvm.MethodName) jdk_42_method_3_code (2 : Nat) (Option.none : Option Jvm.ClassFile.FieldType), Jvm.Cond.code ({ cls := "java/lang/String", name := "<init>", desc := "([CIILjava/lang/Void;)V" } : Jvm.MethodName) jdk_42_method_149_code (6 : Nat) (Option.none : Option Jvm.ClassFile.FieldType), Jvm.Cond.code ({ cls := "java/lang/Object", name := "<init>", desc := "()V" } : Jvm.MethodName) object_method_1_code (1 : Nat) (Option.none : Option Jvm.ClassFile.FieldType), Jvm.Cond.code ({ cls := "java/lang/StringUTF16", name := "compress", desc := "([CII)[B" } : Jvm.MethodName) jdk_52_method_16_code (6 : Nat) (Option.some (Jvm.ClassFile.FieldType.array Jvm.ClassFile.FieldType.byte)), Jvm.Cond.code ({ cls := "java/lang/StringUTF16", name := "compress", desc := "([CI[BII)I" } : Jvm.MethodName) jdk_52_method_21_code (7 : Nat) (Option.some Jvm.ClassFile.FieldType.int), Jvm.Cond.code ({ cls := "java/lang/StringUTF16", name := "coderFromArrayLen", desc := "([BI)B" } : Jvm.MethodName) jdk_52_method_15_code (2 : Nat) (Option.some Jvm.ClassFile.FieldType.byte), Jvm.Cond.code ({ cls := "com/example/dozor/dozor/Names", name := "requireCollectionName", desc := "(Ljava/lang/String;)Ljava/lang/String;" } : Jvm.MethodName) prog_13_method_2_code (3 : Nat) (Option.some (Jvm.ClassFile.FieldType.object "java/lang/String")), Jvm.Cond.code ({ cls := "java/lang/String", name := "isEmpty", desc := "()Z" } : Jvm.MethodName) jdk_42_method_55_code (1 : Nat) (Option.some Jvm.ClassFile.FieldType.boolean), Jvm.Cond.code ({ cls := "java/lang/String", name := "length", desc := "()I" } : Jvm.MethodName) jdk_42_method_54_code (1 : Nat) (Option.some Jvm.ClassFile.FieldType.int), Jvm.Cond.code ({ cls := "java/lang/String", name := "coder", desc := "()B" } : Jvm.MethodName) jdk_42_method_152_code (1 : Nat) (Option.some Jvm.ClassFile.FieldType.byte), Jvm.Cond.code ({ cls := "java/lang/String", name := "charAt", desc := "(I)C" } : Jvm.MethodName) jdk_42_method_56_code (2 : Nat) (Option.some Jvm.ClassFile.FieldType.char), Jvm.Cond.code ({ cls := "java/lang/String", name := "isLatin1", desc := "()Z" } : Jvm.MethodName) jdk_42_method_154_code (1 : Nat) (Option.some Jvm.ClassFile.FieldType.boolean), Jvm.Cond.code ({ cls := "java/lang/StringLatin1", name := "charAt", desc := "([BI)C" } : Jvm.MethodName) jdk_43_method_2_code (2 : Nat) (Option.some Jvm.ClassFile.FieldType.char), Jvm.Cond.code ({ cls := "java/lang/String", name := "checkIndex", desc := "(II)V" } : Jvm.MethodName) jdk_42_method_155_code (2 : Nat) (Option.none : Option Jvm.ClassFile.FieldType), Jvm.Cond.code ({ cls := "jdk/internal/util/Preconditions", name := "checkIndex", desc := "(IILjava/util/function/BiFunction;)I" } : Jvm.MethodName) jdk_41_method_11_code (3 : Nat) (Option.some Jvm.ClassFile.FieldType.int), Jvm.Cond.code ({ cls := "com/example/dozor/dozor/Names", name := "isLowerLetter", desc := "(C)Z" } : Jvm.MethodName) prog_13_method_7_code (1 : Nat) (Option.some Jvm.ClassFile.FieldType.boolean)]
set_option maxRecDepth 65536 in
theorem codes_eq : words1.filter isCode = codes1 := rfl
theorem w_codes : ∀ c ∈ words1.filter isCode, c.before args0 about1 = true := by
  rw [codes_eq]
  intro c hc
  simp only [codes1, List.mem_cons, List.not_mem_nil, or_false] at hc
  rcases hc with rfl | rfl | rfl | rfl | rfl | rfl | rfl | rfl | rfl | rfl | rfl | rfl | rfl | rfl | rfl | rfl | rfl | rfl | rfl
  · exact w_c0
  · exact w_c1
  · exact w_c2
  · exact w_c3
  · exact w_c4
  · exact w_c5
  · exact w_c6
  · exact w_c7
  · exact w_c8
  · exact w_c9
  · exact w_c10
  · exact w_c11
  · exact w_c12
  · exact w_c13
  · exact w_c14
  · exact w_c15
  · exact w_c16
  · exact w_c17
  · exact w_c18
set_option maxRecDepth 65536 in
theorem w_t1 : (words1.take 24).all (fun c => isCode c || c.before args0 about1) = true := by decide +kernel
set_option maxRecDepth 65536 in
theorem w_t2 : ((words1.drop 24).take 24).all (fun c => isCode c || c.before args0 about1) = true := by decide +kernel
set_option maxRecDepth 65536 in
theorem w_t3 : (((words1.drop 24).drop 24).take 24).all (fun c => isCode c || c.before args0 about1) = true := by decide +kernel
set_option maxRecDepth 65536 in
theorem w_t4 : (((words1.drop 24).drop 24).drop 24).all (fun c => isCode c || c.before args0 about1) = true := by decide +kernel
theorem w_tables : (allAtoms (Jvm.Cond.code x code maxLocals ret :: tables_1)).before args0 about1 = true := by
  rw [allAtoms_all]
  show words1.all (fun c => c.before args0 about1) = true
  refine all_split ?_ w_codes
  rw [← List.take_append_drop 24 words1, List.all_append, w_t1, ← List.take_append_drop 24 (words1.drop 24), List.all_append, w_t2, ← List.take_append_drop 24 ((words1.drop 24).drop 24), List.all_append, w_t3, w_t4]
  rfl
set_option maxRecDepth 65536 in
theorem w_rest : rest_1_c.before args0 about1 = true := by decide +kernel
set_option maxRecDepth 65536 in
theorem w_case : (Jvm.Cond.and given_1 narrow_1).before args0 about1 = true := by decide +kernel
set_option maxRecDepth 65536 in
theorem w_consts : constsHeld consts_1 about1 := Jvm.Lit.constsHeldB_iff.mp (by decide +kernel)
theorem w_applies : (headSpec (Jvm.Cond.code x code maxLocals ret :: tables_1) room_1).applies x e0.platform about1 = true :=
  (Spec.applies_iff w_frames).mpr ⟨w_running, w_runnable, w_alone, w_named, w_hears, w_ripe, w_room, w_tables⟩
theorem atStart : AtStart classFile x code maxLocals ret World_1 tables_1 room_1 Calls_1 rest_1 Pre_1 launch0 p0 e0 about1 theMethod args0 below0 :=
  ⟨lists_1, trivial, launch0.admits_env _ _ _, launch0.least_env, fairChoices_fair.cas, fairChoices_fair.clock, w_frames, w_args, w_heap, w_applies, ⟨w_consts, trivial⟩, w_rest, w_case⟩
end start1
theorem witness_1 : WitnessClaimed_1 := ⟨start1.p0, start1.e0, start1.about1, start1.theMethod, start1.args0, start1.below0, start1.atStart⟩
end Jvm.Pilot.@@N@@
