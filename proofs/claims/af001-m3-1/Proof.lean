import JvmDerived
import JvmDerived.Pilot.@@N@@Statement
import JvmDerived.Pilot.@@N@@Code
set_option linter.unusedVariables false
set_option linter.unusedSimpArgs false
/- laws to paste: Road.backArv, Road.codOf, Road.empW, Road.lenW, Road.chN (cut by pick.py; bodies as the Statement names them) -/
namespace Jvm.Pilot.@@N@@
namespace StrChars
open Jvm Sem ClassFile Op Lib Jvm.Stand Jvm.Free.XT Jvm.Free.ALB Jvm.Free.JM Jvm.Free
open Jvm.Lib.Cold (StaticIs)
/-- a char array whose places are chars -/
def Ch (a : Addr) (A : Cell) (U : State) : Prop := Arr .char a A U ∧ Typed .char A
theorem Ch.mv {a : Addr} {A : Cell} {U U' : State} (h : Ch a A U) (hal : U.vm.Alike U'.vm) (hh : U'.heap = U.heap) : Ch a A U' := ⟨h.1.mv hal hh, h.2⟩
theorem Ch.keep {a : Addr} {A : Cell} {U U' : State} (h : Ch a A U) (hal : U.vm.Alike U'.vm) (hk : U'.heap[a]? = some A) : Ch a A U' := ⟨h.1.keep hal hk, h.2⟩
/-- what place i of a char[]'s cell holds -/
def cv (A : Cell) (i : Nat) : Int32 := match A.slots[i]? with | some (.int x) => x | _ => 0
theorem Ch.get {a : Addr} {A : Cell} {U : State} (h : Ch a A U) {i : Nat} (hi : i < A.slots.size) : A.slots[i]? = some (.int (cv A i)) := by
  have e := Array.getElem?_eq_getElem hi
  have f := h.2 i _ e
  unfold cv; rw [e]
  generalize A.slots[i] = v at f
  cases v <;> simp [fits] at f ⊢
/-- the byte that i2b leaves of a char -/
def lo8 (x : Int32) : Int32 := x.toInt8.toInt32
theorem fits_lo8 (y : Int32) : fits .byte (.int (lo8 y)) = true := by
  have h1 := y.toInt8.le_toInt
  have h2 := y.toInt8.toInt_lt
  simp only [lo8, fits, Bool.and_eq_true, decide_eq_true_eq, Int32.le_iff_toInt_le, Int8.toInt_toInt32, show (-128 : Int32).toInt = -128 from by decide, show (127 : Int32).toInt = 127 from by decide]
  omega
/-- A' is A but that each place j of lo .. hi - 1 holds f j -/
def Laid (A A' : Cell) (lo hi : Nat) (f : Nat → Value) : Prop := A'.cls = A.cls ∧ A'.vm = A.vm ∧ A'.slots.size = A.slots.size ∧ ∀ i, A'.slots[i]? = if lo ≤ i ∧ i < hi then some (f i) else A.slots[i]?
theorem Laid.zero (A : Cell) (lo : Nat) (f : Nat → Value) : Laid A A lo (lo + 0) f := ⟨rfl, rfl, rfl, fun i => by rw [if_neg (by omega)]⟩
theorem Laid.step {A Ak : Cell} {lo k : Nat} {f : Nat → Value} {v : Value} (h : Laid A Ak lo k f) (hlo : lo ≤ k) (hk : k < Ak.slots.size) (hv : v = f k) : Laid A (Ak.setSlot k v) lo (k + 1) f := by
  refine ⟨h.1, h.2.1, by simpa [Cell.setSlot] using h.2.2.1, fun i => ?_⟩
  by_cases e : k = i
  · subst e; rw [Cell.slots_setSlot_self v hk, if_pos (by omega), hv]
  · rw [Cell.slots_setSlot_ne v e, h.2.2.2 i]
    by_cases q : lo ≤ i ∧ i < k
    · rw [if_pos q, if_pos (by omega)]
    · rw [if_neg q, if_neg (by omega)]
def U16 : String := "java/lang/StringUTF16"
namespace Cmp5
def yN : MethodName := ⟨"java/lang/StringUTF16", "compress", "([CI[BII)I"⟩
abbrev yB : ByteArray := jdk_52_method_21_code
theorem d0 : decode yB 0 = .ok (.iconst 0, 1) := by decide +kernel
theorem d1 : decode yB 1 = .ok (.istore 5, 2) := by decide +kernel
theorem d3 : decode yB 3 = .ok (.iload 5, 2) := by decide +kernel
theorem d5 : decode yB 5 = .ok (.iload 4, 2) := by decide +kernel
theorem d7 : decode yB 7 = .ok (.if_icmp (.ge) 37, 3) := by decide +kernel
theorem d10 : decode yB 10 = .ok (.aload_n 0, 1) := by decide +kernel
theorem d11 : decode yB 11 = .ok (.iload_n 1, 1) := by decide +kernel
theorem d12 : decode yB 12 = .ok (.caload, 1) := by decide +kernel
theorem d13 : decode yB 13 = .ok (.istore 6, 2) := by decide +kernel
theorem d15 : decode yB 15 = .ok (.iload 6, 2) := by decide +kernel
theorem d17 : decode yB 17 = .ok (.sipush 255, 3) := by decide +kernel
theorem d20 : decode yB 20 = .ok (.if_icmp (.le) 6, 3) := by decide +kernel
theorem d26 : decode yB 26 = .ok (.aload_n 2, 1) := by decide +kernel
theorem d27 : decode yB 27 = .ok (.iload_n 3, 1) := by decide +kernel
theorem d28 : decode yB 28 = .ok (.iload 6, 2) := by decide +kernel
theorem d30 : decode yB 30 = .ok (.i2b, 1) := by decide +kernel
theorem d31 : decode yB 31 = .ok (.bastore, 1) := by decide +kernel
theorem d32 : decode yB 32 = .ok (.iinc 1 1, 3) := by decide +kernel
theorem d35 : decode yB 35 = .ok (.iinc 3 1, 3) := by decide +kernel
theorem d38 : decode yB 38 = .ok (.iinc 5 1, 3) := by decide +kernel
theorem d41 : decode yB 41 = .ok (.goto (-38), 3) := by decide +kernel
theorem d44 : decode yB 44 = .ok (.iload 4, 2) := by decide +kernel
theorem d46 : decode yB 46 = .ok (.ireturn, 1) := by decide +kernel
def site : List Cond := []
def tab : Cond := tabOf yN yB 7 (some .int) site
def P (b : Addr) (A : Cell) (d : Addr) (B : Cell) (o q len : Nat) (args : Array Value) (s : State) : Prop := args = #[.ref b, .int (Int32.ofNat o), .ref d, .int (Int32.ofNat q), .int (Int32.ofNat len)] ∧ Ch b A s ∧ Arr .byte d B s ∧ b ≠ d ∧ o + len ≤ A.slots.size ∧ q + len ≤ B.slots.size ∧ ∀ i, i < len → ¬ 255 < cv A (o + i)
def E (b : Addr) (A : Cell) (d : Addr) (B : Cell) (o q len : Nat) (r : Option Value) (s u : State) : Prop := r = some (.int (Int32.ofNat len)) ∧ ∃ B', Put d B' s u ∧ Laid B B' q (q + len) (fun j => Value.int (lo8 (cv A (o + (j - q)))))
/-- no char of the range above 255: len; the places written hold each char's low byte -/
theorem law (l : Launch) (b : Addr) (A : Cell) (d : Addr) (B : Cell) (o q len : Nat) : Law l yN 5 5 0 0 yB 7 (some .int) site (P b A d B o q len) (E b A d B o q len) (copyLocs d q len) 0 0 := by
  refine Law.of_walk (plainFor_of_name (by decide +kernel)) (by decide +kernel) (by decide +kernel) (by decide) (fun _ _ h => by rw [h.1]; rfl) (fun _ U U' hal hh h => ⟨h.1, h.2.1.mv hal hh, h.2.2.1.mv hal hh, h.2.2.2⟩) (fun r U U' V V' h1 hal h2 h => ⟨h.1, h.2.elim fun B' q => ⟨B', q.1.mv h1 h2, q.2⟩⟩) ?_
  intro p e s m args below meth c s₁ X0 hexec hbytes hml hret hlk hnm hown hh0 W hP
  obtain ⟨rfl, hA, hB, hne, l1, l2, hp⟩ := hP
  have c1 : Steps p.tables e below (s₁.setTop (entryFrame m #[.ref b, .int (Int32.ofNat o), .ref d, .int (Int32.ofNat q), .int (Int32.ofNat len)] 7)) (s₁.setTop (mkF m 0 #[.val (.ref b), .val (.int (Int32.ofNat o)), .val (.ref d), .val (.int (Int32.ofNat q)), .val (.int (Int32.ofNat len)), .unset, .unset] [])) := entry rfl
  have hA0 := hA.1.mv X0.warmed.alike hh0
  have hB0 := hB.mv X0.warmed.alike hh0
  have a31 := hA.1.2.2.2
  have c2 : Steps p.tables e below (s₁.setTop (entryFrame m #[.ref b, .int (Int32.ofNat o), .ref d, .int (Int32.ofNat q), .int (Int32.ofNat len)] 7)) (s₁.setTop (mkF m 3 #[.val (.ref b), .val (.int (Int32.ofNat o)), .val (.ref d), .val (.int (Int32.ofNat q)), .val (.int (Int32.ofNat len)), .val (.int 0), .unset] [])) := c1.trans (by
    refine iconstV X0.here hexec rfl 0 (hb hbytes d0) (by decide) ?_
    refine XS.istore X0.here hexec rfl (hb hbytes d1) rfl rfl ?_
    exact Steps.refl _)
  have loop : ∀ (r i : Nat), i + r = len → ∀ (z : Slot), (z = .unset ∨ ∃ w, z = .val w ∧ w.category = 1) → ∀ (Tl : State) (Bk : Cell), Stand p l e { frames := 0, locals := 0, cells := 0, slots := 0 } s m #[.ref b, .int (Int32.ofNat o), .ref d, .int (Int32.ofNat q), .int (Int32.ofNat len)] below meth c Tl ([] ++ copyLocs d q i) 0 0 → Put d Bk s₁ Tl → Laid B Bk q (q + i) (fun j => Value.int (lo8 (cv A (o + (j - q))))) →
      Steps p.tables e below (s₁.setTop (entryFrame m #[.ref b, .int (Int32.ofNat o), .ref d, .int (Int32.ofNat q), .int (Int32.ofNat len)] 7)) (Tl.setTop (mkF m 3 #[.val (.ref b), .val (.int (Int32.ofNat (o + i))), .val (.ref d), .val (.int (Int32.ofNat (q + i))), .val (.int (Int32.ofNat len)), .val (.int (Int32.ofNat i)), z] [])) → ∃ (T' : State) (B' : Cell) (z' : Slot), Stand p l e { frames := 0, locals := 0, cells := 0, slots := 0 } s m #[.ref b, .int (Int32.ofNat o), .ref d, .int (Int32.ofNat q), .int (Int32.ofNat len)] below meth c T' ([] ++ copyLocs d q len) 0 0 ∧ Put d B' s₁ T' ∧ Laid B B' q (q + len) (fun j => Value.int (lo8 (cv A (o + (j - q))))) ∧
      Steps p.tables e below (s₁.setTop (entryFrame m #[.ref b, .int (Int32.ofNat o), .ref d, .int (Int32.ofNat q), .int (Int32.ofNat len)] 7)) (T'.setTop (mkF m 3 #[.val (.ref b), .val (.int (Int32.ofNat (o + len))), .val (.ref d), .val (.int (Int32.ofNat (q + len))), .val (.int (Int32.ofNat len)), .val (.int (Int32.ofNat len)), z'] [])) := by
    intro r
    induction r with
    | zero =>
      intro i hi z hz Tl Bk Xl pl fl cl
      have hil : i = len := by omega
      rw [hil] at Xl fl cl
      exact ⟨Tl, Bk, z, Xl, pl, fl, cl⟩
    | succ r ih =>
      intro i hi z hz Tl Bk Xl pl fl cl
      have all := X0.warmed.alike.symm.trans Xl.warmed.alike
      have hAl := hA0.keep all (pl.other hne hA0.1)
      have hBk := hB0.like all pl.1 fl.1 fl.2.1 fl.2.2.1
      have hlt : q + i < Bk.slots.size := by rw [fl.2.2.1]; omega
      have c3 : Steps p.tables e below (s₁.setTop (entryFrame m #[.ref b, .int (Int32.ofNat o), .ref d, .int (Int32.ofNat q), .int (Int32.ofNat len)] 7)) (Tl.setTop (mkF m 12 #[.val (.ref b), .val (.int (Int32.ofNat (o + i))), .val (.ref d), .val (.int (Int32.ofNat (q + i))), .val (.int (Int32.ofNat len)), .val (.int (Int32.ofNat i)), z] [.int (Int32.ofNat (o + i)), .ref b])) := cl.trans (by
        refine XS.iload Xl.here hexec rfl (hb hbytes d3) rfl ?_
        refine XS.iload Xl.here hexec rfl (hb hbytes d5) rfl ?_
        refine XS.icmpNo Xl.here hexec rfl (hb hbytes d7) rfl (ii_ge_f (lt32 (by omega) (by omega))) ?_
        refine XS.aloadN Xl.here hexec rfl (hb hbytes d10) rfl rfl ?_
        refine XS.iloadN Xl.here hexec rfl (hb hbytes d11) rfl ?_
        exact Steps.refl _)
      have c4 : Steps p.tables e below (s₁.setTop (entryFrame m #[.ref b, .int (Int32.ofNat o), .ref d, .int (Int32.ofNat q), .int (Int32.ofNat len)] 7)) (Tl.setTop (mkF m 13 #[.val (.ref b), .val (.int (Int32.ofNat (o + i))), .val (.ref d), .val (.int (Int32.ofNat (q + i))), .val (.int (Int32.ofNat len)), .val (.int (Int32.ofNat i)), z] [.int (cv A (o + i))])) := c3.trans (by
        refine Xl.aget hexec hAl rfl (hA.get (i := o + i) (by omega)) rfl rfl (hb hbytes d12) ?_
        exact Steps.refl _)
      have c5 : Steps p.tables e below (s₁.setTop (entryFrame m #[.ref b, .int (Int32.ofNat o), .ref d, .int (Int32.ofNat q), .int (Int32.ofNat len)] 7)) (Tl.setTop (mkF m 15 #[.val (.ref b), .val (.int (Int32.ofNat (o + i))), .val (.ref d), .val (.int (Int32.ofNat (q + i))), .val (.int (Int32.ofNat len)), .val (.int (Int32.ofNat i)), .val (.int (cv A (o + i)))] [])) := c4.trans (by
        refine XS.istoreS Xl.here hexec rfl (hb hbytes d13) rfl rfl hz ?_
        exact Steps.refl _)
      have c6 : Steps p.tables e below (s₁.setTop (entryFrame m #[.ref b, .int (Int32.ofNat o), .ref d, .int (Int32.ofNat q), .int (Int32.ofNat len)] 7)) (Tl.setTop (mkF m 31 #[.val (.ref b), .val (.int (Int32.ofNat (o + i))), .val (.ref d), .val (.int (Int32.ofNat (q + i))), .val (.int (Int32.ofNat len)), .val (.int (Int32.ofNat i)), .val (.int (cv A (o + i)))] [.int (lo8 (cv A (o + i))), .int (Int32.ofNat (q + i)), .ref d])) := c5.trans (by
        refine XS.iload Xl.here hexec rfl (hb hbytes d15) rfl ?_
        refine sipushV Xl.here hexec rfl 255 (hb hbytes d17) (by decide) ?_
        refine XS.icmpYes Xl.here hexec rfl (pc0 := 20) rfl (hb hbytes d20) rfl (ii_le_t (hp i (by omega))) (by decide) rfl ?_
        refine XS.aloadN Xl.here hexec rfl (hb hbytes d26) rfl rfl ?_
        refine XS.iloadN Xl.here hexec rfl (hb hbytes d27) rfl ?_
        refine XS.iload Xl.here hexec rfl (hb hbytes d28) rfl ?_
        refine i2b Xl.here hexec rfl (hb hbytes d30) rfl ?_
        exact Steps.refl _)
      obtain ⟨T7, X7, p7, st7⟩ := Xl.aput hexec hBk rfl hlt rfl (fits_lo8 (cv A (o + i))) (g := (mkF m 31 #[.val (.ref b), .val (.int (Int32.ofNat (o + i))), .val (.ref d), .val (.int (Int32.ofNat (q + i))), .val (.int (Int32.ofNat len)), .val (.int (Int32.ofNat i)), .val (.int (cv A (o + i)))] [.int (lo8 (cv A (o + i))), .int (Int32.ofNat (q + i)), .ref d])) rfl (rest := []) rfl (hb hbytes d31)
      have c8 : Steps p.tables e below (s₁.setTop (entryFrame m #[.ref b, .int (Int32.ofNat o), .ref d, .int (Int32.ofNat q), .int (Int32.ofNat len)] 7)) (T7.setTop (mkF m 32 #[.val (.ref b), .val (.int (Int32.ofNat (o + i))), .val (.ref d), .val (.int (Int32.ofNat (q + i))), .val (.int (Int32.ofNat len)), .val (.int (Int32.ofNat i)), .val (.int (cv A (o + i)))] [])) := c6.trans (st7 _ (Steps.refl _))
      have c9 : Steps p.tables e below (s₁.setTop (entryFrame m #[.ref b, .int (Int32.ofNat o), .ref d, .int (Int32.ofNat q), .int (Int32.ofNat len)] 7)) (T7.setTop (mkF m 3 #[.val (.ref b), .val (.int (Int32.ofNat (o + i) + 1)), .val (.ref d), .val (.int (Int32.ofNat (q + i) + 1)), .val (.int (Int32.ofNat len)), .val (.int (Int32.ofNat i + 1)), .val (.int (cv A (o + i)))] [])) := c8.trans (by
        refine iincV X7.here hexec rfl 1 (hb hbytes d32) (by decide) rfl rfl ?_
        refine iincV X7.here hexec rfl 1 (hb hbytes d35) (by decide) rfl rfl ?_
        refine iincV X7.here hexec rfl 1 (hb hbytes d38) (by decide) rfl rfl ?_
        refine XS.goto X7.here hexec rfl (pc0 := 41) rfl (hb hbytes d41) (by decide) rfl ?_
        exact Steps.refl _)
      have c10 : Steps p.tables e below (s₁.setTop (entryFrame m #[.ref b, .int (Int32.ofNat o), .ref d, .int (Int32.ofNat q), .int (Int32.ofNat len)] 7)) (T7.setTop (mkF m 3 #[.val (.ref b), .val (.int (Int32.ofNat (o + (i + 1)))), .val (.ref d), .val (.int (Int32.ofNat (q + (i + 1)))), .val (.int (Int32.ofNat len)), .val (.int (Int32.ofNat (i + 1))), .val (.int (cv A (o + i)))] [])) := by
        have := c9
        rw [succ32, succ32, succ32] at this
        exact this
      exact ih (i + 1) (by omega) _ (Or.inr ⟨_, rfl, rfl⟩) T7 _ (by rw [copyLocs_step, ← List.append_assoc]; exact X7) (pl.trans p7) (fl.step (by omega) hlt (by simp)) c10
  obtain ⟨T9, B9, z9, X9, p9, f9, g9⟩ := loop len 0 (by omega) .unset (Or.inl rfl) s₁ B (by simpa [copyLocs] using X0) ⟨hB0.1, fun _ _ => rfl, rfl⟩ (Laid.zero _ _ _) c2
  have c11 : Steps p.tables e below (s₁.setTop (entryFrame m #[.ref b, .int (Int32.ofNat o), .ref d, .int (Int32.ofNat q), .int (Int32.ofNat len)] 7)) (T9.setTop (mkF m 46 #[.val (.ref b), .val (.int (Int32.ofNat (o + len))), .val (.ref d), .val (.int (Int32.ofNat (q + len))), .val (.int (Int32.ofNat len)), .val (.int (Int32.ofNat len)), z9] [.int (Int32.ofNat len)])) := g9.trans (by
    refine XS.iload X9.here hexec rfl (hb hbytes d3) rfl ?_
    refine XS.iload X9.here hexec rfl (hb hbytes d5) rfl ?_
    refine XS.icmpYes X9.here hexec rfl (pc0 := 7) rfl (hb hbytes d7) rfl (ii_ge_t (nlt32 (by omega) (Nat.le_refl _))) (by decide) rfl ?_
    refine XS.iload X9.here hexec rfl (hb hbytes d44) rfl ?_
    exact Steps.refl _)
  exact ⟨T9, some (.int (Int32.ofNat len)), _, _, _, X9, by simp, rfl, rfl, (fun h => by cases h), ⟨rfl, B9, p9.from hh0, f9⟩, fun fs hl => c11.trans (X9.ireturnOut hexec hret rfl (Or.inl rfl) (hb hbytes d46) hl)⟩
end Cmp5
namespace Cmp3
def yN : MethodName := ⟨"java/lang/StringUTF16", "compress", "([CII)[B"⟩
abbrev yB : ByteArray := jdk_52_method_16_code
theorem d0 : decode yB 0 = .ok (.iload_n 2, 1) := by decide +kernel
theorem d1 : decode yB 1 = .ok (.newarray .byte, 2) := by decide +kernel
theorem d3 : decode yB 3 = .ok (.astore_n 3, 1) := by decide +kernel
theorem d4 : decode yB 4 = .ok (.aload_n 0, 1) := by decide +kernel
theorem d5 : decode yB 5 = .ok (.iload_n 1, 1) := by decide +kernel
theorem d6 : decode yB 6 = .ok (.aload_n 3, 1) := by decide +kernel
theorem d7 : decode yB 7 = .ok (.iconst 0, 1) := by decide +kernel
theorem d8 : decode yB 8 = .ok (.iload_n 2, 1) := by decide +kernel
theorem d9 : decode yB 9 = .ok (.invokestatic 115, 3) := by decide +kernel
theorem d12 : decode yB 12 = .ok (.istore 4, 2) := by decide +kernel
theorem d14 : decode yB 14 = .ok (.iload 4, 2) := by decide +kernel
theorem d16 : decode yB 16 = .ok (.iload_n 2, 1) := by decide +kernel
theorem d17 : decode yB 17 = .ok (.if_icmp (.eq) 40, 3) := by decide +kernel
theorem d57 : decode yB 57 = .ok (.aload_n 3, 1) := by decide +kernel
theorem d58 : decode yB 58 = .ok (.areturn, 1) := by decide +kernel
def site : List Cond := [.arrayClass .byte, Cmp5.tab] ++ staticW U16 115 Cmp5.yN
def tab : Cond := tabOf yN yB 6 (some (.array .byte)) site
def P (b : Addr) (A : Cell) (o len : Nat) (args : Array Value) (s : State) : Prop := args = #[.ref b, .int (Int32.ofNat o), .int (Int32.ofNat len)] ∧ Ch b A s ∧ o + len ≤ A.slots.size ∧ len ≤ 536870912 ∧ ∀ i, i < len → ¬ 255 < cv A (o + i)
def E (b : Addr) (A : Cell) (o len : Nat) (r : Option Value) (s u : State) : Prop := NewArr .byte "[B" len (fun j => .int (lo8 (cv A (o + j)))) r s u ∧ u.heap.size = s.heap.size + 1
/-- no char of the range above 255: a new byte[] of their low bytes -/
theorem law (l : Launch) (b : Addr) (A : Cell) (o len : Nat) : Law l yN 3 3 1 18 yB 6 (some (.array .byte)) site (P b A o len) (E b A o len) [] 1 len := by
  refine Law.of_walk (plainFor_of_name (by decide +kernel)) (by decide +kernel) (by decide +kernel) (by decide) (fun _ _ h => by rw [h.1]; rfl) (fun _ U U' hal hh h => ⟨h.1, h.2.1.mv hal hh, h.2.2⟩) (fun r U U' V V' h1 hal h2 h => ⟨NewArr.mv r U U' V V' h1 hal h2 h.1, by rw [h1, h2]; exact h.2⟩) ?_
  intro p e s m args below meth c s₁ X0 hexec hbytes hml hret hlk hnm hown hh0 W hP
  obtain ⟨rfl, hA, l1, l2, hp⟩ := hP
  have a31 := hA.1.2.2.2
  have c1 : Steps p.tables e below (s₁.setTop (entryFrame m #[.ref b, .int (Int32.ofNat o), .int (Int32.ofNat len)] 6)) (s₁.setTop (mkF m 0 #[.val (.ref b), .val (.int (Int32.ofNat o)), .val (.int (Int32.ofNat len)), .unset, .unset, .unset] [])) := entry rfl
  have c2 : Steps p.tables e below (s₁.setTop (entryFrame m #[.ref b, .int (Int32.ofNat o), .int (Int32.ofNat len)] 6)) (s₁.setTop (mkF m 1 #[.val (.ref b), .val (.int (Int32.ofNat o)), .val (.int (Int32.ofNat len)), .unset, .unset, .unset] [.int (Int32.ofNat len)])) := c1.trans (by
    refine XS.iloadN X0.here hexec rfl (hb hbytes d0) rfl ?_
    exact Steps.refl _)
  obtain ⟨T3, B3, X3, ba3, bs3, bv3, bh3, bf3, st3⟩ := X0.anew hexec (atype := .byte) (wk W (.arrayClass .byte)) rfl (by show len * 1 ≤ _; omega) (by omega) (g := (mkF m 1 #[.val (.ref b), .val (.int (Int32.ofNat o)), .val (.int (Int32.ofNat len)), .unset, .unset, .unset] [.int (Int32.ofNat len)])) rfl (hb hbytes d1) (rest := []) rfl (Nat.le_refl _) (by show 0 + len ≤ len; omega)
  rw [hh0] at ba3 st3
  have kp3 : XT.Kept s T3 := (XT.Kept.of_eq hh0).push bh3
  have hA3 := hA.keep X3.warmed.alike (kp3 _ _ hA.1.1)
  have hne : b ≠ s.heap.size := hA.1.ne
  have c4 : Steps p.tables e below (s₁.setTop (entryFrame m #[.ref b, .int (Int32.ofNat o), .int (Int32.ofNat len)] 6)) (T3.setTop (mkF m 3 #[.val (.ref b), .val (.int (Int32.ofNat o)), .val (.int (Int32.ofNat len)), .unset, .unset, .unset] [.ref s.heap.size])) := c2.trans (st3 _ (Steps.refl _))
  have c5 : Steps p.tables e below (s₁.setTop (entryFrame m #[.ref b, .int (Int32.ofNat o), .int (Int32.ofNat len)] 6)) (T3.setTop (mkF m 9 #[.val (.ref b), .val (.int (Int32.ofNat o)), .val (.int (Int32.ofNat len)), .val (.ref s.heap.size), .unset, .unset] [.int (Int32.ofNat len), .int 0, .ref s.heap.size, .int (Int32.ofNat o), .ref b])) := c4.trans (by
    refine XS.astoreN X3.here hexec rfl (hb hbytes d3) rfl rfl rfl ?_
    refine XS.aloadN X3.here hexec rfl (hb hbytes d4) rfl rfl ?_
    refine XS.iloadN X3.here hexec rfl (hb hbytes d5) rfl ?_
    refine XS.aloadN X3.here hexec rfl (hb hbytes d6) rfl rfl ?_
    refine iconstV X3.here hexec rfl 0 (hb hbytes d7) (by decide) ?_
    refine XS.iloadN X3.here hexec rfl (hb hbytes d8) rfl ?_
    exact Steps.refl _)
  obtain ⟨v6, T6, X6, E6, g6⟩ := X3.callS hexec (Cmp5.law l b A s.heap.size B3 o 0 len) hown (wks W (staticW U16 115 Cmp5.yN)) (wk W Cmp5.tab) (W := 0) (Nat.le_of_ble_eq_true rfl) (Nat.le_of_ble_eq_true rfl) (Nat.le_refl _) (by show 0 + len + 0 ≤ len; omega) (g := (mkF m 9 #[.val (.ref b), .val (.int (Int32.ofNat o)), .val (.int (Int32.ofNat len)), .val (.ref s.heap.size), .unset, .unset] [.int (Int32.ofNat len), .int (Int32.ofNat 0), .ref s.heap.size, .int (Int32.ofNat o), .ref b])) rfl (by rw [hml]; rfl) c5 (argsL := [.ref b, .int (Int32.ofNat o), .ref s.heap.size, .int (Int32.ofNat 0), .int (Int32.ofNat len)]) (rest := []) rfl rfl (by show 2 * 0 + 0 ≤ _; decide) (hb hbytes d9) (⟨rfl, hA3, ba3, hne, l1, by rw [bs3]; simp, hp⟩)
  obtain ⟨rfl, B6, p6, f6⟩ := E6
  have c7 : Steps p.tables e below (s₁.setTop (entryFrame m #[.ref b, .int (Int32.ofNat o), .int (Int32.ofNat len)] 6)) (T6.setTop (mkF m 12 #[.val (.ref b), .val (.int (Int32.ofNat o)), .val (.int (Int32.ofNat len)), .val (.ref s.heap.size), .unset, .unset] [.int (Int32.ofNat len)])) := g6
  have c8 : Steps p.tables e below (s₁.setTop (entryFrame m #[.ref b, .int (Int32.ofNat o), .int (Int32.ofNat len)] 6)) (T6.setTop (mkF m 58 #[.val (.ref b), .val (.int (Int32.ofNat o)), .val (.int (Int32.ofNat len)), .val (.ref s.heap.size), .val (.int (Int32.ofNat len)), .unset] [.ref s.heap.size])) := c7.trans (by
    refine XS.istore X6.here hexec rfl (hb hbytes d12) rfl rfl ?_
    refine XS.iload X6.here hexec rfl (hb hbytes d14) rfl ?_
    refine XS.iloadN X6.here hexec rfl (hb hbytes d16) rfl ?_
    refine XS.icmpYes X6.here hexec rfl (pc0 := 17) rfl (hb hbytes d17) rfl (ii_eq_t rfl) (by decide) rfl ?_
    refine XS.aloadN X6.here hexec rfl (hb hbytes d57) rfl rfl ?_
    exact Steps.refl _)
  have X8 := X6.wide (L' := []) (cells' := 1) (slots' := len) (fun x hx hlt => by
    simp only [List.nil_append, copyLocs, List.mem_map, List.mem_range] at hx
    obtain ⟨i, -, rfl⟩ := hx
    exact absurd hlt (Nat.lt_irrefl _)) (Nat.le_refl _) (by omega)
  exact ⟨T6, some (.ref s.heap.size), _, _, _, X8, rfl, rfl, rfl, (fun h => by cases h), ⟨⟨rfl, B6, ba3.like (X3.warmed.alike.symm.trans X6.warmed.alike) p6.1 f6.1 f6.2.1 f6.2.2.1, f6.2.1.trans bv3, by rw [X6.warmed.alike.findClass, f6.1]; exact bf3, by rw [f6.2.2.1, bs3]; simp, fun j hj => by rw [f6.2.2.2 j, if_pos (by omega)]; rfl, kp3.put p6 (Nat.le_refl _)⟩, by rw [p6.2.2, bh3, hh0]; simp⟩, fun fs hl => c8.trans (X8.areturnOut hexec rfl hret rfl (hb hbytes d58) hl)⟩
end Cmp3
namespace CodL
def yN : MethodName := ⟨"java/lang/StringUTF16", "coderFromArrayLen", "([BI)B"⟩
abbrev yB : ByteArray := jdk_52_method_15_code
theorem d0 : decode yB 0 = .ok (.iload_n 1, 1) := by decide +kernel
theorem d1 : decode yB 1 = .ok (.aload_n 0, 1) := by decide +kernel
theorem d2 : decode yB 2 = .ok (.arraylength, 1) := by decide +kernel
theorem d3 : decode yB 3 = .ok (.isub, 1) := by decide +kernel
theorem d4 : decode yB 4 = .ok (.bipush 31, 2) := by decide +kernel
theorem d6 : decode yB 6 = .ok (.iushr, 1) := by decide +kernel
theorem d7 : decode yB 7 = .ok (.i2b, 1) := by decide +kernel
theorem d8 : decode yB 8 = .ok (.ireturn, 1) := by decide +kernel
def site : List Cond := []
def tab : Cond := tabOf yN yB 2 (some .byte) site
def P (d : Addr) (B : Cell) (args : Array Value) (s : State) : Prop := args = #[.ref d, .int (Int32.ofNat B.slots.size)] ∧ Arr .byte d B s
def E (r : Option Value) (s u : State) : Prop := XT.PureE (some (.int 0)) r s u
/-- an array as long as the number of chars: LATIN1 -/
theorem law (l : Launch) (d : Addr) (B : Cell) : Law l yN 2 2 0 0 yB 2 (some .byte) site (P d B) E [] 0 0 := by
  refine Law.of_walk (plainFor_of_name (by decide +kernel)) (by decide +kernel) (by decide +kernel) (by decide) (fun _ _ h => by rw [h.1]; rfl) (fun _ U U' hal hh h => ⟨h.1, h.2.mv hal hh⟩) (fun r U U' V V' h1 hal h2 h => XT.PureE.mv r U U' V V' h1 hal h2 h) ?_
  intro p e s m args below meth c s₁ X0 hexec hbytes hml hret hlk hnm hown hh0 W hP
  obtain ⟨rfl, hB⟩ := hP
  have hB0 := hB.mv X0.warmed.alike hh0
  have c1 : Steps p.tables e below (s₁.setTop (entryFrame m #[.ref d, .int (Int32.ofNat B.slots.size)] 2)) (s₁.setTop (mkF m 0 #[.val (.ref d), .val (.int (Int32.ofNat B.slots.size))] [])) := entry rfl
  have c2 : Steps p.tables e below (s₁.setTop (entryFrame m #[.ref d, .int (Int32.ofNat B.slots.size)] 2)) (s₁.setTop (mkF m 2 #[.val (.ref d), .val (.int (Int32.ofNat B.slots.size))] [.ref d, .int (Int32.ofNat B.slots.size)])) := c1.trans (by
    refine XS.iloadN X0.here hexec rfl (hb hbytes d0) rfl ?_
    refine XS.aloadN X0.here hexec rfl (hb hbytes d1) rfl rfl ?_
    exact Steps.refl _)
  have c3 : Steps p.tables e below (s₁.setTop (entryFrame m #[.ref d, .int (Int32.ofNat B.slots.size)] 2)) (s₁.setTop (mkF m 8 #[.val (.ref d), .val (.int (Int32.ofNat B.slots.size))] [.int (lo8 (ushr (Int32.ofNat B.slots.size - Int32.ofNat B.slots.size) 31))])) := c2.trans (by
    refine X0.alen hexec hB0 rfl rfl (hb hbytes d2) ?_
    refine XS.isub X0.here hexec rfl (hb hbytes d3) rfl ?_
    refine bipushV X0.here hexec rfl 31 (hb hbytes d4) (by decide) ?_
    refine iushr X0.here hexec rfl (hb hbytes d6) rfl ?_
    refine i2b X0.here hexec rfl (hb hbytes d7) rfl ?_
    exact Steps.refl _)
  have e0 : lo8 (ushr (Int32.ofNat B.slots.size - Int32.ofNat B.slots.size) 31) = 0 := by rw [Int32.sub_self]; decide
  rw [e0] at c3
  exact ⟨s₁, some (.int 0), _, _, _, X0, rfl, rfl, rfl, (fun h => by cases h), ⟨rfl, hh0⟩, fun fs hl => c3.trans (X0.ireturnOut hexec hret rfl (Or.inr (Or.inr (Or.inl rfl))) (hb hbytes d8) hl)⟩
end CodL
/-- the String at a is Latin-1 over a new byte[] (the heap's one new cell): the low bytes of the len chars of A from o on; every cell but a is kept -/
def Got (a : Addr) (D : Cell) (fV fC : Field) (A : Cell) (o len : Nat) (r : Option Value) (s u : State) : Prop := r = none ∧ ∃ D' V : Cell, Blank "java/lang/String" a D' u ∧ Same D D' [fV.slot, fC.slot] ∧ D'.slots[fV.slot]? = some (.ref s.heap.size) ∧ D'.slots[fC.slot]? = some (.int 0) ∧ Arr .byte s.heap.size V u ∧ V.vm = .none ∧ u.vm.findClass "[B" = some V.cls ∧ V.slots.size = len ∧ (∀ j, j < len → V.slots[j]? = some (.int (lo8 (cv A (o + j))))) ∧ (∀ (y : Addr) (c : Cell), y ≠ a → s.heap[y]? = some c → u.heap[y]? = some c) ∧ u.heap.size = s.heap.size + 1
theorem Got.mv {a : Addr} {D A : Cell} {fV fC : Field} {o len : Nat} : ∀ r (U U' V V' : State), U'.heap = U.heap → V.vm.Alike V'.vm → V'.heap = V.heap → Got a D fV fC A o len r U V → Got a D fV fC A o len r U' V' :=
  fun r U U' V V' h1 hal h2 ⟨e0, D', X, a1, a2, a3, a4, a5, a6, a7, a8, a9, a10, a11⟩ => ⟨e0, D', X, a1.mv hal h2, a2, by rw [h1]; exact a3, a4, by rw [h1]; exact a5.mv hal h2, a6, by rw [hal.findClass]; exact a7, a8, a9, by rw [h1, h2]; exact a10, by rw [h1, h2]; exact a11⟩
namespace New4
def yN : MethodName := ⟨"java/lang/String", "<init>", "([CIILjava/lang/Void;)V"⟩
abbrev yB : ByteArray := jdk_42_method_149_code
theorem d0 : decode yB 0 = .ok (.aload_n 0, 1) := by decide +kernel
theorem d1 : decode yB 1 = .ok (.invokespecial 1, 3) := by decide +kernel
theorem d4 : decode yB 4 = .ok (.iload_n 3, 1) := by decide +kernel
theorem d5 : decode yB 5 = .ok (.ifCond (.ne) 22, 3) := by decide +kernel
theorem d27 : decode yB 27 = .ok (.getstatic 38, 3) := by decide +kernel
theorem d30 : decode yB 30 = .ok (.ifCond (.eq) 28, 3) := by decide +kernel
theorem d33 : decode yB 33 = .ok (.aload_n 1, 1) := by decide +kernel
theorem d34 : decode yB 34 = .ok (.iload_n 2, 1) := by decide +kernel
theorem d35 : decode yB 35 = .ok (.iload_n 3, 1) := by decide +kernel
theorem d36 : decode yB 36 = .ok (.invokestatic 177, 3) := by decide +kernel
theorem d39 : decode yB 39 = .ok (.astore 5, 2) := by decide +kernel
theorem d41 : decode yB 41 = .ok (.aload_n 0, 1) := by decide +kernel
theorem d42 : decode yB 42 = .ok (.aload 5, 2) := by decide +kernel
theorem d44 : decode yB 44 = .ok (.iload_n 3, 1) := by decide +kernel
theorem d45 : decode yB 45 = .ok (.invokestatic 47, 3) := by decide +kernel
theorem d48 : decode yB 48 = .ok (.putfield 15, 3) := by decide +kernel
theorem d51 : decode yB 51 = .ok (.aload_n 0, 1) := by decide +kernel
theorem d52 : decode yB 52 = .ok (.aload 5, 2) := by decide +kernel
theorem d54 : decode yB 54 = .ok (.putfield 9, 3) := by decide +kernel
theorem d57 : decode yB 57 = .ok (.return_, 1) := by decide +kernel
def site : List Cond := [.fieldLink "java/lang/String" 38 "java/lang/String" "COMPACT_STRINGS" "Z", Cmp3.tab, CodL.tab, .laysFinal "java/lang/String" "java/lang/String" "value" "[B", .fieldLink "java/lang/String" 9 "java/lang/String" "value" "[B", .laysFinal "java/lang/String" "java/lang/String" "coder" "B", .fieldLink "java/lang/String" 15 "java/lang/String" "coder" "B"] ++ objW "java/lang/String" 1 ++ staticW "java/lang/String" 177 Cmp3.yN ++ staticW "java/lang/String" 47 CodL.yN
def tab : Cond := tabOf yN yB 6 none site
def P (a : Addr) (D : Cell) (fV fC : Field) (b : Addr) (A : Cell) (z : Int32) (o len : Nat) (args : Array Value) (s : State) : Prop := args = #[.ref a, .ref b, .int (Int32.ofNat o), .int (Int32.ofNat len), .null] ∧ Blank "java/lang/String" a D s ∧ Found "java/lang/String" "value" "[B" fV s ∧ Found "java/lang/String" "coder" "B" fC s ∧ Ch b A s ∧ StaticIs s "java/lang/String" "COMPACT_STRINGS" "Z" (.int z) ∧ ¬ z = 0 ∧ 0 < len ∧ o + len ≤ A.slots.size ∧ len ≤ 536870912 ∧ ∀ i, i < len → ¬ 255 < cv A (o + i)
def E (a : Addr) (D : Cell) (fV fC : Field) (A : Cell) (o len : Nat) (r : Option Value) (s u : State) : Prop := Got a D fV fC A o len r s u
/-- len > 0, no char of the range above 255: a Latin-1 String of their low bytes -/
theorem law (l : Launch) (a : Addr) (D : Cell) (fV fC : Field) (b : Addr) (A : Cell) (z : Int32) (o len : Nat) : Law l yN 5 4 2 35 yB 6 none site (P a D fV fC b A z o len) (E a D fV fC A o len) [⟨a, fC.slot⟩, ⟨a, fV.slot⟩] 1 len := by
  refine Law.of_walk (plainFor_of_name (by decide +kernel)) (by decide +kernel) (by decide +kernel) (by decide) (fun _ _ h => by rw [h.1]; rfl) (fun _ U U' hal hh h => ⟨h.1, h.2.1.mv hal hh, h.2.2.1.al hal, h.2.2.2.1.al hal, h.2.2.2.2.1.mv hal hh, h.2.2.2.2.2.1.there hal hh, h.2.2.2.2.2.2⟩) (fun r U U' V V' h1 hal h2 h => Got.mv r U U' V V' h1 hal h2 h) ?_
  intro p e s m args below meth c s₁ X0 hexec hbytes hml hret hlk hnm hown hh0 W hP
  obtain ⟨rfl, hB, f1, f2, hA, s1, hz, l0, l1, l2, hp⟩ := hP
  have a31 := hA.1.2.2.2
  have c1 : Steps p.tables e below (s₁.setTop (entryFrame m #[.ref a, .ref b, .int (Int32.ofNat o), .int (Int32.ofNat len), .null] 6)) (s₁.setTop (mkF m 0 #[.val (.ref a), .val (.ref b), .val (.int (Int32.ofNat o)), .val (.int (Int32.ofNat len)), .val .null, .unset] [])) := entry rfl
  have c2 : Steps p.tables e below (s₁.setTop (entryFrame m #[.ref a, .ref b, .int (Int32.ofNat o), .int (Int32.ofNat len), .null] 6)) (s₁.setTop (mkF m 1 #[.val (.ref a), .val (.ref b), .val (.int (Int32.ofNat o)), .val (.int (Int32.ofNat len)), .val .null, .unset] [.ref a])) := c1.trans (by
    refine XS.aloadN X0.here hexec rfl (hb hbytes d0) rfl rfl ?_
    exact Steps.refl _)
  obtain ⟨T3, X3, q3, st3⟩ := X0.oinit hexec hown (wks W (objW "java/lang/String" 1)) (g := (mkF m 1 #[.val (.ref a), .val (.ref b), .val (.int (Int32.ofNat o)), .val (.int (Int32.ofNat len)), .val .null, .unset] [.ref a])) rfl (by rw [hml]; rfl) (rest := []) rfl (hb hbytes d1) (W := 0) (by show 2 * 0 + 0 ≤ _; decide) (Nat.le_of_ble_eq_true rfl) (Nat.le_of_ble_eq_true rfl)
  have hh3 := q3.trans hh0
  have c4 : Steps p.tables e below (s₁.setTop (entryFrame m #[.ref a, .ref b, .int (Int32.ofNat o), .int (Int32.ofNat len), .null] 6)) (T3.setTop (mkF m 27 #[.val (.ref a), .val (.ref b), .val (.int (Int32.ofNat o)), .val (.int (Int32.ofNat len)), .val .null, .unset] [])) := (c2.trans (st3 _ (Steps.refl _))).trans (by
    refine XS.iloadN X3.here hexec rfl (hb hbytes d4) rfl ?_
    refine XS.ifYes X3.here hexec rfl (pc0 := 5) rfl (hb hbytes d5) rfl (i0_ne_t (nz32 (by omega) l0)) (by decide) rfl ?_
    exact Steps.refl _)
  obtain ⟨T5, X5, q5, st5⟩ := X3.sget hexec hown (wk W (.fieldLink "java/lang/String" 38 "java/lang/String" "COMPACT_STRINGS" "Z")) s1 (fun _ _ h => by rw [hh3]; exact h) (g := (mkF m 27 #[.val (.ref a), .val (.ref b), .val (.int (Int32.ofNat o)), .val (.int (Int32.ofNat len)), .val .null, .unset] [])) rfl (hb hbytes d27)
  have hh5 := q5.trans hh3
  have c6 : Steps p.tables e below (s₁.setTop (entryFrame m #[.ref a, .ref b, .int (Int32.ofNat o), .int (Int32.ofNat len), .null] 6)) (T5.setTop (mkF m 30 #[.val (.ref a), .val (.ref b), .val (.int (Int32.ofNat o)), .val (.int (Int32.ofNat len)), .val .null, .unset] [.int z])) := c4.trans (st5 _ (Steps.refl _))
  have c7 : Steps p.tables e below (s₁.setTop (entryFrame m #[.ref a, .ref b, .int (Int32.ofNat o), .int (Int32.ofNat len), .null] 6)) (T5.setTop (mkF m 36 #[.val (.ref a), .val (.ref b), .val (.int (Int32.ofNat o)), .val (.int (Int32.ofNat len)), .val .null, .unset] [.int (Int32.ofNat len), .int (Int32.ofNat o), .ref b])) := c6.trans (by
    refine XS.ifNo X5.here hexec rfl (hb hbytes d30) rfl (i0_eq_f hz) ?_
    refine XS.aloadN X5.here hexec rfl (hb hbytes d33) rfl rfl ?_
    refine XS.iloadN X5.here hexec rfl (hb hbytes d34) rfl ?_
    refine XS.iloadN X5.here hexec rfl (hb hbytes d35) rfl ?_
    exact Steps.refl _)
  obtain ⟨v8, T8, X8, E8, g8⟩ := X5.callS hexec (Cmp3.law l b A o len) hown (wks W (staticW "java/lang/String" 177 Cmp3.yN)) (wk W Cmp3.tab) (W := 0) (Nat.le_of_ble_eq_true rfl) (Nat.le_of_ble_eq_true rfl) (Nat.le_refl _) (by show 0 + len ≤ len; omega) (g := (mkF m 36 #[.val (.ref a), .val (.ref b), .val (.int (Int32.ofNat o)), .val (.int (Int32.ofNat len)), .val .null, .unset] [.int (Int32.ofNat len), .int (Int32.ofNat o), .ref b])) rfl (by rw [hml]; rfl) c7 (argsL := [.ref b, .int (Int32.ofNat o), .int (Int32.ofNat len)]) (rest := []) rfl rfl (by show 2 * 0 + 0 ≤ _; decide) (hb hbytes d36) (⟨rfl, hA.mv X5.warmed.alike hh5, l1, l2, hp⟩)
  obtain ⟨e8, z8⟩ := E8
  obtain ⟨rfl, N, n1, n2, n3, n4, n5, n6⟩ := NewArr.mv _ T5 s _ _ hh5.symm (Vm.Alike.refl _) rfl e8
  rw [hh5] at z8
  have hB1 := hB.keep X8.warmed.alike (n6 _ _ hB.1)
  have hne : s.heap.size ≠ a := (Nat.ne_of_lt (Array.getElem?_eq_some_iff.mp hB.1).1).symm
  have c9 : Steps p.tables e below (s₁.setTop (entryFrame m #[.ref a, .ref b, .int (Int32.ofNat o), .int (Int32.ofNat len), .null] 6)) (T8.setTop (mkF m 39 #[.val (.ref a), .val (.ref b), .val (.int (Int32.ofNat o)), .val (.int (Int32.ofNat len)), .val .null, .unset] [.ref s.heap.size])) := g8
  have c10 : Steps p.tables e below (s₁.setTop (entryFrame m #[.ref a, .ref b, .int (Int32.ofNat o), .int (Int32.ofNat len), .null] 6)) (T8.setTop (mkF m 45 #[.val (.ref a), .val (.ref b), .val (.int (Int32.ofNat o)), .val (.int (Int32.ofNat len)), .val .null, .val (.ref s.heap.size)] [.int (Int32.ofNat N.slots.size), .ref s.heap.size, .ref a])) := by
    have hc : Steps p.tables e below (s₁.setTop (entryFrame m #[.ref a, .ref b, .int (Int32.ofNat o), .int (Int32.ofNat len), .null] 6)) (T8.setTop (mkF m 45 #[.val (.ref a), .val (.ref b), .val (.int (Int32.ofNat o)), .val (.int (Int32.ofNat len)), .val .null, .val (.ref s.heap.size)] [.int (Int32.ofNat len), .ref s.heap.size, .ref a])) := c9.trans (by
      refine XS.astore X8.here hexec rfl (hb hbytes d39) rfl rfl rfl ?_
      refine XS.aloadN X8.here hexec rfl (hb hbytes d41) rfl rfl ?_
      refine XS.aload X8.here hexec rfl (hb hbytes d42) rfl rfl ?_
      refine XS.iloadN X8.here hexec rfl (hb hbytes d44) rfl ?_
      exact Steps.refl _)
    rw [n4]; exact hc
  obtain ⟨v11, T11, X11, E11, g11⟩ := X8.callS hexec (CodL.law l s.heap.size N) hown (wks W (staticW "java/lang/String" 47 CodL.yN)) (wk W CodL.tab) (W := 1) (Nat.le_of_ble_eq_true rfl) (Nat.le_of_ble_eq_true rfl) (Nat.le_refl _) (by show 0 + len + 0 ≤ len; omega) (g := (mkF m 45 #[.val (.ref a), .val (.ref b), .val (.int (Int32.ofNat o)), .val (.int (Int32.ofNat len)), .val .null, .val (.ref s.heap.size)] [.int (Int32.ofNat N.slots.size), .ref s.heap.size, .ref a])) rfl (by rw [hml]; rfl) c10 (argsL := [.ref s.heap.size, .int (Int32.ofNat N.slots.size)]) (rest := [.ref a]) rfl rfl (by show 2 * 0 + (1 + 0) ≤ _; decide) (hb hbytes d45) (⟨rfl, n1⟩)
  obtain ⟨rfl, q11⟩ := E11
  have hB11 := hB1.mv (X8.warmed.alike.symm.trans X11.warmed.alike) q11
  have c12 : Steps p.tables e below (s₁.setTop (entryFrame m #[.ref a, .ref b, .int (Int32.ofNat o), .int (Int32.ofNat len), .null] 6)) (T11.setTop (mkF m 48 #[.val (.ref a), .val (.ref b), .val (.int (Int32.ofNat o)), .val (.int (Int32.ofNat len)), .val .null, .val (.ref s.heap.size)] [.int 0, .ref a])) := g11
  obtain ⟨T13, X13, p13, bl13, sl13, st13⟩ := X11.finit hexec hown (wk W (.fieldLink "java/lang/String" 15 "java/lang/String" "coder" "B")) (Or.inr ⟨_, (wk W (.laysFinal "java/lang/String" "java/lang/String" "coder" "B"))⟩) (Or.inl ⟨rfl, hnm⟩) f2 (Or.inl rfl) hB11 (t := .byte) (by decide +kernel) rfl (g := (mkF m 48 #[.val (.ref a), .val (.ref b), .val (.int (Int32.ofNat o)), .val (.int (Int32.ofNat len)), .val .null, .val (.ref s.heap.size)] [.int 0, .ref a])) rfl (rest := []) rfl (hb hbytes d48)
  have c14 : Steps p.tables e below (s₁.setTop (entryFrame m #[.ref a, .ref b, .int (Int32.ofNat o), .int (Int32.ofNat len), .null] 6)) (T13.setTop (mkF m 54 #[.val (.ref a), .val (.ref b), .val (.int (Int32.ofNat o)), .val (.int (Int32.ofNat len)), .val .null, .val (.ref s.heap.size)] [.ref s.heap.size, .ref a])) := (c12.trans (st13 _ (Steps.refl _))).trans (by
    refine XS.aloadN X13.here hexec rfl (hb hbytes d51) rfl rfl ?_
    refine XS.aload X13.here hexec rfl (hb hbytes d52) rfl rfl ?_
    exact Steps.refl _)
  obtain ⟨T15, X15, p15, bl15, sl15, st15⟩ := X13.finit hexec hown (wk W (.fieldLink "java/lang/String" 9 "java/lang/String" "value" "[B")) (Or.inr ⟨_, (wk W (.laysFinal "java/lang/String" "java/lang/String" "value" "[B"))⟩) (Or.inl ⟨rfl, hnm⟩) f1 (Or.inl rfl) bl13 (t := (.array .byte)) (by decide +kernel) rfl (g := (mkF m 54 #[.val (.ref a), .val (.ref b), .val (.int (Int32.ofNat o)), .val (.int (Int32.ofNat len)), .val .null, .val (.ref s.heap.size)] [.ref s.heap.size, .ref a])) rfl (rest := []) rfl (hb hbytes d54)
  have c16 : Steps p.tables e below (s₁.setTop (entryFrame m #[.ref a, .ref b, .int (Int32.ofNat o), .int (Int32.ofNat len), .null] 6)) (T15.setTop (mkF m 57 #[.val (.ref a), .val (.ref b), .val (.int (Int32.ofNat o)), .val (.int (Int32.ofNat len)), .val .null, .val (.ref s.heap.size)] [])) := c14.trans (st15 _ (Steps.refl _))
  have ap := apart (Or.inr ⟨_, (wk W (.laysFinal "java/lang/String" "java/lang/String" "value" "[B"))⟩) (Or.inr ⟨_, (wk W (.laysFinal "java/lang/String" "java/lang/String" "coder" "B"))⟩) f1 f2 (t₁ := .array .byte) (t₂ := .byte) (by decide +kernel) (by decide +kernel) (by decide)
  have al := X8.warmed.alike.symm.trans X15.warmed.alike
  have n7 : T11.heap[s.heap.size]? = some N := by rw [q11]; exact n1.1
  exact ⟨T15, none, _, _, _, X15, by simp, rfl, by omega, (fun _ => rfl), ⟨rfl, _, N, bl15, ((Same.refl D _).set _ (by simp)).set _ (by simp), sl15, (Cell.slots_setSlot_ne _ ap).trans sl13, n1.keep al (p15.other hne (p13.other hne n7)), n2, by rw [al.findClass]; exact n3, n4, n5, fun y c h1 h2 => p15.other h1 (p13.other h1 (by rw [q11]; exact n6 y c h2)), by rw [p15.2.2, p13.2.2, q11]; exact z8⟩, fun fs hl => c16.trans (X15.returnOut hexec hret (hb hbytes d57) hl)⟩
end New4
namespace New1
def yN : MethodName := ⟨"java/lang/String", "<init>", "([C)V"⟩
abbrev yB : ByteArray := jdk_42_method_3_code
theorem d0 : decode yB 0 = .ok (.aload_n 0, 1) := by decide +kernel
theorem d1 : decode yB 1 = .ok (.aload_n 1, 1) := by decide +kernel
theorem d2 : decode yB 2 = .ok (.iconst 0, 1) := by decide +kernel
theorem d3 : decode yB 3 = .ok (.aload_n 1, 1) := by decide +kernel
theorem d4 : decode yB 4 = .ok (.arraylength, 1) := by decide +kernel
theorem d5 : decode yB 5 = .ok (.aconst_null, 1) := by decide +kernel
theorem d6 : decode yB 6 = .ok (.invokespecial 27, 3) := by decide +kernel
theorem d9 : decode yB 9 = .ok (.return_, 1) := by decide +kernel
def site : List Cond := [New4.tab] ++ initW "java/lang/String" 27 New4.yN
def tab : Cond := tabOf yN yB 2 none site
def P (a : Addr) (D : Cell) (fV fC : Field) (b : Addr) (A : Cell) (z : Int32) (args : Array Value) (s : State) : Prop := args = #[.ref a, .ref b] ∧ Blank "java/lang/String" a D s ∧ Found "java/lang/String" "value" "[B" fV s ∧ Found "java/lang/String" "coder" "B" fC s ∧ Ch b A s ∧ StaticIs s "java/lang/String" "COMPACT_STRINGS" "Z" (.int z) ∧ ¬ z = 0 ∧ 0 < A.slots.size ∧ A.slots.size ≤ 536870912 ∧ ∀ i, i < A.slots.size → ¬ 255 < cv A i
def E (a : Addr) (D : Cell) (fV fC : Field) (A : Cell) (r : Option Value) (s u : State) : Prop := Got a D fV fC A 0 A.slots.size r s u
/-- new String(chars), not empty, no char above 255: a Latin-1 String of their low bytes -/
theorem law (l : Launch) (a : Addr) (D : Cell) (fV fC : Field) (b : Addr) (A : Cell) (z : Int32) : Law l yN 2 1 3 52 yB 2 none site (P a D fV fC b A z) (E a D fV fC A) [⟨a, fC.slot⟩, ⟨a, fV.slot⟩] 1 A.slots.size := by
  refine Law.of_walk (plainFor_of_name (by decide +kernel)) (by decide +kernel) (by decide +kernel) (by decide) (fun _ _ h => by rw [h.1]; rfl) (fun _ U U' hal hh h => ⟨h.1, h.2.1.mv hal hh, h.2.2.1.al hal, h.2.2.2.1.al hal, h.2.2.2.2.1.mv hal hh, h.2.2.2.2.2.1.there hal hh, h.2.2.2.2.2.2⟩) (fun r U U' V V' h1 hal h2 h => Got.mv r U U' V V' h1 hal h2 h) ?_
  intro p e s m args below meth c s₁ X0 hexec hbytes hml hret hlk hnm hown hh0 W hP
  obtain ⟨rfl, hB, f1, f2, hA, s1, hz, l0, l2, hp⟩ := hP
  have c1 : Steps p.tables e below (s₁.setTop (entryFrame m #[.ref a, .ref b] 2)) (s₁.setTop (mkF m 0 #[.val (.ref a), .val (.ref b)] [])) := entry rfl
  have c2 : Steps p.tables e below (s₁.setTop (entryFrame m #[.ref a, .ref b] 2)) (s₁.setTop (mkF m 6 #[.val (.ref a), .val (.ref b)] [.null, .int (Int32.ofNat A.slots.size), .int 0, .ref b, .ref a])) := c1.trans (by
    refine XS.aloadN X0.here hexec rfl (hb hbytes d0) rfl rfl ?_
    refine XS.aloadN X0.here hexec rfl (hb hbytes d1) rfl rfl ?_
    refine iconstV X0.here hexec rfl 0 (hb hbytes d2) (by decide) ?_
    refine XS.aloadN X0.here hexec rfl (hb hbytes d3) rfl rfl ?_
    refine X0.alen hexec (hA.1.mv X0.warmed.alike hh0) rfl rfl (hb hbytes d4) ?_
    refine XS.aconstNull X0.here hexec rfl (hb hbytes d5) ?_
    exact Steps.refl _)
  obtain ⟨v3, T3, X3, E3, g3⟩ := X0.callN hexec (New4.law l a D fV fC b A z 0 A.slots.size) rfl hown (wks W (initW "java/lang/String" 27 New4.yN)) (W New4.tab (by simp only [site, List.mem_cons, List.mem_append, true_or, or_true])) (W := 0) (Nat.le_of_ble_eq_true rfl) (Nat.le_of_ble_eq_true rfl) (Nat.le_refl _) (by show 0 + A.slots.size ≤ A.slots.size; omega) (g := (mkF m 6 #[.val (.ref a), .val (.ref b)] [.null, .int (Int32.ofNat A.slots.size), .int (Int32.ofNat 0), .ref b, .ref a])) rfl (by rw [hml]; rfl) c2 (argsL := [.ref b, .int (Int32.ofNat 0), .int (Int32.ofNat A.slots.size), .null]) (rest := []) rfl rfl (by show 2 * 0 + 0 ≤ _; decide) (hb hbytes d6) (⟨rfl, hB.mv X0.warmed.alike hh0, f1.al X0.warmed.alike, f2.al X0.warmed.alike, hA.mv X0.warmed.alike hh0, s1.there X0.warmed.alike hh0, hz, l0, by omega, l2, fun i hi => by rw [Nat.zero_add]; exact hp i hi⟩)
  have e0 := Got.mv _ s₁ s _ _ hh0.symm (Vm.Alike.refl _) rfl E3
  obtain rfl := e0.1
  have c4 : Steps p.tables e below (s₁.setTop (entryFrame m #[.ref a, .ref b] 2)) (T3.setTop (mkF m 9 #[.val (.ref a), .val (.ref b)] [])) := g3
  exact ⟨T3, none, _, _, _, X3, by simp, rfl, by omega, (fun _ => rfl), e0, fun fs hl => c4.trans (X3.returnOut hexec hret (hb hbytes d9) hl)⟩
theorem pays {l : Launch} {R : Room} {p : Program} {e : Env} {below : List Frame} {s : State} {sargs : Array Value} {len W : Nat} (a : Addr) (D : Cell) (fV fC : Field) (b : Addr) (A : Cell) (z : Int32) (htab : tab.before sargs s = true) (hfr : 4 ≤ R.frames) (hlo : W + 65 ≤ R.locals) :
    Back l R p e below s sargs yN len W (fun A₁ a₁ => A₁.cells + 1 ≤ R.cells ∧ A₁.slots + A.slots.size ≤ R.slots ∧ P a D fV fC b A z a₁ A₁.U) (fun A₁ _ v₁ B₁ => E a D fV fC A v₁ A₁.U B₁.U ∧ B₁.locs = A₁.locs ++ [⟨a, fC.slot⟩, ⟨a, fV.slot⟩] ∧ B₁.cells = A₁.cells + 1 ∧ B₁.slots = A₁.slots + A.slots.size) :=
  (law l a D fV fC b A z).pays htab hfr (by omega)
end New1
/-- the byte, read back as charAt reads it, is the char -/
theorem lo8_mask {x : Int32} (h0 : ¬ x < 0) (h1 : ¬ 255 < x) : lo8 x &&& 255 = x := by
  have t : ∀ k : Fin 256, lo8 (Int32.ofNat k.val) &&& 255 = Int32.ofNat k.val := by decide +kernel
  rw [Int32.lt_iff_toInt_lt] at h0 h1
  have e0 : (0 : Int32).toInt = 0 := rfl
  have e1 : (255 : Int32).toInt = 255 := rfl
  obtain ⟨k, hk⟩ : ∃ k : Nat, x.toInt = k := ⟨x.toInt.toNat, by omega⟩
  have hx : x = Int32.ofNat k := Int32.toInt_inj.mp (by rw [hk, Int32.toInt_ofNat_small (by omega)])
  rw [hx]
  exact t ⟨k, by omega⟩
end StrChars
namespace StrChars.Road
open Jvm Sem ClassFile Op Lib Jvm.Stand Jvm.Free Jvm.Free.XT
open Jvm.Lib.Cold (StaticIs)
abbrev ST : String := "java/lang/String"
/-- every table word that New1's law asks, flat -/
abbrev words : List Jvm.Cond := [.code New1.yN New1.yB 2 none, .initialized ST, .methodLink ST 27 New4.yN, .instanceMethod New4.yN,
  .code New4.yN New4.yB 6 none, .fieldLink ST 38 ST "COMPACT_STRINGS" "Z", .laysFinal ST ST "value" "[B", .fieldLink ST 9 ST "value" "[B", .laysFinal ST ST "coder" "B", .fieldLink ST 15 ST "coder" "B",
  .methodLink ST 1 Lib.objectInit, .instanceMethod Lib.objectInit, .code Lib.objectInit ⟨#[0xb1]⟩ 1 none, .methodLink ST 177 Cmp3.yN, .static Cmp3.yN, .methodLink ST 47 CodL.yN, .static CodL.yN,
  .code Cmp3.yN Cmp3.yB 6 (some (.array .byte)), .initialized U16, .arrayClass .byte, .methodLink U16 115 Cmp5.yN, .static Cmp5.yN, .code Cmp5.yN Cmp5.yB 7 (some .int), .code CodL.yN CodL.yB 2 (some .byte)]
theorem tab_of {a : Array Value} {s : State} (h : ∀ w ∈ words, w.before a s = true) : New1.tab.before a s = true := by
  have h5 : Cmp5.tab.before a s = true := unparts (wk h (.code Cmp5.yN Cmp5.yB 7 (some .int))) (wks h (.initialized Cmp5.yN.cls :: Cmp5.site))
  have hc : CodL.tab.before a s = true := unparts (wk h (.code CodL.yN CodL.yB 2 (some .byte))) (wks h (.initialized CodL.yN.cls :: CodL.site))
  have q5 : ∀ w ∈ Cmp5.tab :: words, w.before a s = true := fun w hw => (List.mem_cons.mp hw).elim (fun e => e ▸ h5) (h w)
  have h3 : Cmp3.tab.before a s = true := unparts (wk q5 (.code Cmp3.yN Cmp3.yB 6 (some (.array .byte)))) (wks q5 (.initialized Cmp3.yN.cls :: Cmp3.site))
  have q3 : ∀ w ∈ Cmp3.tab :: CodL.tab :: words, w.before a s = true := fun w hw => (List.mem_cons.mp hw).elim (fun e => e ▸ h3) fun hw => (List.mem_cons.mp hw).elim (fun e => e ▸ hc) (h w)
  have h4 : New4.tab.before a s = true := unparts (wk q3 (.code New4.yN New4.yB 6 none)) (wks q3 (.initialized New4.yN.cls :: New4.site))
  have q4 : ∀ w ∈ New4.tab :: words, w.before a s = true := fun w hw => (List.mem_cons.mp hw).elim (fun e => e ▸ h4) (h w)
  exact unparts (wk q4 (.code New1.yN New1.yB 2 none)) (wks q4 (.initialized New1.yN.cls :: New1.site))
/-- the words ride from the start Z to the walk's own state -/
theorem moved {Z s : State} {a0 args : Array Value} (hZ : Z.Warmed39 s.vm) (hw : ∀ d ∈ words, d.before a0 Z = true) : ∀ d ∈ words, d.before args s = true := fun d hd => by
  have q := hw d hd
  have t : ∀ d ∈ words, d = .arrayClass .byte ∨ (d.onTables && d.keepsFace) = true := by decide +kernel
  rcases t d hd with rfl | t
  · exact RoadKit.mvA hZ q
  · exact RoadKit.mv hZ q t
/-- WHAT COMES BACK, over the tables of the start Z: h the heap at the call, h' behind it -/
def Q (Z : State) (x : Addr) (A : Cell) (h : Heap) (v : Option Value) (h' : Heap) (L : List Loc) : Prop := v = none ∧ (∀ y ∈ L, y.base = x) ∧ RoadKit.Keep h h' [x] ∧ h'.size = h.size + 1 ∧ RoadKit.Exa Z h' x ST ∧ RoadKit.Fld Z h' x ST "value" "[B" (.ref h.size) ∧ RoadKit.Fld Z h' x ST "coder" "B" (.int 0) ∧
  (∃ V : Cell, RoadKit.Arr Z h' h.size V .byte ∧ V.vm = .none ∧ Z.vm.findClass "[B" = some V.cls ∧ V.slots.size = A.slots.size ∧ ∀ j, j < A.slots.size → V.slots[j]? = some (.int (lo8 (cv A j)))) ∧
  ∀ (O n d : String) (w : Value), RoadKit.Fld Z h x O n d w → RoadKit.slotOf Z O n d ≠ RoadKit.slotOf Z ST "value" "[B" → RoadKit.slotOf Z O n d ≠ RoadKit.slotOf Z ST "coder" "B" → RoadKit.Fld Z h' x O n d w
/-- **new String(chars) AT A CALL, IN THE ROAD'S FORM**: for specialBack behind newO: x the fresh String, b the char[] with the cell A -/
theorem back {p : Program} {l : Launch} {e : Env} {R : Room} {s : State} {args : Array Value} {below : List Frame} {len W : Nat} {Z : State} {a0 : Array Value} {h : Heap} (hZ : Z.Warmed39 s.vm) (hw : ∀ d ∈ words, d.before a0 Z = true) {kI : Nat} (wi : (Jvm.Cond.instantiable ST kI).before a0 Z = true)
    {x b : Addr} {A : Cell} {z : Int32} {v0 c0 : Value} (E : RoadKit.Exa Z h x ST) (V : RoadKit.Fld Z h x ST "value" "[B" v0) (C : RoadKit.Fld Z h x ST "coder" "B" c0) (K : RoadKit.Arr Z h b A .char) (hty : Typed .char A) (S : RoadKit.Sta Z h ST "COMPACT_STRINGS" "Z" (.int z)) (hz : ¬ z = 0)
    (l0 : 0 < A.slots.size) (l2 : A.slots.size ≤ 536870912) (hp : ∀ i, i < A.slots.size → ¬ 255 < cv A i) (hfr : 4 ≤ R.frames) (hlo : W + 65 ≤ R.locals) :
    Back l R p e below s args New1.yN len W (fun P a => a = #[.ref x, .ref b] ∧ P.U.heap = h ∧ P.cells + 1 ≤ R.cells ∧ P.slots + A.slots.size ≤ R.slots)
      (fun P _ v B => ∃ L, Q Z x A h v B.U.heap L ∧ B.locs = P.locs ++ L ∧ B.cells = P.cells + 1 ∧ B.slots = P.slots + A.slots.size) := by
  intro m meth c P g ig mk a X hg hsize hdg hW hn hp'
  obtain ⟨rfl, rfl, r1, r2⟩ := hp'
  have al : Z.vm.Alike P.U.vm := hZ.alike.trans X.warmed.alike
  obtain ⟨D, cfV, kV, iV, fV, hD, gV, stV, knV, obV, asV, slV⟩ := id V
  obtain ⟨D', cfC, kC, iC, fC, hD', gC, stC, -, -, asC, slC⟩ := id C
  cases hD.symm.trans hD'
  obtain ⟨D2, kD, e1, e2, e3, e4, e5⟩ := id E
  cases hD.symm.trans e1
  obtain ⟨c2, k2, i1, i2, i3, -⟩ := Cond.instantiable_spec wi
  cases e2.symm.trans i1
  cases e3.symm.trans i2
  obtain ⟨kU, u1, u2⟩ := al.2.2 _ _ e3
  have hB : Blank ST x D P.U := ⟨hD, ⟨knV, fun q hq => by rw [hq] at obV; cases obV⟩, by rw [al.findClass]; exact e2, kU, u1, by rw [u2]; exact i3, by rw [u2]; exact e5 i3⟩
  have F1 : Found ST "value" "[B" fV P.U := ⟨SBG.found_only al ⟨cfV, kV, iV, gV⟩, stV⟩
  have F2 : Found ST "coder" "B" fC P.U := ⟨SBG.found_only al ⟨cfC, kC, iC, gC⟩, stC⟩
  have hA : Ch b A P.U := ⟨⟨K.1, State.isArrayOf_alike al K.2.1, K.2.2, by omega⟩, hty⟩
  have hS : StaticIs P.U ST "COMPACT_STRINGS" "Z" (.int z) := by
    obtain ⟨cfS, iS, kS, fS, st, cS, t1, t2, t3, t4, t5, t6, t7⟩ := S
    exact StaticIs.there (s := { Z with heap := P.U.heap }) ⟨cfS, iS, kS, fS, st, cS, t1, t2, t3, t4, t5, (fun q => by rw [q] at t6; cases t6), t7⟩ al rfl
  obtain ⟨v, B, X', ⟨⟨hv, E', V', q1, q2, q3, q4, q5, q6, q7, q8, q9, q10, q11⟩, hl, hc, hs⟩, st⟩ := New1.pays x D fV fC b A z (tab_of (moved hZ hw)) hfr hlo m meth c P g ig mk _ X hg hsize hdg hW hn ⟨r1, r2, rfl, hB, F1, F2, hA, hS, hz, l0, l2, hp⟩
  have al' : Z.vm.Alike B.U.vm := hZ.alike.trans X'.warmed.alike
  have hsz : E'.slots.size = D.slots.size := by
    obtain ⟨-, -, -, kB, w1, w2, w3⟩ := q1
    obtain ⟨kB', y1, y2⟩ := al'.2.2 _ _ e3
    rw [q2.2.1] at w1
    cases w1.symm.trans y1
    rw [w3, e5 i3, y2]
  refine ⟨v, B, X', ⟨_, ⟨hv, ?_, ⟨by omega, fun y cy hy hn' => q10 y cy (by simpa using hn') hy, fun y cy hy => ?_⟩, q11, ⟨E', _, q1.1, by rw [q2.2.1]; exact e2, by rw [q2.2.1]; exact e3, by rw [q2.1]; exact obV, fun _ => by rw [hsz]; exact e5 i3⟩,
    ⟨E', cfV, kV, iV, fV, q1.1, gV, stV, by rw [q2.1]; exact knV, by rw [q2.1]; exact obV, by rw [q2.2.1]; exact asV, q3⟩, ⟨E', cfC, kC, iC, fC, q1.1, gC, stC, by rw [q2.1]; exact knV, by rw [q2.1]; exact obV, by rw [q2.2.1]; exact asC, q4⟩,
    ⟨V', ⟨q5.1, State.isArrayOf_alike al'.symm q5.2.1, q5.2.2.1⟩, q6, by rw [← al'.findClass]; exact q7, q8, fun j hj => by have := q9 j hj; rwa [Nat.zero_add] at this⟩, fun O n d w F n1 n2 => ?_⟩, hl, hc, hs⟩, st⟩
  · intro y hy
    simp only [List.mem_cons, List.not_mem_nil, or_false] at hy
    rcases hy with rfl | rfl <;> rfl
  · by_cases q : y = x
    · subst q
      cases hD.symm.trans hy
      exact ⟨E', q1.1, q2.2.1, q2.1, hsz⟩
    · exact ⟨cy, q10 y cy q hy, rfl, rfl, rfl⟩
  · obtain ⟨D3, cf, k, i, f, g1, g2, g3, g4, g5, g6, g7⟩ := F
    cases hD.symm.trans g1
    simp only [RoadKit.slotOf, g2, gV, gC, Option.map_some, Option.getD_some] at n1 n2
    exact ⟨E', cf, k, i, f, q1.1, g2, g3, by rw [q2.1]; exact g4, by rw [q2.1]; exact g5, by rw [q2.2.1]; exact g6, by rw [q2.2.2 f.slot (by simp [n1, n2])]; exact g7⟩
end StrChars.Road
namespace StrChars.Road
open Jvm Sem ClassFile Op Lib Jvm.Stand Jvm.Free Jvm.Free.XT
/-- WHAT COMES BACK, the byte[] as a list of values -/
def QA (Z : State) (x : Addr) (zn : Int32) (cs : List Int32) (h : Heap) (v : Option Value) (h' : Heap) (L : List Loc) : Prop := v = none ∧ (∀ y ∈ L, y.base = x) ∧ RoadKit.Keep h h' [x] ∧ h'.size = h.size + 1 ∧ RoadKit.Exa Z h' x ST ∧ RoadKit.Fld Z h' x ST "value" "[B" (.ref h.size) ∧ RoadKit.Fld Z h' x ST "coder" "B" (.int 0) ∧
  (∃ kb, Z.vm.findClass "[B" = some kb ∧ RoadKit.Arv Z h' h.size kb .byte zn (cs.map fun c => .int (lo8 c)) (.int 0)) ∧
  ∀ (O n d : String) (w : Value), RoadKit.Fld Z h x O n d w → RoadKit.slotOf Z O n d ≠ RoadKit.slotOf Z ST "value" "[B" → RoadKit.slotOf Z O n d ≠ RoadKit.slotOf Z ST "coder" "B" → RoadKit.Fld Z h' x O n d w
/-- **new String(chars) AT A CALL, THE ARRAYS AS LISTS**: the char[] at b holds cs, not empty, no char above 255 -/
theorem backArv {p : Program} {l : Launch} {e : Env} {R : Room} {s : State} {args : Array Value} {below : List Frame} {len W : Nat} {Z : State} {a0 : Array Value} {h : Heap} (hZ : Z.Warmed39 s.vm) (hw : ∀ d ∈ words, d.before a0 Z = true) {kI : Nat} (wi : (Jvm.Cond.instantiable ST kI).before a0 Z = true)
    {x b : Addr} {k : ClassId} {zn z : Int32} {cs : List Int32} {dv v0 c0 : Value} (E : RoadKit.Exa Z h x ST) (V : RoadKit.Fld Z h x ST "value" "[B" v0) (C : RoadKit.Fld Z h x ST "coder" "B" c0) (K : RoadKit.Arv Z h b k .char zn (cs.map Value.int) dv) (S : RoadKit.Sta Z h ST "COMPACT_STRINGS" "Z" (.int z)) (hz : ¬ z = 0)
    (hlen : zn.toNatClampNeg = cs.length) (h0 : 0 < cs.length) (hbig : cs.length ≤ 536870912) (hall : ∀ c ∈ cs, ¬ 255 < c) (hfr : 4 ≤ R.frames) (hlo : W + 65 ≤ R.locals) :
    Back l R p e below s args New1.yN len W (fun P a => a = #[.ref x, .ref b] ∧ P.U.heap = h ∧ P.cells + 1 ≤ R.cells ∧ P.slots + cs.length ≤ R.slots)
      (fun P _ v B => ∃ L, QA Z x zn cs h v B.U.heap L ∧ B.locs = P.locs ++ L ∧ B.cells = P.cells + 1 ∧ B.slots = P.slots + cs.length) := by
  obtain ⟨A, K1, K2, K3, K4, K5, K6⟩ := K
  have e : A.slots.size = cs.length := K3.trans hlen
  have hat : ∀ (i : Nat) (hi : i < cs.length), A.slots[i]? = some (.int cs[i]) := fun i hi => by rw [K5 i (by omega)]; simp [List.getD_eq_getElem?_getD, hi]
  have hcv : ∀ (i : Nat) (hi : i < cs.length), cv A i = cs[i] := fun i hi => by unfold cv; rw [hat i hi]
  have hty : Typed .char A := fun i v hv => by
    have hi : i < A.slots.size := (Array.getElem?_eq_some_iff.mp hv).1
    have q := K5 i hi
    rw [hv] at q
    rw [Option.some.inj q]
    exact K6 i hi
  refine Back.mono (back hZ hw wi E V C K1 hty S hz (by omega) (by omega) (fun i hi => by rw [hcv i (by omega)]; exact hall _ (List.getElem_mem _)) hfr hlo) (fun P a hp => ⟨hp.1, hp.2.1, hp.2.2.1, by rw [e]; exact hp.2.2.2⟩) (fun P a v B hp hq => ?_)
  obtain ⟨L, ⟨q1, q2, q3, q4, q5, q6, q7, ⟨V', v1, v2, v3, v4, v5⟩, q9⟩, hl, hc, hs⟩ := hq
  refine ⟨L, ⟨q1, q2, q3, q4, q5, q6, q7, ⟨V'.cls, v3, V', v1, rfl, by rw [v4, e, hlen], K4, fun i hi => ?_, fun i hi => ?_⟩, q9⟩, hl, hc, by rw [hs, e]⟩
  · have hi' : i < cs.length := by omega
    rw [v5 i (by omega), hcv i hi']; simp [List.getD_eq_getElem?_getD, hi']
  · have hi' : i < cs.length := by omega
    simp only [List.getD_eq_getElem?_getD, List.getElem?_map, List.getElem?_eq_getElem hi', Option.map_some, Option.getD_some]
    exact fits_lo8 _
end StrChars.Road
namespace StrChars.Road
open Jvm Sem ClassFile Op Lib Jvm.Stand Jvm.Free Jvm.Free.XT
/-- WHAT COMES BACK, in the writer's own shape -/
def QV (Z : State) (x : Addr) (N : Int32) (bs : List Int32) (h : Heap) (n0 : Nat) (v : Option Value) (h' : Heap) (L : List Loc) : Prop := v = none ∧ RoadKit.Fr n0 L ∧ RoadKit.Keep h h' [x] ∧ RoadKit.Exa Z h' x ST ∧ RoadKit.Fld Z h' x ST "coder" "B" (.int 0) ∧
  ∃ (t : Addr) (kb : ClassId), n0 ≤ t ∧ h.size ≤ t ∧ ¬ t = x ∧ RoadKit.Fld Z h' x ST "value" "[B" (.ref t) ∧ RoadKit.Arv Z h' t kb .byte N (bs.map Value.int) (.int 0)
/-- **new String(chars) AT A CALL, FOR THE WRITER**: a char[] of n known ints, each 0 to 255 -/
theorem backV {p : Program} {l : Launch} {e : Env} {R : Room} {s : State} {args : Array Value} {below : List Frame} {len W : Nat} {Z : State} {a0 : Array Value} {h : Heap} (hZ : Z.Warmed39 s.vm) (hw : ∀ d ∈ words, d.before a0 Z = true) {kI : Nat} (wi : (Jvm.Cond.instantiable ST kI).before a0 Z = true)
    {x b : Addr} {kC : ClassId} {cs bs : List Int32} {d v0 c0 : Value} {z N : Int32} {n n0 : Nat} (hx0 : n0 ≤ x) (hh0 : n0 ≤ h.size) (E : RoadKit.Exa Z h x ST) (V : RoadKit.Fld Z h x ST "value" "[B" v0) (C : RoadKit.Fld Z h x ST "coder" "B" c0) (K : RoadKit.Arv Z h b kC .char N (cs.map Value.int) d) (S : RoadKit.Sta Z h ST "COMPACT_STRINGS" "Z" (.int z)) (hz : ¬ z = 0)
    (hn : cs.length = n) (hN : N = Int32.ofNat n) (l0 : 0 < n) (l2 : n ≤ 4000) (hp : ∀ c ∈ cs, ¬ c < 0 ∧ ¬ (255 : Int32) < c) (hb : bs = cs.map (fun c => c.toInt8.toInt32)) (hfr : 4 ≤ R.frames) (hlo : W + 65 ≤ R.locals) :
    Back l R p e below s args (⟨"java/lang/String", "<init>", "([C)V"⟩ : MethodName) len W (fun P a => a = #[.ref x, .ref b] ∧ P.U.heap = h ∧ P.cells + 1 ≤ R.cells ∧ P.slots + n ≤ R.slots)
      (fun P _ v B => ∃ L, QV Z x N bs h n0 v B.U.heap L ∧ B.locs = P.locs ++ L ∧ B.cells = P.cells + 1 ∧ B.slots = P.slots + n) := by
  subst hn hN hb
  refine Back.mono (backArv hZ hw wi E V C K S hz (n32 (by omega)) l0 (by omega) (fun c hc => (hp c hc).2) hfr hlo) (fun P a hp => hp) (fun P a v B hp hq => ?_)
  obtain ⟨L, ⟨q1, q2, q3, q4, q5, q6, q7, ⟨kb, v1, v2⟩, q9⟩, hl, hc, hs⟩ := hq
  exact ⟨L, ⟨q1, fun y hy => by rw [q2 y hy]; exact hx0, q3, q5, q7, h.size, kb, hh0, Nat.le_refl _, Nat.ne_of_gt E.lt, q6, by rw [List.map_map]; exact v2⟩, hl, hc, hs⟩
end StrChars.Road
namespace StrChars
open Jvm Sem ClassFile Op Lib Jvm.Stand Jvm.Free.XT Jvm.Free.ALB Jvm.Free.JM Jvm.Free
open Jvm.Lib.Cold (StaticIs)
def hi8 (x : Int32) : Int32 := lo8 (x >>> ((8 : Int32) &&& 31))
/-- what StringUTF16.getChar makes of two bytes -/
def pairCh (u v : Int32) : Int32 := (((u &&& 255) <<< ((0 : Int32) &&& 31)) ||| ((v &&& 255) <<< ((8 : Int32) &&& 31))).toUInt32.toUInt16.toUInt32.toInt32
theorem shr0 (c : Int32) : c >>> ((0 : Int32) &&& 31) = c := by
  have e : ((0 : Int32) &&& 31) = 0 := by decide
  rw [e]
  apply Int32.toBitVec_inj.mp
  rw [Int32.toBitVec_shiftRight]
  have e1 : ((0 : Int32).toBitVec.smod 32) = 0#32 := by decide
  rw [e1, BitVec.sshiftRight_eq']
  exact BitVec.sshiftRight_zero
theorem lo8_and (x : Int32) : (lo8 x &&& 255).toBitVec.toNat = x.toBitVec.toNat % 256 := by
  have h : (lo8 x).toBitVec = (x.toBitVec.signExtend 8).signExtend 32 := by rw [lo8, Int8.toBitVec_toInt32, Int32.toBitVec_toInt8]
  rw [Int32.toBitVec_and, BitVec.toNat_and, h]
  have e : ((x.toBitVec.signExtend 8).signExtend 32).toNat % 256 = x.toBitVec.toNat % 256 := by
    rw [BitVec.toNat_signExtend]
    have hlt := x.toBitVec.isLt
    simp only [BitVec.toNat_setWidth, BitVec.toNat_signExtend]
    split <;> split <;> omega
  rw [← e]
  exact Nat.and_two_pow_sub_one_eq_mod _ 8
theorem pair_says {c : Int32} (h0 : ¬ c < 0) (h1 : ¬ 65535 < c) : pairCh (lo8 c) (hi8 c) = c := by
  rw [Int32.lt_iff_toInt_lt] at h0 h1
  have e0 : (0 : Int32).toInt = 0 := rfl
  have e1 : (65535 : Int32).toInt = 65535 := rfl
  have hc : c.toInt = c.toBitVec.toNat := by
    have := c.toBitVec.isLt
    have e : c.toInt = c.toBitVec.toInt := rfl
    rw [e] at h0 h1
    rw [e]
    rw [BitVec.toInt_eq_toNat_cond] at h0 h1 ⊢
    split at h0 <;> split <;> omega
  have hn : c.toBitVec.toNat < 65536 := by omega
  have a1 := lo8_and c
  have a2 : (hi8 c &&& 255).toBitVec.toNat = c.toBitVec.toNat / 256 := by
    rw [hi8, lo8_and]
    have e : ((8 : Int32) &&& 31) = 8 := by decide
    rw [e, Int32.toBitVec_shiftRight]
    have e2 : ((8 : Int32).toBitVec.smod 32) = 8#32 := by decide
    rw [e2, BitVec.sshiftRight_eq', BitVec.toNat_sshiftRight_of_msb_false (by rw [BitVec.msb_eq_false_iff_two_mul_lt]; omega)]
    show c.toBitVec.toNat >>> 8 % 256 = _
    rw [Nat.shiftRight_eq_div_pow]
    omega
  unfold pairCh
  apply Int32.toBitVec_inj.mp
  apply BitVec.eq_of_toNat_eq
  have f0 : ((0 : Int32) &&& 31) = 0 := by decide
  have f8 : ((8 : Int32) &&& 31) = 8 := by decide
  rw [f0, f8]
  have g : (((lo8 c &&& 255) <<< (0 : Int32)) ||| ((hi8 c &&& 255) <<< (8 : Int32))).toBitVec.toNat = c.toBitVec.toNat := by
    rw [Int32.toBitVec_or, Int32.toBitVec_shiftLeft, Int32.toBitVec_shiftLeft]
    have s0 : ((0 : Int32).toBitVec.smod 32) = 0#32 := by decide
    have s8 : ((8 : Int32).toBitVec.smod 32) = 8#32 := by decide
    rw [s0, s8, BitVec.toNat_or]
    simp only [BitVec.shiftLeft_eq', BitVec.toNat_shiftLeft, a1, a2]
    show (c.toBitVec.toNat % 256) <<< 0 % 2 ^ 32 ||| (c.toBitVec.toNat / 256) <<< 8 % 2 ^ 32 = _
    rw [Nat.shiftLeft_zero, Nat.mod_eq_of_lt (show c.toBitVec.toNat % 256 < 2 ^ 32 by omega), Nat.mod_eq_of_lt (show (c.toBitVec.toNat / 256) <<< 8 < 2 ^ 32 by rw [Nat.shiftLeft_eq]; omega), Nat.or_comm, ← Nat.shiftLeft_add_eq_or_of_lt (by omega), Nat.shiftLeft_eq]
    omega
  show BitVec.toNat (((((lo8 c &&& 255) <<< (0 : Int32)) ||| ((hi8 c &&& 255) <<< (8 : Int32))).toBitVec.setWidth 16).setWidth 32) = _
  rw [BitVec.toNat_setWidth, BitVec.toNat_setWidth, g]
  omega
end StrChars
namespace StrChars
open Jvm Sem ClassFile Op Lib Jvm.Stand Jvm.Free.XT Jvm.Free.ALB Jvm.Free.JM Jvm.Free
open Jvm.Lib.Cold (StaticIs)
theorem shr1 {n : Nat} (h : 2 * n < 2 ^ 31) : Int32.ofNat (2 * n) >>> ((1 : Int32) &&& 31) = Int32.ofNat n := by
  have e : ((1 : Int32) &&& 31) = 1 := by decide
  rw [e]
  apply Int32.toBitVec_inj.mp
  rw [Int32.toBitVec_shiftRight]
  have e1 : ((1 : Int32).toBitVec.smod 32) = 1#32 := by decide
  have hm : (BitVec.ofNat 32 (2 * n)).toNat = 2 * n := by rw [BitVec.toNat_ofNat, Nat.mod_eq_of_lt (by omega)]
  rw [e1, BitVec.sshiftRight_eq']
  apply BitVec.eq_of_toNat_eq
  show ((BitVec.ofNat 32 (2 * n)).sshiftRight 1).toNat = (BitVec.ofNat 32 n).toNat
  rw [BitVec.toNat_sshiftRight_of_msb_false (by rw [BitVec.msb_eq_false_iff_two_mul_lt, hm]; omega), hm, BitVec.toNat_ofNat, Nat.shiftRight_eq_div_pow]
  omega
/-- charAt's cast of a byte read back -/
def chr8 (u : Int32) : Int32 := (u &&& 255).toUInt32.toUInt16.toUInt32.toInt32
theorem chr8_lo8 {c : Int32} (h0 : ¬ c < 0) (h1 : ¬ 255 < c) : chr8 (lo8 c) = c := by
  have t : ∀ k : Fin 256, (Int32.ofNat k.val).toUInt32.toUInt16.toUInt32.toInt32 = Int32.ofNat k.val := by decide +kernel
  unfold chr8
  rw [lo8_mask h0 h1]
  rw [Int32.lt_iff_toInt_lt] at h0 h1
  have e0 : (0 : Int32).toInt = 0 := rfl
  have e1 : (255 : Int32).toInt = 255 := rfl
  obtain ⟨k, hk⟩ : ∃ k : Nat, c.toInt = k := ⟨c.toInt.toNat, by omega⟩
  have hx : c = Int32.ofNat k := Int32.toInt_inj.mp (by rw [hk, Int32.toInt_ofNat_small (by omega)])
  rw [hx]
  exact t ⟨k, by omega⟩
theorem narrow_ch {c : Int32} (h0 : ¬ c < 0) (h1 : ¬ 65535 < c) : narrow .char (.int c) = .int c := by
  have q : narrow .char (.int (pairCh (lo8 c) (hi8 c))) = .int (pairCh (lo8 c) (hi8 c)) := narrow_c _
  rwa [pair_says h0 h1] at q
/-- the array's cell V codes the n chars f 0 .. f (n - 1) by the coder cd, as the JDK does: coder 1 just where some char is above 255 -/
def Cod (cd : Int32) (n : Nat) (f : Nat → Int32) (V : Cell) : Prop := (cd = 0 ∧ V.slots.size = n ∧ ∀ j, j < n → V.slots[j]? = some (.int (lo8 (f j))) ∧ ¬ 255 < f j) ∨ (cd = 1 ∧ V.slots.size = 2 * n ∧ (∀ j, j < n → V.slots[2 * j]? = some (.int (lo8 (f j))) ∧ V.slots[2 * j + 1]? = some (.int (hi8 (f j)))) ∧ ∃ j, j < n ∧ 255 < f j)
theorem Cod.cd {cd : Int32} {n : Nat} {f : Nat → Int32} {V : Cell} (h : Cod cd n f V) : cd = 0 ∨ cd = 1 := h.imp (fun q => q.1) fun q => q.1
theorem Cod.len {cd : Int32} {n : Nat} {f : Nat → Int32} {V : Cell} (h : Cod cd n f V) (hs : V.slots.size < 2 ^ 31) : Int32.ofNat V.slots.size >>> (cd &&& 31) = Int32.ofNat n := by
  rcases h with ⟨rfl, h, -⟩ | ⟨rfl, h, -⟩
  · rw [shr0, h]
  · rw [h, shr1 (by omega)]
/-- **x is a String of the n chars f 0 .. f (n - 1)**, Latin-1 or UTF-16; its array at t has the cell V -/
def Txt (x t : Addr) (V : Cell) (cd : Int32) (n : Nat) (f : Nat → Int32) (U : State) : Prop := Exact "java/lang/String" x U ∧ Has x "java/lang/String" "value" "[B" (.ref t) U ∧ Has x "java/lang/String" "coder" "B" (.int cd) U ∧ XT.Arr .byte t V U ∧ Cod cd n f V ∧ ∀ j, j < n → ¬ f j < 0 ∧ ¬ 65535 < f j
theorem Txt.mv {x t : Addr} {V : Cell} {cd : Int32} {n : Nat} {f : Nat → Int32} {U U' : State} (h : Txt x t V cd n f U) (hal : U.vm.Alike U'.vm) (hh : U'.heap = U.heap) : Txt x t V cd n f U' := ⟨h.1.mv hal hh, h.2.1.mv hal hh, h.2.2.1.mv hal hh, h.2.2.2.1.mv hal hh, h.2.2.2.2⟩
namespace Cdr
def yN : MethodName := ⟨"java/lang/String", "coder", "()B"⟩
abbrev yB : ByteArray := jdk_42_method_152_code
theorem d0 : decode yB 0 = .ok (.getstatic 38, 3) := by decide +kernel
theorem d3 : decode yB 3 = .ok (.ifCond (.eq) 10, 3) := by decide +kernel
theorem d6 : decode yB 6 = .ok (.aload_n 0, 1) := by decide +kernel
theorem d7 : decode yB 7 = .ok (.getfield 15, 3) := by decide +kernel
theorem d10 : decode yB 10 = .ok (.goto 4, 3) := by decide +kernel
theorem d14 : decode yB 14 = .ok (.ireturn, 1) := by decide +kernel
def site : List Cond := [.fieldLink "java/lang/String" 38 "java/lang/String" "COMPACT_STRINGS" "Z", .fieldLink "java/lang/String" 15 "java/lang/String" "coder" "B"]
def tab : Cond := tabOf yN yB 1 (some .byte) site
def P (x : Addr) (cd z : Int32) (args : Array Value) (s : State) : Prop := args = #[.ref x] ∧ Has x "java/lang/String" "coder" "B" (.int cd) s ∧ (cd = 0 ∨ cd = 1) ∧ StaticIs s "java/lang/String" "COMPACT_STRINGS" "Z" (.int z) ∧ ¬ z = 0
def E (cd : Int32) (r : Option Value) (s u : State) : Prop := XT.PureE (some (.int cd)) r s u
theorem law (l : Launch) (x : Addr) (cd z : Int32) : Law l yN 1 0 0 0 yB 1 (some .byte) site (P x cd z) (E cd) [] 0 0 := by
  refine Law.of_walk (plainFor_of_name (by decide +kernel)) (by decide +kernel) (by decide +kernel) (by decide) (fun _ _ h => by rw [h.1]; rfl) (fun _ U U' hal hh h => ⟨h.1, h.2.1.mv hal hh, h.2.2.1, h.2.2.2.1.there hal hh, h.2.2.2.2⟩) (fun r U U' V V' h1 hal h2 h => XT.PureE.mv r U U' V V' h1 hal h2 h) ?_
  intro p e s m args below meth c s₁ X0 hexec hbytes hml hret hlk hnm hown hh0 W hP
  obtain ⟨rfl, hx, hc, s1, hz⟩ := hP
  have c1 : Steps p.tables e below (s₁.setTop (entryFrame m #[.ref x] 1)) (s₁.setTop (mkF m 0 #[.val (.ref x)] [])) := entry rfl
  obtain ⟨T2, X2, q2, st2⟩ := X0.sget hexec hown (wk W (.fieldLink "java/lang/String" 38 "java/lang/String" "COMPACT_STRINGS" "Z")) s1 (fun _ _ h => by rw [hh0]; exact h) (g := (mkF m 0 #[.val (.ref x)] [])) rfl (hb hbytes d0)
  have hh2 := q2.trans hh0
  have c3 : Steps p.tables e below (s₁.setTop (entryFrame m #[.ref x] 1)) (T2.setTop (mkF m 7 #[.val (.ref x)] [.ref x])) := (c1.trans (st2 _ (Steps.refl _))).trans (by
    refine XS.ifNo X2.here hexec rfl (hb hbytes d3) rfl (i0_eq_f hz) ?_
    refine XS.aloadN X2.here hexec rfl (hb hbytes d6) rfl rfl ?_
    exact Steps.refl _)
  obtain ⟨T4, X4, q4, st4⟩ := X2.hget hexec hown (wk W (.fieldLink "java/lang/String" 15 "java/lang/String" "coder" "B")) (hx.mv X2.warmed.alike hh2) (g := (mkF m 7 #[.val (.ref x)] [.ref x])) rfl (rest := []) rfl (hb hbytes d7)
  have c5 : Steps p.tables e below (s₁.setTop (entryFrame m #[.ref x] 1)) (T4.setTop (mkF m 14 #[.val (.ref x)] [.int cd])) := (c3.trans (st4 _ (Steps.refl _))).trans (by
    refine XS.goto X4.here hexec rfl (pc0 := 10) rfl (hb hbytes d10) (by decide) rfl ?_
    exact Steps.refl _)
  exact ⟨T4, some (.int cd), _, _, _, X4, rfl, rfl, rfl, (fun h => by cases h), ⟨rfl, q4.trans hh2⟩, fun fs hl => c5.trans (X4.ireturnOut hexec hret (by rcases hc with rfl | rfl <;> rfl) (Or.inr (Or.inr (Or.inl rfl))) (hb hbytes d14) hl)⟩
end Cdr
namespace Len
def yN : MethodName := ⟨"java/lang/String", "length", "()I"⟩
abbrev yB : ByteArray := jdk_42_method_54_code
theorem d0 : decode yB 0 = .ok (.aload_n 0, 1) := by decide +kernel
theorem d1 : decode yB 1 = .ok (.getfield 9, 3) := by decide +kernel
theorem d4 : decode yB 4 = .ok (.arraylength, 1) := by decide +kernel
theorem d5 : decode yB 5 = .ok (.aload_n 0, 1) := by decide +kernel
theorem d6 : decode yB 6 = .ok (.invokevirtual 335, 3) := by decide +kernel
theorem d9 : decode yB 9 = .ok (.ishr, 1) := by decide +kernel
theorem d10 : decode yB 10 = .ok (.ireturn, 1) := by decide +kernel
def site : List Cond := [.fieldLink "java/lang/String" 9 "java/lang/String" "value" "[B", Cdr.tab] ++ virtW "java/lang/String" 335 "java/lang/String" Cdr.yN Cdr.yN
def tab : Cond := tabOf yN yB 1 (some .int) site
def P (x t : Addr) (V : Cell) (cd : Int32) (n : Nat) (f : Nat → Int32) (z : Int32) (args : Array Value) (s : State) : Prop := args = #[.ref x] ∧ Txt x t V cd n f s ∧ StaticIs s "java/lang/String" "COMPACT_STRINGS" "Z" (.int z) ∧ ¬ z = 0
def E (n : Nat) (r : Option Value) (s u : State) : Prop := XT.PureE (some (.int (Int32.ofNat n))) r s u
/-- length() of a String of n chars, in either coding -/
theorem law (l : Launch) (x t : Addr) (V : Cell) (cd : Int32) (n : Nat) (f : Nat → Int32) (z : Int32) : Law l yN 1 0 1 13 yB 1 (some .int) site (P x t V cd n f z) (E n) [] 0 0 := by
  refine Law.of_walk (plainFor_of_name (by decide +kernel)) (by decide +kernel) (by decide +kernel) (by decide) (fun _ _ h => by rw [h.1]; rfl) (fun _ U U' hal hh h => ⟨h.1, h.2.1.mv hal hh, h.2.2.1.there hal hh, h.2.2.2⟩) (fun r U U' V V' h1 hal h2 h => XT.PureE.mv r U U' V V' h1 hal h2 h) ?_
  intro p e s m args below meth c s₁ X0 hexec hbytes hml hret hlk hnm hown hh0 W hP
  obtain ⟨rfl, hx, s1, hz⟩ := hP
  have v31 := hx.2.2.2.1.2.2.2
  have c1 : Steps p.tables e below (s₁.setTop (entryFrame m #[.ref x] 1)) (s₁.setTop (mkF m 1 #[.val (.ref x)] [.ref x])) := Steps.trans (entry rfl) (by
    show Steps p.tables e below (s₁.setTop (mkF m 0 #[.val (.ref x)] [])) _
    refine XS.aloadN X0.here hexec rfl (hb hbytes d0) rfl rfl ?_
    exact Steps.refl _)
  obtain ⟨T2, X2, q2, st2⟩ := X0.hget hexec hown (wk W (.fieldLink "java/lang/String" 9 "java/lang/String" "value" "[B")) (hx.mv X0.warmed.alike hh0).2.1 (g := (mkF m 1 #[.val (.ref x)] [.ref x])) rfl (rest := []) rfl (hb hbytes d1)
  have hh2 := q2.trans hh0
  have hx2 := hx.mv X2.warmed.alike hh2
  have c3 : Steps p.tables e below (s₁.setTop (entryFrame m #[.ref x] 1)) (T2.setTop (mkF m 6 #[.val (.ref x)] [.ref x, .int (Int32.ofNat V.slots.size)])) := (c1.trans (st2 _ (Steps.refl _))).trans (by
    refine X2.alen hexec hx2.2.2.2.1 rfl rfl (hb hbytes d4) ?_
    refine XS.aloadN X2.here hexec rfl (hb hbytes d5) rfl rfl ?_
    exact Steps.refl _)
  obtain ⟨v4, T4, X4, E4, g4⟩ := X2.callV hexec (Cdr.law l x cd z) hown (wks W (virtW "java/lang/String" 335 "java/lang/String" Cdr.yN Cdr.yN)) rfl (by decide) (wk W Cdr.tab) (W := 1) (Nat.le_of_ble_eq_true rfl) (Nat.le_of_ble_eq_true rfl) (Nat.le_refl _) (Nat.le_refl _) (hx2.1.fc X2.warmed.alike) hx2.1.is (g := (mkF m 6 #[.val (.ref x)] [.ref x, .int (Int32.ofNat V.slots.size)])) rfl (by rw [hml]; rfl) c3 (argsL := []) (rest := [.int (Int32.ofNat V.slots.size)]) rfl rfl (by show 2 * 0 + (1 + 0) ≤ _; decide) (hb hbytes d6) (⟨rfl, hx2.2.2.1, hx.2.2.2.2.1.cd, s1.there X2.warmed.alike hh2, hz⟩)
  obtain ⟨rfl, q4⟩ := E4
  have c5 : Steps p.tables e below (s₁.setTop (entryFrame m #[.ref x] 1)) (T4.setTop (mkF m 10 #[.val (.ref x)] [.int (Int32.ofNat V.slots.size >>> (cd &&& 31))])) := Steps.trans g4 (by
    refine ishr X4.here hexec rfl (hb hbytes d9) rfl ?_
    exact Steps.refl _)
  rw [hx.2.2.2.2.1.len v31] at c5
  exact ⟨T4, some (.int (Int32.ofNat n)), _, _, _, X4, rfl, rfl, rfl, (fun h => by cases h), ⟨rfl, q4.trans hh2⟩, fun fs hl => c5.trans (X4.ireturnOut hexec hret rfl (Or.inl rfl) (hb hbytes d10) hl)⟩
theorem pays {l : Launch} {R : Room} {p : Program} {e : Env} {below : List Frame} {s : State} {sargs : Array Value} {len W : Nat} (x t : Addr) (V : Cell) (cd : Int32) (n : Nat) (f : Nat → Int32) (z : Int32) (htab : tab.before sargs s = true) (hfr : 2 ≤ R.frames) (hlo : W + 25 ≤ R.locals) :
    Back l R p e below s sargs yN len W (fun A₁ a₁ => A₁.cells + 0 ≤ R.cells ∧ A₁.slots + 0 ≤ R.slots ∧ P x t V cd n f z a₁ A₁.U) (fun A₁ _ v₁ B₁ => E n v₁ A₁.U B₁.U ∧ B₁.locs = A₁.locs ++ [] ∧ B₁.cells = A₁.cells + 0 ∧ B₁.slots = A₁.slots + 0) :=
  (law l x t V cd n f z).pays htab hfr (by omega)
end Len
namespace IsL
def yN : MethodName := ⟨"java/lang/String", "isLatin1", "()Z"⟩
abbrev yB : ByteArray := jdk_42_method_154_code
theorem d0 : decode yB 0 = .ok (.getstatic 38, 3) := by decide +kernel
theorem d3 : decode yB 3 = .ok (.ifCond (.eq) 14, 3) := by decide +kernel
theorem d6 : decode yB 6 = .ok (.aload_n 0, 1) := by decide +kernel
theorem d7 : decode yB 7 = .ok (.getfield 15, 3) := by decide +kernel
theorem d10 : decode yB 10 = .ok (.ifCond (.ne) 7, 3) := by decide +kernel
theorem d13 : decode yB 13 = .ok (.iconst 1, 1) := by decide +kernel
theorem d14 : decode yB 14 = .ok (.goto 4, 3) := by decide +kernel
theorem d17 : decode yB 17 = .ok (.iconst 0, 1) := by decide +kernel
theorem d18 : decode yB 18 = .ok (.ireturn, 1) := by decide +kernel
def site : List Cond := [.fieldLink "java/lang/String" 38 "java/lang/String" "COMPACT_STRINGS" "Z", .fieldLink "java/lang/String" 15 "java/lang/String" "coder" "B"]
def tab : Cond := tabOf yN yB 1 (some .boolean) site
def P (x : Addr) (cd z : Int32) (args : Array Value) (s : State) : Prop := args = #[.ref x] ∧ Has x "java/lang/String" "coder" "B" (.int cd) s ∧ (cd = 0 ∨ cd = 1) ∧ StaticIs s "java/lang/String" "COMPACT_STRINGS" "Z" (.int z) ∧ ¬ z = 0
def E (cd : Int32) (r : Option Value) (s u : State) : Prop := XT.PureE (some (.int (1 - cd))) r s u
theorem law (l : Launch) (x : Addr) (cd z : Int32) : Law l yN 1 0 0 0 yB 1 (some .boolean) site (P x cd z) (E cd) [] 0 0 := by
  refine Law.of_walk (plainFor_of_name (by decide +kernel)) (by decide +kernel) (by decide +kernel) (by decide) (fun _ _ h => by rw [h.1]; rfl) (fun _ U U' hal hh h => ⟨h.1, h.2.1.mv hal hh, h.2.2.1, h.2.2.2.1.there hal hh, h.2.2.2.2⟩) (fun r U U' V V' h1 hal h2 h => XT.PureE.mv r U U' V V' h1 hal h2 h) ?_
  intro p e s m args below meth c s₁ X0 hexec hbytes hml hret hlk hnm hown hh0 W hP
  obtain ⟨rfl, hx, hc, s1, hz⟩ := hP
  have c1 : Steps p.tables e below (s₁.setTop (entryFrame m #[.ref x] 1)) (s₁.setTop (mkF m 0 #[.val (.ref x)] [])) := entry rfl
  obtain ⟨T2, X2, q2, st2⟩ := X0.sget hexec hown (wk W (.fieldLink "java/lang/String" 38 "java/lang/String" "COMPACT_STRINGS" "Z")) s1 (fun _ _ h => by rw [hh0]; exact h) (g := (mkF m 0 #[.val (.ref x)] [])) rfl (hb hbytes d0)
  have hh2 := q2.trans hh0
  have c3 : Steps p.tables e below (s₁.setTop (entryFrame m #[.ref x] 1)) (T2.setTop (mkF m 7 #[.val (.ref x)] [.ref x])) := (c1.trans (st2 _ (Steps.refl _))).trans (by
    refine XS.ifNo X2.here hexec rfl (hb hbytes d3) rfl (i0_eq_f hz) ?_
    refine XS.aloadN X2.here hexec rfl (hb hbytes d6) rfl rfl ?_
    exact Steps.refl _)
  obtain ⟨T4, X4, q4, st4⟩ := X2.hget hexec hown (wk W (.fieldLink "java/lang/String" 15 "java/lang/String" "coder" "B")) (hx.mv X2.warmed.alike hh2) (g := (mkF m 7 #[.val (.ref x)] [.ref x])) rfl (rest := []) rfl (hb hbytes d7)
  have c5 : Steps p.tables e below (s₁.setTop (entryFrame m #[.ref x] 1)) (T4.setTop (mkF m 10 #[.val (.ref x)] [.int cd])) := c3.trans (st4 _ (Steps.refl _))
  have c6 : Steps p.tables e below (s₁.setTop (entryFrame m #[.ref x] 1)) (T4.setTop (mkF m 18 #[.val (.ref x)] [.int (1 - cd)])) := by
    rcases hc with rfl | rfl
    · exact c5.trans (by
        refine XS.ifNo X4.here hexec rfl (hb hbytes d10) rfl (i0_ne_f rfl) ?_
        refine iconstV X4.here hexec rfl 1 (hb hbytes d13) (by decide) ?_
        refine XS.goto X4.here hexec rfl (pc0 := 14) rfl (hb hbytes d14) (by decide) rfl ?_
        exact Steps.refl _)
    · exact c5.trans (by
        refine XS.ifYes X4.here hexec rfl (pc0 := 10) rfl (hb hbytes d10) rfl (i0_ne_t (by decide)) (by decide) rfl ?_
        refine iconstV X4.here hexec rfl 0 (hb hbytes d17) (by decide) ?_
        exact Steps.refl _)
  exact ⟨T4, some (.int (1 - cd)), _, _, _, X4, rfl, rfl, rfl, (fun h => by cases h), ⟨rfl, q4.trans hh2⟩, fun fs hl => c6.trans (X4.ireturnOut hexec hret (by rcases hc with rfl | rfl <;> rfl) (Or.inr (Or.inl rfl)) (hb hbytes d18) hl)⟩
end IsL
namespace LChA
def yN : MethodName := ⟨"java/lang/StringLatin1", "charAt", "([BI)C"⟩
abbrev yB : ByteArray := jdk_43_method_2_code
theorem d0 : decode yB 0 = .ok (.iload_n 1, 1) := by decide +kernel
theorem d1 : decode yB 1 = .ok (.aload_n 0, 1) := by decide +kernel
theorem d2 : decode yB 2 = .ok (.arraylength, 1) := by decide +kernel
theorem d3 : decode yB 3 = .ok (.invokestatic 9, 3) := by decide +kernel
theorem d6 : decode yB 6 = .ok (.aload_n 0, 1) := by decide +kernel
theorem d7 : decode yB 7 = .ok (.iload_n 1, 1) := by decide +kernel
theorem d8 : decode yB 8 = .ok (.baload, 1) := by decide +kernel
theorem d9 : decode yB 9 = .ok (.sipush 255, 3) := by decide +kernel
theorem d12 : decode yB 12 = .ok (.iand, 1) := by decide +kernel
theorem d13 : decode yB 13 = .ok (.i2c, 1) := by decide +kernel
theorem d14 : decode yB 14 = .ok (.ireturn, 1) := by decide +kernel
def site : List Cond := [JO.Str_checkIndex.tab] ++ staticW "java/lang/StringLatin1" 9 JO.Str_checkIndex.yN
def tab : Cond := tabOf yN yB 2 (some .char) site
def P (t : Addr) (V : Cell) (i : Nat) (u : Int32) (fm : Value) (args : Array Value) (s : State) : Prop := args = #[.ref t, .int (Int32.ofNat i)] ∧ XT.Arr .byte t V s ∧ V.slots[i]? = some (.int u) ∧ (StaticIs s "jdk/internal/util/Preconditions" "SIOOBE_FORMATTER" "Ljava/util/function/BiFunction;" fm ∧ fm.isRef = true)
def E (u : Int32) (r : Option Value) (s w : State) : Prop := XT.PureE (some (.int (chr8 u))) r s w
theorem law (l : Launch) (t : Addr) (V : Cell) (i : Nat) (u : Int32) (fm : Value) : Law l yN 2 2 2 27 yB 2 (some .char) site (P t V i u fm) (E u) [] 0 0 := by
  refine Law.of_walk (plainFor_of_name (by decide +kernel)) (by decide +kernel) (by decide +kernel) (by decide) (fun _ _ h => by rw [h.1]; rfl) (fun _ U U' hal hh h => ⟨h.1, h.2.1.mv hal hh, h.2.2.1, h.2.2.2.1.there hal hh, h.2.2.2.2⟩) (fun r U U' V V' h1 hal h2 h => XT.PureE.mv r U U' V V' h1 hal h2 h) ?_
  intro p e s m args below meth c s₁ X0 hexec hbytes hml hret hlk hnm hown hh0 W hP
  obtain ⟨rfl, hV, hu, s1, rf⟩ := hP
  have v31 := hV.2.2.2
  have hi : i < V.slots.size := (Array.getElem?_eq_some_iff.mp hu).1
  have c1 : Steps p.tables e below (s₁.setTop (entryFrame m #[.ref t, .int (Int32.ofNat i)] 2)) (s₁.setTop (mkF m 0 #[.val (.ref t), .val (.int (Int32.ofNat i))] [])) := entry rfl
  have c2 : Steps p.tables e below (s₁.setTop (entryFrame m #[.ref t, .int (Int32.ofNat i)] 2)) (s₁.setTop (mkF m 3 #[.val (.ref t), .val (.int (Int32.ofNat i))] [.int (Int32.ofNat V.slots.size), .int (Int32.ofNat i)])) := c1.trans (by
    refine XS.iloadN X0.here hexec rfl (hb hbytes d0) rfl ?_
    refine XS.aloadN X0.here hexec rfl (hb hbytes d1) rfl rfl ?_
    refine X0.alen hexec (hV.mv X0.warmed.alike hh0) rfl rfl (hb hbytes d2) ?_
    exact Steps.refl _)
  obtain ⟨v3, T3, X3, E3, g3⟩ := X0.callS hexec (JO.Str_checkIndex.law l (Int32.ofNat i) (Int32.ofNat V.slots.size) fm) hown (wks W (staticW "java/lang/StringLatin1" 9 JO.Str_checkIndex.yN)) (wk W JO.Str_checkIndex.tab) (W := 0) (Nat.le_of_ble_eq_true rfl) (Nat.le_of_ble_eq_true rfl) (Nat.le_refl _) (Nat.le_refl _) (g := (mkF m 3 #[.val (.ref t), .val (.int (Int32.ofNat i))] [.int (Int32.ofNat V.slots.size), .int (Int32.ofNat i)])) rfl (by rw [hml]; rfl) c2 (argsL := [.int (Int32.ofNat i), .int (Int32.ofNat V.slots.size)]) (rest := []) rfl rfl (by show 2 * 0 + 0 ≤ _; decide) (hb hbytes d3) (⟨rfl, rf, s1.there X0.warmed.alike hh0, Int32.ofNat_not_neg (by omega), lt32 v31 hi⟩)
  obtain ⟨rfl, q3⟩ := E3
  have hh3 := q3.trans hh0
  have c4 : Steps p.tables e below (s₁.setTop (entryFrame m #[.ref t, .int (Int32.ofNat i)] 2)) (T3.setTop (mkF m 14 #[.val (.ref t), .val (.int (Int32.ofNat i))] [.int (chr8 u)])) := Steps.trans g3 (by
    refine XS.aloadN X3.here hexec rfl (hb hbytes d6) rfl rfl ?_
    refine XS.iloadN X3.here hexec rfl (hb hbytes d7) rfl ?_
    refine X3.aget hexec (hV.mv X3.warmed.alike hh3) rfl hu rfl rfl (hb hbytes d8) ?_
    refine sipushV X3.here hexec rfl 255 (hb hbytes d9) (by decide) ?_
    refine XS.iand X3.here hexec rfl (hb hbytes d12) rfl ?_
    refine i2c X3.here hexec rfl (hb hbytes d13) rfl ?_
    exact Steps.refl _)
  exact ⟨T3, some (.int (chr8 u)), _, _, _, X3, rfl, rfl, rfl, (fun h => by cases h), ⟨rfl, hh3⟩, fun fs hl => c4.trans (X3.ireturnOut hexec hret (narrow_c _) (Or.inr (Or.inr (Or.inr (Or.inl rfl)))) (hb hbytes d14) hl)⟩
end LChA
end StrChars
namespace StrChars.Road
open Jvm Sem ClassFile Op Lib Jvm.Stand Jvm.Free Jvm.Free.XT
open Jvm.Lib.Cold (StaticIs)
theorem consq {a : Array Value} {s : State} {c : Jvm.Cond} {L : List Jvm.Cond} (h0 : c.before a s = true) (h : ∀ w ∈ L, w.before a s = true) : ∀ w ∈ c :: L, w.before a s = true := fun w hw => (List.mem_cons.mp hw).elim (fun e => e ▸ h0) (h w)
/-- the words of String.length(), either coding -/
abbrev wordsLen : List Jvm.Cond := [.code Len.yN Len.yB 1 (some .int), .initialized ST, .fieldLink ST 9 ST "value" "[B", .fieldLink ST 38 ST "COMPACT_STRINGS" "Z", .fieldLink ST 15 ST "coder" "B", .code Cdr.yN Cdr.yB 1 (some .byte), .methodLink ST 335 Cdr.yN, .declares Cdr.yN, .selects ST Cdr.yN Cdr.yN, .instanceMethod Cdr.yN]
theorem tabLen_of {a : Array Value} {s : State} (h : ∀ w ∈ wordsLen, w.before a s = true) : Len.tab.before a s = true := by
  have hc : Cdr.tab.before a s = true := unparts (wk h (.code Cdr.yN Cdr.yB 1 (some .byte))) (wks h (.initialized Cdr.yN.cls :: Cdr.site))
  have q := consq hc h
  exact unparts (wk q (.code Len.yN Len.yB 1 (some .int))) (wks q (.initialized Len.yN.cls :: Len.site))
theorem movedLen {Z s : State} {a0 args : Array Value} (hZ : Z.Warmed39 s.vm) (hw : ∀ d ∈ wordsLen, d.before a0 Z = true) : ∀ d ∈ wordsLen, d.before args s = true := fun d hd => by
  have q := hw d hd
  have t : ∀ d ∈ wordsLen, d = .arrayClass .byte ∨ (d.onTables && d.keepsFace) = true := by decide +kernel
  rcases t d hd with rfl | t
  · exact RoadKit.mvA hZ q
  · exact RoadKit.mv hZ q t
/-- the bytes of the chars cs, low before high -/
def wideBytes : List Int32 → List Value
  | [] => []
  | c :: cs => .int (lo8 c) :: .int (hi8 c) :: wideBytes cs
theorem wide_lo (d : Value) : ∀ (cs : List Int32) (j : Nat), j < cs.length → (wideBytes cs).getD (2 * j) d = .int (lo8 (cs.getD j 0))
  | [], j, h => absurd h (Nat.not_lt_zero j)
  | c :: cs, 0, _ => rfl
  | c :: cs, j + 1, h => by
    have q := wide_lo d cs j (by simpa using h)
    rw [show 2 * (j + 1) = 2 * j + 1 + 1 from by omega]
    simpa [wideBytes] using q
theorem wide_hi (d : Value) : ∀ (cs : List Int32) (j : Nat), j < cs.length → (wideBytes cs).getD (2 * j + 1) d = .int (hi8 (cs.getD j 0))
  | [], j, h => absurd h (Nat.not_lt_zero j)
  | c :: cs, 0, _ => rfl
  | c :: cs, j + 1, h => by
    have q := wide_hi d cs j (by simpa using h)
    rw [show 2 * (j + 1) + 1 = 2 * j + 1 + 1 + 1 from by omega]
    simpa [wideBytes] using q
theorem low_at (d : Value) (cs : List Int32) (j : Nat) (h : j < cs.length) : (cs.map fun c => Value.int (lo8 c)).getD j d = .int (lo8 (cs.getD j 0)) := by
  simp [List.getD_eq_getElem?_getD, h]
/-- an array of N2 bytes vs codes the chars cs by the coder cd -/
def CodA (cs : List Int32) (cd N2 : Int32) (vs : List Value) : Prop := (cd = 0 ∧ N2 = Int32.ofNat cs.length ∧ vs = (cs.map fun c => Value.int (lo8 c)) ∧ ∀ c ∈ cs, ¬ 255 < c) ∨ (cd = 1 ∧ N2 = Int32.ofNat (2 * cs.length) ∧ vs = wideBytes cs ∧ ∃ c ∈ cs, 255 < c)
theorem CodA.cod {cs : List Int32} {cd N2 : Int32} {vs : List Value} {V : Cell} (h : CodA cs cd N2 vs) (hn : 2 * cs.length < 2 ^ 31) (hs : V.slots.size = N2.toNatClampNeg) (hv : RoadKit.Has V vs (.int 0)) : Cod cd cs.length (fun j => cs.getD j 0) V := by
  rcases h with ⟨rfl, rfl, rfl, h⟩ | ⟨rfl, rfl, rfl, c, hc, hw⟩
  · rw [n32 (by omega)] at hs
    exact Or.inl ⟨rfl, hs, fun j hj => ⟨by rw [hv j (by omega), low_at _ _ _ hj], by
      have e : cs.getD j 0 = cs[j] := by simp [List.getD_eq_getElem?_getD, hj]
      show ¬ 255 < cs.getD j 0
      rw [e]; exact h _ (List.getElem_mem _)⟩⟩
  · rw [n32 (by omega)] at hs
    obtain ⟨j, hj, rfl⟩ := List.getElem_of_mem hc
    exact Or.inr ⟨rfl, hs, fun j hj => ⟨by rw [hv _ (by omega), wide_lo _ _ _ hj], by rw [hv _ (by omega), wide_hi _ _ _ hj]⟩, j, hj, by
      have e : cs.getD j 0 = cs[j] := by simp [List.getD_eq_getElem?_getD, hj]
      show 255 < cs.getD j 0
      rw [e]; exact hw⟩
/-- an object of exactly java/lang/String, its two fields found: as the laws ask it -/
theorem strObj {Z U : State} {a0 : Array Value} {kI : Nat} (wi : (Jvm.Cond.instantiable ST kI).before a0 Z = true) (al : Z.vm.Alike U.vm) {x : Addr} {v0 c0 : Value} (E : RoadKit.Exa Z U.heap x ST) (V : RoadKit.Fld Z U.heap x ST "value" "[B" v0) (C : RoadKit.Fld Z U.heap x ST "coder" "B" c0) :
    ∃ (D : Cell) (fV fC : Field), Blank ST x D U ∧ Found ST "value" "[B" fV U ∧ Found ST "coder" "B" fC U ∧ D.slots[fV.slot]? = some v0 ∧ D.slots[fC.slot]? = some c0 ∧ RoadKit.slotOf Z ST "value" "[B" = fV.slot ∧ RoadKit.slotOf Z ST "coder" "B" = fC.slot := by
  obtain ⟨D, cfV, kV, iV, fV, hD, gV, stV, knV, obV, asV, slV⟩ := V
  obtain ⟨D', cfC, kC, iC, fC, hD', gC, stC, -, -, asC, slC⟩ := C
  cases hD.symm.trans hD'
  obtain ⟨D2, kD, e1, e2, e3, e4, e5⟩ := E
  cases hD.symm.trans e1
  obtain ⟨c2, k2, i1, i2, i3, -⟩ := Cond.instantiable_spec wi
  cases e2.symm.trans i1
  cases e3.symm.trans i2
  obtain ⟨kU, u1, u2⟩ := al.2.2 _ _ e3
  exact ⟨D, fV, fC, ⟨hD, ⟨knV, fun q hq => by rw [hq] at obV; cases obV⟩, by rw [al.findClass]; exact e2, kU, u1, by rw [u2]; exact i3, by rw [u2]; exact e5 i3⟩, ⟨SBG.found_only al ⟨cfV, kV, iV, gV⟩, stV⟩, ⟨SBG.found_only al ⟨cfC, kC, iC, gC⟩, stC⟩, slV, slC, by simp [RoadKit.slotOf, gV], by simp [RoadKit.slotOf, gC]⟩
theorem sta_is {Z U : State} (al : Z.vm.Alike U.vm) {C n d : String} {v : Value} (S : RoadKit.Sta Z U.heap C n d v) : StaticIs U C n d v := by
  obtain ⟨cfS, iS, kS, fS, st, cS, t1, t2, t3, t4, t5, t6, t7⟩ := S
  exact StaticIs.there (s := { Z with heap := U.heap }) ⟨cfS, iS, kS, fS, st, cS, t1, t2, t3, t4, t5, (fun q => by rw [q] at t6; cases t6), t7⟩ al rfl
/-- **length() OF SUCH A STRING** -/
theorem lenW {p : Program} {l : Launch} {e : Env} {R : Room} {s : State} {args : Array Value} {below : List Frame} {len W : Nat} {Z : State} {a0 : Array Value} {h : Heap} (hZ : Z.Warmed39 s.vm) (hw : ∀ d ∈ wordsLen, d.before a0 Z = true) {kI : Nat} (wi : (Jvm.Cond.instantiable ST kI).before a0 Z = true)
    {x t : Addr} {kb : ClassId} {cs : List Int32} {cd N2 z : Int32} {vs : List Value} (E : RoadKit.Exa Z h x ST) (V : RoadKit.Fld Z h x ST "value" "[B" (.ref t)) (C : RoadKit.Fld Z h x ST "coder" "B" (.int cd)) (K : RoadKit.Arv Z h t kb .byte N2 vs (.int 0)) (hc : CodA cs cd N2 vs) (hb : ∀ c ∈ cs, ¬ c < 0 ∧ ¬ (65535 : Int32) < c)
    (S : RoadKit.Sta Z h ST "COMPACT_STRINGS" "Z" (.int z)) (hz : ¬ z = 0) (l2 : cs.length ≤ 4000) (hfr : 2 ≤ R.frames) (hlo : W + 25 ≤ R.locals) :
    Back l R p e below s args (⟨"java/lang/String", "length", "()I"⟩ : MethodName) len W (fun P a => a = #[.ref x] ∧ P.U.heap = h ∧ P.cells + 0 ≤ R.cells ∧ P.slots + 0 ≤ R.slots)
      (fun P _ v B => ∃ L, (v = some (.int (Int32.ofNat cs.length)) ∧ L = [] ∧ B.U.heap = h) ∧ B.locs = P.locs ++ L ∧ B.cells = P.cells + 0 ∧ B.slots = P.slots + 0) := by
  obtain ⟨A, K1, K2, K3, K4, K5, K6⟩ := K
  have hcod := hc.cod (by omega) K3 K5
  intro m meth c P g ig mk a X hg hsize hdg hW hn hp'
  obtain ⟨rfl, rfl, r1, r2⟩ := hp'
  have al : Z.vm.Alike P.U.vm := hZ.alike.trans X.warmed.alike
  obtain ⟨D, fV, fC, hB, F1, F2, g1, g2, -, -⟩ := strObj wi al E V C
  have hx : Txt x t A cd cs.length (fun j => cs.getD j 0) P.U := ⟨⟨_, hB.2.2.1, D, hB.1, rfl, by cases q : D.vm <;> first | rfl | exact absurd q (hB.2.1.2 _)⟩, Has.of hB F1 g1, Has.of hB F2 g2, ⟨K1.1, State.isArrayOf_alike al K1.2.1, K1.2.2, by rcases hcod with ⟨-, q, -⟩ | ⟨-, q, -⟩ <;> omega⟩, hcod, fun j hj => by
    have e : cs.getD j 0 = cs[j] := by simp [List.getD_eq_getElem?_getD, hj]
    show ¬ cs.getD j 0 < 0 ∧ ¬ 65535 < cs.getD j 0
    rw [e]; exact hb _ (List.getElem_mem _)⟩
  obtain ⟨v, B, X', ⟨⟨hv, hh⟩, hl, hk, hs⟩, st⟩ := Len.pays x t A cd cs.length (fun j => cs.getD j 0) z (tabLen_of (movedLen hZ hw)) hfr hlo m meth c P g ig mk _ X hg hsize hdg hW hn ⟨r1, r2, rfl, hx, sta_is al S, hz⟩
  exact ⟨v, B, X', ⟨[], ⟨hv, rfl, hh⟩, hl, hk, hs⟩, st⟩
end StrChars.Road
namespace StrChars
open Jvm Sem ClassFile Op Lib Jvm.Stand Jvm.Free.XT Jvm.Free.ALB Jvm.Free.JM Jvm.Free
open Jvm.Lib.Cold (StaticIs)
namespace Emp
def yN : MethodName := ⟨"java/lang/String", "isEmpty", "()Z"⟩
abbrev yB : ByteArray := jdk_42_method_55_code
theorem d0 : decode yB 0 = .ok (.aload_n 0, 1) := by decide +kernel
theorem d1 : decode yB 1 = .ok (.getfield 9, 3) := by decide +kernel
theorem d4 : decode yB 4 = .ok (.arraylength, 1) := by decide +kernel
theorem d5 : decode yB 5 = .ok (.ifCond (.ne) 7, 3) := by decide +kernel
theorem d8 : decode yB 8 = .ok (.iconst 1, 1) := by decide +kernel
theorem d9 : decode yB 9 = .ok (.goto 4, 3) := by decide +kernel
theorem d12 : decode yB 12 = .ok (.iconst 0, 1) := by decide +kernel
theorem d13 : decode yB 13 = .ok (.ireturn, 1) := by decide +kernel
def site : List Cond := [.fieldLink "java/lang/String" 9 "java/lang/String" "value" "[B"]
def tab : Cond := tabOf yN yB 1 (some .boolean) site
def P (x t : Addr) (V : Cell) (cd : Int32) (n : Nat) (f : Nat → Int32) (args : Array Value) (s : State) : Prop := args = #[.ref x] ∧ Txt x t V cd n f s
def E (n : Nat) (r : Option Value) (s u : State) : Prop := XT.PureE (some (.int (if n = 0 then 1 else 0))) r s u
/-- isEmpty() of a String of n chars -/
theorem law (l : Launch) (x t : Addr) (V : Cell) (cd : Int32) (n : Nat) (f : Nat → Int32) : Law l yN 1 0 0 0 yB 1 (some .boolean) site (P x t V cd n f) (E n) [] 0 0 := by
  refine Law.of_walk (plainFor_of_name (by decide +kernel)) (by decide +kernel) (by decide +kernel) (by decide) (fun _ _ h => by rw [h.1]; rfl) (fun _ U U' hal hh h => ⟨h.1, h.2.mv hal hh⟩) (fun r U U' V V' h1 hal h2 h => XT.PureE.mv r U U' V V' h1 hal h2 h) ?_
  intro p e s m args below meth c s₁ X0 hexec hbytes hml hret hlk hnm hown hh0 W hP
  obtain ⟨rfl, hx⟩ := hP
  have v31 := hx.2.2.2.1.2.2.2
  have c1 : Steps p.tables e below (s₁.setTop (entryFrame m #[.ref x] 1)) (s₁.setTop (mkF m 1 #[.val (.ref x)] [.ref x])) := Steps.trans (entry rfl) (by
    show Steps p.tables e below (s₁.setTop (mkF m 0 #[.val (.ref x)] [])) _
    refine XS.aloadN X0.here hexec rfl (hb hbytes d0) rfl rfl ?_
    exact Steps.refl _)
  obtain ⟨T2, X2, q2, st2⟩ := X0.hget hexec hown (wk W (.fieldLink "java/lang/String" 9 "java/lang/String" "value" "[B")) (hx.mv X0.warmed.alike hh0).2.1 (g := (mkF m 1 #[.val (.ref x)] [.ref x])) rfl (rest := []) rfl (hb hbytes d1)
  have hh2 := q2.trans hh0
  have hx2 := hx.mv X2.warmed.alike hh2
  have c3 : Steps p.tables e below (s₁.setTop (entryFrame m #[.ref x] 1)) (T2.setTop (mkF m 5 #[.val (.ref x)] [.int (Int32.ofNat V.slots.size)])) := (c1.trans (st2 _ (Steps.refl _))).trans (by
    refine X2.alen hexec hx2.2.2.2.1 rfl rfl (hb hbytes d4) ?_
    exact Steps.refl _)
  have hz : V.slots.size = 0 ↔ n = 0 := by
    rcases hx.2.2.2.2.1 with ⟨-, q, -⟩ | ⟨-, q, -⟩ <;> omega
  by_cases h0 : n = 0
  · have c4 : Steps p.tables e below (s₁.setTop (entryFrame m #[.ref x] 1)) (T2.setTop (mkF m 13 #[.val (.ref x)] [.int 1])) := c3.trans (by
      refine XS.ifNo X2.here hexec rfl (hb hbytes d5) rfl (i0_ne_f (by rw [hz.mpr h0]; rfl)) ?_
      refine iconstV X2.here hexec rfl 1 (hb hbytes d8) (by decide) ?_
      refine XS.goto X2.here hexec rfl (pc0 := 9) rfl (hb hbytes d9) (by decide) rfl ?_
      exact Steps.refl _)
    exact ⟨T2, some (.int 1), _, _, _, X2, rfl, rfl, rfl, (fun h => by cases h), ⟨by rw [if_pos h0], hh2⟩, fun fs hl => c4.trans (X2.ireturnOut hexec hret rfl (Or.inr (Or.inl rfl)) (hb hbytes d13) hl)⟩
  · have c4 : Steps p.tables e below (s₁.setTop (entryFrame m #[.ref x] 1)) (T2.setTop (mkF m 13 #[.val (.ref x)] [.int 0])) := c3.trans (by
      refine XS.ifYes X2.here hexec rfl (pc0 := 5) rfl (hb hbytes d5) rfl (i0_ne_t (nz32 v31 (by omega))) (by decide) rfl ?_
      refine iconstV X2.here hexec rfl 0 (hb hbytes d12) (by decide) ?_
      exact Steps.refl _)
    exact ⟨T2, some (.int 0), _, _, _, X2, rfl, rfl, rfl, (fun h => by cases h), ⟨by rw [if_neg h0], hh2⟩, fun fs hl => c4.trans (X2.ireturnOut hexec hret rfl (Or.inr (Or.inl rfl)) (hb hbytes d13) hl)⟩
theorem pays {l : Launch} {R : Room} {p : Program} {e : Env} {below : List Frame} {s : State} {sargs : Array Value} {len W : Nat} (x t : Addr) (V : Cell) (cd : Int32) (n : Nat) (f : Nat → Int32) (htab : tab.before sargs s = true) (hfr : 1 ≤ R.frames) (hlo : W + 12 ≤ R.locals) :
    Back l R p e below s sargs yN len W (fun A₁ a₁ => A₁.cells + 0 ≤ R.cells ∧ A₁.slots + 0 ≤ R.slots ∧ P x t V cd n f a₁ A₁.U) (fun A₁ _ v₁ B₁ => E n v₁ A₁.U B₁.U ∧ B₁.locs = A₁.locs ++ [] ∧ B₁.cells = A₁.cells + 0 ∧ B₁.slots = A₁.slots + 0) :=
  (law l x t V cd n f).pays htab hfr (by omega)
end Emp
end StrChars
namespace StrChars.Road
open Jvm Sem ClassFile Op Lib Jvm.Stand Jvm.Free Jvm.Free.XT
open Jvm.Lib.Cold (StaticIs)
/-- the words of String.isEmpty() -/
abbrev wordsEmp : List Jvm.Cond := [.code Emp.yN Emp.yB 1 (some .boolean), .initialized ST, .fieldLink ST 9 ST "value" "[B"]
theorem tabEmp_of {a : Array Value} {s : State} (h : ∀ w ∈ wordsEmp, w.before a s = true) : Emp.tab.before a s = true := unparts (wk h (.code Emp.yN Emp.yB 1 (some .boolean))) (wks h (.initialized Emp.yN.cls :: Emp.site))
theorem movedEmp {Z s : State} {a0 args : Array Value} (hZ : Z.Warmed39 s.vm) (hw : ∀ d ∈ wordsEmp, d.before a0 Z = true) : ∀ d ∈ wordsEmp, d.before args s = true := fun d hd => by
  have t : ∀ d ∈ wordsEmp, (d.onTables && d.keepsFace) = true := by decide +kernel
  exact RoadKit.mv hZ (hw d hd) (t d hd)
/-- the road's facts of a String, as the laws ask it -/
theorem txt_of {Z U : State} {a0 : Array Value} {kI : Nat} (wi : (Jvm.Cond.instantiable ST kI).before a0 Z = true) (al : Z.vm.Alike U.vm) {x t : Addr} {kb : ClassId} {cs : List Int32} {cd N2 : Int32} {vs : List Value} (E : RoadKit.Exa Z U.heap x ST) (V : RoadKit.Fld Z U.heap x ST "value" "[B" (.ref t)) (C : RoadKit.Fld Z U.heap x ST "coder" "B" (.int cd)) (K : RoadKit.Arv Z U.heap t kb .byte N2 vs (.int 0)) (hc : CodA cs cd N2 vs) (hb : ∀ c ∈ cs, ¬ c < 0 ∧ ¬ (65535 : Int32) < c) (l2 : cs.length ≤ 4000) :
    ∃ A, Txt x t A cd cs.length (fun j => cs.getD j 0) U := by
  obtain ⟨A, K1, K2, K3, K4, K5, K6⟩ := K
  have hcod := hc.cod (by omega) K3 K5
  obtain ⟨D, fV, fC, hB, F1, F2, g1, g2, -, -⟩ := strObj wi al E V C
  exact ⟨A, ⟨_, hB.2.2.1, D, hB.1, rfl, by cases q : D.vm <;> first | rfl | exact absurd q (hB.2.1.2 _)⟩, Has.of hB F1 g1, Has.of hB F2 g2, ⟨K1.1, State.isArrayOf_alike al K1.2.1, K1.2.2, by rcases hcod with ⟨-, q, -⟩ | ⟨-, q, -⟩ <;> omega⟩, hcod, fun j hj => by
    have e : cs.getD j 0 = cs[j] := by simp [List.getD_eq_getElem?_getD, hj]
    show ¬ cs.getD j 0 < 0 ∧ ¬ 65535 < cs.getD j 0
    rw [e]; exact hb _ (List.getElem_mem _)⟩
/-- **isEmpty() OF SUCH A STRING** -/
theorem empW {p : Program} {l : Launch} {e : Env} {R : Room} {s : State} {args : Array Value} {below : List Frame} {len W : Nat} {Z : State} {a0 : Array Value} {h : Heap} (hZ : Z.Warmed39 s.vm) (hw : ∀ d ∈ wordsEmp, d.before a0 Z = true) {kI : Nat} (wi : (Jvm.Cond.instantiable ST kI).before a0 Z = true)
    {x t : Addr} {kb : ClassId} {cs : List Int32} {cd N2 : Int32} {vs : List Value} (E : RoadKit.Exa Z h x ST) (V : RoadKit.Fld Z h x ST "value" "[B" (.ref t)) (C : RoadKit.Fld Z h x ST "coder" "B" (.int cd)) (K : RoadKit.Arv Z h t kb .byte N2 vs (.int 0)) (hc : CodA cs cd N2 vs) (hb : ∀ c ∈ cs, ¬ c < 0 ∧ ¬ (65535 : Int32) < c) (l2 : cs.length ≤ 4000) (hfr : 1 ≤ R.frames) (hlo : W + 12 ≤ R.locals) :
    Back l R p e below s args (⟨"java/lang/String", "isEmpty", "()Z"⟩ : MethodName) len W (fun P a => a = #[.ref x] ∧ P.U.heap = h ∧ P.cells + 0 ≤ R.cells ∧ P.slots + 0 ≤ R.slots)
      (fun P _ v B => ∃ L, (v = some (.int (if cs.length = 0 then 1 else 0)) ∧ L = [] ∧ B.U.heap = h) ∧ B.locs = P.locs ++ L ∧ B.cells = P.cells + 0 ∧ B.slots = P.slots + 0) := by
  intro m meth c P g ig mk a X hg hsize hdg hW hn hp'
  obtain ⟨rfl, rfl, r1, r2⟩ := hp'
  have al : Z.vm.Alike P.U.vm := hZ.alike.trans X.warmed.alike
  obtain ⟨A, hx⟩ := txt_of wi al E V C K hc hb l2
  obtain ⟨v, B, X', ⟨⟨hv, hh⟩, hl, hk, hs⟩, st⟩ := Emp.pays x t A cd cs.length (fun j => cs.getD j 0) (tabEmp_of (movedEmp hZ hw)) hfr hlo m meth c P g ig mk _ X hg hsize hdg hW hn ⟨r1, r2, rfl, hx⟩
  exact ⟨v, B, X', ⟨[], ⟨hv, rfl, hh⟩, hl, hk, hs⟩, st⟩
end StrChars.Road
namespace StrChars
open Jvm Sem ClassFile Op Lib Jvm.Stand Jvm.Free.XT Jvm.Free.ALB Jvm.Free.JM Jvm.Free
open Jvm.Lib.Cold (StaticIs)
namespace ChN
def yN : MethodName := ⟨"java/lang/String", "charAt", "(I)C"⟩
abbrev yB : ByteArray := jdk_42_method_56_code
theorem d0 : decode yB 0 = .ok (.aload_n 0, 1) := by decide +kernel
theorem d1 : decode yB 1 = .ok (.invokevirtual 492, 3) := by decide +kernel
theorem d4 : decode yB 4 = .ok (.ifCond (.eq) 12, 3) := by decide +kernel
theorem d7 : decode yB 7 = .ok (.aload_n 0, 1) := by decide +kernel
theorem d8 : decode yB 8 = .ok (.getfield 9, 3) := by decide +kernel
theorem d11 : decode yB 11 = .ok (.iload_n 1, 1) := by decide +kernel
theorem d12 : decode yB 12 = .ok (.invokestatic 495, 3) := by decide +kernel
theorem d15 : decode yB 15 = .ok (.ireturn, 1) := by decide +kernel
def site : List Cond := [.fieldLink "java/lang/String" 9 "java/lang/String" "value" "[B", IsL.tab, LChA.tab] ++ virtW "java/lang/String" 492 "java/lang/String" IsL.yN IsL.yN ++ staticW "java/lang/String" 495 LChA.yN
def tab : Cond := tabOf yN yB 2 (some .char) site
def P (x t : Addr) (V : Cell) (n : Nat) (f : Nat → Int32) (z : Int32) (fm : Value) (i : Nat) (args : Array Value) (s : State) : Prop := args = #[.ref x, .int (Int32.ofNat i)] ∧ Txt x t V 0 n f s ∧ i < n ∧ StaticIs s "java/lang/String" "COMPACT_STRINGS" "Z" (.int z) ∧ ¬ z = 0 ∧ StaticIs s "jdk/internal/util/Preconditions" "SIOOBE_FORMATTER" "Ljava/util/function/BiFunction;" fm ∧ fm.isRef = true
def E (f : Nat → Int32) (i : Nat) (r : Option Value) (s u : State) : Prop := XT.PureE (some (.int (f i))) r s u
/-- charAt(i) of a Latin-1 String of n chars, i < n: f i -/
theorem law (l : Launch) (x t : Addr) (V : Cell) (n : Nat) (f : Nat → Int32) (z : Int32) (fm : Value) (i : Nat) : Law l yN 2 1 3 40 yB 2 (some .char) site (P x t V n f z fm i) (E f i) [] 0 0 := by
  refine Law.of_walk (plainFor_of_name (by decide +kernel)) (by decide +kernel) (by decide +kernel) (by decide) (fun _ _ h => by rw [h.1]; rfl) (fun _ U U' hal hh h => ⟨h.1, h.2.1.mv hal hh, h.2.2.1, h.2.2.2.1.there hal hh, h.2.2.2.2.1, h.2.2.2.2.2.1.there hal hh, h.2.2.2.2.2.2⟩) (fun r U U' V V' h1 hal h2 h => XT.PureE.mv r U U' V V' h1 hal h2 h) ?_
  intro p e s m args below meth c s₁ X0 hexec hbytes hml hret hlk hnm hown hh0 W hP
  obtain ⟨rfl, hx, hi, s1, hz, s3, rf⟩ := hP
  have v31 := hx.2.2.2.1.2.2.2
  have hr := hx.2.2.2.2.2 i hi
  have hx0 := hx.mv X0.warmed.alike hh0
  have c1 : Steps p.tables e below (s₁.setTop (entryFrame m #[.ref x, .int (Int32.ofNat i)] 2)) (s₁.setTop (mkF m 1 #[.val (.ref x), .val (.int (Int32.ofNat i))] [.ref x])) := Steps.trans (entry rfl) (by
    show Steps p.tables e below (s₁.setTop (mkF m 0 #[.val (.ref x), .val (.int (Int32.ofNat i))] [])) _
    refine XS.aloadN X0.here hexec rfl (hb hbytes d0) rfl rfl ?_
    exact Steps.refl _)
  obtain ⟨v2, T2, X2, E2, g2⟩ := X0.callV hexec (IsL.law l x 0 z) hown (wks W (virtW "java/lang/String" 492 "java/lang/String" IsL.yN IsL.yN)) rfl (by decide) (wk W IsL.tab) (W := 0) (Nat.le_of_ble_eq_true rfl) (Nat.le_of_ble_eq_true rfl) (Nat.le_refl _) (Nat.le_refl _) (hx0.1.fc X0.warmed.alike) hx0.1.is (g := (mkF m 1 #[.val (.ref x), .val (.int (Int32.ofNat i))] [.ref x])) rfl (by rw [hml]; rfl) c1 (argsL := []) (rest := []) rfl rfl (by show 2 * 0 + 0 ≤ _; decide) (hb hbytes d1) (⟨rfl, hx0.2.2.1, hx.2.2.2.2.1.cd, s1.there X0.warmed.alike hh0, hz⟩)
  obtain ⟨rfl, q2⟩ := E2
  have hh2 := q2.trans hh0
  have hx2 := hx.mv X2.warmed.alike hh2
  obtain ⟨-, k1, k2⟩ | ⟨k0, -⟩ := hx.2.2.2.2.1
  · have c3 : Steps p.tables e below (s₁.setTop (entryFrame m #[.ref x, .int (Int32.ofNat i)] 2)) (T2.setTop (mkF m 8 #[.val (.ref x), .val (.int (Int32.ofNat i))] [.ref x])) := Steps.trans g2 (by
      refine XS.ifNo X2.here hexec rfl (hb hbytes d4) rfl (i0_eq_f (by decide)) ?_
      refine XS.aloadN X2.here hexec rfl (hb hbytes d7) rfl rfl ?_
      exact Steps.refl _)
    obtain ⟨T4, X4, q4, st4⟩ := X2.hget hexec hown (wk W (.fieldLink "java/lang/String" 9 "java/lang/String" "value" "[B")) hx2.2.1 (g := (mkF m 8 #[.val (.ref x), .val (.int (Int32.ofNat i))] [.ref x])) rfl (rest := []) rfl (hb hbytes d8)
    have hh4 := q4.trans hh2
    have c5 : Steps p.tables e below (s₁.setTop (entryFrame m #[.ref x, .int (Int32.ofNat i)] 2)) (T4.setTop (mkF m 12 #[.val (.ref x), .val (.int (Int32.ofNat i))] [.int (Int32.ofNat i), .ref t])) := (c3.trans (st4 _ (Steps.refl _))).trans (by
      refine XS.iloadN X4.here hexec rfl (hb hbytes d11) rfl ?_
      exact Steps.refl _)
    obtain ⟨v6, T6, X6, E6, g6⟩ := X4.callS hexec (LChA.law l t V i (lo8 (f i)) fm) hown (wks W (staticW "java/lang/String" 495 LChA.yN)) (wk W LChA.tab) (W := 0) (Nat.le_of_ble_eq_true rfl) (Nat.le_of_ble_eq_true rfl) (Nat.le_refl _) (Nat.le_refl _) (g := (mkF m 12 #[.val (.ref x), .val (.int (Int32.ofNat i))] [.int (Int32.ofNat i), .ref t])) rfl (by rw [hml]; rfl) c5 (argsL := [.ref t, .int (Int32.ofNat i)]) (rest := []) rfl rfl (by show 2 * 0 + 0 ≤ _; decide) (hb hbytes d12) (⟨rfl, hx.2.2.2.1.mv X4.warmed.alike hh4, (k2 i hi).1, s3.there X4.warmed.alike hh4, rf⟩)
    obtain ⟨rfl, q6⟩ := E6
    rw [chr8_lo8 hr.1 (k2 i hi).2] at g6
    exact ⟨T6, some (.int (f i)), _, _, _, X6, rfl, rfl, rfl, (fun h => by cases h), ⟨rfl, q6.trans hh4⟩, fun fs hl => Steps.trans g6 (X6.ireturnOut hexec hret (narrow_ch hr.1 hr.2) (Or.inr (Or.inr (Or.inr (Or.inl rfl)))) (hb hbytes d15) hl)⟩
  · exact absurd k0 (by decide)
theorem pays {l : Launch} {R : Room} {p : Program} {e : Env} {below : List Frame} {s : State} {sargs : Array Value} {len W : Nat} (x t : Addr) (V : Cell) (n : Nat) (f : Nat → Int32) (z : Int32) (fm : Value) (i : Nat) (htab : tab.before sargs s = true) (hfr : 4 ≤ R.frames) (hlo : W + 53 ≤ R.locals) :
    Back l R p e below s sargs yN len W (fun A₁ a₁ => A₁.cells + 0 ≤ R.cells ∧ A₁.slots + 0 ≤ R.slots ∧ P x t V n f z fm i a₁ A₁.U) (fun A₁ _ v₁ B₁ => E f i v₁ A₁.U B₁.U ∧ B₁.locs = A₁.locs ++ [] ∧ B₁.cells = A₁.cells + 0 ∧ B₁.slots = A₁.slots + 0) :=
  (law l x t V n f z fm i).pays htab hfr (by omega)
end ChN
end StrChars
namespace StrChars.Road
open Jvm Sem ClassFile Op Lib Jvm.Stand Jvm.Free Jvm.Free.XT
open Jvm.Lib.Cold (StaticIs)
/-- the words of String.charAt(int), the Latin-1 road alone -/
abbrev wordsChN : List Jvm.Cond := [.code ChN.yN ChN.yB 2 (some .char), .initialized ST, .fieldLink ST 9 ST "value" "[B", .fieldLink ST 38 ST "COMPACT_STRINGS" "Z", .fieldLink ST 15 ST "coder" "B", .code IsL.yN IsL.yB 1 (some .boolean), .methodLink ST 492 IsL.yN, .declares IsL.yN, .selects ST IsL.yN IsL.yN, .instanceMethod IsL.yN,
  .methodLink ST 495 LChA.yN, .static LChA.yN, .code LChA.yN LChA.yB 2 (some .char), .initialized "java/lang/StringLatin1", .methodLink "java/lang/StringLatin1" 9 JO.Str_checkIndex.yN, .static JO.Str_checkIndex.yN, .code JO.Str_checkIndex.yN JO.Str_checkIndex.yB 2 none,
  .fieldLink ST 1053 "jdk/internal/util/Preconditions" "SIOOBE_FORMATTER" "Ljava/util/function/BiFunction;", .methodLink ST 1059 JC.PreCheck.yN, .static JC.PreCheck.yN, .code JC.PreCheck.yN JC.PreCheck.yB 3 (some .int), .initialized "jdk/internal/util/Preconditions"]
theorem tabChN_of {a : Array Value} {s : State} (h : ∀ w ∈ wordsChN, w.before a s = true) : ChN.tab.before a s = true := by
  have hp : JC.PreCheck.tab.before a s = true := unparts (wk h (.code JC.PreCheck.yN JC.PreCheck.yB 3 (some .int))) (wks h (.initialized JC.PreCheck.yN.cls :: JC.PreCheck.site))
  have qk := consq hp h
  have hk : JO.Str_checkIndex.tab.before a s = true := unparts (wk qk (.code JO.Str_checkIndex.yN JO.Str_checkIndex.yB 2 none)) (wks qk (.initialized JO.Str_checkIndex.yN.cls :: JO.Str_checkIndex.site))
  have ql := consq hk h
  have hl : LChA.tab.before a s = true := unparts (wk ql (.code LChA.yN LChA.yB 2 (some .char))) (wks ql (.initialized LChA.yN.cls :: LChA.site))
  have hi : IsL.tab.before a s = true := unparts (wk h (.code IsL.yN IsL.yB 1 (some .boolean))) (wks h (.initialized IsL.yN.cls :: IsL.site))
  have q := consq hi (consq hl h)
  exact unparts (wk q (.code ChN.yN ChN.yB 2 (some .char))) (wks q (.initialized ChN.yN.cls :: ChN.site))
theorem movedChN {Z s : State} {a0 args : Array Value} (hZ : Z.Warmed39 s.vm) (hw : ∀ d ∈ wordsChN, d.before a0 Z = true) : ∀ d ∈ wordsChN, d.before args s = true := fun d hd => by
  have t : ∀ d ∈ wordsChN, (d.onTables && d.keepsFace) = true := by decide +kernel
  exact RoadKit.mv hZ (hw d hd) (t d hd)
/-- **charAt(i) OF A LATIN-1 STRING**, i < n: the char -/
theorem chN {p : Program} {l : Launch} {e : Env} {R : Room} {s : State} {args : Array Value} {below : List Frame} {len W : Nat} {Z : State} {a0 : Array Value} {h : Heap} (hZ : Z.Warmed39 s.vm) (hw : ∀ d ∈ wordsChN, d.before a0 Z = true) {kI : Nat} (wi : (Jvm.Cond.instantiable ST kI).before a0 Z = true)
    {x t : Addr} {kb : ClassId} {cs : List Int32} {N2 z : Int32} {vs : List Value} {fm : Value} {i : Nat} {j : Int32} (E : RoadKit.Exa Z h x ST) (V : RoadKit.Fld Z h x ST "value" "[B" (.ref t)) (C : RoadKit.Fld Z h x ST "coder" "B" (.int 0)) (K : RoadKit.Arv Z h t kb .byte N2 vs (.int 0)) (hc : CodA cs 0 N2 vs) (hb : ∀ c ∈ cs, ¬ c < 0 ∧ ¬ (65535 : Int32) < c)
    (S : RoadKit.Sta Z h ST "COMPACT_STRINGS" "Z" (.int z)) (hz : ¬ z = 0) (F : RoadKit.Sta Z h "jdk/internal/util/Preconditions" "SIOOBE_FORMATTER" "Ljava/util/function/BiFunction;" fm) (rf : fm.isRef = true) (l2 : cs.length ≤ 4000) (hi : i < cs.length) (hj : j = Int32.ofNat i) (hfr : 4 ≤ R.frames) (hlo : W + 53 ≤ R.locals) :
    Back l R p e below s args (⟨"java/lang/String", "charAt", "(I)C"⟩ : MethodName) len W (fun P a => a = #[.ref x, .int j] ∧ P.U.heap = h ∧ P.cells + 0 ≤ R.cells ∧ P.slots + 0 ≤ R.slots)
      (fun P _ v B => ∃ L, (v = some (.int (cs.getD i 0)) ∧ L = [] ∧ B.U.heap = h) ∧ B.locs = P.locs ++ L ∧ B.cells = P.cells + 0 ∧ B.slots = P.slots + 0) := by
  subst hj
  intro m meth c P g ig mk a X hg hsize hdg hW hn hp'
  obtain ⟨rfl, rfl, r1, r2⟩ := hp'
  have al : Z.vm.Alike P.U.vm := hZ.alike.trans X.warmed.alike
  obtain ⟨A, hx⟩ := txt_of wi al E V C K hc hb l2
  obtain ⟨v, B, X', ⟨⟨hv, hh⟩, hl, hk, hs⟩, st⟩ := ChN.pays x t A cs.length (fun j => cs.getD j 0) z fm i (tabChN_of (movedChN hZ hw)) hfr hlo m meth c P g ig mk _ X hg hsize hdg hW hn ⟨r1, r2, rfl, hx, hi, sta_is al S, hz, sta_is al F, rf⟩
  exact ⟨v, B, X', ⟨[], ⟨hv, rfl, hh⟩, hl, hk, hs⟩, st⟩
/-- what backV says of its String, as the contracts of this text ask it: cs's low bytes, coder 0 -/
theorem codOf {cs : List Int32} {n : Nat} (hn : cs.length = n) (hb : ∀ c ∈ cs, ¬ 255 < c) : CodA cs 0 (Int32.ofNat n) ((cs.map lo8).map Value.int) := Or.inl ⟨rfl, by rw [hn], by simp [List.map_map, Function.comp_def], hb⟩
end StrChars.Road
end Jvm.Pilot.@@N@@
namespace Jvm.Pilot.@@N@@
namespace W
open Jvm Jvm.ClassFile Sem Op Lib Jvm.Free Jvm.Stand Jvm.LawKit Jvm.RoadKit Bundle
/-! the run goes on from here and ends as P says -/
def Go (p : Program) (e : Env) (below : List Frame) (P : Outcome → State → Prop) (T : State) (f : JFrame) : Prop :=
  ∃ t o, Steps p.tables e below (T.setTop f) t ∧ t.status = .running ∧ Ended t below o ∧ P o t
theorem Go.of {p : Program} {e : Env} {below : List Frame} {P : Outcome → State → Prop} {T T' : State} {f f' : JFrame}
    (h : ∀ target, Steps p.tables e below (T'.setTop f') target → Steps p.tables e below (T.setTop f) target) (k : Go p e below P T' f') : Go p e below P T f := by
  obtain ⟨t, o, h1, h2⟩ := k
  exact ⟨t, o, h t h1, h2⟩
theorem Go.cast {p : Program} {e : Env} {below : List Frame} {P : Outcome → State → Prop} {T : State} {f f' : JFrame} (q : f = f') (k : Go p e below P T f') : Go p e below P T f := q ▸ k
/-! what has moved since h0: the old objects ws at the most, and new ones -/
def Mv (h0 h : Heap) (ws : List Addr) (L : List Loc) : Prop := Keep h0 h ws ∧ ∀ y ∈ L, y.base ∈ ws ∨ h0.size ≤ y.base
section Mvs
variable {h0 h h' : Heap} {ws ws' : List Addr} {L L' : List Loc} {a : Addr} {sl : Nat} {v : Value}
theorem Mv.refl (h : Heap) (ws : List Addr) : Mv h h ws [] := ⟨Keep.refl h ws, fun _ q => nomatch q⟩
theorem Mv.le (M : Mv h0 h ws L) : h0.size ≤ h.size := M.1.1
theorem Mv.ext (M : Mv h0 h ws L) (E : Ext h h') : Mv h0 h' ws L := ⟨M.1.ext E, M.2⟩
theorem Mv.wr (M : Mv h0 h ws L) (W : Wr h h' a sl v) (q : a ∈ ws ∨ h0.size ≤ a) : Mv h0 h' ws (L ++ [⟨a, sl⟩]) :=
  ⟨M.1.wr W q, fun y hy => (List.mem_append.mp hy).elim (M.2 y) fun z => by cases List.mem_singleton.mp z; exact q⟩
theorem Mv.app (M : Mv h0 h ws L) (M' : Mv h h' ws' L') (q : ∀ x ∈ ws', x ∈ ws ∨ h0.size ≤ x) : Mv h0 h' ws (L ++ L') :=
  ⟨M.1.trans M'.1 q, fun y hy => (List.mem_append.mp hy).elim (M.2 y) fun z => (M'.2 y z).elim (q _) fun r => Or.inr (Nat.le_trans M.1.1 r)⟩
theorem Mv.app0 (M : Mv h0 h ws L) (M' : Mv h h' [] L') : Mv h0 h' ws (L ++ L') := M.app M' fun _ q => nomatch q
theorem keepE (E : Ext h h') : Keep h h' [] := (Keep.refl h []).ext E
theorem Mv.fr (M : Mv h0 h [] L) : Fr h0.size L := fun y hy => (M.2 y hy).elim (fun q => nomatch q) id
theorem Mv.ofFr {n0 : Nat} (K : Keep h0 h ws) (F : ∀ y ∈ L, y.base ∈ ws) : Mv h0 h ws L := ⟨K, fun y hy => Or.inl (F y hy)⟩
end Mvs
theorem StaKeep {Z : State} {h h' : Heap} {C n d : String} {v : Value} {ws : List Addr} (F : Sta Z h C n d v) (K : Keep h h' ws) (q : ∀ x ∈ ws, ∀ c : Cell, h[x]? = some c → c.vm.isStatics = false) : Sta Z h' C n d v := by
  obtain ⟨cf, i, k, f, st, cell, h1, h2, h3, h4, h5, h6, h7⟩ := F
  refine ⟨cf, i, k, f, st, cell, h1, h2, h3, h4, K.2.1 _ _ h5 (fun z => ?_), h6, h7⟩
  rw [q st z cell h5] at h6; cases h6
theorem staExa {Z : State} {h : Heap} {a : Addr} {C : String} (F : Exa Z h a C) : ∀ c : Cell, h[a]? = some c → c.vm.isStatics = false := fun c hc => by
  obtain ⟨c', _, h1, -, -, h4, -⟩ := F; cases h1.symm.trans hc; exact h4
theorem staArv {Z : State} {h : Heap} {a : Addr} {k : ClassId} {ty : FieldType} {n : Int32} {vs : List Value} {d : Value} (F : Arv Z h a k ty n vs d) : ∀ c : Cell, h[a]? = some c → c.vm.isStatics = false := fun c hc => by
  obtain ⟨c', A, -⟩ := F; cases A.1.symm.trans hc; exact A.plain
/-! a contract -/
def MeetsW (l : Launch) (Z : State) (y : MethodName) (bytes : ByteArray) (maxL : Nat) (ret : Option FieldType) (rm : Room) (as : Array Value) (h0 : Heap) (Q : Option Value → Heap → List Loc → Prop) : Prop :=
  ∀ ws : List Jvm.Cond, MetFree l y (head1 (Jvm.Cond.code y bytes maxL ret :: ws) rm) (fun a U => a = as ∧ Z.Warmed39 U.vm ∧ U.heap = h0) (fun _ _ _ _ _ => True)
    (fun _ U o U' => ∃ v L, o = .returned v ∧ Q v U'.heap L ∧ FrameEnd U o U' L rm.cells rm.slots)
def Pu (h : Heap) (S : Option Value → Prop) (v : Option Value) (h' : Heap) (L : List Loc) : Prop := L = [] ∧ h' = h ∧ S v
theorem MeetsW.of {l : Launch} {Z : State} {y : MethodName} {bytes : ByteArray} {maxL : Nat} {ret : Option FieldType} {rm : Room} {as : Array Value} {h0 : Heap} {Q : Option Value → Heap → List Loc → Prop} (hpl : plainFor y = true)
    (body : ∀ (p : Program) (e : Env) (s : State) (m : MethodId) (below : List Frame) (meth : Method) (c : Code) (s₁ : State) (P : Outcome → State → Prop), p.tables.exec = Jvm.exec → c.code = bytes → c.maxLocals = maxL → Z.Warmed39 s.vm → s.vm.findClass y.cls = some m.cls → meth.name = y.name → meth.sig.returnType = ret → meth.locks = false →
      Stand p l e rm s m as below meth c s₁ [] 0 0 → s₁.heap = h0 → (∀ v t L, Q v t.heap L → FrameEnd s (.returned v) t L rm.cells rm.slots → P (.returned v) t) → Go p e below P s₁ (entryFrame m as maxL)) : MeetsW l Z y bytes maxL ret rm as h0 Q := by
  intro ws
  refine MetFree.of_bodySF hpl hisR ?_
  intro p e s m args below meth c s₁ Bd hml0 hP hK
  obtain ⟨rfl, hZ, hh⟩ := hP
  exact body p e s m below meth c s₁ _ Bd.exec Bd.bytes hml0 hZ (findClass_of_methodNamed Bd.named) (name_of_methodNamed Bd.named Bd.method).1 Bd.returns (BodyLoose.notSynchronized Bd) (Stand.of_body Bd) (by rw [← hh, Bd.state]; rfl) (fun v t L hq hf => ⟨v, L, rfl, hq, hf⟩)
def MeetsI (l : Launch) (Z : State) (y : MethodName) (bytes : ByteArray) (maxL : Nat) (ret : Option FieldType) (rm : Room) (as : Array Value) (h0 : Heap) (Q : Option Value → Heap → List Loc → Prop) : Prop :=
  ∀ ws : List Jvm.Cond, MetFree l y (head1 (Jvm.Cond.code y bytes maxL ret :: ws) rm) (fun a U => a = as ∧ Z.Warmed39 U.vm ∧ U.heap = h0) (fun _ _ _ _ _ => True)
    (fun _ U o U' => ∃ v L, o = .returned v ∧ Q v U'.heap L ∧ ReturnedEndW U o U' L rm.cells rm.slots)
theorem MeetsI.of {l : Launch} {Z : State} {y : MethodName} {bytes : ByteArray} {maxL : Nat} {ret : Option FieldType} {rm : Room} {as : Array Value} {h0 : Heap} {Q : Option Value → Heap → List Loc → Prop} (hpl : plainFor y = true)
    (body : ∀ (p : Program) (e : Env) (s : State) (m : MethodId) (below : List Frame) (meth : Method) (c : Code) (s₁ : State) (P : Outcome → State → Prop), p.tables.exec = Jvm.exec → c.code = bytes → c.maxLocals = maxL → Z.Warmed39 s.vm → s.vm.findClass y.cls = some m.cls → meth.name = y.name → meth.sig.returnType = ret → meth.locks = false →
      Stand p l e rm (s.setVm s.vm) m as below meth c s₁ [] 0 0 → s₁.heap = h0 → s.Since s.vm h0.size → (∀ v t L, Q v t.heap L → ReturnedEndW s (.returned v) t L rm.cells rm.slots → P (.returned v) t) → Go p e below P s₁ (entryFrame m as maxL)) : MeetsI l Z y bytes maxL ret rm as h0 Q := by
  intro ws
  refine MetFree.of_bodySF hpl hisR ?_
  intro p e s m args below meth c s₁ Bd hml0 hP hK
  obtain ⟨rfl, hZ, hh⟩ := hP
  exact body p e s m below meth c s₁ _ Bd.exec Bd.bytes hml0 hZ (findClass_of_methodNamed Bd.named) (name_of_methodNamed Bd.named Bd.method).1 Bd.returns (BodyLoose.notSynchronized Bd) (Stand.of_body Bd) (by rw [← hh, Bd.state]; rfl) ((State.WarmedH.refl s).since _) (fun v t L hq hf => ⟨v, L, rfl, hq, hf⟩)
/-! a call that comes back -/
def BK (l : Launch) (R : Room) (p : Program) (e : Env) (below : List Frame) (s : State) (args : Array Value) (y : MethodName) (W : Nat) (as : Array Value) (h : Heap) (C S : Nat) (Q : Option Value → Heap → List Loc → Prop) : Prop :=
  Back l R p e below s args y 3 W (fun A a => a = as ∧ A.U.heap = h ∧ A.cells + C ≤ R.cells ∧ A.slots + S ≤ R.slots)
    (fun A _ v B => ∃ L, Q v B.U.heap L ∧ B.locs = A.locs ++ L ∧ B.cells = A.cells + C ∧ B.slots = A.slots + S)
section Calls
variable {p : Program} {l : Launch} {e : Env} {R : Room} {s : State} {m : MethodId} {args : Array Value} {below : List Frame} {meth : Method} {c : Code} {T : State} {locs : List Loc} {cells slots : Nat} {Z : State} {a0 : Array Value} {h : Heap} {P : Outcome → State → Prop}
theorem standUp {C S : Nat} (X : Stand p l e R s m args below meth c T locs cells slots) (hc : cells ≤ C) (hs : slots ≤ S) : Stand p l e R s m args below meth c T locs C S :=
  ⟨X.admits, X.cas, X.clock, X.frames, X.room, X.hears, X.method, X.code, X.here, X.tail, X.warmed, X.limits, X.bytes, X.same.mono hc hs⟩
theorem MeetsW.bk {y : MethodName} {bytes : ByteArray} {maxL : Nat} {ret : Option FieldType} {rm : Room} {as : Array Value} {Q : Option Value → Heap → List Loc → Prop} {W : Nat} (M : MeetsW l Z y bytes maxL ret rm as h Q) (hZ : Z.Warmed39 s.vm)
    (wc : (Jvm.Cond.code y bytes maxL ret).before a0 Z = true) (wz : (Jvm.Cond.initialized y.cls).before a0 Z = true) (hf : rm.frames + 1 ≤ R.frames) (hl : W + (maxL + 11) + rm.locals ≤ R.locals) : BK l R p e below s args y W as h rm.cells rm.slots Q :=
  backOf (M []) hZ wc wz hf hl
theorem BK.mono {y : MethodName} {W : Nat} {as : Array Value} {C S : Nat} {Q Q' : Option Value → Heap → List Loc → Prop} (B : BK l R p e below s args y W as h C S Q) (q : ∀ v h' L, Q v h' L → Q' v h' L) : BK l R p e below s args y W as h C S Q' :=
  Back.mono B (fun _ _ z => z) (fun _ _ _ _ _ ⟨L, z, r⟩ => ⟨L, q _ _ _ z, r⟩)
theorem goS (X : Stand p l e R s m args below meth c T locs cells slots) (hx : p.tables.exec = Jvm.exec) (hZ : Z.Warmed39 s.vm) {own : String} {index : Nat} {y : MethodName} {bytes : ByteArray} {maxL : Nat} {ret : Option FieldType} (hown : s.vm.findClass own = some m.cls)
    (w1 : (Jvm.Cond.methodLink own index y).before a0 Z = true) (w2 : (Jvm.Cond.static y).before a0 Z = true) (w3 : (Jvm.Cond.initialized y.cls).before a0 Z = true) (w4 : (Jvm.Cond.code y bytes maxL ret).before a0 Z = true) (hy : y.cls ≠ "java/lang/invoke/MethodHandle" ∧ y.cls ≠ "java/lang/invoke/VarHandle")
    {W C S : Nat} {as : Array Value} {Q : Option Value → Heap → List Loc → Prop} (B : BK l R p e below s args y W as h C S Q) (eT : T.heap = h) {pc : Nat} {Ls : Array Slot} {st argsL rest : List Value} (hml : Ls.size = c.maxLocals)
    (hlen : ∀ sig, parseMethodDescriptor y.desc = some sig → argsL.length = sig.parameters.length) (hst : st = argsL.reverse ++ rest) (has : argsL.toArray = as) (hd : decode c.code pc = .ok (.invokestatic index, 3)) (hW : (rest.map fun v => v.category).sum ≤ W) (hc : cells + C ≤ R.cells) (hs : slots + S ≤ R.slots)
    (k : ∀ v T' L, Stand p l e R s m args below meth c T' (locs ++ L) (cells + C) (slots + S) → Q v T'.heap L → Go p e below P T' (mkF m (pc + 3) Ls (v.toList ++ rest))) : Go p e below P T (mkF m pc Ls st) := by
  obtain ⟨v, _, ⟨T', L', k', n'⟩, -, X', ⟨Lc, hQ, l1, l2, l3⟩, stp⟩ := Jvm.LawKit.callS X hx hown (mvT hZ w1) (mvT hZ w2) (mvT hZ w3) (mvT hZ w4) hy B (g := mkF m pc Ls st) rfl hml hlen hst (by show 2 * 0 + _ ≤ _; simpa using hW) hd (fun _ _ => ⟨has, eT, hc, hs⟩)
  dsimp only [Pt.U, Pt.locs, Pt.cells, Pt.slots] at X' l1 l2 l3 stp hQ
  subst l1 l2 l3
  exact Go.of stp (k v T' Lc X' hQ)
theorem goI (X : Stand p l e R s m args below meth c T locs cells slots) (hx : p.tables.exec = Jvm.exec) (hZ : Z.Warmed39 s.vm) {own : String} {index : Nat} {y : MethodName} {bytes : ByteArray} {maxL : Nat} (hn : y.name = "<init>") (hown : s.vm.findClass own = some m.cls)
    (w1 : (Jvm.Cond.methodLink own index y).before a0 Z = true) (w2 : (Jvm.Cond.instanceMethod y).before a0 Z = true) (w4 : (Jvm.Cond.code y bytes maxL none).before a0 Z = true) (hy : y.cls ≠ "java/lang/invoke/MethodHandle" ∧ y.cls ≠ "java/lang/invoke/VarHandle")
    {W C S : Nat} {as : Array Value} {Q : Option Value → Heap → List Loc → Prop} (B : BK l R p e below s args y W as h C S Q) (eT : T.heap = h) {pc : Nat} {Ls : Array Slot} {a : Addr} {st argsL rest : List Value} (hml : Ls.size = c.maxLocals)
    (hlen : ∀ sig, parseMethodDescriptor y.desc = some sig → argsL.length = sig.parameters.length) (hst : st = argsL.reverse ++ .ref a :: rest) (has : (.ref a :: argsL).toArray = as) (hd : decode c.code pc = .ok (.invokespecial index, 3)) (hW : (rest.map fun v => v.category).sum ≤ W) (hc : cells + C ≤ R.cells) (hs : slots + S ≤ R.slots)
    (k : ∀ v T' L, Stand p l e R s m args below meth c T' (locs ++ L) (cells + C) (slots + S) → Q v T'.heap L → Go p e below P T' (mkF m (pc + 3) Ls (v.toList ++ rest))) : Go p e below P T (mkF m pc Ls st) := by
  obtain ⟨v, _, ⟨T', L', k', n'⟩, -, X', ⟨Lc, hQ, l1, l2, l3⟩, stp⟩ := X.specialBack hx hn hown (mvT hZ w1) (mvT hZ w2) (mvT hZ w4) hy B (g := mkF m pc Ls st) rfl hml (Steps.refl _) hlen hst (by show 2 * 0 + _ ≤ _; simpa using hW) hd (fun _ _ => ⟨has, eT, hc, hs⟩)
  dsimp only [Pt.U, Pt.locs, Pt.cells, Pt.slots] at X' l1 l2 l3 stp hQ
  subst l1 l2 l3
  exact Go.of (fun _ z => stp.trans z) (k v T' Lc X' hQ)
theorem goV (X : Stand p l e R s m args below meth c T locs cells slots) (hx : p.tables.exec = Jvm.exec) (hZ : Z.Warmed39 s.vm) {own K : String} {index : Nat} {y z : MethodName} (hown : s.vm.findClass own = some m.cls)
    (w1 : (Jvm.Cond.methodLink own index y).before a0 Z = true) (w2 : (Jvm.Cond.declares y).before a0 Z = true) (hnf : NotFace s y) (w3 : (Jvm.Cond.selects K y z).before a0 Z = true) (w4 : (Jvm.Cond.instanceMethod z).before a0 Z = true) (hy : y.cls ≠ "java/lang/invoke/MethodHandle" ∧ y.cls ≠ "java/lang/invoke/VarHandle")
    {W C S : Nat} {as : Array Value} {Q : Option Value → Heap → List Loc → Prop} (B : BK l R p e below s args z W as h C S Q) (eT : T.heap = h) {b : Addr} (E : Exa Z h b K) {pc : Nat} {Ls : Array Slot} {st argsL rest : List Value} (hml : Ls.size = c.maxLocals)
    (hlen : ∀ sig, parseMethodDescriptor y.desc = some sig → argsL.length = sig.parameters.length) (hst : st = argsL.reverse ++ .ref b :: rest) (has : (.ref b :: argsL).toArray = as) (hd : decode c.code pc = .ok (.invokevirtual index, 3)) (hW : (rest.map fun v => v.category).sum ≤ W) (hc : cells + C ≤ R.cells) (hs : slots + S ≤ R.slots)
    (k : ∀ v T' L, Stand p l e R s m args below meth c T' (locs ++ L) (cells + C) (slots + S) → Q v T'.heap L → Go p e below P T' (mkF m (pc + 3) Ls (v.toList ++ rest))) : Go p e below P T (mkF m pc Ls st) := by
  obtain ⟨cq, kq, qa, -, qc⟩ := isOf hZ eT E
  obtain ⟨v, _, ⟨T', L', k', n'⟩, -, X', ⟨Lc, hQ, l1, l2, l3⟩, stp⟩ := X.virtualBack hx hown (mvT hZ w1) (mvT hZ w2) hnf (mvT hZ w3) (mvT hZ w4) hy B qa qc (g := mkF m pc Ls st) rfl hml (Steps.refl _) hlen hst (by show 2 * 0 + _ ≤ _; simpa using hW) hd (fun _ _ => ⟨has, eT, hc, hs⟩)
  dsimp only [Pt.U, Pt.locs, Pt.cells, Pt.slots] at X' l1 l2 l3 stp hQ
  subst l1 l2 l3
  exact Go.of (fun _ z => stp.trans z) (k v T' Lc X' hQ)
theorem goP (X : Stand p l e R s m args below meth c T locs cells slots) (hx : p.tables.exec = Jvm.exec) (hZ : Z.Warmed39 s.vm) {own : String} {index n : Nat} {y : MethodName} {bytes : ByteArray} {maxL : Nat} {ret : Option FieldType} (hown : s.vm.findClass own = some m.cls)
    (w1 : (Jvm.Cond.methodLink own index y).before a0 Z = true) (w2 : (Jvm.Cond.instanceMethod y).before a0 Z = true) (w3 : (Jvm.Cond.privateMethod y).before a0 Z = true) (w4 : (Jvm.Cond.code y bytes maxL ret).before a0 Z = true) (wi : (Jvm.Cond.instantiable y.cls n).before a0 Z = true) (hy : y.cls ≠ "java/lang/invoke/MethodHandle" ∧ y.cls ≠ "java/lang/invoke/VarHandle")
    {W C S : Nat} {as : Array Value} {Q : Option Value → Heap → List Loc → Prop} (B : BK l R p e below s args y W as h C S Q) (eT : T.heap = h) {b : Addr} {K : String} (E : Exa Z h b K) {pc : Nat} {Ls : Array Slot} {st argsL rest : List Value} (hml : Ls.size = c.maxLocals)
    (hlen : ∀ sig, parseMethodDescriptor y.desc = some sig → argsL.length = sig.parameters.length) (hst : st = argsL.reverse ++ .ref b :: rest) (has : (.ref b :: argsL).toArray = as) (hd : decode c.code pc = .ok (.invokevirtual index, 3)) (hW : (rest.map fun v => v.category).sum ≤ W) (hc : cells + C ≤ R.cells) (hs : slots + S ≤ R.slots)
    (k : ∀ v T' L, Stand p l e R s m args below meth c T' (locs ++ L) (cells + C) (slots + S) → Q v T'.heap L → Go p e below P T' (mkF m (pc + 3) Ls (v.toList ++ rest))) : Go p e below P T (mkF m pc Ls st) := by
  have hp := Cond.privateMethod_at (mvP hZ w3 (args := args))
  obtain ⟨ci, ki, i1, i2, i3, i4, i5, -⟩ := Cond.instantiable_spec (mvT hZ wi (args := args))
  have hsel : (Jvm.Cond.selects y.cls y y).before args s = true := Jvm.Stand.selects_self_of_private i1 i2 (Bool.or_eq_false_iff.mp i4).1 hp (mvT hZ w2) hy
  obtain ⟨cq, q1, q2⟩ := E.cell
  obtain ⟨v, _, ⟨T', L', k', n'⟩, -, X', ⟨Lc, hQ, l1, l2, l3⟩, stp⟩ := X.privateBack hx hown (mvT hZ w1) (mvT hZ w2) hsel hp (mvT hZ w4) hy B (g := mkF m pc Ls st) rfl hml (Steps.refl _) (by rw [eT]; exact q1) q2 hlen hst (by show 2 * 0 + _ ≤ _; simpa using hW) hd (fun _ _ => ⟨has, eT, hc, hs⟩)
  dsimp only [Pt.U, Pt.locs, Pt.cells, Pt.slots] at X' l1 l2 l3 stp hQ
  subst l1 l2 l3
  exact Go.of (fun _ z => stp.trans z) (k v T' Lc X' hQ)
/-! pure: what a contract 'Pu' gives -/
theorem standNil {L : List Loc} (X : Stand p l e R s m args below meth c T (locs ++ L) (cells + 0) (slots + 0)) (q : L = []) : Stand p l e R s m args below meth c T locs cells slots := by
  subst q; rw [List.append_nil] at X; exact X
/-! the end -/
theorem goRet0 (X : Stand p l e R s m args below meth c T locs cells slots) (hx : p.tables.exec = Jvm.exec) (hret : meth.sig.returnType = none) (hlk : meth.locks = false) {pc : Nat} {Ls : Array Slot} {C S : Nat} {Q : Option Value → Heap → List Loc → Prop}
    (hd : decode c.code pc = .ok (.return_, 1)) (K : ∀ v t L, Q v t.heap L → FrameEnd s (.returned v) t L C S → P (.returned v) t) (hc : cells ≤ C) (hs : slots ≤ S) (eT : T.heap = h) (hq : Q none h locs) : Go p e below P T (mkF m pc Ls []) := by
  obtain ⟨fs, hr, hrun, hended, hW, hsame⟩ := X.leave (v := none) (fun _ => rfl) hlk
  exact ⟨_, _, X.returnOut hx hret hd hr, hrun, hended, K _ _ _ (by rw [← eT] at hq; exact hq) ⟨⟨_, rfl⟩, hW, hsame.mono hc hs⟩⟩
theorem goRet (X : Stand p l e R s m args below meth c T locs cells slots) (hx : p.tables.exec = Jvm.exec) {t : FieldType} (hret : meth.sig.returnType = some t) (hlk : meth.locks = false) {pc : Nat} {Ls : Array Slot} {C S : Nat} {w : Value} {rest : List Value} {i : Instr} {Q : Option Value → Heap → List Loc → Prop}
    (hn : narrow t w = w) (hi : (i = .ireturn ∧ (t = .int ∨ t = .boolean ∨ t = .byte ∨ t = .char ∨ t = .short) ∧ ∃ z, w = .int z) ∨ (i = .lreturn ∧ t = .long ∧ ∃ z, w = .long z) ∨ (i = .dreturn ∧ t = .double ∧ ∃ z, w = .double z) ∨ (i = .freturn ∧ t = .float ∧ ∃ z, w = .float z) ∨ (i = .areturn ∧ t.isReference = true ∧ w.isRef = true))
    (hd : decode c.code pc = .ok (i, 1)) (K : ∀ v t L, Q v t.heap L → FrameEnd s (.returned v) t L C S → P (.returned v) t) (hc : cells ≤ C) (hs : slots ≤ S) (eT : T.heap = h) (hq : Q (some w) h locs) : Go p e below P T (mkF m pc Ls (w :: rest)) := by
  obtain ⟨fs, hr, hrun, hended, hW, hsame⟩ := X.leave (v := some w) (fun q => by rw [hret] at q; cases q) hlk
  exact ⟨_, _, retOut X hx hret hn hi hd hr, hrun, hended, K _ _ _ (by rw [← eT] at hq; exact hq) ⟨⟨_, rfl⟩, hW, hsame.mono hc hs⟩⟩
theorem goRetI (X : Stand p l e R s m args below meth c T locs cells slots) (hx : p.tables.exec = Jvm.exec) {t : FieldType} (hret : meth.sig.returnType = some t) (hlk : meth.locks = false) {pc : Nat} {Ls : Array Slot} {C S : Nat} {z : Int32} {rest : List Value} {Q : Option Value → Heap → List Loc → Prop}
    (hn : narrow t (.int z) = .int z) (ht : t = .int ∨ t = .boolean ∨ t = .byte ∨ t = .char ∨ t = .short) (hd : decode c.code pc = .ok (.ireturn, 1)) (K : ∀ v t L, Q v t.heap L → FrameEnd s (.returned v) t L C S → P (.returned v) t) (hc : cells ≤ C) (hs : slots ≤ S) (eT : T.heap = h) (hq : Q (some (.int z)) h locs) : Go p e below P T (mkF m pc Ls (.int z :: rest)) :=
  goRet X hx hret hlk hn (Or.inl ⟨rfl, ht, z, rfl⟩) hd K hc hs eT hq
theorem goRetJ (X : Stand p l e R s m args below meth c T locs cells slots) (hx : p.tables.exec = Jvm.exec) (hret : meth.sig.returnType = some .long) (hlk : meth.locks = false) {pc : Nat} {Ls : Array Slot} {C S : Nat} {z : Int64} {rest : List Value} {Q : Option Value → Heap → List Loc → Prop}
    (hd : decode c.code pc = .ok (.lreturn, 1)) (K : ∀ v t L, Q v t.heap L → FrameEnd s (.returned v) t L C S → P (.returned v) t) (hc : cells ≤ C) (hs : slots ≤ S) (eT : T.heap = h) (hq : Q (some (.long z)) h locs) : Go p e below P T (mkF m pc Ls (.long z :: rest)) :=
  goRet X hx hret hlk rfl (Or.inr (Or.inl ⟨rfl, rfl, z, rfl⟩)) hd K hc hs eT hq
theorem goRetR (X : Stand p l e R s m args below meth c T locs cells slots) (hx : p.tables.exec = Jvm.exec) {t : FieldType} (hret : meth.sig.returnType = some t) (ht : t.isReference = true) (hlk : meth.locks = false) {pc : Nat} {Ls : Array Slot} {C S : Nat} {w : Value} {rest : List Value} {Q : Option Value → Heap → List Loc → Prop}
    (hw : w.isRef = true) (hn : narrow t w = w) (hd : decode c.code pc = .ok (.areturn, 1)) (K : ∀ v t L, Q v t.heap L → FrameEnd s (.returned v) t L C S → P (.returned v) t) (hc : cells ≤ C) (hs : slots ≤ S) (eT : T.heap = h) (hq : Q (some w) h locs) : Go p e below P T (mkF m pc Ls (w :: rest)) :=
  goRet X hx hret hlk hn (Or.inr (Or.inr (Or.inr (Or.inr ⟨rfl, ht, hw⟩)))) hd K hc hs eT hq
/-! the wide end: where a String constant may have been interned -/
theorem goRetW {vm1 : Vm} {k1 : Nat} (X : Stand p l e R (s.setVm vm1) m args below meth c T locs cells slots) (hx : p.tables.exec = Jvm.exec) (hS : s.Since vm1 k1) (hk : k1 ≤ h.size) {t : FieldType} (hret : meth.sig.returnType = some t) (hlk : meth.locks = false) {pc : Nat} {Ls : Array Slot} {C S : Nat} {w : Value} {rest : List Value} {i : Instr} {Q : Option Value → Heap → List Loc → Prop}
    (hn : narrow t w = w) (hi : (i = .ireturn ∧ (t = .int ∨ t = .boolean ∨ t = .byte ∨ t = .char ∨ t = .short) ∧ ∃ z, w = .int z) ∨ (i = .lreturn ∧ t = .long ∧ ∃ z, w = .long z) ∨ (i = .dreturn ∧ t = .double ∧ ∃ z, w = .double z) ∨ (i = .freturn ∧ t = .float ∧ ∃ z, w = .float z) ∨ (i = .areturn ∧ t.isReference = true ∧ w.isRef = true))
    (hd : decode c.code pc = .ok (i, 1)) (K : ∀ v t L, Q v t.heap L → ReturnedEndW s (.returned v) t L C S → P (.returned v) t) (hc : cells ≤ C) (hs : slots ≤ S) (eT : T.heap = h) (hq : Q (some w) h locs) : Go p e below P T (mkF m pc Ls (w :: rest)) := by
  obtain ⟨fs, hr, hrun, hended, h1, h2, h3, h4⟩ := X.leaveW hS (by rw [eT]; exact hk) (v := some w) (fun q => by rw [hret] at q; cases q) hlk
  exact ⟨_, _, retOut X hx hret hn hi hd hr, hrun, hended, K _ _ _ (by rw [← eT] at hq; exact hq) ⟨h1, h2, h3, h4.mono hc hs⟩⟩
theorem goRetIW {vm1 : Vm} {k1 : Nat} (X : Stand p l e R (s.setVm vm1) m args below meth c T locs cells slots) (hx : p.tables.exec = Jvm.exec) (hS : s.Since vm1 k1) (hk : k1 ≤ h.size) {t : FieldType} (hret : meth.sig.returnType = some t) (hlk : meth.locks = false) {pc : Nat} {Ls : Array Slot} {C S : Nat} {z : Int32} {rest : List Value} {Q : Option Value → Heap → List Loc → Prop}
    (hn : narrow t (.int z) = .int z) (ht : t = .int ∨ t = .boolean ∨ t = .byte ∨ t = .char ∨ t = .short) (hd : decode c.code pc = .ok (.ireturn, 1)) (K : ∀ v t L, Q v t.heap L → ReturnedEndW s (.returned v) t L C S → P (.returned v) t) (hc : cells ≤ C) (hs : slots ≤ S) (eT : T.heap = h) (hq : Q (some (.int z)) h locs) : Go p e below P T (mkF m pc Ls (.int z :: rest)) :=
  goRetW X hx hS hk hret hlk hn (Or.inl ⟨rfl, ht, z, rfl⟩) hd K hc hs eT hq
theorem goRetRW {vm1 : Vm} {k1 : Nat} (X : Stand p l e R (s.setVm vm1) m args below meth c T locs cells slots) (hx : p.tables.exec = Jvm.exec) (hS : s.Since vm1 k1) (hk : k1 ≤ h.size) {t : FieldType} (hret : meth.sig.returnType = some t) (ht : t.isReference = true) (hlk : meth.locks = false) {pc : Nat} {Ls : Array Slot} {C S : Nat} {w : Value} {rest : List Value} {Q : Option Value → Heap → List Loc → Prop}
    (hw : w.isRef = true) (hn : narrow t w = w) (hd : decode c.code pc = .ok (.areturn, 1)) (K : ∀ v t L, Q v t.heap L → ReturnedEndW s (.returned v) t L C S → P (.returned v) t) (hc : cells ≤ C) (hs : slots ≤ S) (eT : T.heap = h) (hq : Q (some w) h locs) : Go p e below P T (mkF m pc Ls (w :: rest)) :=
  goRetW X hx hS hk hret hlk hn (Or.inr (Or.inr (Or.inr (Or.inr ⟨rfl, ht, hw⟩)))) hd K hc hs eT hq
theorem goRet0W {vm1 : Vm} {k1 : Nat} (X : Stand p l e R (s.setVm vm1) m args below meth c T locs cells slots) (hx : p.tables.exec = Jvm.exec) (hS : s.Since vm1 k1) (hk : k1 ≤ h.size) (hret : meth.sig.returnType = none) (hlk : meth.locks = false) {pc : Nat} {Ls : Array Slot} {C S : Nat} {Q : Option Value → Heap → List Loc → Prop}
    (hd : decode c.code pc = .ok (.return_, 1)) (K : ∀ v t L, Q v t.heap L → ReturnedEndW s (.returned v) t L C S → P (.returned v) t) (hc : cells ≤ C) (hs : slots ≤ S) (eT : T.heap = h) (hq : Q none h locs) : Go p e below P T (mkF m pc Ls []) := by
  obtain ⟨fs, hr, hrun, hended, h1, h2, h3, h4⟩ := X.leaveW hS (by rw [eT]; exact hk) (v := none) (fun _ => rfl) hlk
  exact ⟨_, _, X.returnOut hx hret hd hr, hrun, hended, K _ _ _ (by rw [← eT] at hq; exact hq) ⟨h1, h2, h3, h4.mono hc hs⟩⟩
theorem lremM {g : JFrame} {target : State} (X : Stand p l e R s m args below meth c T locs cells slots) (hx : p.tables.exec = Jvm.exec) (hg : g.method = m) {x y : Int64} {rest : List Value} (hd : decode c.code g.pc = .ok (.lrem, 1)) (hs : g.stack = .long y :: .long x :: rest) (hy : y ≠ 0)
    (hr : Steps p.tables e below (T.setTop { g with pc := g.pc + 1, stack := .long (x % y) :: rest }) target) : Steps p.tables e below (T.setTop g) target := by
  have q : x - x / y * y = x % y := lrem_mod x y
  exact XS.lrem X.here hx hg hd hs hy (by rw [q]; exact hr)
end Calls
theorem refcat {v : Value} (h : v.isRef = true) : v.category = 1 := by rcases ref_cases h with rfl | ⟨a, rfl⟩ <;> rfl
theorem narref {t : FieldType} {v : Value} (h : v.isRef = true) : narrow t v = v := by rcases ref_cases h with rfl | ⟨a, rfl⟩ <;> cases t <;> rfl
theorem fitrefO {C : String} {v : Value} (h : v.isRef = true) : fits (.object C) v = true := by rcases ref_cases h with rfl | ⟨a, rfl⟩ <;> rfl
theorem fitrefA {t : FieldType} {v : Value} (h : v.isRef = true) : fits (.array t) v = true := by rcases ref_cases h with rfl | ⟨a, rfl⟩ <;> rfl
/-! booleans -/
def bi (φ : Prop) [Decidable φ] : Int32 := if φ then 1 else 0
theorem bi_t {φ : Prop} [Decidable φ] (h : φ) : bi φ = 1 := if_pos h
theorem bi_f {φ : Prop} [Decidable φ] (h : ¬ φ) : bi φ = 0 := if_neg h
theorem bi_ne {φ : Prop} [Decidable φ] (h : φ) : ¬ bi φ = 0 := by rw [bi_t h]; decide
theorem narrow_bi {φ : Prop} [Decidable φ] : narrow .boolean (.int (bi φ)) = .int (bi φ) := by unfold bi; split <;> rfl
end W
end Jvm.Pilot.@@N@@
namespace Jvm.Pilot.@@N@@
namespace W
open Jvm Jvm.ClassFile Sem Op Lib Jvm.Free Jvm.Stand Jvm.LawKit Jvm.RoadKit Bundle
/-! a String by its chars -/
def Str (Z : State) (h : Heap) (a t : Addr) (cs : List Int32) : Prop := ∃ (kb : ClassId) (cd N : Int32) (vs : List Value), Exa Z h a "java/lang/String" ∧ Fld Z h a "java/lang/String" "value" "[B" (.ref t) ∧ Fld Z h a "java/lang/String" "coder" "B" (.int cd) ∧ Arv Z h t kb .byte N vs (.int 0) ∧ StrChars.Road.CodA cs cd N vs ∧ (∀ c ∈ cs, ¬ c < 0 ∧ ¬ (65535 : Int32) < c) ∧ cs.length ≤ 4000
section Strs
variable {Z : State} {h h' : Heap} {a t : Addr} {cs : List Int32} {ws : List Addr}
theorem Str.keep (F : Str Z h a t cs) (K : Keep h h' ws) (q : a ∉ ws) (r : t ∉ ws) : Str Z h' a t cs := by
  obtain ⟨kb, cd, N, vs, E, V, C, A, g⟩ := F
  exact ⟨kb, cd, N, vs, E.keep K, V.keep K q, C.keep K q, A.keep K r, g⟩
theorem Str.exa (F : Str Z h a t cs) : Exa Z h a "java/lang/String" := by obtain ⟨kb, cd, N, vs, E, -⟩ := F; exact E
theorem Str.lt1 (F : Str Z h a t cs) : a < h.size := F.exa.lt
theorem Str.lt2 (F : Str Z h a t cs) : t < h.size := by obtain ⟨kb, cd, N, vs, E, V, C, A, g⟩ := F; exact A.lt
end Strs
theorem up255 {cs : List Int32} (h : ∀ c ∈ cs, ¬ c < 0 ∧ ¬ (255 : Int32) < c) : ∀ c ∈ cs, ¬ c < 0 ∧ ¬ (65535 : Int32) < c := fun c hc => ⟨(h c hc).1, fun q => (h c hc).2 (by rw [Int32.lt_iff_toInt_lt] at q ⊢; have e1 : (65535 : Int32).toInt = 65535 := rfl; have e2 : (255 : Int32).toInt = 255 := rfl; omega)⟩
theorem nat32 {n : Nat} (h : n < 2 ^ 31) : (Int32.ofNat n).toNatClampNeg = n := by
  show (Int32.ofNat n).toInt.toNat = n
  rw [Int32.toInt_ofNat_of_lt h]; rfl
theorem str1 {Z : State} {h : Heap} {a t : Addr} {k : ClassId} {c : Int32} (hp : ¬ c < 0 ∧ ¬ (255 : Int32) < c) (E : Exa Z h a "java/lang/String") (V : Fld Z h a "java/lang/String" "value" "[B" (.ref t)) (C : Fld Z h a "java/lang/String" "coder" "B" (.int (0 : Int32))) (A : Arv Z h t k .byte (1 : Int32) [.int (c.toInt8.toInt32)] (.int (0 : Int32))) : Str Z h a t [c] := by
  have hq : ∀ d ∈ [c], ¬ d < 0 ∧ ¬ (255 : Int32) < d := fun d hd => by cases List.mem_singleton.mp hd; exact hp
  exact ⟨k, 0, 1, _, E, V, C, A, Or.inl ⟨rfl, rfl, rfl, fun d hd => (hq d hd).2⟩, up255 hq, by simp⟩
theorem nar_b (x : Int32) : nar .byte (x.toInt8.toInt32) = x.toInt8.toInt32 := by
  show x.toInt8.toInt32.toInt8.toInt32 = _
  simp
section StrCalls
variable {p : Program} {l : Launch} {e : Env} {R : Room} {s : State} {args : Array Value} {below : List Frame} {W : Nat} {Z : State} {a0 : Array Value} {h : Heap}
theorem newStr (hZ : Z.Warmed39 s.vm) (hw : ∀ d ∈ StrChars.Road.words, d.before a0 Z = true) {kI : Nat} (wi : (Jvm.Cond.instantiable "java/lang/String" kI).before a0 Z = true) {x b : Addr} {k : ClassId} {zn z : Int32} {cs : List Int32} {dv v0 c0 : Value} (E : Exa Z h x "java/lang/String") (V : Fld Z h x "java/lang/String" "value" "[B" v0) (C : Fld Z h x "java/lang/String" "coder" "B" c0)
    {vs : List Value} (A : Arv Z h b k .char zn vs dv) (hvs : vs = cs.map Value.int) (S : Sta Z h "java/lang/String" "COMPACT_STRINGS" "Z" (.int z)) (hz : ¬ z = 0) {n : Nat} (hn : cs.length = n) (hN : zn = Int32.ofNat n) (l0 : 0 < n) (l2 : n ≤ 4000) (hp : ∀ c ∈ cs, ¬ c < 0 ∧ ¬ (255 : Int32) < c) (hfr : 4 ≤ R.frames) (hlo : W + 65 ≤ R.locals) :
    BK l R p e below s args (⟨"java/lang/String", "<init>", "([C)V"⟩ : MethodName) W #[.ref x, .ref b] h 1 n (fun v h' L => v = none ∧ Mv h h' [x] L ∧ ∃ t, h.size ≤ t ∧ Str Z h' x t cs) := by
  subst hn hN hvs
  have hlen : (Int32.ofNat cs.length).toNatClampNeg = cs.length := nat32 (by omega)
  refine BK.mono (Q := StrChars.Road.QA Z x (Int32.ofNat cs.length) cs h) (StrChars.Road.backArv hZ hw wi E V C A S hz hlen l0 (by omega) (fun c hc => (hp c hc).2) hfr hlo) ?_
  intro v h' L hq
  obtain ⟨q1, q2, q3, q4, q5, q6, q7, ⟨kb, v1, v2⟩, q9⟩ := hq
  refine ⟨q1, ⟨q3, fun y hy => Or.inl (by rw [q2 y hy]; exact List.mem_singleton.mpr rfl)⟩, h.size, Nat.le_refl _, kb, 0, _, _, q5, q6, q7, v2, ?_, up255 hp, l2⟩
  have := StrChars.Road.codOf (cs := cs) rfl (fun c hc => (hp c hc).2)
  rw [List.map_map] at this
  exact this
theorem empStr (hZ : Z.Warmed39 s.vm) (hw : ∀ d ∈ StrChars.Road.wordsEmp, d.before a0 Z = true) {kI : Nat} (wi : (Jvm.Cond.instantiable "java/lang/String" kI).before a0 Z = true) {x t : Addr} {cs : List Int32} (F : Str Z h x t cs) (hfr : 1 ≤ R.frames) (hlo : W + 12 ≤ R.locals) :
    BK l R p e below s args (⟨"java/lang/String", "isEmpty", "()Z"⟩ : MethodName) W #[.ref x] h 0 0 (Pu h (fun v => v = some (.int (bi (cs.length = 0))))) := by
  obtain ⟨kb, cd, N, vs, E, V, C, A, g1, g2, g3⟩ := F
  exact BK.mono (Q := fun v h' L => v = some (.int (if cs.length = 0 then 1 else 0)) ∧ L = [] ∧ h' = h) (StrChars.Road.empW hZ hw wi E V C A g1 g2 g3 hfr hlo) fun v h' L hq => ⟨hq.2.1, hq.2.2, hq.1⟩
theorem lenStr (hZ : Z.Warmed39 s.vm) (hw : ∀ d ∈ StrChars.Road.wordsLen, d.before a0 Z = true) {kI : Nat} (wi : (Jvm.Cond.instantiable "java/lang/String" kI).before a0 Z = true) {x t : Addr} {cs : List Int32} {z : Int32} (F : Str Z h x t cs) (S : Sta Z h "java/lang/String" "COMPACT_STRINGS" "Z" (.int z)) (hz : ¬ z = 0) (hfr : 2 ≤ R.frames) (hlo : W + 25 ≤ R.locals) :
    BK l R p e below s args (⟨"java/lang/String", "length", "()I"⟩ : MethodName) W #[.ref x] h 0 0 (Pu h (fun v => v = some (.int (Int32.ofNat cs.length)))) := by
  obtain ⟨kb, cd, N, vs, E, V, C, A, g1, g2, g3⟩ := F
  exact BK.mono (Q := fun v h' L => v = some (.int (Int32.ofNat cs.length)) ∧ L = [] ∧ h' = h) (StrChars.Road.lenW hZ hw wi E V C A g1 g2 S hz g3 hfr hlo) fun v h' L hq => ⟨hq.2.1, hq.2.2, hq.1⟩
theorem chStr (hZ : Z.Warmed39 s.vm) (hw : ∀ d ∈ StrChars.Road.wordsChN, d.before a0 Z = true) {kI : Nat} (wi : (Jvm.Cond.instantiable "java/lang/String" kI).before a0 Z = true) {x t : Addr} {cs : List Int32} {z : Int32} {fm : Value} {i : Nat} {j : Int32} (F : Str Z h x t cs) (hl : ∀ c ∈ cs, ¬ (255 : Int32) < c) (S : Sta Z h "java/lang/String" "COMPACT_STRINGS" "Z" (.int z)) (hz : ¬ z = 0)
    (G : Sta Z h "jdk/internal/util/Preconditions" "SIOOBE_FORMATTER" "Ljava/util/function/BiFunction;" fm) (rf : fm.isRef = true) (hi : i < cs.length) (hj : j = Int32.ofNat i) (hfr : 4 ≤ R.frames) (hlo : W + 53 ≤ R.locals) :
    BK l R p e below s args (⟨"java/lang/String", "charAt", "(I)C"⟩ : MethodName) W #[.ref x, .int j] h 0 0 (Pu h (fun v => v = some (.int (cs.getD i 0)))) := by
  obtain ⟨kb, cd, N, vs, E, V, C, A, g1, g2, g3⟩ := F
  obtain rfl : cd = 0 := by
    rcases g1 with ⟨q, -⟩ | ⟨-, -, -, c, hc, hq⟩
    · exact q
    · exact absurd hq (hl c hc)
  exact BK.mono (Q := fun v h' L => v = some (.int (cs.getD i 0)) ∧ L = [] ∧ h' = h) (StrChars.Road.chN hZ hw wi E V C A g1 g2 S hz G rf g3 hi hj hfr hlo) fun v h' L hq => ⟨hq.2.1, hq.2.2, hq.1⟩
end StrCalls
end W
end Jvm.Pilot.@@N@@
namespace Jvm.Pilot.@@N@@
namespace W
open Jvm Jvm.ClassFile Sem Op Lib Jvm.Free Jvm.Stand Jvm.LawKit Jvm.RoadKit Bundle
/-! contracts under the invariant on held String constants -/
def MeetsH (l : Launch) (Z : State) (EL : List (String × Nat)) (y : MethodName) (bytes : ByteArray) (maxL : Nat) (ret : Option FieldType) (rm : Room) (as : Array Value) (h0 : Heap) (Q : Option Value → Heap → List Loc → Prop) : Prop :=
  ∀ ws : List Jvm.Cond, MetFree l y (head1 (Jvm.Cond.code y bytes maxL ret :: ws) rm) (fun a U => a = as ∧ Z.Warmed39 U.vm ∧ U.heap = h0 ∧ CHv Z EL U.vm h0) (fun _ _ _ _ _ => True)
    (fun _ U o U' => ∃ v L, o = .returned v ∧ Q v U'.heap L ∧ CHr Z EL U.vm U.heap U'.vm U'.heap ∧ ReturnedEndW U o U' L rm.cells rm.slots)
theorem MeetsH.of {l : Launch} {Z : State} {EL : List (String × Nat)} {y : MethodName} {bytes : ByteArray} {maxL : Nat} {ret : Option FieldType} {rm : Room} {as : Array Value} {h0 : Heap} {Q : Option Value → Heap → List Loc → Prop} (hpl : plainFor y = true)
    (body : ∀ (p : Program) (e : Env) (s : State) (m : MethodId) (below : List Frame) (meth : Method) (c : Code) (s₁ : State) (P : Outcome → State → Prop), p.tables.exec = Jvm.exec → c.code = bytes → c.maxLocals = maxL → Z.Warmed39 s.vm → s.vm.findClass y.cls = some m.cls → meth.name = y.name → meth.sig.returnType = ret → meth.locks = false →
      Stand p l e rm (s.setVm s.vm) m as below meth c s₁ [] 0 0 → s₁.heap = h0 → s.Since s.vm h0.size → CHr Z EL s.vm h0 s.vm h0 → (∀ v t L, Q v t.heap L → CHr Z EL s.vm h0 t.vm t.heap → ReturnedEndW s (.returned v) t L rm.cells rm.slots → P (.returned v) t) → Go p e below P s₁ (entryFrame m as maxL)) : MeetsH l Z EL y bytes maxL ret rm as h0 Q := by
  intro ws
  refine MetFree.of_bodySF hpl hisR ?_
  intro p e s m args below meth c s₁ Bd hml0 hP hK
  obtain ⟨rfl, hZ, hh, hH⟩ := hP
  exact body p e s m below meth c s₁ _ Bd.exec Bd.bytes hml0 hZ (findClass_of_methodNamed Bd.named) (name_of_methodNamed Bd.named Bd.method).1 Bd.returns (BodyLoose.notSynchronized Bd) (Stand.of_body Bd) (by rw [← hh, Bd.state]; rfl) ((State.WarmedH.refl s).since _) (CHr.refl hH) (fun v t L hq hc hf => ⟨v, L, rfl, hq, by rw [hh]; exact hc, hf⟩)
section HeldCalls
variable {p : Program} {l : Launch} {e : Env} {R : Room} {s : State} {m : MethodId} {args : Array Value} {below : List Frame} {meth : Method} {c : Code} {T : State} {locs : List Loc} {cells slots : Nat} {Z : State} {a0 : Array Value} {h h0 : Heap} {P : Outcome → State → Prop} {EL : List (String × Nat)} {vm0 : Vm} {k0 : Nat}
theorem goSH (X : Stand p l e R (s.setVm vm0) m args below meth c T locs cells slots) (hx : p.tables.exec = Jvm.exec) (hZ : Z.Warmed39 vm0) {own : String} {index : Nat} {y : MethodName} {bytes : ByteArray} {maxL : Nat} {ret : Option FieldType} (hown : vm0.findClass own = some m.cls)
    (w1 : (Jvm.Cond.methodLink own index y).before a0 Z = true) (w2 : (Jvm.Cond.static y).before a0 Z = true) (w3 : (Jvm.Cond.initialized y.cls).before a0 Z = true) (w4 : (Jvm.Cond.code y bytes maxL ret).before a0 Z = true) (hy : y.cls ≠ "java/lang/invoke/MethodHandle" ∧ y.cls ≠ "java/lang/invoke/VarHandle")
    {W C S : Nat} {rm : Room} {as : Array Value} {Q : Option Value → Heap → List Loc → Prop} (M : MeetsH l Z EL y bytes maxL ret rm as h Q) (hC : rm.cells = C) (hSl : rm.slots = S) (hf : rm.frames + 1 ≤ R.frames) (hl : W + (maxL + 11) + rm.locals ≤ R.locals) (hS : s.Since vm0 k0) (hk : k0 ≤ h.size) (hEL : EW Z a0 EL) (H : CHv Z EL vm0 h) (eT : T.heap = h) {pc : Nat} {Ls : Array Slot} {st argsL rest : List Value} (hml : Ls.size = c.maxLocals)
    (hlen : ∀ sig, parseMethodDescriptor y.desc = some sig → argsL.length = sig.parameters.length) (hst : st = argsL.reverse ++ rest) (has : argsL.toArray = as) (hd : decode c.code pc = .ok (.invokestatic index, 3)) (hW : (rest.map fun v => v.category).sum ≤ W) (hc : cells + C ≤ R.cells) (hs : slots + S ≤ R.slots)
    (k : ∀ v T' L, Stand p l e R (s.setVm T'.vm) m args below meth c T' (locs ++ L) (cells + C) (slots + S) → Q v T'.heap L → s.Since T'.vm T'.heap.size → Z.Warmed39 (s.setVm T'.vm).vm → (s.setVm T'.vm).vm.findClass own = some m.cls → CHr Z EL vm0 h T'.vm T'.heap → Go p e below P T' (mkF m (pc + 3) Ls (v.toList ++ rest))) : Go p e below P T (mkF m pc Ls st) := by
  subst hC hSl
  have mvs : ∀ {d : Jvm.Cond}, d.before a0 Z = true → (d.onTables && d.keepsFace) = true → d.before args (s.setVm vm0) = true := fun q r => mvT (s := s.setVm vm0) hZ q r
  obtain ⟨v, _, ⟨T', L', k', n'⟩, hW1, X', hS', hg', ⟨Lc, hQ, l1, l2, l3, hR⟩, stp⟩ := callSS X hx (own := own) hown (mvs w1 (by first | rfl | simp [Cond.onTables, Cond.keepsFace, Cond.keeps, Cond.steady])) (mvs w2 (by first | rfl | simp [Cond.onTables, Cond.keepsFace, Cond.keeps, Cond.steady])) (mvs w3 (by first | rfl | simp [Cond.onTables, Cond.keepsFace, Cond.keeps, Cond.steady])) (mvs w4 (by first | rfl | simp [Cond.onTables, Cond.keepsFace, Cond.keeps, Cond.steady])) hy (backOfSH (W := W) (M []) hZ w4 w3 hf hl hEL H) (g := mkF m pc Ls st) rfl hml hlen hst (by show 2 * 0 + _ ≤ _; simpa using hW) hd (fun _ _ => ⟨has, eT, hc, hs⟩)
  dsimp only [Pt.U, Pt.locs, Pt.cells, Pt.slots] at X' l1 l2 l3 stp hQ hR hS' hg'
  subst l1 l2 l3
  have hS2 : s.Since T'.vm T'.heap.size := hS.trans hS' (Nat.le_trans hk (by rw [← eT]; exact hg'))
  exact Go.of (fun _ z => stp.trans z) (k v T' Lc X' hQ hS2 (State.Warmed39.trans (t := s.setVm vm0) hZ hS'.1) (by rw [show (s.setVm T'.vm).vm = T'.vm from rfl, hS'.1.alike.findClass]; exact hown) hR)
theorem goIH (X : Stand p l e R (s.setVm vm0) m args below meth c T locs cells slots) (hx : p.tables.exec = Jvm.exec) (hZ : Z.Warmed39 vm0) {own : String} {index : Nat} {y : MethodName} {bytes : ByteArray} {maxL : Nat} (hn : y.name = "<init>") (hown : vm0.findClass own = some m.cls)
    (w1 : (Jvm.Cond.methodLink own index y).before a0 Z = true) (w2 : (Jvm.Cond.instanceMethod y).before a0 Z = true) (w3 : (Jvm.Cond.initialized y.cls).before a0 Z = true) (w4 : (Jvm.Cond.code y bytes maxL none).before a0 Z = true) (hy : y.cls ≠ "java/lang/invoke/MethodHandle" ∧ y.cls ≠ "java/lang/invoke/VarHandle")
    {W C S : Nat} {rm : Room} {as : Array Value} {Q : Option Value → Heap → List Loc → Prop} (M : MeetsH l Z EL y bytes maxL none rm as h Q) (hC : rm.cells = C) (hSl : rm.slots = S) (hf : rm.frames + 1 ≤ R.frames) (hl : W + (maxL + 11) + rm.locals ≤ R.locals) (hS : s.Since vm0 k0) (hk : k0 ≤ h.size) (hEL : EW Z a0 EL) (H : CHv Z EL vm0 h) (eT : T.heap = h) {pc : Nat} {Ls : Array Slot} {a : Addr} {st argsL rest : List Value} (hml : Ls.size = c.maxLocals)
    (hlen : ∀ sig, parseMethodDescriptor y.desc = some sig → argsL.length = sig.parameters.length) (hst : st = argsL.reverse ++ .ref a :: rest) (has : (.ref a :: argsL).toArray = as) (hd : decode c.code pc = .ok (.invokespecial index, 3)) (hW : (rest.map fun v => v.category).sum ≤ W) (hc : cells + C ≤ R.cells) (hs : slots + S ≤ R.slots)
    (k : ∀ v T' L, Stand p l e R (s.setVm T'.vm) m args below meth c T' (locs ++ L) (cells + C) (slots + S) → Q v T'.heap L → s.Since T'.vm T'.heap.size → Z.Warmed39 (s.setVm T'.vm).vm → (s.setVm T'.vm).vm.findClass own = some m.cls → CHr Z EL vm0 h T'.vm T'.heap → Go p e below P T' (mkF m (pc + 3) Ls (v.toList ++ rest))) : Go p e below P T (mkF m pc Ls st) := by
  subst hC hSl
  have mvs : ∀ {d : Jvm.Cond}, d.before a0 Z = true → (d.onTables && d.keepsFace) = true → d.before args (s.setVm vm0) = true := fun q r => mvT (s := s.setVm vm0) hZ q r
  obtain ⟨v, _, ⟨T', L', k', n'⟩, hW1, X', hS', hg', ⟨Lc, hQ, l1, l2, l3, hR⟩, stp⟩ := X.specialBackS hx (own := own) hn hown (mvs w1 (by first | rfl | simp [Cond.onTables, Cond.keepsFace, Cond.keeps, Cond.steady])) (mvs w2 (by first | rfl | simp [Cond.onTables, Cond.keepsFace, Cond.keeps, Cond.steady])) (mvs w4 (by first | rfl | simp [Cond.onTables, Cond.keepsFace, Cond.keeps, Cond.steady])) hy (backOfSH (W := W) (M []) hZ w4 w3 hf hl hEL H) (g := mkF m pc Ls st) rfl hml (Steps.refl _) hlen hst (by show 2 * 0 + _ ≤ _; simpa using hW) hd (fun _ _ => ⟨has, eT, hc, hs⟩)
  dsimp only [Pt.U, Pt.locs, Pt.cells, Pt.slots] at X' l1 l2 l3 stp hQ hR hS' hg'
  subst l1 l2 l3
  have hS2 : s.Since T'.vm T'.heap.size := hS.trans hS' (Nat.le_trans hk (by rw [← eT]; exact hg'))
  exact Go.of (fun _ z => stp.trans z) (k v T' Lc X' hQ hS2 (State.Warmed39.trans (t := s.setVm vm0) hZ hS'.1) (by rw [show (s.setVm T'.vm).vm = T'.vm from rfl, hS'.1.alike.findClass]; exact hown) hR)
theorem goRetH (X : Stand p l e R (s.setVm vm0) m args below meth c T locs cells slots) (hx : p.tables.exec = Jvm.exec) (hZ : Z.Warmed39 vm0) (hS : s.Since vm0 k0) (hk : k0 ≤ h.size) (hEL : EW Z a0 EL) (RH : CHr Z EL s.vm h0 vm0 h) {t : FieldType} (hret : meth.sig.returnType = some t) (hlk : meth.locks = false) {pc : Nat} {Ls : Array Slot} {C S : Nat} {w : Value} {rest : List Value} {i : Instr} {Q : Option Value → Heap → List Loc → Prop}
    (hn : narrow t w = w) (hi : (i = .ireturn ∧ (t = .int ∨ t = .boolean ∨ t = .byte ∨ t = .char ∨ t = .short) ∧ ∃ z, w = .int z) ∨ (i = .lreturn ∧ t = .long ∧ ∃ z, w = .long z) ∨ (i = .dreturn ∧ t = .double ∧ ∃ z, w = .double z) ∨ (i = .freturn ∧ t = .float ∧ ∃ z, w = .float z) ∨ (i = .areturn ∧ t.isReference = true ∧ w.isRef = true))
    (hd : decode c.code pc = .ok (i, 1)) (K : ∀ v t L, Q v t.heap L → CHr Z EL s.vm h0 t.vm t.heap → ReturnedEndW s (.returned v) t L C S → P (.returned v) t) (hc : cells ≤ C) (hs : slots ≤ S) (eT : T.heap = h) (hq : Q (some w) h locs) : Go p e below P T (mkF m pc Ls (w :: rest)) := by
  obtain ⟨fs, hr, hrun, hended, h1, h2, h3, h4⟩ := X.leaveW hS (by rw [eT]; exact hk) (v := some w) (fun q => by rw [hret] at q; cases q) hlk
  subst eT
  exact ⟨_, _, retOut X hx hret hn hi hd hr, hrun, hended, K _ _ _ hq (by have q := CHv.at X hZ hEL RH.1; exact RH.trans q) ⟨h1, h2, h3, h4.mono hc hs⟩⟩
theorem goRetIH (X : Stand p l e R (s.setVm vm0) m args below meth c T locs cells slots) (hx : p.tables.exec = Jvm.exec) (hZ : Z.Warmed39 vm0) (hS : s.Since vm0 k0) (hk : k0 ≤ h.size) (hEL : EW Z a0 EL) (RH : CHr Z EL s.vm h0 vm0 h) {t : FieldType} (hret : meth.sig.returnType = some t) (hlk : meth.locks = false) {pc : Nat} {Ls : Array Slot} {C S : Nat} {z : Int32} {rest : List Value} {Q : Option Value → Heap → List Loc → Prop}
    (hn : narrow t (.int z) = .int z) (ht : t = .int ∨ t = .boolean ∨ t = .byte ∨ t = .char ∨ t = .short) (hd : decode c.code pc = .ok (.ireturn, 1)) (K : ∀ v t L, Q v t.heap L → CHr Z EL s.vm h0 t.vm t.heap → ReturnedEndW s (.returned v) t L C S → P (.returned v) t) (hc : cells ≤ C) (hs : slots ≤ S) (eT : T.heap = h) (hq : Q (some (.int z)) h locs) : Go p e below P T (mkF m pc Ls (.int z :: rest)) :=
  goRetH X hx hZ hS hk hEL RH hret hlk hn (Or.inl ⟨rfl, ht, z, rfl⟩) hd K hc hs eT hq
theorem goRetRH (X : Stand p l e R (s.setVm vm0) m args below meth c T locs cells slots) (hx : p.tables.exec = Jvm.exec) (hZ : Z.Warmed39 vm0) (hS : s.Since vm0 k0) (hk : k0 ≤ h.size) (hEL : EW Z a0 EL) (RH : CHr Z EL s.vm h0 vm0 h) {t : FieldType} (hret : meth.sig.returnType = some t) (ht : t.isReference = true) (hlk : meth.locks = false) {pc : Nat} {Ls : Array Slot} {C S : Nat} {w : Value} {rest : List Value} {Q : Option Value → Heap → List Loc → Prop}
    (hw : w.isRef = true) (hn : narrow t w = w) (hd : decode c.code pc = .ok (.areturn, 1)) (K : ∀ v t L, Q v t.heap L → CHr Z EL s.vm h0 t.vm t.heap → ReturnedEndW s (.returned v) t L C S → P (.returned v) t) (hc : cells ≤ C) (hs : slots ≤ S) (eT : T.heap = h) (hq : Q (some w) h locs) : Go p e below P T (mkF m pc Ls (w :: rest)) :=
  goRetH X hx hZ hS hk hEL RH hret hlk hn (Or.inr (Or.inr (Or.inr (Or.inr ⟨rfl, ht, hw⟩)))) hd K hc hs eT hq
theorem goRet0H (X : Stand p l e R (s.setVm vm0) m args below meth c T locs cells slots) (hx : p.tables.exec = Jvm.exec) (hZ : Z.Warmed39 vm0) (hS : s.Since vm0 k0) (hk : k0 ≤ h.size) (hEL : EW Z a0 EL) (RH : CHr Z EL s.vm h0 vm0 h) (hret : meth.sig.returnType = none) (hlk : meth.locks = false) {pc : Nat} {Ls : Array Slot} {C S : Nat} {Q : Option Value → Heap → List Loc → Prop}
    (hd : decode c.code pc = .ok (.return_, 1)) (K : ∀ v t L, Q v t.heap L → CHr Z EL s.vm h0 t.vm t.heap → ReturnedEndW s (.returned v) t L C S → P (.returned v) t) (hc : cells ≤ C) (hs : slots ≤ S) (eT : T.heap = h) (hq : Q none h locs) : Go p e below P T (mkF m pc Ls []) := by
  obtain ⟨fs, hr, hrun, hended, h1, h2, h3, h4⟩ := X.leaveW hS (by rw [eT]; exact hk) (v := none) (fun _ => rfl) hlk
  subst eT
  exact ⟨_, _, X.returnOut hx hret hd hr, hrun, hended, K _ _ _ hq (by have q := CHv.at X hZ hEL RH.1; exact RH.trans q) ⟨h1, h2, h3, h4.mono hc hs⟩⟩
end HeldCalls
theorem safeArv {Z : State} {EL : List (String × Nat)} {vm : Vm} {h : Heap} {x : Addr} {k : ClassId} {ty : FieldType} {n : Int32} {vs : List Value} {d : Value} (hal : Z.vm.Alike vm) (A : Arv Z h x k ty n vs d) (ht : ty ≠ .byte) : Safe Z EL vm h x := by
  obtain ⟨cl, A, -⟩ := A
  exact Safe.arr hal A ht
theorem safeNull {Z : State} {EL : List (String × Nat)} {vm : Vm} {h : Heap} {x : Addr} (hal : Z.vm.Alike vm) (E : Exa Z h x "java/lang/String") (V : Fld Z h x "java/lang/String" "value" "[B" .null) : Safe Z EL vm h x := fun B => by
  obtain ⟨cell, k, e1, e2, e3, -, -⟩ := E
  obtain ⟨p, -, u, a, -, q, -, F, rfl | rfl⟩ := B
  · obtain ⟨cS, ⟨⟨s1, s2, s3, ⟨cv, kv, iv, s4, s4'⟩, ⟨cc, kc, ic, s5, s5'⟩, s6, s7, s8, s9, s10, s11⟩, hfS, hcS⟩, -⟩ := F
    obtain ⟨kv', z4⟩ := Jvm.RoadKit.ff_back (U := Wst Z vm h) hal s4
    have V2 : Fld Z h q.sa "java/lang/String" "value" "[B" (.ref q.sd) := ⟨q.sC, cv, kv', iv, q.fSV, s1, z4, s6, s2, s3, by rw [← hal.assignable]; exact s4', s8⟩
    exact Fld.ne V V2 (by simp) rfl
  · cases (show h[q.sd]? = some q.SA from F.hd).symm.trans e1
    obtain ⟨cS, -, -, f, -⟩ := F
    rw [show (Wst Z vm h).vm = vm from rfl, hal.findClass] at f
    obtain ⟨k1, q1, q2⟩ := Vm.findClass_spec f
    obtain ⟨k2, q3, q4⟩ := Vm.findClass_spec e2
    cases q1.symm.trans q3
    exact absurd (q2.symm.trans q4) (by decide)
theorem strT_ne {Z : State} {a0 : Array Value} {h : Heap} {a t x : Addr} {cs : List Int32} {C : String} {n : Nat} (F : Str Z h a t cs) (E : Exa Z h x C) (w : (Jvm.Cond.instantiable C n).before a0 Z = true) : t ≠ x := by
  obtain ⟨kb, cd, N, vs, E', V, C', A, g⟩ := F
  exact Ne.symm (Exa.neArv E A w)
theorem strA_ne {Z : State} {h : Heap} {a t x : Addr} {cs : List Int32} {C : String} (F : Str Z h a t cs) (E : Exa Z h x C) (hn : "java/lang/String" ≠ C) : a ≠ x := ne_exa F.exa E hn
theorem str0 {Z : State} {h : Heap} {a t : Addr} {k : ClassId} (E : Exa Z h a "java/lang/String") (V : Fld Z h a "java/lang/String" "value" "[B" (.ref t)) (C : Fld Z h a "java/lang/String" "coder" "B" (.int (0 : Int32))) (A : Arv Z h t k .byte (0 : Int32) [] (.int (0 : Int32))) : Str Z h a t [] :=
  ⟨k, 0, 0, [], E, V, C, A, Or.inl ⟨rfl, rfl, rfl, by simp⟩, by simp, by simp⟩
end W
end Jvm.Pilot.@@N@@
namespace Jvm.Pilot.@@N@@
open Jvm Jvm.ClassFile Sem Op Lib Jvm.Free Jvm.Stand Jvm.LawKit Jvm.RoadKit Bundle Jvm.Pilot.@@N@@.Jvm.D Jvm.Pilot.@@N@@.W
theorem m255 (x : Int32) : ¬ (x &&& (255 : Int32)).toUInt32.toUInt16.toUInt32.toInt32 < 0 ∧ ¬ (255 : Int32) < (x &&& (255 : Int32)).toUInt32.toUInt16.toUInt32.toInt32 := by
  rw [i2c_mask]
  have h := c_mask x 255 8 (by decide) (by decide)
  have e1 : (0 : Int32).toInt = 0 := by decide
  have e2 : (255 : Int32).toInt = 255 := by decide
  rw [Int32.lt_iff_toInt_lt, Int32.lt_iff_toInt_lt, h, e1, e2]; omega
theorem narC (x : Int32) : nar .char (x.toUInt32.toUInt16.toUInt32.toInt32) = x.toUInt32.toUInt16.toUInt32.toInt32 := by
  have h1 := c_i2c x
  have h2 := c_i2c (x.toUInt32.toUInt16.toUInt32.toInt32)
  show x.toUInt32.toUInt16.toUInt32.toInt32.toUInt32.toUInt16.toUInt32.toInt32 = x.toUInt32.toUInt16.toUInt32.toInt32
  apply Int32.toInt_inj.mp
  omega

theorem eqInt {t : Term} {n : Int32} {args : Array Value} {s : State} (h : (Jvm.Cond.eq t (Term.int n)).before args s = true) : t.eval args s none [] s = some (.int n) := by
  replace h := Cond.before_iff.mp h
  obtain ⟨x, y, e1, e2, k1, k2⟩ := cmp_v (Or.inl h)
  cases (Term.int_eval n).symm.trans e2
  obtain ⟨z, rfl⟩ := k2
  rw [gotT (Cond.eq_ints e1 (Term.int_eval n)) h] at e1
  exact e1

theorem n32i {n : Nat} (h : n ≤ 100000) : (Int32.ofNat n).toInt = n := Int32.toInt_ofNat_of_lt (by omega)
theorem ltN {i n : Nat} (hi : i ≤ 4000) (hn : n ≤ 4000) : Int32.ofNat i < Int32.ofNat n ↔ i < n := by
  rw [Int32.lt_iff_toInt_lt, n32i (by omega), n32i (by omega)]; omega
theorem nneg {i : Nat} (hi : i ≤ 10000) : ¬ Int32.ofNat i < 0 := by
  have e0 : (0 : Int32).toInt = 0 := by decide
  rw [Int32.lt_iff_toInt_lt, n32i (by omega), e0]; omega
theorem neN {i n : Nat} (hi : i ≤ 4000) (hn : n ≤ 4000) (h : i ≠ n) : ¬ Int32.ofNat i = Int32.ofNat n := fun q => h (by
  have := congrArg Int32.toInt q
  rw [n32i (by omega), n32i (by omega)] at this; omega)
theorem sh1 {i : Nat} (h : i ≤ 4000) : ((Int32.ofNat i) <<< ((1 : Int32) &&& 31)) = Int32.ofNat (2 * i) := by
  have q := c_ishl (Int32.ofNat i) 1 1 (by decide)
  have b := Int32.toInt_lt ((Int32.ofNat i) <<< ((1 : Int32) &&& 31))
  have b' := Int32.le_toInt ((Int32.ofNat i) <<< ((1 : Int32) &&& 31))
  rw [n32i (by omega)] at q
  apply Int32.toInt_inj.mp
  rw [n32i (by omega)]; omega
theorem sr1 {i : Nat} (h : i ≤ 4000) : ((Int32.ofNat (2 * i)) >>> ((1 : Int32) &&& 31)) = Int32.ofNat i := by
  have q := c_ishr (Int32.ofNat (2 * i)) 1 1 (by decide)
  rw [n32i (by omega)] at q
  apply Int32.toInt_inj.mp
  rw [n32i (by omega)]; omega
theorem inbN {c : Cell} {k n : Nat} (S : c.slots.size = (Int32.ofNat n).toNatClampNeg) (h : k < n) (hn : n ≤ 10000) : ¬ ((Int32.ofNat k) < 0 ∨ c.slots.size ≤ (Int32.ofNat k).toNatClampNeg) := by
  rw [S, nat32 (by omega), nat32 (by omega)]
  rintro (q | q)
  · exact nneg (by omega) q
  · omega
theorem gp16 {cs : List Int32} {i : Nat} (hbr : ∀ c ∈ cs, ¬ c < 0 ∧ ¬ (65535 : Int32) < c) (hi : i < cs.length) : StrChars.pairCh (StrChars.lo8 (cs.getD i 0)) (StrChars.hi8 (cs.getD i 0)) = cs.getD i 0 := by
  have q := hbr _ (List.getElem_mem hi)
  rw [show cs.getD i 0 = cs[i] by simp [List.getD_eq_getElem?_getD, hi]]
  exact StrChars.pair_says q.1 q.2
theorem str16 {Z : State} {h : Heap} {a t : Addr} {k : ClassId} {cs : List Int32} {N : Int32} {vs : List Value} (hN : N = Int32.ofNat (2 * cs.length)) (hv : vs = StrChars.Road.wideBytes cs) (hl : cs.length ≤ 4000) (hbr : ∀ c ∈ cs, ¬ c < 0 ∧ ¬ (65535 : Int32) < c) (hw : ∃ c ∈ cs, (255 : Int32) < c) (E : Exa Z h a "java/lang/String") (V : Fld Z h a "java/lang/String" "value" "[B" (.ref t)) (C : Fld Z h a "java/lang/String" "coder" "B" (.int (1 : Int32))) (A : Arv Z h t k .byte N vs (.int (0 : Int32))) : Str Z h a t cs :=
  ⟨k, 1, N, vs, E, V, C, A, Or.inr ⟨rfl, hN, hv, hw⟩, hbr, hl⟩

theorem pn_java_lang_StringUTF16 : plainName "java/lang/StringUTF16" = true := by first | (simp [plainName, overriddenIn]; done) | decide +kernel
theorem ef_rm_len16 (m : MethodId) (x0 : Addr)  : entryFrame m #[(.ref x0)] 1 = mkF m 0 #[.val (.ref x0)] [] := by first | (simp [entryFrame, mkF, argsToLocals, Value.category]; done) | rfl
theorem d_jdk_52_method_6_code_0 : decode jdk_52_method_6_code 0 = .ok (.aload_n 0, 1) := by decide +kernel
theorem d_jdk_52_method_6_code_1 : decode jdk_52_method_6_code 1 = .ok (.arraylength, 1) := by decide +kernel
theorem d_jdk_52_method_6_code_2 : decode jdk_52_method_6_code 2 = .ok (.iconst 1, 1) := by decide +kernel
theorem d_jdk_52_method_6_code_3 : decode jdk_52_method_6_code 3 = .ok (.ishr, 1) := by decide +kernel
theorem d_jdk_52_method_6_code_4 : decode jdk_52_method_6_code 4 = .ok (.ireturn, 1) := by decide +kernel
set_option maxRecDepth 65536 in
set_option maxHeartbeats 40000000 in
theorem rm_len16 (l : Launch) (Z : State) (a0 : Array Value) (hw : ∀ d ∈ tables_1, d.before a0 Z = true) (a1 : Addr) (ka : ClassId) (cs : List Int32) (h0 : Heap) (V_a1 : Arv Z h0 a1 ka .byte (Int32.ofNat (2 * cs.length)) (StrChars.Road.wideBytes cs) (.int (0 : Int32))) (hl : cs.length ≤ 4000) :
    MeetsW l Z (⟨"java/lang/StringUTF16", "length", "([B)I"⟩ : MethodName) jdk_52_method_6_code 1 (some .int) ({ frames := 0, cells := 0, slots := 0, locals := 0 } : Room) #[(.ref a1)] h0 (Pu h0 (fun v => v = some (.int (Int32.ofNat cs.length)))) := by
  refine MeetsW.of (plainFor_of_name pn_java_lang_StringUTF16) ?_
  intro p e s m below meth c s₁ P hx hby hml hZ hown hnm hret hlk X0 e0 K
  have M0 : Mv h0 h0 [] [] := Mv.refl _ _
  refine Go.cast (ef_rm_len16 m a1 ) ?_
  refine Go.of (T' := s₁) (f' := (mkF m 1 #[.val (.ref a1)] [(.ref a1)])) (fun _ k => XS.aloadN X0.here hx rfl (hb hby d_jdk_52_method_6_code_0) rfl rfl k) ?_
  obtain ⟨cl1, Ar1, -, Sz1, Nn1, -, -⟩ := id V_a1
  refine Go.of (T' := s₁) (f' := (mkF m 2 #[.val (.ref a1)] [(.int (Int32.ofNat (2 * cs.length)))])) (fun _ k => X0.arraylength hx (by rw [e0]; exact Ar1.1) (State.isArrayOf_alike hZ.alike Ar1.2.1) (g := (mkF m 1 #[.val (.ref a1)] [(.ref a1)])) rfl rfl (hb hby d_jdk_52_method_6_code_1) _ (by rw [len_of Sz1 Nn1]; exact k)) ?_
  refine Go.of (T' := s₁) (f' := (mkF m 3 #[.val (.ref a1)] [(.int (1 : Int32)), (.int (Int32.ofNat (2 * cs.length)))])) (fun _ k => XS.iconst X0.here hx rfl (hb hby d_jdk_52_method_6_code_2) k) ?_
  refine Go.of (T' := s₁) (f' := (mkF m 4 #[.val (.ref a1)] [(.int ((Int32.ofNat (2 * cs.length)) >>> ((1 : Int32) &&& 31)))])) (fun _ k => XS.ishr X0.here hx rfl (hb hby d_jdk_52_method_6_code_3) rfl k) ?_
  exact goRetI (Q := Pu h0 (fun v => v = some (.int (Int32.ofNat cs.length)))) X0 hx (t := .int) hret hlk rfl (by simp) (hb hby d_jdk_52_method_6_code_4) K (by decide) (by decide) e0 (⟨rfl, rfl, congrArg (fun z => some (Value.int z)) (sr1 hl)⟩)
theorem pn_jdk_internal_util_Preconditions : plainName "jdk/internal/util/Preconditions" = true := by first | (simp [plainName, overriddenIn]; done) | decide +kernel
theorem ef_rm_chk (m : MethodId) (x0 : Int32) (x1 : Int32) (x2 : Value) (hx2 : x2.isRef = true) : entryFrame m #[(.int x0), (.int x1), x2] 3 = mkF m 0 #[.val (.int x0), .val (.int x1), .val x2] [] := by
  all_goals (rcases ref_cases hx2 with rfl | ⟨z2, rfl⟩)
  all_goals first | (simp [entryFrame, mkF, argsToLocals, Value.category]; done) | rfl
theorem d_jdk_41_method_11_code_0 : decode jdk_41_method_11_code 0 = .ok (.iload_n 0, 1) := by decide +kernel
theorem d_jdk_41_method_11_code_1 : decode jdk_41_method_11_code 1 = .ok (.ifCond .lt 8, 3) := by decide +kernel
theorem d_jdk_41_method_11_code_4 : decode jdk_41_method_11_code 4 = .ok (.iload_n 0, 1) := by decide +kernel
theorem d_jdk_41_method_11_code_5 : decode jdk_41_method_11_code 5 = .ok (.iload_n 1, 1) := by decide +kernel
theorem d_jdk_41_method_11_code_6 : decode jdk_41_method_11_code 6 = .ok (.if_icmp .lt 10, 3) := by decide +kernel
theorem d_jdk_41_method_11_code_16 : decode jdk_41_method_11_code 16 = .ok (.iload_n 0, 1) := by decide +kernel
theorem d_jdk_41_method_11_code_17 : decode jdk_41_method_11_code 17 = .ok (.ireturn, 1) := by decide +kernel
set_option maxRecDepth 65536 in
set_option maxHeartbeats 40000000 in
theorem rm_chk (l : Launch) (Z : State) (a0 : Array Value) (hw : ∀ d ∈ tables_1, d.before a0 Z = true) (i n : Nat) (fm : Value) (h0 : Heap) (hfm : fm.isRef = true) (hi : i < n) (hn : n ≤ 4000) :
    MeetsW l Z (⟨"jdk/internal/util/Preconditions", "checkIndex", "(IILjava/util/function/BiFunction;)I"⟩ : MethodName) jdk_41_method_11_code 3 (some .int) ({ frames := 0, cells := 0, slots := 0, locals := 0 } : Room) #[(.int (Int32.ofNat i)), (.int (Int32.ofNat n)), fm] h0 (Pu h0 (fun v => v = some (.int (Int32.ofNat i)))) := by
  refine MeetsW.of (plainFor_of_name pn_jdk_internal_util_Preconditions) ?_
  intro p e s m below meth c s₁ P hx hby hml hZ hown hnm hret hlk X0 e0 K
  have M0 : Mv h0 h0 [] [] := Mv.refl _ _
  refine Go.cast (ef_rm_chk m (Int32.ofNat i) (Int32.ofNat n) fm hfm) ?_
  refine Go.of (T' := s₁) (f' := (mkF m 1 #[.val (.int (Int32.ofNat i)), .val (.int (Int32.ofNat n)), .val fm] [(.int (Int32.ofNat i))])) (fun _ k => XS.iloadN X0.here hx rfl (hb hby d_jdk_41_method_11_code_0) rfl k) ?_
  have hc1 : ¬ ((Int32.ofNat i) < (0 : Int32)) := nneg (by omega)
  refine Go.of (T' := s₁) (f' := (mkF m 4 #[.val (.int (Int32.ofNat i)), .val (.int (Int32.ofNat n)), .val fm] [])) (fun _ k => XS.ifNo X0.here hx rfl (hb hby d_jdk_41_method_11_code_1) rfl ((if0 _ _).trans (flt hc1).1) k) ?_
  refine Go.of (T' := s₁) (f' := (mkF m 5 #[.val (.int (Int32.ofNat i)), .val (.int (Int32.ofNat n)), .val fm] [(.int (Int32.ofNat i))])) (fun _ k => XS.iloadN X0.here hx rfl (hb hby d_jdk_41_method_11_code_4) rfl k) ?_
  refine Go.of (T' := s₁) (f' := (mkF m 6 #[.val (.int (Int32.ofNat i)), .val (.int (Int32.ofNat n)), .val fm] [(.int (Int32.ofNat n)), (.int (Int32.ofNat i))])) (fun _ k => XS.iloadN X0.here hx rfl (hb hby d_jdk_41_method_11_code_5) rfl k) ?_
  have hc6 : (Int32.ofNat i) < (Int32.ofNat n) := (ltN (by omega) hn).mpr hi
  refine Go.of (T' := s₁) (f' := (mkF m 16 #[.val (.int (Int32.ofNat i)), .val (.int (Int32.ofNat n)), .val fm] [])) (fun _ k => XS.icmpYes X0.here hx rfl (pc0 := 6) (pc' := 16) rfl (hb hby d_jdk_41_method_11_code_6) rfl (tlt hc6).1 (by decide) (by decide) k) ?_
  refine Go.of (T' := s₁) (f' := (mkF m 17 #[.val (.int (Int32.ofNat i)), .val (.int (Int32.ofNat n)), .val fm] [(.int (Int32.ofNat i))])) (fun _ k => XS.iloadN X0.here hx rfl (hb hby d_jdk_41_method_11_code_16) rfl k) ?_
  exact goRetI (Q := Pu h0 (fun v => v = some (.int (Int32.ofNat i)))) X0 hx (t := .int) hret hlk rfl (by simp) (hb hby d_jdk_41_method_11_code_17) K (by decide) (by decide) e0 (⟨rfl, rfl, rfl⟩)
theorem pn_java_lang_String : plainName "java/lang/String" = true := by first | (simp [plainName, overriddenIn]; done) | decide +kernel
theorem ef_rm_chkS (m : MethodId) (x0 : Int32) (x1 : Int32)  : entryFrame m #[(.int x0), (.int x1)] 2 = mkF m 0 #[.val (.int x0), .val (.int x1)] [] := by first | (simp [entryFrame, mkF, argsToLocals, Value.category]; done) | rfl
theorem d_jdk_42_method_155_code_0 : decode jdk_42_method_155_code 0 = .ok (.iload_n 0, 1) := by decide +kernel
theorem d_jdk_42_method_155_code_1 : decode jdk_42_method_155_code 1 = .ok (.iload_n 1, 1) := by decide +kernel
theorem d_jdk_42_method_155_code_2 : decode jdk_42_method_155_code 2 = .ok (.getstatic 1053, 3) := by decide +kernel
theorem d_jdk_42_method_155_code_5 : decode jdk_42_method_155_code 5 = .ok (.invokestatic 1059, 3) := by decide +kernel
theorem pd__IILjava_util_function_BiFunction__I : parseMethodDescriptor "(IILjava/util/function/BiFunction;)I" = some ⟨[.int, .int, (.object "java/util/function/BiFunction")], some .int⟩ := by decide +kernel
theorem d_jdk_42_method_155_code_8 : decode jdk_42_method_155_code 8 = .ok (.pop, 1) := by decide +kernel
theorem d_jdk_42_method_155_code_9 : decode jdk_42_method_155_code 9 = .ok (.return_, 1) := by decide +kernel
set_option maxRecDepth 65536 in
set_option maxHeartbeats 40000000 in
theorem rm_chkS (l : Launch) (Z : State) (a0 : Array Value) (hw : ∀ d ∈ tables_1, d.before a0 Z = true) (i n : Nat) (fm : Value) (h0 : Heap) (Z_fm : Sta Z h0 "jdk/internal/util/Preconditions" "SIOOBE_FORMATTER" "Ljava/util/function/BiFunction;" fm) (hfm : fm.isRef = true) (hi : i < n) (hn : n ≤ 4000) :
    MeetsW l Z (⟨"java/lang/String", "checkIndex", "(II)V"⟩ : MethodName) jdk_42_method_155_code 2 none ({ frames := 1, cells := 0, slots := 0, locals := 14 } : Room) #[(.int (Int32.ofNat i)), (.int (Int32.ofNat n))] h0 (Pu h0 (fun v => v = none)) := by
  refine MeetsW.of (plainFor_of_name pn_java_lang_String) ?_
  intro p e s m below meth c s₁ P hx hby hml hZ hown hnm hret hlk X0 e0 K
  have M0 : Mv h0 h0 [] [] := Mv.refl _ _
  refine Go.cast (ef_rm_chkS m (Int32.ofNat i) (Int32.ofNat n) ) ?_
  refine Go.of (T' := s₁) (f' := (mkF m 1 #[.val (.int (Int32.ofNat i)), .val (.int (Int32.ofNat n))] [(.int (Int32.ofNat i))])) (fun _ k => XS.iloadN X0.here hx rfl (hb hby d_jdk_42_method_155_code_0) rfl k) ?_
  refine Go.of (T' := s₁) (f' := (mkF m 2 #[.val (.int (Int32.ofNat i)), .val (.int (Int32.ofNat n))] [(.int (Int32.ofNat n)), (.int (Int32.ofNat i))])) (fun _ k => XS.iloadN X0.here hx rfl (hb hby d_jdk_42_method_155_code_1) rfl k) ?_
  obtain ⟨T1, X1, e1, st1⟩ := getS2 X0 hx hZ hown (host := "") (Or.inl (hw _ (List.mem_of_getElem? (i := 81) rfl))) Via.refl e0 Z_fm (g := (mkF m 2 #[.val (.int (Int32.ofNat i)), .val (.int (Int32.ofNat n))] [(.int (Int32.ofNat n)), (.int (Int32.ofNat i))])) rfl (hb hby d_jdk_42_method_155_code_2)
  refine Go.of (T' := T1) (f' := (mkF m 5 #[.val (.int (Int32.ofNat i)), .val (.int (Int32.ofNat n))] [fm, (.int (Int32.ofNat n)), (.int (Int32.ofNat i))])) st1 ?_
  refine goS X1 hx hZ hown (hw _ (List.mem_of_getElem? (i := 83) rfl)) (hw _ (List.mem_of_getElem? (i := 84) rfl)) (hw _ (List.mem_of_getElem? (i := 82) rfl)) (hw _ (List.mem_of_getElem? (i := 85) rfl)) (by decide) (C := 0) (S := 0) ((rm_chk l Z a0 hw i (n) fm h0 hfm hi hn).bk (W := 0) hZ (hw _ (List.mem_of_getElem? (i := 85) rfl)) (hw _ (List.mem_of_getElem? (i := 82) rfl)) (by decide) (by decide)) e1 (argsL := [(.int (Int32.ofNat i)), (.int (Int32.ofNat n)), fm]) (rest := []) (by rw [hml]; rfl) (lenOf pd__IILjava_util_function_BiFunction__I rfl) rfl rfl (hb hby d_jdk_42_method_155_code_5) (Nat.le_of_eq rfl) (by decide) (by decide) ?_
  intro v2 T2 L2 X2 hQ2
  obtain ⟨nq2, e2, rfl⟩ := hQ2
  replace X2 := standNil X2 nq2
  show Go p e below P T2 (mkF m 8 #[.val (.int (Int32.ofNat i)), .val (.int (Int32.ofNat n))] [(.int (Int32.ofNat i))])
  refine Go.of (T' := T2) (f' := (mkF m 9 #[.val (.int (Int32.ofNat i)), .val (.int (Int32.ofNat n))] [])) (fun _ k => XS.pop X2.here hx rfl (hb hby d_jdk_42_method_155_code_8) rfl rfl k) ?_
  exact goRet0 (Q := Pu h0 (fun v => v = none)) X2 hx hret hlk (hb hby d_jdk_42_method_155_code_9) K (by decide) (by decide) e2 (⟨rfl, rfl, rfl⟩)
theorem ef_rm_chk16 (m : MethodId) (x0 : Int32) (x1 : Addr)  : entryFrame m #[(.int x0), (.ref x1)] 2 = mkF m 0 #[.val (.int x0), .val (.ref x1)] [] := by first | (simp [entryFrame, mkF, argsToLocals, Value.category]; done) | rfl
theorem d_jdk_52_method_91_code_0 : decode jdk_52_method_91_code 0 = .ok (.iload_n 0, 1) := by decide +kernel
theorem d_jdk_52_method_91_code_1 : decode jdk_52_method_91_code 1 = .ok (.aload_n 1, 1) := by decide +kernel
theorem d_jdk_52_method_91_code_2 : decode jdk_52_method_91_code 2 = .ok (.invokestatic 48, 3) := by decide +kernel
theorem pd___B_I : parseMethodDescriptor "([B)I" = some ⟨[(.array .byte)], some .int⟩ := by decide +kernel
theorem d_jdk_52_method_91_code_5 : decode jdk_52_method_91_code 5 = .ok (.invokestatic 414, 3) := by decide +kernel
theorem pd__II_V : parseMethodDescriptor "(II)V" = some ⟨[.int, .int], none⟩ := by decide +kernel
theorem d_jdk_52_method_91_code_8 : decode jdk_52_method_91_code 8 = .ok (.return_, 1) := by decide +kernel
set_option maxRecDepth 65536 in
set_option maxHeartbeats 40000000 in
theorem rm_chk16 (l : Launch) (Z : State) (a0 : Array Value) (hw : ∀ d ∈ tables_1, d.before a0 Z = true) (i : Nat) (a1 : Addr) (ka : ClassId) (cs : List Int32) (fm : Value) (h0 : Heap) (V_a1 : Arv Z h0 a1 ka .byte (Int32.ofNat (2 * cs.length)) (StrChars.Road.wideBytes cs) (.int (0 : Int32))) (hl : cs.length ≤ 4000) (Z_fm : Sta Z h0 "jdk/internal/util/Preconditions" "SIOOBE_FORMATTER" "Ljava/util/function/BiFunction;" fm) (hfm : fm.isRef = true) (hi : i < cs.length) :
    MeetsW l Z (⟨"java/lang/StringUTF16", "checkIndex", "(I[B)V"⟩ : MethodName) jdk_52_method_91_code 2 none ({ frames := 2, cells := 0, slots := 0, locals := 27 } : Room) #[(.int (Int32.ofNat i)), (.ref a1)] h0 (Pu h0 (fun v => v = none)) := by
  refine MeetsW.of (plainFor_of_name pn_java_lang_StringUTF16) ?_
  intro p e s m below meth c s₁ P hx hby hml hZ hown hnm hret hlk X0 e0 K
  have M0 : Mv h0 h0 [] [] := Mv.refl _ _
  refine Go.cast (ef_rm_chk16 m (Int32.ofNat i) a1 ) ?_
  refine Go.of (T' := s₁) (f' := (mkF m 1 #[.val (.int (Int32.ofNat i)), .val (.ref a1)] [(.int (Int32.ofNat i))])) (fun _ k => XS.iloadN X0.here hx rfl (hb hby d_jdk_52_method_91_code_0) rfl k) ?_
  refine Go.of (T' := s₁) (f' := (mkF m 2 #[.val (.int (Int32.ofNat i)), .val (.ref a1)] [(.ref a1), (.int (Int32.ofNat i))])) (fun _ k => XS.aloadN X0.here hx rfl (hb hby d_jdk_52_method_91_code_1) rfl rfl k) ?_
  refine goS X0 hx hZ hown (hw _ (List.mem_of_getElem? (i := 138) rfl)) (hw _ (List.mem_of_getElem? (i := 139) rfl)) (hw _ (List.mem_of_getElem? (i := 25) rfl)) (hw _ (List.mem_of_getElem? (i := 140) rfl)) (by decide) (C := 0) (S := 0) ((rm_len16 l Z a0 hw a1 ka cs h0 V_a1 hl).bk (W := 1) hZ (hw _ (List.mem_of_getElem? (i := 140) rfl)) (hw _ (List.mem_of_getElem? (i := 25) rfl)) (by decide) (by decide)) e0 (argsL := [(.ref a1)]) (rest := [(.int (Int32.ofNat i))]) (by rw [hml]; rfl) (lenOf pd___B_I rfl) rfl rfl (hb hby d_jdk_52_method_91_code_2) (Nat.le_of_eq rfl) (by decide) (by decide) ?_
  intro v1 T1 L1 X1 hQ1
  obtain ⟨nq1, e1, rfl⟩ := hQ1
  replace X1 := standNil X1 nq1
  show Go p e below P T1 (mkF m 5 #[.val (.int (Int32.ofNat i)), .val (.ref a1)] [(.int (Int32.ofNat cs.length)), (.int (Int32.ofNat i))])
  refine goS X1 hx hZ hown (hw _ (List.mem_of_getElem? (i := 141) rfl)) (hw _ (List.mem_of_getElem? (i := 79) rfl)) (hw _ (List.mem_of_getElem? (i := 11) rfl)) (hw _ (List.mem_of_getElem? (i := 80) rfl)) (by decide) (C := 0) (S := 0) ((rm_chkS l Z a0 hw i (cs.length) fm h0 Z_fm hfm hi hl).bk (W := 0) hZ (hw _ (List.mem_of_getElem? (i := 80) rfl)) (hw _ (List.mem_of_getElem? (i := 11) rfl)) (by decide) (by decide)) e1 (argsL := [(.int (Int32.ofNat i)), (.int (Int32.ofNat cs.length))]) (rest := []) (by rw [hml]; rfl) (lenOf pd__II_V rfl) rfl rfl (hb hby d_jdk_52_method_91_code_5) (Nat.le_of_eq rfl) (by decide) (by decide) ?_
  intro v2 T2 L2 X2 hQ2
  obtain ⟨nq2, e2, rfl⟩ := hQ2
  replace X2 := standNil X2 nq2
  show Go p e below P T2 (mkF m 8 #[.val (.int (Int32.ofNat i)), .val (.ref a1)] [])
  exact goRet0 (Q := Pu h0 (fun v => v = none)) X2 hx hret hlk (hb hby d_jdk_52_method_91_code_8) K (by decide) (by decide) e2 (⟨rfl, rfl, rfl⟩)
theorem ef_rm_getChar (m : MethodId) (x0 : Addr) (x1 : Int32)  : entryFrame m #[(.ref x0), (.int x1)] 2 = mkF m 0 #[.val (.ref x0), .val (.int x1)] [] := by first | (simp [entryFrame, mkF, argsToLocals, Value.category]; done) | rfl
theorem d_jdk_52_method_5_code_0 : decode jdk_52_method_5_code 0 = .ok (.getstatic 44, 3) := by decide +kernel
theorem d_jdk_52_method_5_code_3 : decode jdk_52_method_5_code 3 = .ok (.ifCond .ne 25, 3) := by decide +kernel
theorem d_jdk_52_method_5_code_28 : decode jdk_52_method_5_code 28 = .ok (.iload_n 1, 1) := by decide +kernel
theorem d_jdk_52_method_5_code_29 : decode jdk_52_method_5_code 29 = .ok (.iconst 1, 1) := by decide +kernel
theorem d_jdk_52_method_5_code_30 : decode jdk_52_method_5_code 30 = .ok (.ishl, 1) := by decide +kernel
theorem d_jdk_52_method_5_code_31 : decode jdk_52_method_5_code 31 = .ok (.istore_n 1, 1) := by decide +kernel
theorem d_jdk_52_method_5_code_32 : decode jdk_52_method_5_code 32 = .ok (.aload_n 0, 1) := by decide +kernel
theorem d_jdk_52_method_5_code_33 : decode jdk_52_method_5_code 33 = .ok (.iload_n 1, 1) := by decide +kernel
theorem d_jdk_52_method_5_code_34 : decode jdk_52_method_5_code 34 = .ok (.iinc 1 1, 3) := by decide +kernel
theorem d_jdk_52_method_5_code_37 : decode jdk_52_method_5_code 37 = .ok (.baload, 1) := by decide +kernel
theorem d_jdk_52_method_5_code_38 : decode jdk_52_method_5_code 38 = .ok (.sipush 255, 3) := by decide +kernel
theorem d_jdk_52_method_5_code_41 : decode jdk_52_method_5_code 41 = .ok (.iand, 1) := by decide +kernel
theorem d_jdk_52_method_5_code_42 : decode jdk_52_method_5_code 42 = .ok (.getstatic 59, 3) := by decide +kernel
theorem d_jdk_52_method_5_code_45 : decode jdk_52_method_5_code 45 = .ok (.ishl, 1) := by decide +kernel
theorem d_jdk_52_method_5_code_46 : decode jdk_52_method_5_code 46 = .ok (.aload_n 0, 1) := by decide +kernel
theorem d_jdk_52_method_5_code_47 : decode jdk_52_method_5_code 47 = .ok (.iload_n 1, 1) := by decide +kernel
theorem d_jdk_52_method_5_code_48 : decode jdk_52_method_5_code 48 = .ok (.baload, 1) := by decide +kernel
theorem d_jdk_52_method_5_code_49 : decode jdk_52_method_5_code 49 = .ok (.sipush 255, 3) := by decide +kernel
theorem d_jdk_52_method_5_code_52 : decode jdk_52_method_5_code 52 = .ok (.iand, 1) := by decide +kernel
theorem d_jdk_52_method_5_code_53 : decode jdk_52_method_5_code 53 = .ok (.getstatic 63, 3) := by decide +kernel
theorem d_jdk_52_method_5_code_56 : decode jdk_52_method_5_code 56 = .ok (.ishl, 1) := by decide +kernel
theorem d_jdk_52_method_5_code_57 : decode jdk_52_method_5_code 57 = .ok (.ior, 1) := by decide +kernel
theorem d_jdk_52_method_5_code_58 : decode jdk_52_method_5_code 58 = .ok (.i2c, 1) := by decide +kernel
theorem d_jdk_52_method_5_code_59 : decode jdk_52_method_5_code 59 = .ok (.ireturn, 1) := by decide +kernel
set_option maxRecDepth 65536 in
set_option maxHeartbeats 40000000 in
theorem rm_getChar (l : Launch) (Z : State) (a0 : Array Value) (hw : ∀ d ∈ tables_1, d.before a0 Z = true) (a1 : Addr) (ka : ClassId) (cs : List Int32) (i : Nat) (h0 : Heap) (V_a1 : Arv Z h0 a1 ka .byte (Int32.ofNat (2 * cs.length)) (StrChars.Road.wideBytes cs) (.int (0 : Int32))) (hl : cs.length ≤ 4000) (hi : i < cs.length) (hbr : ∀ c ∈ cs, ¬ c < 0 ∧ ¬ (65535 : Int32) < c) (Z_ad : Sta Z h0 "java/lang/StringUTF16" "$assertionsDisabled" "Z" (.int (1 : Int32))) (Z_hs : Sta Z h0 "java/lang/StringUTF16" "HI_BYTE_SHIFT" "I" (.int (0 : Int32))) (Z_ls : Sta Z h0 "java/lang/StringUTF16" "LO_BYTE_SHIFT" "I" (.int (8 : Int32))) :
    MeetsW l Z (⟨"java/lang/StringUTF16", "getChar", "([BI)C"⟩ : MethodName) jdk_52_method_5_code 2 (some .char) ({ frames := 0, cells := 0, slots := 0, locals := 0 } : Room) #[(.ref a1), (.int (Int32.ofNat i))] h0 (Pu h0 (fun v => v = some (.int (cs.getD i 0)))) := by
  refine MeetsW.of (plainFor_of_name pn_java_lang_StringUTF16) ?_
  intro p e s m below meth c s₁ P hx hby hml hZ hown hnm hret hlk X0 e0 K
  have M0 : Mv h0 h0 [] [] := Mv.refl _ _
  refine Go.cast (ef_rm_getChar m a1 (Int32.ofNat i) ) ?_
  obtain ⟨T1, X1, e1, st1⟩ := getS2 X0 hx hZ hown (host := "") (Or.inl (hw _ (List.mem_of_getElem? (i := 126) rfl))) Via.refl e0 Z_ad (g := (mkF m 0 #[.val (.ref a1), .val (.int (Int32.ofNat i))] [])) rfl (hb hby d_jdk_52_method_5_code_0)
  refine Go.of (T' := T1) (f' := (mkF m 3 #[.val (.ref a1), .val (.int (Int32.ofNat i))] [(.int (1 : Int32))])) st1 ?_
  refine Go.of (T' := T1) (f' := (mkF m 28 #[.val (.ref a1), .val (.int (Int32.ofNat i))] [])) (fun _ k => XS.ifYes X1.here hx rfl (pc0 := 3) (pc' := 28) rfl (hb hby d_jdk_52_method_5_code_3) rfl (by decide) (by decide) (by decide) k) ?_
  refine Go.of (T' := T1) (f' := (mkF m 29 #[.val (.ref a1), .val (.int (Int32.ofNat i))] [(.int (Int32.ofNat i))])) (fun _ k => XS.iloadN X1.here hx rfl (hb hby d_jdk_52_method_5_code_28) rfl k) ?_
  refine Go.of (T' := T1) (f' := (mkF m 30 #[.val (.ref a1), .val (.int (Int32.ofNat i))] [(.int (1 : Int32)), (.int (Int32.ofNat i))])) (fun _ k => XS.iconst X1.here hx rfl (hb hby d_jdk_52_method_5_code_29) k) ?_
  refine Go.of (T' := T1) (f' := (mkF m 31 #[.val (.ref a1), .val (.int (Int32.ofNat i))] [(.int ((Int32.ofNat i) <<< ((1 : Int32) &&& 31)))])) (fun _ k => XS.ishl X1.here hx rfl (hb hby d_jdk_52_method_5_code_30) rfl k) ?_
  rw [sh1 (i := i) (by omega)]
  refine Go.of (T' := T1) (f' := (mkF m 32 #[.val (.ref a1), .val (.int (Int32.ofNat (2 * i)))] [])) (fun _ k => XS.istoreN X1.here hx rfl (hb hby d_jdk_52_method_5_code_31) rfl (l' := #[.val (.ref a1), .val (.int (Int32.ofNat (2 * i)))]) rfl k) ?_
  refine Go.of (T' := T1) (f' := (mkF m 33 #[.val (.ref a1), .val (.int (Int32.ofNat (2 * i)))] [(.ref a1)])) (fun _ k => XS.aloadN X1.here hx rfl (hb hby d_jdk_52_method_5_code_32) rfl rfl k) ?_
  refine Go.of (T' := T1) (f' := (mkF m 34 #[.val (.ref a1), .val (.int (Int32.ofNat (2 * i)))] [(.int (Int32.ofNat (2 * i))), (.ref a1)])) (fun _ k => XS.iloadN X1.here hx rfl (hb hby d_jdk_52_method_5_code_33) rfl k) ?_
  refine Go.of (T' := T1) (f' := (mkF m 37 #[.val (.ref a1), .val (.int ((Int32.ofNat (2 * i)) + (1 : Int32)))] [(.int (Int32.ofNat (2 * i))), (.ref a1)])) (fun _ k => XS.iinc X1.here hx rfl (hb hby d_jdk_52_method_5_code_34) rfl (l' := #[.val (.ref a1), .val (.int ((Int32.ofNat (2 * i)) + (1 : Int32)))]) rfl k) ?_
  rw [show (Int32.ofNat (2 * i)) + (1 : Int32) = Int32.ofNat (2 * i + 1) from (Int32.ofNat_add _ 1).symm]
  obtain ⟨cl2, Ar2, cq2, Sz2, Nn2, Hs2, Gs2⟩ := id V_a1
  have hin2 : ¬ ((Int32.ofNat (2 * i)) < 0 ∨ cl2.slots.size ≤ ((Int32.ofNat (2 * i))).toNatClampNeg) := inbN Sz2 (by omega) (by omega)
  have hat2 : cl2.slots[((Int32.ofNat (2 * i))).toNatClampNeg]? = some (.int (StrChars.lo8 (cs.getD i 0))) := Has.at Hs2 hin2 (by rw [nat32 (by omega)]; exact StrChars.Road.wide_lo _ cs i hi)
  refine Go.of (T' := T1) (f' := (mkF m 38 #[.val (.ref a1), .val (.int (Int32.ofNat (2 * i + 1)))] [(.int (StrChars.lo8 (cs.getD i 0)))])) (fun _ k => X1.baloadBytes hx (j := (Int32.ofNat (2 * i))) (v := (.int (StrChars.lo8 (cs.getD i 0)))) (by rw [e1]; exact Ar2.1) (State.isArrayOf_alike hZ.alike Ar2.2.1) Ar2.2.2 hin2 hat2 (g := (mkF m 37 #[.val (.ref a1), .val (.int (Int32.ofNat (2 * i + 1)))] [(.int (Int32.ofNat (2 * i))), (.ref a1)])) rfl rfl (hb hby d_jdk_52_method_5_code_37) _ k) ?_
  refine Go.of (T' := T1) (f' := (mkF m 41 #[.val (.ref a1), .val (.int (Int32.ofNat (2 * i + 1)))] [(.int (255 : Int32)), (.int (StrChars.lo8 (cs.getD i 0)))])) (fun _ k => XS.sipush X1.here hx rfl (hb hby d_jdk_52_method_5_code_38) k) ?_
  refine Go.of (T' := T1) (f' := (mkF m 42 #[.val (.ref a1), .val (.int (Int32.ofNat (2 * i + 1)))] [(.int ((StrChars.lo8 (cs.getD i 0)) &&& (255 : Int32)))])) (fun _ k => XS.iand X1.here hx rfl (hb hby d_jdk_52_method_5_code_41) rfl k) ?_
  obtain ⟨T3, X3, e3, st3⟩ := getS2 X1 hx hZ hown (host := "") (Or.inl (hw _ (List.mem_of_getElem? (i := 127) rfl))) Via.refl e1 Z_hs (g := (mkF m 42 #[.val (.ref a1), .val (.int (Int32.ofNat (2 * i + 1)))] [(.int ((StrChars.lo8 (cs.getD i 0)) &&& (255 : Int32)))])) rfl (hb hby d_jdk_52_method_5_code_42)
  refine Go.of (T' := T3) (f' := (mkF m 45 #[.val (.ref a1), .val (.int (Int32.ofNat (2 * i + 1)))] [(.int (0 : Int32)), (.int ((StrChars.lo8 (cs.getD i 0)) &&& (255 : Int32)))])) st3 ?_
  refine Go.of (T' := T3) (f' := (mkF m 46 #[.val (.ref a1), .val (.int (Int32.ofNat (2 * i + 1)))] [(.int (((StrChars.lo8 (cs.getD i 0)) &&& (255 : Int32)) <<< ((0 : Int32) &&& 31)))])) (fun _ k => XS.ishl X3.here hx rfl (hb hby d_jdk_52_method_5_code_45) rfl k) ?_
  refine Go.of (T' := T3) (f' := (mkF m 47 #[.val (.ref a1), .val (.int (Int32.ofNat (2 * i + 1)))] [(.ref a1), (.int (((StrChars.lo8 (cs.getD i 0)) &&& (255 : Int32)) <<< ((0 : Int32) &&& 31)))])) (fun _ k => XS.aloadN X3.here hx rfl (hb hby d_jdk_52_method_5_code_46) rfl rfl k) ?_
  refine Go.of (T' := T3) (f' := (mkF m 48 #[.val (.ref a1), .val (.int (Int32.ofNat (2 * i + 1)))] [(.int (Int32.ofNat (2 * i + 1))), (.ref a1), (.int (((StrChars.lo8 (cs.getD i 0)) &&& (255 : Int32)) <<< ((0 : Int32) &&& 31)))])) (fun _ k => XS.iloadN X3.here hx rfl (hb hby d_jdk_52_method_5_code_47) rfl k) ?_
  obtain ⟨cl4, Ar4, cq4, Sz4, Nn4, Hs4, Gs4⟩ := id V_a1
  have hin4 : ¬ ((Int32.ofNat (2 * i + 1)) < 0 ∨ cl4.slots.size ≤ ((Int32.ofNat (2 * i + 1))).toNatClampNeg) := inbN Sz4 (by omega) (by omega)
  have hat4 : cl4.slots[((Int32.ofNat (2 * i + 1))).toNatClampNeg]? = some (.int (StrChars.hi8 (cs.getD i 0))) := Has.at Hs4 hin4 (by rw [nat32 (by omega)]; exact StrChars.Road.wide_hi _ cs i hi)
  refine Go.of (T' := T3) (f' := (mkF m 49 #[.val (.ref a1), .val (.int (Int32.ofNat (2 * i + 1)))] [(.int (StrChars.hi8 (cs.getD i 0))), (.int (((StrChars.lo8 (cs.getD i 0)) &&& (255 : Int32)) <<< ((0 : Int32) &&& 31)))])) (fun _ k => X3.baloadBytes hx (j := (Int32.ofNat (2 * i + 1))) (v := (.int (StrChars.hi8 (cs.getD i 0)))) (by rw [e3]; exact Ar4.1) (State.isArrayOf_alike hZ.alike Ar4.2.1) Ar4.2.2 hin4 hat4 (g := (mkF m 48 #[.val (.ref a1), .val (.int (Int32.ofNat (2 * i + 1)))] [(.int (Int32.ofNat (2 * i + 1))), (.ref a1), (.int (((StrChars.lo8 (cs.getD i 0)) &&& (255 : Int32)) <<< ((0 : Int32) &&& 31)))])) rfl rfl (hb hby d_jdk_52_method_5_code_48) _ k) ?_
  refine Go.of (T' := T3) (f' := (mkF m 52 #[.val (.ref a1), .val (.int (Int32.ofNat (2 * i + 1)))] [(.int (255 : Int32)), (.int (StrChars.hi8 (cs.getD i 0))), (.int (((StrChars.lo8 (cs.getD i 0)) &&& (255 : Int32)) <<< ((0 : Int32) &&& 31)))])) (fun _ k => XS.sipush X3.here hx rfl (hb hby d_jdk_52_method_5_code_49) k) ?_
  refine Go.of (T' := T3) (f' := (mkF m 53 #[.val (.ref a1), .val (.int (Int32.ofNat (2 * i + 1)))] [(.int ((StrChars.hi8 (cs.getD i 0)) &&& (255 : Int32))), (.int (((StrChars.lo8 (cs.getD i 0)) &&& (255 : Int32)) <<< ((0 : Int32) &&& 31)))])) (fun _ k => XS.iand X3.here hx rfl (hb hby d_jdk_52_method_5_code_52) rfl k) ?_
  obtain ⟨T5, X5, e5, st5⟩ := getS2 X3 hx hZ hown (host := "") (Or.inl (hw _ (List.mem_of_getElem? (i := 128) rfl))) Via.refl e3 Z_ls (g := (mkF m 53 #[.val (.ref a1), .val (.int (Int32.ofNat (2 * i + 1)))] [(.int ((StrChars.hi8 (cs.getD i 0)) &&& (255 : Int32))), (.int (((StrChars.lo8 (cs.getD i 0)) &&& (255 : Int32)) <<< ((0 : Int32) &&& 31)))])) rfl (hb hby d_jdk_52_method_5_code_53)
  refine Go.of (T' := T5) (f' := (mkF m 56 #[.val (.ref a1), .val (.int (Int32.ofNat (2 * i + 1)))] [(.int (8 : Int32)), (.int ((StrChars.hi8 (cs.getD i 0)) &&& (255 : Int32))), (.int (((StrChars.lo8 (cs.getD i 0)) &&& (255 : Int32)) <<< ((0 : Int32) &&& 31)))])) st5 ?_
  refine Go.of (T' := T5) (f' := (mkF m 57 #[.val (.ref a1), .val (.int (Int32.ofNat (2 * i + 1)))] [(.int (((StrChars.hi8 (cs.getD i 0)) &&& (255 : Int32)) <<< ((8 : Int32) &&& 31))), (.int (((StrChars.lo8 (cs.getD i 0)) &&& (255 : Int32)) <<< ((0 : Int32) &&& 31)))])) (fun _ k => XS.ishl X5.here hx rfl (hb hby d_jdk_52_method_5_code_56) rfl k) ?_
  refine Go.of (T' := T5) (f' := (mkF m 58 #[.val (.ref a1), .val (.int (Int32.ofNat (2 * i + 1)))] [(.int ((((StrChars.lo8 (cs.getD i 0)) &&& (255 : Int32)) <<< ((0 : Int32) &&& 31)) ||| (((StrChars.hi8 (cs.getD i 0)) &&& (255 : Int32)) <<< ((8 : Int32) &&& 31))))])) (fun _ k => XS.ior X5.here hx rfl (hb hby d_jdk_52_method_5_code_57) rfl k) ?_
  refine Go.of (T' := T5) (f' := (mkF m 59 #[.val (.ref a1), .val (.int (Int32.ofNat (2 * i + 1)))] [(.int (((((StrChars.lo8 (cs.getD i 0)) &&& (255 : Int32)) <<< ((0 : Int32) &&& 31)) ||| (((StrChars.hi8 (cs.getD i 0)) &&& (255 : Int32)) <<< ((8 : Int32) &&& 31))).toUInt32.toUInt16.toUInt32.toInt32))])) (fun _ k => XS.i2c X5.here hx rfl (hb hby d_jdk_52_method_5_code_58) rfl k) ?_
  exact goRetI (Q := Pu h0 (fun v => v = some (.int (cs.getD i 0)))) X5 hx (t := .char) hret hlk (congrArg Value.int (narC _)) (by simp) (hb hby d_jdk_52_method_5_code_59) K (by decide) (by decide) e5 (⟨rfl, rfl, congrArg (fun z => some (Value.int z)) (gp16 hbr hi)⟩)
theorem nar16 {cs : List Int32} {i : Nat} (hbr : ∀ c ∈ cs, ¬ c < 0 ∧ ¬ (65535 : Int32) < c) (hi : i < cs.length) : narrow .char (.int (cs.getD i 0)) = .int (cs.getD i 0) := by
  have q := hbr _ (List.getElem_mem hi)
  rw [show cs.getD i 0 = cs[i] by simp [List.getD_eq_getElem?_getD, hi]]
  have h1 := c_i2c cs[i]
  have e1 : (0 : Int32).toInt = 0 := by decide
  have e2 : (65535 : Int32).toInt = 65535 := by decide
  rw [Int32.lt_iff_toInt_lt, Int32.lt_iff_toInt_lt, e1, e2] at q
  exact congrArg Value.int (show cs[i].toUInt32.toUInt16.toUInt32.toInt32 = cs[i] from Int32.toInt_inj.mp (by omega))
theorem ef_rm_ch16 (m : MethodId) (x0 : Addr) (x1 : Int32)  : entryFrame m #[(.ref x0), (.int x1)] 2 = mkF m 0 #[.val (.ref x0), .val (.int x1)] [] := by first | (simp [entryFrame, mkF, argsToLocals, Value.category]; done) | rfl
theorem d_jdk_52_method_83_code_0 : decode jdk_52_method_83_code 0 = .ok (.iload_n 1, 1) := by decide +kernel
theorem d_jdk_52_method_83_code_1 : decode jdk_52_method_83_code 1 = .ok (.aload_n 0, 1) := by decide +kernel
theorem d_jdk_52_method_83_code_2 : decode jdk_52_method_83_code 2 = .ok (.invokestatic 67, 3) := by decide +kernel
theorem pd__I_B_V : parseMethodDescriptor "(I[B)V" = some ⟨[.int, (.array .byte)], none⟩ := by decide +kernel
theorem d_jdk_52_method_83_code_5 : decode jdk_52_method_83_code 5 = .ok (.aload_n 0, 1) := by decide +kernel
theorem d_jdk_52_method_83_code_6 : decode jdk_52_method_83_code 6 = .ok (.iload_n 1, 1) := by decide +kernel
theorem d_jdk_52_method_83_code_7 : decode jdk_52_method_83_code 7 = .ok (.invokestatic 71, 3) := by decide +kernel
theorem pd___BI_C : parseMethodDescriptor "([BI)C" = some ⟨[(.array .byte), .int], some .char⟩ := by decide +kernel
theorem d_jdk_52_method_83_code_10 : decode jdk_52_method_83_code 10 = .ok (.ireturn, 1) := by decide +kernel
set_option maxRecDepth 65536 in
set_option maxHeartbeats 40000000 in
theorem rm_ch16 (l : Launch) (Z : State) (a0 : Array Value) (hw : ∀ d ∈ tables_1, d.before a0 Z = true) (a1 : Addr) (ka : ClassId) (cs : List Int32) (i : Nat) (fm : Value) (h0 : Heap) (V_a1 : Arv Z h0 a1 ka .byte (Int32.ofNat (2 * cs.length)) (StrChars.Road.wideBytes cs) (.int (0 : Int32))) (hl : cs.length ≤ 4000) (hi : i < cs.length) (hbr : ∀ c ∈ cs, ¬ c < 0 ∧ ¬ (65535 : Int32) < c) (Z_ad : Sta Z h0 "java/lang/StringUTF16" "$assertionsDisabled" "Z" (.int (1 : Int32))) (Z_hs : Sta Z h0 "java/lang/StringUTF16" "HI_BYTE_SHIFT" "I" (.int (0 : Int32))) (Z_ls : Sta Z h0 "java/lang/StringUTF16" "LO_BYTE_SHIFT" "I" (.int (8 : Int32))) (Z_fm : Sta Z h0 "jdk/internal/util/Preconditions" "SIOOBE_FORMATTER" "Ljava/util/function/BiFunction;" fm) (hfm : fm.isRef = true) :
    MeetsW l Z (⟨"java/lang/StringUTF16", "charAt", "([BI)C"⟩ : MethodName) jdk_52_method_83_code 2 (some .char) ({ frames := 3, cells := 0, slots := 0, locals := 40 } : Room) #[(.ref a1), (.int (Int32.ofNat i))] h0 (Pu h0 (fun v => v = some (.int (cs.getD i 0)))) := by
  refine MeetsW.of (plainFor_of_name pn_java_lang_StringUTF16) ?_
  intro p e s m below meth c s₁ P hx hby hml hZ hown hnm hret hlk X0 e0 K
  have M0 : Mv h0 h0 [] [] := Mv.refl _ _
  refine Go.cast (ef_rm_ch16 m a1 (Int32.ofNat i) ) ?_
  refine Go.of (T' := s₁) (f' := (mkF m 1 #[.val (.ref a1), .val (.int (Int32.ofNat i))] [(.int (Int32.ofNat i))])) (fun _ k => XS.iloadN X0.here hx rfl (hb hby d_jdk_52_method_83_code_0) rfl k) ?_
  refine Go.of (T' := s₁) (f' := (mkF m 2 #[.val (.ref a1), .val (.int (Int32.ofNat i))] [(.ref a1), (.int (Int32.ofNat i))])) (fun _ k => XS.aloadN X0.here hx rfl (hb hby d_jdk_52_method_83_code_1) rfl rfl k) ?_
  refine goS X0 hx hZ hown (hw _ (List.mem_of_getElem? (i := 135) rfl)) (hw _ (List.mem_of_getElem? (i := 136) rfl)) (hw _ (List.mem_of_getElem? (i := 25) rfl)) (hw _ (List.mem_of_getElem? (i := 137) rfl)) (by decide) (C := 0) (S := 0) ((rm_chk16 l Z a0 hw i a1 ka cs fm h0 V_a1 hl Z_fm hfm hi).bk (W := 0) hZ (hw _ (List.mem_of_getElem? (i := 137) rfl)) (hw _ (List.mem_of_getElem? (i := 25) rfl)) (by decide) (by decide)) e0 (argsL := [(.int (Int32.ofNat i)), (.ref a1)]) (rest := []) (by rw [hml]; rfl) (lenOf pd__I_B_V rfl) rfl rfl (hb hby d_jdk_52_method_83_code_2) (Nat.le_of_eq rfl) (by decide) (by decide) ?_
  intro v1 T1 L1 X1 hQ1
  obtain ⟨nq1, e1, rfl⟩ := hQ1
  replace X1 := standNil X1 nq1
  show Go p e below P T1 (mkF m 5 #[.val (.ref a1), .val (.int (Int32.ofNat i))] [])
  refine Go.of (T' := T1) (f' := (mkF m 6 #[.val (.ref a1), .val (.int (Int32.ofNat i))] [(.ref a1)])) (fun _ k => XS.aloadN X1.here hx rfl (hb hby d_jdk_52_method_83_code_5) rfl rfl k) ?_
  refine Go.of (T' := T1) (f' := (mkF m 7 #[.val (.ref a1), .val (.int (Int32.ofNat i))] [(.int (Int32.ofNat i)), (.ref a1)])) (fun _ k => XS.iloadN X1.here hx rfl (hb hby d_jdk_52_method_83_code_6) rfl k) ?_
  refine goS X1 hx hZ hown (hw _ (List.mem_of_getElem? (i := 129) rfl)) (hw _ (List.mem_of_getElem? (i := 130) rfl)) (hw _ (List.mem_of_getElem? (i := 25) rfl)) (hw _ (List.mem_of_getElem? (i := 131) rfl)) (by decide) (C := 0) (S := 0) ((rm_getChar l Z a0 hw a1 ka cs i h0 V_a1 hl hi hbr Z_ad Z_hs Z_ls).bk (W := 0) hZ (hw _ (List.mem_of_getElem? (i := 131) rfl)) (hw _ (List.mem_of_getElem? (i := 25) rfl)) (by decide) (by decide)) e1 (argsL := [(.ref a1), (.int (Int32.ofNat i))]) (rest := []) (by rw [hml]; rfl) (lenOf pd___BI_C rfl) rfl rfl (hb hby d_jdk_52_method_83_code_7) (Nat.le_of_eq rfl) (by decide) (by decide) ?_
  intro v2 T2 L2 X2 hQ2
  obtain ⟨nq2, e2, rfl⟩ := hQ2
  replace X2 := standNil X2 nq2
  show Go p e below P T2 (mkF m 10 #[.val (.ref a1), .val (.int (Int32.ofNat i))] [(.int (cs.getD i 0))])
  exact goRetI (Q := Pu h0 (fun v => v = some (.int (cs.getD i 0)))) X2 hx (t := .char) hret hlk (nar16 hbr hi) (by simp) (hb hby d_jdk_52_method_83_code_10) K (by decide) (by decide) e2 (⟨rfl, rfl, rfl⟩)
theorem ef_rm_isL (m : MethodId) (x0 : Addr)  : entryFrame m #[(.ref x0)] 1 = mkF m 0 #[.val (.ref x0)] [] := by first | (simp [entryFrame, mkF, argsToLocals, Value.category]; done) | rfl
theorem d_jdk_42_method_154_code_0 : decode jdk_42_method_154_code 0 = .ok (.getstatic 38, 3) := by decide +kernel
theorem d_jdk_42_method_154_code_3 : decode jdk_42_method_154_code 3 = .ok (.ifCond .eq 14, 3) := by decide +kernel
theorem d_jdk_42_method_154_code_6 : decode jdk_42_method_154_code 6 = .ok (.aload_n 0, 1) := by decide +kernel
theorem d_jdk_42_method_154_code_7 : decode jdk_42_method_154_code 7 = .ok (.getfield 15, 3) := by decide +kernel
theorem d_jdk_42_method_154_code_10 : decode jdk_42_method_154_code 10 = .ok (.ifCond .ne 7, 3) := by decide +kernel
theorem d_jdk_42_method_154_code_17 : decode jdk_42_method_154_code 17 = .ok (.iconst 0, 1) := by decide +kernel
theorem d_jdk_42_method_154_code_18 : decode jdk_42_method_154_code 18 = .ok (.ireturn, 1) := by decide +kernel
set_option maxRecDepth 65536 in
set_option maxHeartbeats 40000000 in
theorem rm_isL (l : Launch) (Z : State) (a0 : Array Value) (hw : ∀ d ∈ tables_1, d.before a0 Z = true) (a1 : Addr) (zc : Int32) (h0 : Heap) (F_coder : Fld Z h0 a1 "java/lang/String" "coder" "B" (.int (1 : Int32))) (Z_cs : Sta Z h0 "java/lang/String" "COMPACT_STRINGS" "Z" (.int zc)) (hz : ¬ zc = 0) :
    MeetsW l Z (⟨"java/lang/String", "isLatin1", "()Z"⟩ : MethodName) jdk_42_method_154_code 1 (some .boolean) ({ frames := 0, cells := 0, slots := 0, locals := 0 } : Room) #[(.ref a1)] h0 (Pu h0 (fun v => v = some (.int 0))) := by
  refine MeetsW.of (plainFor_of_name pn_java_lang_String) ?_
  intro p e s m below meth c s₁ P hx hby hml hZ hown hnm hret hlk X0 e0 K
  have M0 : Mv h0 h0 [] [] := Mv.refl _ _
  refine Go.cast (ef_rm_isL m a1 ) ?_
  obtain ⟨T1, X1, e1, st1⟩ := getS2 X0 hx hZ hown (host := "") (Or.inl (hw _ (List.mem_of_getElem? (i := 22) rfl))) Via.refl e0 Z_cs (g := (mkF m 0 #[.val (.ref a1)] [])) rfl (hb hby d_jdk_42_method_154_code_0)
  refine Go.of (T' := T1) (f' := (mkF m 3 #[.val (.ref a1)] [(.int zc)])) st1 ?_
  have hc3 : ¬ (zc = (0 : Int32)) := hz
  refine Go.of (T' := T1) (f' := (mkF m 6 #[.val (.ref a1)] [])) (fun _ k => XS.ifNo X1.here hx rfl (hb hby d_jdk_42_method_154_code_3) rfl ((if0 _ _).trans (feq hc3).1) k) ?_
  refine Go.of (T' := T1) (f' := (mkF m 7 #[.val (.ref a1)] [(.ref a1)])) (fun _ k => XS.aloadN X1.here hx rfl (hb hby d_jdk_42_method_154_code_6) rfl rfl k) ?_
  obtain ⟨T2, X2, e2, st2⟩ := getF X1 hx hZ hown (host := "") (Or.inl (hw _ (List.mem_of_getElem? (i := 34) rfl))) Via.refl e1 F_coder (g := (mkF m 7 #[.val (.ref a1)] [(.ref a1)])) rfl rfl (hb hby d_jdk_42_method_154_code_7)
  refine Go.of (T' := T2) (f' := (mkF m 10 #[.val (.ref a1)] [(.int (1 : Int32))])) st2 ?_
  refine Go.of (T' := T2) (f' := (mkF m 17 #[.val (.ref a1)] [])) (fun _ k => XS.ifYes X2.here hx rfl (pc0 := 10) (pc' := 17) rfl (hb hby d_jdk_42_method_154_code_10) rfl (by decide) (by decide) (by decide) k) ?_
  refine Go.of (T' := T2) (f' := (mkF m 18 #[.val (.ref a1)] [(.int (0 : Int32))])) (fun _ k => XS.iconst X2.here hx rfl (hb hby d_jdk_42_method_154_code_17) k) ?_
  exact goRetI (Q := Pu h0 (fun v => v = some (.int 0))) X2 hx (t := .boolean) hret hlk rfl (by simp) (hb hby d_jdk_42_method_154_code_18) K (by decide) (by decide) e2 (⟨rfl, rfl, rfl⟩)
theorem ef_rm_chW (m : MethodId) (x0 : Addr) (x1 : Int32)  : entryFrame m #[(.ref x0), (.int x1)] 2 = mkF m 0 #[.val (.ref x0), .val (.int x1)] [] := by first | (simp [entryFrame, mkF, argsToLocals, Value.category]; done) | rfl
theorem d_jdk_42_method_56_code_0 : decode jdk_42_method_56_code 0 = .ok (.aload_n 0, 1) := by decide +kernel
theorem d_jdk_42_method_56_code_1 : decode jdk_42_method_56_code 1 = .ok (.invokevirtual 492, 3) := by decide +kernel
theorem pd___Z : parseMethodDescriptor "()Z" = some ⟨[], some .boolean⟩ := by decide +kernel
theorem d_jdk_42_method_56_code_4 : decode jdk_42_method_56_code 4 = .ok (.ifCond .eq 12, 3) := by decide +kernel
theorem d_jdk_42_method_56_code_16 : decode jdk_42_method_56_code 16 = .ok (.aload_n 0, 1) := by decide +kernel
theorem d_jdk_42_method_56_code_17 : decode jdk_42_method_56_code 17 = .ok (.getfield 9, 3) := by decide +kernel
theorem d_jdk_42_method_56_code_20 : decode jdk_42_method_56_code 20 = .ok (.iload_n 1, 1) := by decide +kernel
theorem d_jdk_42_method_56_code_21 : decode jdk_42_method_56_code 21 = .ok (.invokestatic 498, 3) := by decide +kernel
theorem d_jdk_42_method_56_code_24 : decode jdk_42_method_56_code 24 = .ok (.ireturn, 1) := by decide +kernel
set_option maxRecDepth 65536 in
set_option maxHeartbeats 40000000 in
theorem rm_chW (l : Launch) (Z : State) (a0 : Array Value) (hw : ∀ d ∈ tables_1, d.before a0 Z = true) (a0_ a1 : Addr) (ka : ClassId) (cs : List Int32) (i : Nat) (zc : Int32) (fm : Value) (h0 : Heap) (E_a0 : Exa Z h0 a0_ "java/lang/String") (F_value : Fld Z h0 a0_ "java/lang/String" "value" "[B" (.ref a1)) (F_coder : Fld Z h0 a0_ "java/lang/String" "coder" "B" (.int (1 : Int32))) (V_a1 : Arv Z h0 a1 ka .byte (Int32.ofNat (2 * cs.length)) (StrChars.Road.wideBytes cs) (.int (0 : Int32))) (hl : cs.length ≤ 4000) (hi : i < cs.length) (hbr : ∀ c ∈ cs, ¬ c < 0 ∧ ¬ (65535 : Int32) < c) (Z_ad : Sta Z h0 "java/lang/StringUTF16" "$assertionsDisabled" "Z" (.int (1 : Int32))) (Z_hs : Sta Z h0 "java/lang/StringUTF16" "HI_BYTE_SHIFT" "I" (.int (0 : Int32))) (Z_ls : Sta Z h0 "java/lang/StringUTF16" "LO_BYTE_SHIFT" "I" (.int (8 : Int32))) (Z_fm : Sta Z h0 "jdk/internal/util/Preconditions" "SIOOBE_FORMATTER" "Ljava/util/function/BiFunction;" fm) (hfm : fm.isRef = true) (Z_cs : Sta Z h0 "java/lang/String" "COMPACT_STRINGS" "Z" (.int zc)) (hz : ¬ zc = 0) :
    MeetsW l Z (⟨"java/lang/String", "charAt", "(I)C"⟩ : MethodName) jdk_42_method_56_code 2 (some .char) ({ frames := 4, cells := 0, slots := 0, locals := 53 } : Room) #[(.ref a0_), (.int (Int32.ofNat i))] h0 (Pu h0 (fun v => v = some (.int (cs.getD i 0)))) := by
  refine MeetsW.of (plainFor_of_name pn_java_lang_String) ?_
  intro p e s m below meth c s₁ P hx hby hml hZ hown hnm hret hlk X0 e0 K
  have M0 : Mv h0 h0 [] [] := Mv.refl _ _
  refine Go.cast (ef_rm_chW m a0_ (Int32.ofNat i) ) ?_
  refine Go.of (T' := s₁) (f' := (mkF m 1 #[.val (.ref a0_), .val (.int (Int32.ofNat i))] [(.ref a0_)])) (fun _ k => XS.aloadN X0.here hx rfl (hb hby d_jdk_42_method_56_code_0) rfl rfl k) ?_
  refine goV X0 hx hZ (y := (⟨"java/lang/String", "isLatin1", "()Z"⟩ : MethodName)) (z := (⟨"java/lang/String", "isLatin1", "()Z"⟩ : MethodName)) hown (hw _ (List.mem_of_getElem? (i := 69) rfl)) (hw _ (List.mem_of_getElem? (i := 70) rfl)) (notFace_of_selects (args := #[]) (mvT hZ (hw _ (List.mem_of_getElem? (i := 72) rfl)))) (hw _ (List.mem_of_getElem? (i := 72) rfl)) (hw _ (List.mem_of_getElem? (i := 71) rfl)) (by decide) (C := 0) (S := 0) ((rm_isL l Z a0 hw a0_ zc h0 F_coder Z_cs hz).bk (W := 0) hZ (hw _ (List.mem_of_getElem? (i := 73) rfl)) (hw _ (List.mem_of_getElem? (i := 11) rfl)) (by decide) (by decide)) e0 E_a0 (argsL := []) (rest := []) (by rw [hml]; rfl) (lenOf pd___Z rfl) rfl rfl (hb hby d_jdk_42_method_56_code_1) (Nat.le_of_eq rfl) (by decide) (by decide) ?_
  intro v1 T1 L1 X1 hQ1
  obtain ⟨nq1, e1, rfl⟩ := hQ1
  replace X1 := standNil X1 nq1
  show Go p e below P T1 (mkF m 4 #[.val (.ref a0_), .val (.int (Int32.ofNat i))] [(.int (0 : Int32))])
  refine Go.of (T' := T1) (f' := (mkF m 16 #[.val (.ref a0_), .val (.int (Int32.ofNat i))] [])) (fun _ k => XS.ifYes X1.here hx rfl (pc0 := 4) (pc' := 16) rfl (hb hby d_jdk_42_method_56_code_4) rfl (by decide) (by decide) (by decide) k) ?_
  refine Go.of (T' := T1) (f' := (mkF m 17 #[.val (.ref a0_), .val (.int (Int32.ofNat i))] [(.ref a0_)])) (fun _ k => XS.aloadN X1.here hx rfl (hb hby d_jdk_42_method_56_code_16) rfl rfl k) ?_
  obtain ⟨T2, X2, e2, st2⟩ := getF X1 hx hZ hown (host := "") (Or.inl (hw _ (List.mem_of_getElem? (i := 36) rfl))) Via.refl e1 F_value (g := (mkF m 17 #[.val (.ref a0_), .val (.int (Int32.ofNat i))] [(.ref a0_)])) rfl rfl (hb hby d_jdk_42_method_56_code_17)
  refine Go.of (T' := T2) (f' := (mkF m 20 #[.val (.ref a0_), .val (.int (Int32.ofNat i))] [(.ref a1)])) st2 ?_
  refine Go.of (T' := T2) (f' := (mkF m 21 #[.val (.ref a0_), .val (.int (Int32.ofNat i))] [(.int (Int32.ofNat i)), (.ref a1)])) (fun _ k => XS.iloadN X2.here hx rfl (hb hby d_jdk_42_method_56_code_20) rfl k) ?_
  refine goS X2 hx hZ hown (hw _ (List.mem_of_getElem? (i := 132) rfl)) (hw _ (List.mem_of_getElem? (i := 133) rfl)) (hw _ (List.mem_of_getElem? (i := 25) rfl)) (hw _ (List.mem_of_getElem? (i := 134) rfl)) (by decide) (C := 0) (S := 0) ((rm_ch16 l Z a0 hw a1 ka cs i fm h0 V_a1 hl hi hbr Z_ad Z_hs Z_ls Z_fm hfm).bk (W := 0) hZ (hw _ (List.mem_of_getElem? (i := 134) rfl)) (hw _ (List.mem_of_getElem? (i := 25) rfl)) (by decide) (by decide)) e2 (argsL := [(.ref a1), (.int (Int32.ofNat i))]) (rest := []) (by rw [hml]; rfl) (lenOf pd___BI_C rfl) rfl rfl (hb hby d_jdk_42_method_56_code_21) (Nat.le_of_eq rfl) (by decide) (by decide) ?_
  intro v3 T3 L3 X3 hQ3
  obtain ⟨nq3, e3, rfl⟩ := hQ3
  replace X3 := standNil X3 nq3
  show Go p e below P T3 (mkF m 24 #[.val (.ref a0_), .val (.int (Int32.ofNat i))] [(.int (cs.getD i 0))])
  exact goRetI (Q := Pu h0 (fun v => v = some (.int (cs.getD i 0)))) X3 hx (t := .char) hret hlk (nar16 hbr hi) (by simp) (hb hby d_jdk_42_method_56_code_24) K (by decide) (by decide) e3 (⟨rfl, rfl, rfl⟩)
theorem hw_wordsChN {Z : State} {a0 : Array Value} (hw : ∀ d ∈ tables_1, d.before a0 Z = true) : ∀ d ∈ StrChars.Road.wordsChN, d.before a0 Z = true := fun d hd => hw d ((by decide +kernel : ∀ d ∈ StrChars.Road.wordsChN, d ∈ tables_1) d hd)
theorem chAny {p : Program} {l : Launch} {e : Env} {R : Room} {s : State} {args : Array Value} {below : List Frame} {W : Nat} {Z : State} {a0 : Array Value} {h0 : Heap} (hw : ∀ d ∈ tables_1, d.before a0 Z = true) (hZ : Z.Warmed39 s.vm) {x t : Addr} {cs : List Int32} {zc : Int32} {fm : Value} {i : Nat} (F : Str Z h0 x t cs) (hi : i < cs.length) (Z_ad : Sta Z h0 "java/lang/StringUTF16" "$assertionsDisabled" "Z" (.int (1 : Int32))) (Z_hs : Sta Z h0 "java/lang/StringUTF16" "HI_BYTE_SHIFT" "I" (.int (0 : Int32))) (Z_ls : Sta Z h0 "java/lang/StringUTF16" "LO_BYTE_SHIFT" "I" (.int (8 : Int32))) (Z_fm : Sta Z h0 "jdk/internal/util/Preconditions" "SIOOBE_FORMATTER" "Ljava/util/function/BiFunction;" fm) (hfm : fm.isRef = true) (Z_cs : Sta Z h0 "java/lang/String" "COMPACT_STRINGS" "Z" (.int zc)) (hz : ¬ zc = 0) (hfr : 5 ≤ R.frames) (hlo : W + 66 ≤ R.locals) :
    BK l R p e below s args (⟨"java/lang/String", "charAt", "(I)C"⟩ : MethodName) W #[.ref x, .int (Int32.ofNat i)] h0 0 0 (Pu h0 (fun v => v = some (.int (cs.getD i 0)))) := by
  obtain ⟨kb, cd, N, vs, E, V, C, A, g1, g2, g3⟩ := id F
  rcases g1 with ⟨-, -, -, q⟩ | ⟨rfl, rfl, rfl, -⟩
  · exact chStr hZ (hw_wordsChN hw) (hw _ (List.mem_of_getElem? (i := 10) rfl)) F q Z_cs hz Z_fm hfm hi rfl (by omega) (by omega)
  · exact (rm_chW l Z a0 hw x t kb cs i zc fm h0 E V C A g3 hi g2 Z_ad Z_hs Z_ls Z_fm hfm Z_cs hz).bk (W := W) hZ (hw _ (List.mem_of_getElem? (i := 68) rfl)) (hw _ (List.mem_of_getElem? (i := 11) rfl)) (by show 5 ≤ _; omega) (by show W + 13 + 53 ≤ _; omega)
theorem inbS {c : Cell} {k : Int32} {N : Int32} {m : Nat} (S : c.slots.size = N.toNatClampNeg) (hN : N.toNatClampNeg = m) : (¬ (k < 0 ∨ c.slots.size ≤ k.toNatClampNeg)) = (¬ k < 0 ∧ ¬ m ≤ k.toNatClampNeg) := by rw [S, hN]; simp
theorem ef_rm_putChar (m : MethodId) (x0 : Addr) (x1 : Int32) (x2 : Int32)  : entryFrame m #[(.ref x0), (.int x1), (.int x2)] 3 = mkF m 0 #[.val (.ref x0), .val (.int x1), .val (.int x2)] [] := by first | (simp [entryFrame, mkF, argsToLocals, Value.category]; done) | rfl
theorem d_jdk_52_method_4_code_0 : decode jdk_52_method_4_code 0 = .ok (.getstatic 44, 3) := by decide +kernel
theorem d_jdk_52_method_4_code_3 : decode jdk_52_method_4_code 3 = .ok (.ifCond .ne 25, 3) := by decide +kernel
theorem d_jdk_52_method_4_code_28 : decode jdk_52_method_4_code 28 = .ok (.iload_n 1, 1) := by decide +kernel
theorem d_jdk_52_method_4_code_29 : decode jdk_52_method_4_code 29 = .ok (.iconst 1, 1) := by decide +kernel
theorem d_jdk_52_method_4_code_30 : decode jdk_52_method_4_code 30 = .ok (.ishl, 1) := by decide +kernel
theorem d_jdk_52_method_4_code_31 : decode jdk_52_method_4_code 31 = .ok (.istore_n 1, 1) := by decide +kernel
theorem d_jdk_52_method_4_code_32 : decode jdk_52_method_4_code 32 = .ok (.aload_n 0, 1) := by decide +kernel
theorem d_jdk_52_method_4_code_33 : decode jdk_52_method_4_code 33 = .ok (.iload_n 1, 1) := by decide +kernel
theorem d_jdk_52_method_4_code_34 : decode jdk_52_method_4_code 34 = .ok (.iinc 1 1, 3) := by decide +kernel
theorem d_jdk_52_method_4_code_37 : decode jdk_52_method_4_code 37 = .ok (.iload_n 2, 1) := by decide +kernel
theorem d_jdk_52_method_4_code_38 : decode jdk_52_method_4_code 38 = .ok (.getstatic 59, 3) := by decide +kernel
theorem d_jdk_52_method_4_code_41 : decode jdk_52_method_4_code 41 = .ok (.ishr, 1) := by decide +kernel
theorem d_jdk_52_method_4_code_42 : decode jdk_52_method_4_code 42 = .ok (.i2b, 1) := by decide +kernel
theorem d_jdk_52_method_4_code_43 : decode jdk_52_method_4_code 43 = .ok (.bastore, 1) := by decide +kernel
theorem d_jdk_52_method_4_code_44 : decode jdk_52_method_4_code 44 = .ok (.aload_n 0, 1) := by decide +kernel
theorem d_jdk_52_method_4_code_45 : decode jdk_52_method_4_code 45 = .ok (.iload_n 1, 1) := by decide +kernel
theorem d_jdk_52_method_4_code_46 : decode jdk_52_method_4_code 46 = .ok (.iload_n 2, 1) := by decide +kernel
theorem d_jdk_52_method_4_code_47 : decode jdk_52_method_4_code 47 = .ok (.getstatic 63, 3) := by decide +kernel
theorem d_jdk_52_method_4_code_50 : decode jdk_52_method_4_code 50 = .ok (.ishr, 1) := by decide +kernel
theorem d_jdk_52_method_4_code_51 : decode jdk_52_method_4_code 51 = .ok (.i2b, 1) := by decide +kernel
theorem d_jdk_52_method_4_code_52 : decode jdk_52_method_4_code 52 = .ok (.bastore, 1) := by decide +kernel
theorem d_jdk_52_method_4_code_53 : decode jdk_52_method_4_code 53 = .ok (.return_, 1) := by decide +kernel
set_option maxRecDepth 65536 in
set_option maxHeartbeats 40000000 in
theorem rm_putChar (l : Launch) (Z : State) (a0 : Array Value) (hw : ∀ d ∈ tables_1, d.before a0 Z = true) (a1 : Addr) (ka : ClassId) (N : Int32) (vs : List Value) (i : Nat) (p3 : Int32) (h0 : Heap) (V_a1 : Arv Z h0 a1 ka .byte N vs (.int (0 : Int32))) (hN : N.toNatClampNeg = vs.length) (hi : 2 * i + 1 < vs.length) (hl : i ≤ 4000) (Z_ad : Sta Z h0 "java/lang/StringUTF16" "$assertionsDisabled" "Z" (.int (1 : Int32))) (Z_hs : Sta Z h0 "java/lang/StringUTF16" "HI_BYTE_SHIFT" "I" (.int (0 : Int32))) (Z_ls : Sta Z h0 "java/lang/StringUTF16" "LO_BYTE_SHIFT" "I" (.int (8 : Int32))) :
    MeetsW l Z (⟨"java/lang/StringUTF16", "putChar", "([BII)V"⟩ : MethodName) jdk_52_method_4_code 3 none ({ frames := 0, cells := 0, slots := 0, locals := 0 } : Room) #[(.ref a1), (.int (Int32.ofNat i)), (.int p3)] h0 (fun v h L => v = none ∧ Mv h0 h [a1] L ∧ Arv Z h a1 ka .byte N ((vs.set (2 * i) (.int (StrChars.lo8 p3))).set (2 * i + 1) (.int (StrChars.hi8 p3))) (.int (0 : Int32))) := by
  refine MeetsW.of (plainFor_of_name pn_java_lang_StringUTF16) ?_
  intro p e s m below meth c s₁ P hx hby hml hZ hown hnm hret hlk X0 e0 K
  have M0 : Mv h0 h0 [a1] [] := Mv.refl _ _
  refine Go.cast (ef_rm_putChar m a1 (Int32.ofNat i) p3 ) ?_
  obtain ⟨T1, X1, e1, st1⟩ := getS2 X0 hx hZ hown (host := "") (Or.inl (hw _ (List.mem_of_getElem? (i := 126) rfl))) Via.refl e0 Z_ad (g := (mkF m 0 #[.val (.ref a1), .val (.int (Int32.ofNat i)), .val (.int p3)] [])) rfl (hb hby d_jdk_52_method_4_code_0)
  refine Go.of (T' := T1) (f' := (mkF m 3 #[.val (.ref a1), .val (.int (Int32.ofNat i)), .val (.int p3)] [(.int (1 : Int32))])) st1 ?_
  refine Go.of (T' := T1) (f' := (mkF m 28 #[.val (.ref a1), .val (.int (Int32.ofNat i)), .val (.int p3)] [])) (fun _ k => XS.ifYes X1.here hx rfl (pc0 := 3) (pc' := 28) rfl (hb hby d_jdk_52_method_4_code_3) rfl (by decide) (by decide) (by decide) k) ?_
  refine Go.of (T' := T1) (f' := (mkF m 29 #[.val (.ref a1), .val (.int (Int32.ofNat i)), .val (.int p3)] [(.int (Int32.ofNat i))])) (fun _ k => XS.iloadN X1.here hx rfl (hb hby d_jdk_52_method_4_code_28) rfl k) ?_
  refine Go.of (T' := T1) (f' := (mkF m 30 #[.val (.ref a1), .val (.int (Int32.ofNat i)), .val (.int p3)] [(.int (1 : Int32)), (.int (Int32.ofNat i))])) (fun _ k => XS.iconst X1.here hx rfl (hb hby d_jdk_52_method_4_code_29) k) ?_
  refine Go.of (T' := T1) (f' := (mkF m 31 #[.val (.ref a1), .val (.int (Int32.ofNat i)), .val (.int p3)] [(.int ((Int32.ofNat i) <<< ((1 : Int32) &&& 31)))])) (fun _ k => XS.ishl X1.here hx rfl (hb hby d_jdk_52_method_4_code_30) rfl k) ?_
  rw [sh1 (i := i) (by omega)]
  refine Go.of (T' := T1) (f' := (mkF m 32 #[.val (.ref a1), .val (.int (Int32.ofNat (2 * i))), .val (.int p3)] [])) (fun _ k => XS.istoreN X1.here hx rfl (hb hby d_jdk_52_method_4_code_31) rfl (l' := #[.val (.ref a1), .val (.int (Int32.ofNat (2 * i))), .val (.int p3)]) rfl k) ?_
  refine Go.of (T' := T1) (f' := (mkF m 33 #[.val (.ref a1), .val (.int (Int32.ofNat (2 * i))), .val (.int p3)] [(.ref a1)])) (fun _ k => XS.aloadN X1.here hx rfl (hb hby d_jdk_52_method_4_code_32) rfl rfl k) ?_
  refine Go.of (T' := T1) (f' := (mkF m 34 #[.val (.ref a1), .val (.int (Int32.ofNat (2 * i))), .val (.int p3)] [(.int (Int32.ofNat (2 * i))), (.ref a1)])) (fun _ k => XS.iloadN X1.here hx rfl (hb hby d_jdk_52_method_4_code_33) rfl k) ?_
  refine Go.of (T' := T1) (f' := (mkF m 37 #[.val (.ref a1), .val (.int ((Int32.ofNat (2 * i)) + (1 : Int32))), .val (.int p3)] [(.int (Int32.ofNat (2 * i))), (.ref a1)])) (fun _ k => XS.iinc X1.here hx rfl (hb hby d_jdk_52_method_4_code_34) rfl (l' := #[.val (.ref a1), .val (.int ((Int32.ofNat (2 * i)) + (1 : Int32))), .val (.int p3)]) rfl k) ?_
  rw [show (Int32.ofNat (2 * i)) + (1 : Int32) = Int32.ofNat (2 * i + 1) from (Int32.ofNat_add _ 1).symm]
  refine Go.of (T' := T1) (f' := (mkF m 38 #[.val (.ref a1), .val (.int (Int32.ofNat (2 * i + 1))), .val (.int p3)] [(.int p3), (.int (Int32.ofNat (2 * i))), (.ref a1)])) (fun _ k => XS.iloadN X1.here hx rfl (hb hby d_jdk_52_method_4_code_37) rfl k) ?_
  obtain ⟨T2, X2, e2, st2⟩ := getS2 X1 hx hZ hown (host := "") (Or.inl (hw _ (List.mem_of_getElem? (i := 127) rfl))) Via.refl e1 Z_hs (g := (mkF m 38 #[.val (.ref a1), .val (.int (Int32.ofNat (2 * i + 1))), .val (.int p3)] [(.int p3), (.int (Int32.ofNat (2 * i))), (.ref a1)])) rfl (hb hby d_jdk_52_method_4_code_38)
  refine Go.of (T' := T2) (f' := (mkF m 41 #[.val (.ref a1), .val (.int (Int32.ofNat (2 * i + 1))), .val (.int p3)] [(.int (0 : Int32)), (.int p3), (.int (Int32.ofNat (2 * i))), (.ref a1)])) st2 ?_
  refine Go.of (T' := T2) (f' := (mkF m 42 #[.val (.ref a1), .val (.int (Int32.ofNat (2 * i + 1))), .val (.int p3)] [(.int (p3 >>> ((0 : Int32) &&& 31))), (.int (Int32.ofNat (2 * i))), (.ref a1)])) (fun _ k => XS.ishr X2.here hx rfl (hb hby d_jdk_52_method_4_code_41) rfl k) ?_
  refine Go.of (T' := T2) (f' := (mkF m 43 #[.val (.ref a1), .val (.int (Int32.ofNat (2 * i + 1))), .val (.int p3)] [(.int ((p3 >>> ((0 : Int32) &&& 31)).toInt8.toInt32)), (.int (Int32.ofNat (2 * i))), (.ref a1)])) (fun _ k => XS.i2b X2.here hx rfl (hb hby d_jdk_52_method_4_code_42) rfl k) ?_
  obtain ⟨cl3, Ar3, cq3, Sz3, Nn3, Hs3, Gs3⟩ := id V_a1
  have hin3 : ¬ ((Int32.ofNat (2 * i)) < 0 ∨ cl3.slots.size ≤ ((Int32.ofNat (2 * i))).toNatClampNeg) := by rw [inbS Sz3 hN]; exact ⟨nneg (by omega), by rw [nat32 (by omega)]; omega⟩
  obtain ⟨T3, h3, X3, e3, W3, st3⟩ := stB X2 hx hZ e2 Ar3 (j := (Int32.ofNat (2 * i))) hin3 (g := (mkF m 43 #[.val (.ref a1), .val (.int (Int32.ofNat (2 * i + 1))), .val (.int p3)] [(.int ((p3 >>> ((0 : Int32) &&& 31)).toInt8.toInt32)), (.int (Int32.ofNat (2 * i))), (.ref a1)])) rfl rfl (hb hby d_jdk_52_method_4_code_43)
  have fq3 : fits .byte (.int (nar .byte ((p3 >>> ((0 : Int32) &&& 31)).toInt8.toInt32))) = true := fits_nar_byte _
  rw [show nar .byte ((p3 >>> ((0 : Int32) &&& 31)).toInt8.toInt32) = (StrChars.lo8 p3) from (nar_b _).trans (congrArg StrChars.lo8 (StrChars.shr0 p3))] at W3 fq3
  have V3 := Arv.set Ar3 cq3 Sz3 Nn3 Hs3 Gs3 fq3 W3 (2 * i) (nat32 (by omega)) (by exact (by omega))
  have V_a1_o := V_a1
  have K3 := Keep.of_wr W3
  have M3 := M0.wr W3 (Or.inl (List.mem_of_getElem? (i := 0) rfl))
  replace Z_ad := StaKeep Z_ad K3 (allS (staArv V_a1_o) all0)
  replace Z_hs := StaKeep Z_hs K3 (allS (staArv V_a1_o) all0)
  replace Z_ls := StaKeep Z_ls K3 (allS (staArv V_a1_o) all0)
  replace V_a1 := V3
  refine Go.of (T' := T3) (f' := (mkF m 44 #[.val (.ref a1), .val (.int (Int32.ofNat (2 * i + 1))), .val (.int p3)] [])) st3 ?_
  refine Go.of (T' := T3) (f' := (mkF m 45 #[.val (.ref a1), .val (.int (Int32.ofNat (2 * i + 1))), .val (.int p3)] [(.ref a1)])) (fun _ k => XS.aloadN X3.here hx rfl (hb hby d_jdk_52_method_4_code_44) rfl rfl k) ?_
  refine Go.of (T' := T3) (f' := (mkF m 46 #[.val (.ref a1), .val (.int (Int32.ofNat (2 * i + 1))), .val (.int p3)] [(.int (Int32.ofNat (2 * i + 1))), (.ref a1)])) (fun _ k => XS.iloadN X3.here hx rfl (hb hby d_jdk_52_method_4_code_45) rfl k) ?_
  refine Go.of (T' := T3) (f' := (mkF m 47 #[.val (.ref a1), .val (.int (Int32.ofNat (2 * i + 1))), .val (.int p3)] [(.int p3), (.int (Int32.ofNat (2 * i + 1))), (.ref a1)])) (fun _ k => XS.iloadN X3.here hx rfl (hb hby d_jdk_52_method_4_code_46) rfl k) ?_
  obtain ⟨T4, X4, e4, st4⟩ := getS2 X3 hx hZ hown (host := "") (Or.inl (hw _ (List.mem_of_getElem? (i := 128) rfl))) Via.refl e3 Z_ls (g := (mkF m 47 #[.val (.ref a1), .val (.int (Int32.ofNat (2 * i + 1))), .val (.int p3)] [(.int p3), (.int (Int32.ofNat (2 * i + 1))), (.ref a1)])) rfl (hb hby d_jdk_52_method_4_code_47)
  refine Go.of (T' := T4) (f' := (mkF m 50 #[.val (.ref a1), .val (.int (Int32.ofNat (2 * i + 1))), .val (.int p3)] [(.int (8 : Int32)), (.int p3), (.int (Int32.ofNat (2 * i + 1))), (.ref a1)])) st4 ?_
  refine Go.of (T' := T4) (f' := (mkF m 51 #[.val (.ref a1), .val (.int (Int32.ofNat (2 * i + 1))), .val (.int p3)] [(.int (p3 >>> ((8 : Int32) &&& 31))), (.int (Int32.ofNat (2 * i + 1))), (.ref a1)])) (fun _ k => XS.ishr X4.here hx rfl (hb hby d_jdk_52_method_4_code_50) rfl k) ?_
  refine Go.of (T' := T4) (f' := (mkF m 52 #[.val (.ref a1), .val (.int (Int32.ofNat (2 * i + 1))), .val (.int p3)] [(.int ((p3 >>> ((8 : Int32) &&& 31)).toInt8.toInt32)), (.int (Int32.ofNat (2 * i + 1))), (.ref a1)])) (fun _ k => XS.i2b X4.here hx rfl (hb hby d_jdk_52_method_4_code_51) rfl k) ?_
  obtain ⟨cl5, Ar5, cq5, Sz5, Nn5, Hs5, Gs5⟩ := id V_a1
  have hin5 : ¬ ((Int32.ofNat (2 * i + 1)) < 0 ∨ cl5.slots.size ≤ ((Int32.ofNat (2 * i + 1))).toNatClampNeg) := by rw [inbS Sz5 hN]; exact ⟨nneg (by omega), by rw [nat32 (by omega)]; omega⟩
  obtain ⟨T5, h5, X5, e5, W5, st5⟩ := stB X4 hx hZ e4 Ar5 (j := (Int32.ofNat (2 * i + 1))) hin5 (g := (mkF m 52 #[.val (.ref a1), .val (.int (Int32.ofNat (2 * i + 1))), .val (.int p3)] [(.int ((p3 >>> ((8 : Int32) &&& 31)).toInt8.toInt32)), (.int (Int32.ofNat (2 * i + 1))), (.ref a1)])) rfl rfl (hb hby d_jdk_52_method_4_code_52)
  have fq5 : fits .byte (.int (nar .byte ((p3 >>> ((8 : Int32) &&& 31)).toInt8.toInt32))) = true := fits_nar_byte _
  rw [show nar .byte ((p3 >>> ((8 : Int32) &&& 31)).toInt8.toInt32) = (StrChars.hi8 p3) from nar_b _] at W5 fq5
  have V5 := Arv.set Ar5 cq5 Sz5 Nn5 Hs5 Gs5 fq5 W5 (2 * i + 1) (nat32 (by omega)) (by rw [List.length_set]; exact hi)
  have V_a1_o := V_a1
  have K5 := Keep.of_wr W5
  have M5 := M3.wr W5 (Or.inl (List.mem_of_getElem? (i := 0) rfl))
  replace Z_ad := StaKeep Z_ad K5 (allS (staArv V_a1_o) all0)
  replace Z_hs := StaKeep Z_hs K5 (allS (staArv V_a1_o) all0)
  replace Z_ls := StaKeep Z_ls K5 (allS (staArv V_a1_o) all0)
  replace V_a1 := V5
  refine Go.of (T' := T5) (f' := (mkF m 53 #[.val (.ref a1), .val (.int (Int32.ofNat (2 * i + 1))), .val (.int p3)] [])) st5 ?_
  exact goRet0 (Q := fun v h L => v = none ∧ Mv h0 h [a1] L ∧ Arv Z h a1 ka .byte N ((vs.set (2 * i) (.int (StrChars.lo8 p3))).set (2 * i + 1) (.int (StrChars.hi8 p3))) (.int (0 : Int32))) X5 hx hret hlk (hb hby d_jdk_52_method_4_code_53) K (by decide) (by decide) e5 (⟨rfl, M5, V_a1⟩)
def Hi (c : Int32) : Prop := ¬ c < (55296 : Int32) ∧ c < (56320 : Int32)
def Lo (c : Int32) : Prop := ¬ c < (56320 : Int32) ∧ c < (57344 : Int32)
def Sur (c : Int32) : Prop := ¬ c < (55296 : Int32) ∧ c < (57344 : Int32)
def Bmp (c : Int32) : Prop := ¬ c = (0 : Int32) ∧ ¬ Sur c ∧ ¬ c < 0 ∧ ¬ (65535 : Int32) < c
instance (c : Int32) : Decidable (Hi c) := by unfold Hi; infer_instance
instance (c : Int32) : Decidable (Lo c) := by unfold Lo; infer_instance
instance (c : Int32) : Decidable (Sur c) := by unfold Sur; infer_instance
instance (c : Int32) : Decidable (Bmp c) := by unfold Bmp; infer_instance
def Wf : List Int32 → Prop
  | [] => True
  | [c] => Bmp c
  | c :: d :: r => (Hi c ∧ Lo d ∧ Wf r) ∨ (Bmp c ∧ Wf (d :: r))
theorem hi_num {c : Int32} (h : Hi c) : 55296 ≤ c.toInt ∧ c.toInt < 56320 := by
  have e1 : (55296 : Int32).toInt = 55296 := by decide
  have e2 : (56320 : Int32).toInt = 56320 := by decide
  unfold Hi at h
  rw [Int32.lt_iff_toInt_lt, Int32.lt_iff_toInt_lt, e1, e2] at h; omega
theorem hi_sur {c : Int32} (h : Hi c) : Sur c := by
  have q := hi_num h
  have e1 : (55296 : Int32).toInt = 55296 := by decide
  have e3 : (57344 : Int32).toInt = 57344 := by decide
  unfold Sur
  rw [Int32.lt_iff_toInt_lt, Int32.lt_iff_toInt_lt, e1, e3]; omega
theorem lo_num {c : Int32} (h : Lo c) : 56320 ≤ c.toInt ∧ c.toInt < 57344 := by
  have e1 : (57344 : Int32).toInt = 57344 := by decide
  have e2 : (56320 : Int32).toInt = 56320 := by decide
  unfold Lo at h
  rw [Int32.lt_iff_toInt_lt, Int32.lt_iff_toInt_lt, e1, e2] at h; omega
theorem rng {c : Int32} (h0 : 0 ≤ c.toInt) (h1 : c.toInt < 65536) : ¬ c < 0 ∧ ¬ (65535 : Int32) < c := by
  have e0 : (0 : Int32).toInt = 0 := by decide
  have e1 : (65535 : Int32).toInt = 65535 := by decide
  rw [Int32.lt_iff_toInt_lt, Int32.lt_iff_toInt_lt, e0, e1]; omega
theorem hi_rng {c : Int32} (h : Hi c) : ¬ c < 0 ∧ ¬ (65535 : Int32) < c := by have := hi_num h; exact rng (by omega) (by omega)
theorem lo_rng {c : Int32} (h : Lo c) : ¬ c < 0 ∧ ¬ (65535 : Int32) < c := by have := lo_num h; exact rng (by omega) (by omega)
theorem bmp_rng {c : Int32} (h : Bmp c) : ¬ c < 0 ∧ ¬ (65535 : Int32) < c := h.2.2
theorem hi_n0 {c : Int32} (h : Hi c) : ¬ c = (0 : Int32) := fun q => by
  have r := hi_num h
  rw [q] at r
  have e : (0 : Int32).toInt = 0 := by decide
  omega
theorem wfStep {cs : List Int32} {i : Nat} (hi : i < cs.length) (h : Wf (cs.drop i)) : (Hi (cs.getD i 0) ∧ i + 1 < cs.length ∧ Lo (cs.getD (i + 1) 0) ∧ Wf (cs.drop (i + 2))) ∨ (Bmp (cs.getD i 0) ∧ Wf (cs.drop (i + 1))) := by
  have e : cs.getD i 0 = cs[i] := by simp [List.getD_eq_getElem?_getD, hi]
  rw [List.drop_eq_getElem_cons hi] at h
  rw [e]
  by_cases hj : i + 1 < cs.length
  · have e1 : cs.getD (i + 1) 0 = cs[i + 1] := by simp [List.getD_eq_getElem?_getD, hj]
    rw [List.drop_eq_getElem_cons hj] at h
    rw [e1]
    rcases h with ⟨h1, h2, h3⟩ | ⟨h1, h2⟩
    · exact Or.inl ⟨h1, hj, h2, h3⟩
    · refine Or.inr ⟨h1, ?_⟩
      rw [List.drop_eq_getElem_cons hj]; exact h2
  · have e2 : cs.drop (i + 1) = [] := List.drop_eq_nil_of_le (by omega)
    rw [e2] at h ⊢
    exact Or.inr ⟨h, trivial⟩
theorem wfHi {cs : List Int32} {i : Nat} (hst : (Hi (cs.getD i 0) ∧ i + 1 < cs.length ∧ Lo (cs.getD (i + 1) 0) ∧ Wf (cs.drop (i + 2))) ∨ (Bmp (cs.getD i 0) ∧ Wf (cs.drop (i + 1)))) (h : Hi (cs.getD i 0)) : i + 1 < cs.length ∧ Lo (cs.getD (i + 1) 0) ∧ Wf (cs.drop (i + 2)) := by
  rcases hst with q | q
  · exact q.2
  · exact absurd (hi_sur h) q.1.2.1
theorem wfBmp {cs : List Int32} {i : Nat} (hst : (Hi (cs.getD i 0) ∧ i + 1 < cs.length ∧ Lo (cs.getD (i + 1) 0) ∧ Wf (cs.drop (i + 2))) ∨ (Bmp (cs.getD i 0) ∧ Wf (cs.drop (i + 1)))) (h : ¬ Hi (cs.getD i 0)) : Bmp (cs.getD i 0) ∧ Wf (cs.drop (i + 1)) := by
  rcases hst with q | q
  · exact absurd q.1 h
  · exact q
theorem wfN0 {cs : List Int32} {i : Nat} (hst : (Hi (cs.getD i 0) ∧ i + 1 < cs.length ∧ Lo (cs.getD (i + 1) 0) ∧ Wf (cs.drop (i + 2))) ∨ (Bmp (cs.getD i 0) ∧ Wf (cs.drop (i + 1)))) : ¬ (cs.getD i 0) = (0 : Int32) := by
  rcases hst with q | q
  · exact hi_n0 q.1
  · exact q.1.1
def Cnt (cn : Int32) (i : Nat) : Prop := 0 ≤ cn.toInt ∧ cn.toInt ≤ 4 * i
theorem cnt_le {cn : Int32} {i : Nat} (h : Cnt cn i) (hi : i ≤ 60) : ¬ (250 : Int32) < cn := by
  have e : (250 : Int32).toInt = 250 := by decide
  rw [Int32.lt_iff_toInt_lt, e]; have := h.2; omega
theorem cnt_leM (cn : Int32) : ¬ (2147483647 : Int32) < cn := by
  have e : (2147483647 : Int32).toInt = 2147483647 := by decide
  have := Int32.toInt_lt cn
  rw [Int32.lt_iff_toInt_lt, e]; omega
theorem cnt0 : Cnt 0 0 := by unfold Cnt; decide
theorem cnt_add {cn k : Int32} {i j : Nat} (h : Cnt cn i) (hi : i ≤ 60) (h0 : 0 ≤ k.toInt) (h1 : k.toInt ≤ 4 * j) (hj : j ≤ 2) : Cnt (cn + k) (i + j) := by
  unfold Cnt at *
  have q := c_iadd cn k
  have b := Int32.toInt_lt (cn + k)
  have b' := Int32.le_toInt (cn + k)
  omega
theorem cnt4 {cn : Int32} {i : Nat} (h : Cnt cn i) (hi : i ≤ 60) : Cnt (cn + (4 : Int32)) (i + 2) := cnt_add h hi (by decide) (by decide) (by decide)

theorem pn_java_lang_Character : plainName "java/lang/Character" = true := by first | (simp [plainName, overriddenIn]; done) | decide +kernel
theorem ef_rm_isHi (m : MethodId) (x0 : Int32)  : entryFrame m #[(.int x0)] 1 = mkF m 0 #[.val (.int x0)] [] := by first | (simp [entryFrame, mkF, argsToLocals, Value.category]; done) | rfl
theorem d_jdk_89_method_14_code_0 : decode jdk_89_method_14_code 0 = .ok (.iload_n 0, 1) := by decide +kernel
theorem d_jdk_89_method_14_code_1 : decode jdk_89_method_14_code 1 = .ok (.ldc 75, 2) := by decide +kernel
theorem d_jdk_89_method_14_code_3 : decode jdk_89_method_14_code 3 = .ok (.if_icmp .lt 13, 3) := by decide +kernel
theorem d_jdk_89_method_14_code_16 : decode jdk_89_method_14_code 16 = .ok (.iconst 0, 1) := by decide +kernel
theorem d_jdk_89_method_14_code_17 : decode jdk_89_method_14_code 17 = .ok (.ireturn, 1) := by decide +kernel
theorem d_jdk_89_method_14_code_6 : decode jdk_89_method_14_code 6 = .ok (.iload_n 0, 1) := by decide +kernel
theorem d_jdk_89_method_14_code_7 : decode jdk_89_method_14_code 7 = .ok (.ldc 76, 2) := by decide +kernel
theorem d_jdk_89_method_14_code_9 : decode jdk_89_method_14_code 9 = .ok (.if_icmp .ge 7, 3) := by decide +kernel
theorem d_jdk_89_method_14_code_12 : decode jdk_89_method_14_code 12 = .ok (.iconst 1, 1) := by decide +kernel
theorem d_jdk_89_method_14_code_13 : decode jdk_89_method_14_code 13 = .ok (.goto 4, 3) := by decide +kernel
set_option maxRecDepth 65536 in
set_option maxHeartbeats 40000000 in
theorem rm_isHi (l : Launch) (Z : State) (a0 : Array Value) (hw : ∀ d ∈ tables_1, d.before a0 Z = true) (p1 : Int32) (h0 : Heap)  :
    MeetsW l Z (⟨"java/lang/Character", "isHighSurrogate", "(C)Z"⟩ : MethodName) jdk_89_method_14_code 1 (some .boolean) ({ frames := 0, cells := 0, slots := 0, locals := 0 } : Room) #[(.int p1)] h0 (Pu h0 (fun v => v = some (.int (bi (Hi p1))))) := by
  refine MeetsW.of (plainFor_of_name pn_java_lang_Character) ?_
  intro p e s m below meth c s₁ P hx hby hml hZ hown hnm hret hlk X0 e0 K
  have M0 : Mv h0 h0 [] [] := Mv.refl _ _
  refine Go.cast (ef_rm_isHi m p1 ) ?_
  refine Go.of (T' := s₁) (f' := (mkF m 1 #[.val (.int p1)] [(.int p1)])) (fun _ k => XS.iloadN X0.here hx rfl (hb hby d_jdk_89_method_14_code_0) rfl k) ?_
  refine Go.of (T' := s₁) (f' := (mkF m 3 #[.val (.int p1)] [(.int (55296 : Int32)), (.int p1)])) (fun _ k => X0.ldcInt hx hown (mvT hZ (hw _ (List.mem_of_getElem? (i := 90) rfl))) (g := (mkF m 1 #[.val (.int p1)] [(.int p1)])) rfl (hb hby d_jdk_89_method_14_code_1) _ k) ?_
  by_cases hc3 : p1 < (55296 : Int32)
  ·
    refine Go.of (T' := s₁) (f' := (mkF m 16 #[.val (.int p1)] [])) (fun _ k => XS.icmpYes X0.here hx rfl (pc0 := 3) (pc' := 16) rfl (hb hby d_jdk_89_method_14_code_3) rfl (tlt hc3).1 (by decide) (by decide) k) ?_
    refine Go.of (T' := s₁) (f' := (mkF m 17 #[.val (.int p1)] [(.int (0 : Int32))])) (fun _ k => XS.iconst X0.here hx rfl (hb hby d_jdk_89_method_14_code_16) k) ?_
    exact goRetI (Q := Pu h0 (fun v => v = some (.int (bi (Hi p1))))) X0 hx (t := .boolean) hret hlk rfl (by simp) (hb hby d_jdk_89_method_14_code_17) K (by decide) (by decide) e0 (⟨rfl, rfl, by rw [bi_f (by rintro ⟨h1, h2⟩; first | exact h1 hc3 | exact hc9 h2)]⟩)
  ·
    refine Go.of (T' := s₁) (f' := (mkF m 6 #[.val (.int p1)] [])) (fun _ k => XS.icmpNo X0.here hx rfl (hb hby d_jdk_89_method_14_code_3) rfl (flt hc3).1 k) ?_
    refine Go.of (T' := s₁) (f' := (mkF m 7 #[.val (.int p1)] [(.int p1)])) (fun _ k => XS.iloadN X0.here hx rfl (hb hby d_jdk_89_method_14_code_6) rfl k) ?_
    refine Go.of (T' := s₁) (f' := (mkF m 9 #[.val (.int p1)] [(.int (56320 : Int32)), (.int p1)])) (fun _ k => X0.ldcInt hx hown (mvT hZ (hw _ (List.mem_of_getElem? (i := 142) rfl))) (g := (mkF m 7 #[.val (.int p1)] [(.int p1)])) rfl (hb hby d_jdk_89_method_14_code_7) _ k) ?_
    by_cases hc9 : p1 < (56320 : Int32)
    ·
      refine Go.of (T' := s₁) (f' := (mkF m 12 #[.val (.int p1)] [])) (fun _ k => XS.icmpNo X0.here hx rfl (hb hby d_jdk_89_method_14_code_9) rfl (tlt hc9).2.1 k) ?_
      refine Go.of (T' := s₁) (f' := (mkF m 13 #[.val (.int p1)] [(.int (1 : Int32))])) (fun _ k => XS.iconst X0.here hx rfl (hb hby d_jdk_89_method_14_code_12) k) ?_
      refine Go.of (T' := s₁) (f' := (mkF m 17 #[.val (.int p1)] [(.int (1 : Int32))])) (fun _ k => XS.goto X0.here hx rfl (pc0 := 13) (pc' := 17) rfl (hb hby d_jdk_89_method_14_code_13) (by decide) (by decide) k) ?_
      exact goRetI (Q := Pu h0 (fun v => v = some (.int (bi (Hi p1))))) X0 hx (t := .boolean) hret hlk rfl (by simp) (hb hby d_jdk_89_method_14_code_17) K (by decide) (by decide) e0 (⟨rfl, rfl, by rw [bi_t ⟨hc3, hc9⟩]⟩)
    ·
      refine Go.of (T' := s₁) (f' := (mkF m 16 #[.val (.int p1)] [])) (fun _ k => XS.icmpYes X0.here hx rfl (pc0 := 9) (pc' := 16) rfl (hb hby d_jdk_89_method_14_code_9) rfl (flt hc9).2.1 (by decide) (by decide) k) ?_
      refine Go.of (T' := s₁) (f' := (mkF m 17 #[.val (.int p1)] [(.int (0 : Int32))])) (fun _ k => XS.iconst X0.here hx rfl (hb hby d_jdk_89_method_14_code_16) k) ?_
      exact goRetI (Q := Pu h0 (fun v => v = some (.int (bi (Hi p1))))) X0 hx (t := .boolean) hret hlk rfl (by simp) (hb hby d_jdk_89_method_14_code_17) K (by decide) (by decide) e0 (⟨rfl, rfl, by rw [bi_f (by rintro ⟨h1, h2⟩; first | exact h1 hc3 | exact hc9 h2)]⟩)
theorem ef_rm_isLo (m : MethodId) (x0 : Int32)  : entryFrame m #[(.int x0)] 1 = mkF m 0 #[.val (.int x0)] [] := by first | (simp [entryFrame, mkF, argsToLocals, Value.category]; done) | rfl
theorem d_jdk_89_method_15_code_0 : decode jdk_89_method_15_code 0 = .ok (.iload_n 0, 1) := by decide +kernel
theorem d_jdk_89_method_15_code_1 : decode jdk_89_method_15_code 1 = .ok (.ldc 76, 2) := by decide +kernel
theorem d_jdk_89_method_15_code_3 : decode jdk_89_method_15_code 3 = .ok (.if_icmp .lt 13, 3) := by decide +kernel
theorem d_jdk_89_method_15_code_16 : decode jdk_89_method_15_code 16 = .ok (.iconst 0, 1) := by decide +kernel
theorem d_jdk_89_method_15_code_17 : decode jdk_89_method_15_code 17 = .ok (.ireturn, 1) := by decide +kernel
theorem d_jdk_89_method_15_code_6 : decode jdk_89_method_15_code 6 = .ok (.iload_n 0, 1) := by decide +kernel
theorem d_jdk_89_method_15_code_7 : decode jdk_89_method_15_code 7 = .ok (.ldc 77, 2) := by decide +kernel
theorem d_jdk_89_method_15_code_9 : decode jdk_89_method_15_code 9 = .ok (.if_icmp .ge 7, 3) := by decide +kernel
theorem d_jdk_89_method_15_code_12 : decode jdk_89_method_15_code 12 = .ok (.iconst 1, 1) := by decide +kernel
theorem d_jdk_89_method_15_code_13 : decode jdk_89_method_15_code 13 = .ok (.goto 4, 3) := by decide +kernel
set_option maxRecDepth 65536 in
set_option maxHeartbeats 40000000 in
theorem rm_isLo (l : Launch) (Z : State) (a0 : Array Value) (hw : ∀ d ∈ tables_1, d.before a0 Z = true) (p1 : Int32) (h0 : Heap)  :
    MeetsW l Z (⟨"java/lang/Character", "isLowSurrogate", "(C)Z"⟩ : MethodName) jdk_89_method_15_code 1 (some .boolean) ({ frames := 0, cells := 0, slots := 0, locals := 0 } : Room) #[(.int p1)] h0 (Pu h0 (fun v => v = some (.int (bi (Lo p1))))) := by
  refine MeetsW.of (plainFor_of_name pn_java_lang_Character) ?_
  intro p e s m below meth c s₁ P hx hby hml hZ hown hnm hret hlk X0 e0 K
  have M0 : Mv h0 h0 [] [] := Mv.refl _ _
  refine Go.cast (ef_rm_isLo m p1 ) ?_
  refine Go.of (T' := s₁) (f' := (mkF m 1 #[.val (.int p1)] [(.int p1)])) (fun _ k => XS.iloadN X0.here hx rfl (hb hby d_jdk_89_method_15_code_0) rfl k) ?_
  refine Go.of (T' := s₁) (f' := (mkF m 3 #[.val (.int p1)] [(.int (56320 : Int32)), (.int p1)])) (fun _ k => X0.ldcInt hx hown (mvT hZ (hw _ (List.mem_of_getElem? (i := 142) rfl))) (g := (mkF m 1 #[.val (.int p1)] [(.int p1)])) rfl (hb hby d_jdk_89_method_15_code_1) _ k) ?_
  by_cases hc3 : p1 < (56320 : Int32)
  ·
    refine Go.of (T' := s₁) (f' := (mkF m 16 #[.val (.int p1)] [])) (fun _ k => XS.icmpYes X0.here hx rfl (pc0 := 3) (pc' := 16) rfl (hb hby d_jdk_89_method_15_code_3) rfl (tlt hc3).1 (by decide) (by decide) k) ?_
    refine Go.of (T' := s₁) (f' := (mkF m 17 #[.val (.int p1)] [(.int (0 : Int32))])) (fun _ k => XS.iconst X0.here hx rfl (hb hby d_jdk_89_method_15_code_16) k) ?_
    exact goRetI (Q := Pu h0 (fun v => v = some (.int (bi (Lo p1))))) X0 hx (t := .boolean) hret hlk rfl (by simp) (hb hby d_jdk_89_method_15_code_17) K (by decide) (by decide) e0 (⟨rfl, rfl, by rw [bi_f (by rintro ⟨h1, h2⟩; first | exact h1 hc3 | exact hc9 h2)]⟩)
  ·
    refine Go.of (T' := s₁) (f' := (mkF m 6 #[.val (.int p1)] [])) (fun _ k => XS.icmpNo X0.here hx rfl (hb hby d_jdk_89_method_15_code_3) rfl (flt hc3).1 k) ?_
    refine Go.of (T' := s₁) (f' := (mkF m 7 #[.val (.int p1)] [(.int p1)])) (fun _ k => XS.iloadN X0.here hx rfl (hb hby d_jdk_89_method_15_code_6) rfl k) ?_
    refine Go.of (T' := s₁) (f' := (mkF m 9 #[.val (.int p1)] [(.int (57344 : Int32)), (.int p1)])) (fun _ k => X0.ldcInt hx hown (mvT hZ (hw _ (List.mem_of_getElem? (i := 146) rfl))) (g := (mkF m 7 #[.val (.int p1)] [(.int p1)])) rfl (hb hby d_jdk_89_method_15_code_7) _ k) ?_
    by_cases hc9 : p1 < (57344 : Int32)
    ·
      refine Go.of (T' := s₁) (f' := (mkF m 12 #[.val (.int p1)] [])) (fun _ k => XS.icmpNo X0.here hx rfl (hb hby d_jdk_89_method_15_code_9) rfl (tlt hc9).2.1 k) ?_
      refine Go.of (T' := s₁) (f' := (mkF m 13 #[.val (.int p1)] [(.int (1 : Int32))])) (fun _ k => XS.iconst X0.here hx rfl (hb hby d_jdk_89_method_15_code_12) k) ?_
      refine Go.of (T' := s₁) (f' := (mkF m 17 #[.val (.int p1)] [(.int (1 : Int32))])) (fun _ k => XS.goto X0.here hx rfl (pc0 := 13) (pc' := 17) rfl (hb hby d_jdk_89_method_15_code_13) (by decide) (by decide) k) ?_
      exact goRetI (Q := Pu h0 (fun v => v = some (.int (bi (Lo p1))))) X0 hx (t := .boolean) hret hlk rfl (by simp) (hb hby d_jdk_89_method_15_code_17) K (by decide) (by decide) e0 (⟨rfl, rfl, by rw [bi_t ⟨hc3, hc9⟩]⟩)
    ·
      refine Go.of (T' := s₁) (f' := (mkF m 16 #[.val (.int p1)] [])) (fun _ k => XS.icmpYes X0.here hx rfl (pc0 := 9) (pc' := 16) rfl (hb hby d_jdk_89_method_15_code_9) rfl (flt hc9).2.1 (by decide) (by decide) k) ?_
      refine Go.of (T' := s₁) (f' := (mkF m 17 #[.val (.int p1)] [(.int (0 : Int32))])) (fun _ k => XS.iconst X0.here hx rfl (hb hby d_jdk_89_method_15_code_16) k) ?_
      exact goRetI (Q := Pu h0 (fun v => v = some (.int (bi (Lo p1))))) X0 hx (t := .boolean) hret hlk rfl (by simp) (hb hby d_jdk_89_method_15_code_17) K (by decide) (by decide) e0 (⟨rfl, rfl, by rw [bi_f (by rintro ⟨h1, h2⟩; first | exact h1 hc3 | exact hc9 h2)]⟩)
theorem ef_rm_isSur (m : MethodId) (x0 : Int32)  : entryFrame m #[(.int x0)] 1 = mkF m 0 #[.val (.int x0)] [] := by first | (simp [entryFrame, mkF, argsToLocals, Value.category]; done) | rfl
theorem d_jdk_89_method_16_code_0 : decode jdk_89_method_16_code 0 = .ok (.iload_n 0, 1) := by decide +kernel
theorem d_jdk_89_method_16_code_1 : decode jdk_89_method_16_code 1 = .ok (.ldc 75, 2) := by decide +kernel
theorem d_jdk_89_method_16_code_3 : decode jdk_89_method_16_code 3 = .ok (.if_icmp .lt 13, 3) := by decide +kernel
theorem d_jdk_89_method_16_code_16 : decode jdk_89_method_16_code 16 = .ok (.iconst 0, 1) := by decide +kernel
theorem d_jdk_89_method_16_code_17 : decode jdk_89_method_16_code 17 = .ok (.ireturn, 1) := by decide +kernel
theorem d_jdk_89_method_16_code_6 : decode jdk_89_method_16_code 6 = .ok (.iload_n 0, 1) := by decide +kernel
theorem d_jdk_89_method_16_code_7 : decode jdk_89_method_16_code 7 = .ok (.ldc 77, 2) := by decide +kernel
theorem d_jdk_89_method_16_code_9 : decode jdk_89_method_16_code 9 = .ok (.if_icmp .ge 7, 3) := by decide +kernel
theorem d_jdk_89_method_16_code_12 : decode jdk_89_method_16_code 12 = .ok (.iconst 1, 1) := by decide +kernel
theorem d_jdk_89_method_16_code_13 : decode jdk_89_method_16_code 13 = .ok (.goto 4, 3) := by decide +kernel
set_option maxRecDepth 65536 in
set_option maxHeartbeats 40000000 in
theorem rm_isSur (l : Launch) (Z : State) (a0 : Array Value) (hw : ∀ d ∈ tables_1, d.before a0 Z = true) (p1 : Int32) (h0 : Heap)  :
    MeetsW l Z (⟨"java/lang/Character", "isSurrogate", "(C)Z"⟩ : MethodName) jdk_89_method_16_code 1 (some .boolean) ({ frames := 0, cells := 0, slots := 0, locals := 0 } : Room) #[(.int p1)] h0 (Pu h0 (fun v => v = some (.int (bi (Sur p1))))) := by
  refine MeetsW.of (plainFor_of_name pn_java_lang_Character) ?_
  intro p e s m below meth c s₁ P hx hby hml hZ hown hnm hret hlk X0 e0 K
  have M0 : Mv h0 h0 [] [] := Mv.refl _ _
  refine Go.cast (ef_rm_isSur m p1 ) ?_
  refine Go.of (T' := s₁) (f' := (mkF m 1 #[.val (.int p1)] [(.int p1)])) (fun _ k => XS.iloadN X0.here hx rfl (hb hby d_jdk_89_method_16_code_0) rfl k) ?_
  refine Go.of (T' := s₁) (f' := (mkF m 3 #[.val (.int p1)] [(.int (55296 : Int32)), (.int p1)])) (fun _ k => X0.ldcInt hx hown (mvT hZ (hw _ (List.mem_of_getElem? (i := 90) rfl))) (g := (mkF m 1 #[.val (.int p1)] [(.int p1)])) rfl (hb hby d_jdk_89_method_16_code_1) _ k) ?_
  by_cases hc3 : p1 < (55296 : Int32)
  ·
    refine Go.of (T' := s₁) (f' := (mkF m 16 #[.val (.int p1)] [])) (fun _ k => XS.icmpYes X0.here hx rfl (pc0 := 3) (pc' := 16) rfl (hb hby d_jdk_89_method_16_code_3) rfl (tlt hc3).1 (by decide) (by decide) k) ?_
    refine Go.of (T' := s₁) (f' := (mkF m 17 #[.val (.int p1)] [(.int (0 : Int32))])) (fun _ k => XS.iconst X0.here hx rfl (hb hby d_jdk_89_method_16_code_16) k) ?_
    exact goRetI (Q := Pu h0 (fun v => v = some (.int (bi (Sur p1))))) X0 hx (t := .boolean) hret hlk rfl (by simp) (hb hby d_jdk_89_method_16_code_17) K (by decide) (by decide) e0 (⟨rfl, rfl, by rw [bi_f (by rintro ⟨h1, h2⟩; first | exact h1 hc3 | exact hc9 h2)]⟩)
  ·
    refine Go.of (T' := s₁) (f' := (mkF m 6 #[.val (.int p1)] [])) (fun _ k => XS.icmpNo X0.here hx rfl (hb hby d_jdk_89_method_16_code_3) rfl (flt hc3).1 k) ?_
    refine Go.of (T' := s₁) (f' := (mkF m 7 #[.val (.int p1)] [(.int p1)])) (fun _ k => XS.iloadN X0.here hx rfl (hb hby d_jdk_89_method_16_code_6) rfl k) ?_
    refine Go.of (T' := s₁) (f' := (mkF m 9 #[.val (.int p1)] [(.int (57344 : Int32)), (.int p1)])) (fun _ k => X0.ldcInt hx hown (mvT hZ (hw _ (List.mem_of_getElem? (i := 146) rfl))) (g := (mkF m 7 #[.val (.int p1)] [(.int p1)])) rfl (hb hby d_jdk_89_method_16_code_7) _ k) ?_
    by_cases hc9 : p1 < (57344 : Int32)
    ·
      refine Go.of (T' := s₁) (f' := (mkF m 12 #[.val (.int p1)] [])) (fun _ k => XS.icmpNo X0.here hx rfl (hb hby d_jdk_89_method_16_code_9) rfl (tlt hc9).2.1 k) ?_
      refine Go.of (T' := s₁) (f' := (mkF m 13 #[.val (.int p1)] [(.int (1 : Int32))])) (fun _ k => XS.iconst X0.here hx rfl (hb hby d_jdk_89_method_16_code_12) k) ?_
      refine Go.of (T' := s₁) (f' := (mkF m 17 #[.val (.int p1)] [(.int (1 : Int32))])) (fun _ k => XS.goto X0.here hx rfl (pc0 := 13) (pc' := 17) rfl (hb hby d_jdk_89_method_16_code_13) (by decide) (by decide) k) ?_
      exact goRetI (Q := Pu h0 (fun v => v = some (.int (bi (Sur p1))))) X0 hx (t := .boolean) hret hlk rfl (by simp) (hb hby d_jdk_89_method_16_code_17) K (by decide) (by decide) e0 (⟨rfl, rfl, by rw [bi_t ⟨hc3, hc9⟩]⟩)
    ·
      refine Go.of (T' := s₁) (f' := (mkF m 16 #[.val (.int p1)] [])) (fun _ k => XS.icmpYes X0.here hx rfl (pc0 := 9) (pc' := 16) rfl (hb hby d_jdk_89_method_16_code_9) rfl (flt hc9).2.1 (by decide) (by decide) k) ?_
      refine Go.of (T' := s₁) (f' := (mkF m 17 #[.val (.int p1)] [(.int (0 : Int32))])) (fun _ k => XS.iconst X0.here hx rfl (hb hby d_jdk_89_method_16_code_16) k) ?_
      exact goRetI (Q := Pu h0 (fun v => v = some (.int (bi (Sur p1))))) X0 hx (t := .boolean) hret hlk rfl (by simp) (hb hby d_jdk_89_method_16_code_17) K (by decide) (by decide) e0 (⟨rfl, rfl, by rw [bi_f (by rintro ⟨h1, h2⟩; first | exact h1 hc3 | exact hc9 h2)]⟩)
theorem pn_com_example_dozor_dozor_Names : plainName "com/example/dozor/dozor/Names" = true := by first | (simp [plainName, overriddenIn]; done) | decide +kernel
theorem ef_rm_u8 (m : MethodId) (x0 : Int32)  : entryFrame m #[(.int x0)] 2 = mkF m 0 #[.val (.int x0), .unset] [] := by first | (simp [entryFrame, mkF, argsToLocals, Value.category]; done) | rfl
theorem d_prog_13_method_8_code_0 : decode prog_13_method_8_code 0 = .ok (.iload_n 0, 1) := by decide +kernel
theorem d_prog_13_method_8_code_1 : decode prog_13_method_8_code 1 = .ok (.sipush 128, 3) := by decide +kernel
theorem d_prog_13_method_8_code_4 : decode prog_13_method_8_code 4 = .ok (.if_icmp .ge 8, 3) := by decide +kernel
theorem d_prog_13_method_8_code_7 : decode prog_13_method_8_code 7 = .ok (.iconst 1, 1) := by decide +kernel
theorem d_prog_13_method_8_code_8 : decode prog_13_method_8_code 8 = .ok (.istore_n 1, 1) := by decide +kernel
theorem d_prog_13_method_8_code_9 : decode prog_13_method_8_code 9 = .ok (.goto 17, 3) := by decide +kernel
theorem d_prog_13_method_8_code_26 : decode prog_13_method_8_code 26 = .ok (.iload_n 1, 1) := by decide +kernel
theorem d_prog_13_method_8_code_27 : decode prog_13_method_8_code 27 = .ok (.ireturn, 1) := by decide +kernel
theorem d_prog_13_method_8_code_12 : decode prog_13_method_8_code 12 = .ok (.iload_n 0, 1) := by decide +kernel
theorem d_prog_13_method_8_code_13 : decode prog_13_method_8_code 13 = .ok (.sipush 2048, 3) := by decide +kernel
theorem d_prog_13_method_8_code_16 : decode prog_13_method_8_code 16 = .ok (.if_icmp .ge 8, 3) := by decide +kernel
theorem d_prog_13_method_8_code_19 : decode prog_13_method_8_code 19 = .ok (.iconst 2, 1) := by decide +kernel
theorem d_prog_13_method_8_code_20 : decode prog_13_method_8_code 20 = .ok (.istore_n 1, 1) := by decide +kernel
theorem d_prog_13_method_8_code_21 : decode prog_13_method_8_code 21 = .ok (.goto 5, 3) := by decide +kernel
theorem d_prog_13_method_8_code_24 : decode prog_13_method_8_code 24 = .ok (.iconst 3, 1) := by decide +kernel
theorem d_prog_13_method_8_code_25 : decode prog_13_method_8_code 25 = .ok (.istore_n 1, 1) := by decide +kernel
set_option maxRecDepth 65536 in
set_option maxHeartbeats 40000000 in
theorem rm_u8 (l : Launch) (Z : State) (a0 : Array Value) (hw : ∀ d ∈ tables_1, d.before a0 Z = true) (p1 : Int32) (h0 : Heap)  :
    MeetsW l Z (⟨"com/example/dozor/dozor/Names", "utf8Length", "(C)I"⟩ : MethodName) prog_13_method_8_code 2 (some .int) ({ frames := 0, cells := 0, slots := 0, locals := 0 } : Room) #[(.int p1)] h0 (Pu h0 (fun v => ∃ k : Int32, v = some (.int k) ∧ 0 ≤ k.toInt ∧ k.toInt ≤ 4)) := by
  refine MeetsW.of (plainFor_of_name pn_com_example_dozor_dozor_Names) ?_
  intro p e s m below meth c s₁ P hx hby hml hZ hown hnm hret hlk X0 e0 K
  have M0 : Mv h0 h0 [] [] := Mv.refl _ _
  refine Go.cast (ef_rm_u8 m p1 ) ?_
  refine Go.of (T' := s₁) (f' := (mkF m 1 #[.val (.int p1), .unset] [(.int p1)])) (fun _ k => XS.iloadN X0.here hx rfl (hb hby d_prog_13_method_8_code_0) rfl k) ?_
  refine Go.of (T' := s₁) (f' := (mkF m 4 #[.val (.int p1), .unset] [(.int (128 : Int32)), (.int p1)])) (fun _ k => XS.sipush X0.here hx rfl (hb hby d_prog_13_method_8_code_1) k) ?_
  by_cases hc4 : p1 < (128 : Int32)
  ·
    refine Go.of (T' := s₁) (f' := (mkF m 7 #[.val (.int p1), .unset] [])) (fun _ k => XS.icmpNo X0.here hx rfl (hb hby d_prog_13_method_8_code_4) rfl (tlt hc4).2.1 k) ?_
    refine Go.of (T' := s₁) (f' := (mkF m 8 #[.val (.int p1), .unset] [(.int (1 : Int32))])) (fun _ k => XS.iconst X0.here hx rfl (hb hby d_prog_13_method_8_code_7) k) ?_
    refine Go.of (T' := s₁) (f' := (mkF m 9 #[.val (.int p1), .val (.int (1 : Int32))] [])) (fun _ k => XS.istoreN X0.here hx rfl (hb hby d_prog_13_method_8_code_8) rfl (l' := #[.val (.int p1), .val (.int (1 : Int32))]) rfl k) ?_
    refine Go.of (T' := s₁) (f' := (mkF m 26 #[.val (.int p1), .val (.int (1 : Int32))] [])) (fun _ k => XS.goto X0.here hx rfl (pc0 := 9) (pc' := 26) rfl (hb hby d_prog_13_method_8_code_9) (by decide) (by decide) k) ?_
    refine Go.of (T' := s₁) (f' := (mkF m 27 #[.val (.int p1), .val (.int (1 : Int32))] [(.int (1 : Int32))])) (fun _ k => XS.iloadN X0.here hx rfl (hb hby d_prog_13_method_8_code_26) rfl k) ?_
    exact goRetI (Q := Pu h0 (fun v => ∃ k : Int32, v = some (.int k) ∧ 0 ≤ k.toInt ∧ k.toInt ≤ 4)) X0 hx (t := .int) hret hlk rfl (by simp) (hb hby d_prog_13_method_8_code_27) K (by decide) (by decide) e0 (⟨rfl, rfl, _, rfl, by decide, by decide⟩)
  ·
    refine Go.of (T' := s₁) (f' := (mkF m 12 #[.val (.int p1), .unset] [])) (fun _ k => XS.icmpYes X0.here hx rfl (pc0 := 4) (pc' := 12) rfl (hb hby d_prog_13_method_8_code_4) rfl (flt hc4).2.1 (by decide) (by decide) k) ?_
    refine Go.of (T' := s₁) (f' := (mkF m 13 #[.val (.int p1), .unset] [(.int p1)])) (fun _ k => XS.iloadN X0.here hx rfl (hb hby d_prog_13_method_8_code_12) rfl k) ?_
    refine Go.of (T' := s₁) (f' := (mkF m 16 #[.val (.int p1), .unset] [(.int (2048 : Int32)), (.int p1)])) (fun _ k => XS.sipush X0.here hx rfl (hb hby d_prog_13_method_8_code_13) k) ?_
    by_cases hc16 : p1 < (2048 : Int32)
    ·
      refine Go.of (T' := s₁) (f' := (mkF m 19 #[.val (.int p1), .unset] [])) (fun _ k => XS.icmpNo X0.here hx rfl (hb hby d_prog_13_method_8_code_16) rfl (tlt hc16).2.1 k) ?_
      refine Go.of (T' := s₁) (f' := (mkF m 20 #[.val (.int p1), .unset] [(.int (2 : Int32))])) (fun _ k => XS.iconst X0.here hx rfl (hb hby d_prog_13_method_8_code_19) k) ?_
      refine Go.of (T' := s₁) (f' := (mkF m 21 #[.val (.int p1), .val (.int (2 : Int32))] [])) (fun _ k => XS.istoreN X0.here hx rfl (hb hby d_prog_13_method_8_code_20) rfl (l' := #[.val (.int p1), .val (.int (2 : Int32))]) rfl k) ?_
      refine Go.of (T' := s₁) (f' := (mkF m 26 #[.val (.int p1), .val (.int (2 : Int32))] [])) (fun _ k => XS.goto X0.here hx rfl (pc0 := 21) (pc' := 26) rfl (hb hby d_prog_13_method_8_code_21) (by decide) (by decide) k) ?_
      refine Go.of (T' := s₁) (f' := (mkF m 27 #[.val (.int p1), .val (.int (2 : Int32))] [(.int (2 : Int32))])) (fun _ k => XS.iloadN X0.here hx rfl (hb hby d_prog_13_method_8_code_26) rfl k) ?_
      exact goRetI (Q := Pu h0 (fun v => ∃ k : Int32, v = some (.int k) ∧ 0 ≤ k.toInt ∧ k.toInt ≤ 4)) X0 hx (t := .int) hret hlk rfl (by simp) (hb hby d_prog_13_method_8_code_27) K (by decide) (by decide) e0 (⟨rfl, rfl, _, rfl, by decide, by decide⟩)
    ·
      refine Go.of (T' := s₁) (f' := (mkF m 24 #[.val (.int p1), .unset] [])) (fun _ k => XS.icmpYes X0.here hx rfl (pc0 := 16) (pc' := 24) rfl (hb hby d_prog_13_method_8_code_16) rfl (flt hc16).2.1 (by decide) (by decide) k) ?_
      refine Go.of (T' := s₁) (f' := (mkF m 25 #[.val (.int p1), .unset] [(.int (3 : Int32))])) (fun _ k => XS.iconst X0.here hx rfl (hb hby d_prog_13_method_8_code_24) k) ?_
      refine Go.of (T' := s₁) (f' := (mkF m 26 #[.val (.int p1), .val (.int (3 : Int32))] [])) (fun _ k => XS.istoreN X0.here hx rfl (hb hby d_prog_13_method_8_code_25) rfl (l' := #[.val (.int p1), .val (.int (3 : Int32))]) rfl k) ?_
      refine Go.of (T' := s₁) (f' := (mkF m 27 #[.val (.int p1), .val (.int (3 : Int32))] [(.int (3 : Int32))])) (fun _ k => XS.iloadN X0.here hx rfl (hb hby d_prog_13_method_8_code_26) rfl k) ?_
      exact goRetI (Q := Pu h0 (fun v => ∃ k : Int32, v = some (.int k) ∧ 0 ≤ k.toInt ∧ k.toInt ≤ 4)) X0 hx (t := .int) hret hlk rfl (by simp) (hb hby d_prog_13_method_8_code_27) K (by decide) (by decide) e0 (⟨rfl, rfl, _, rfl, by decide, by decide⟩)
theorem ef_rm_text (m : MethodId) (x0 : Addr) (x1 : Addr) (x2 : Int32)  : entryFrame m #[(.ref x0), (.ref x1), (.int x2)] 6 = mkF m 0 #[.val (.ref x0), .val (.ref x1), .val (.int x2), .unset, .unset, .unset] [] := by first | (simp [entryFrame, mkF, argsToLocals, Value.category]; done) | rfl
theorem d_prog_13_method_6_code_0 : decode prog_13_method_6_code 0 = .ok (.iconst 0, 1) := by decide +kernel
theorem d_prog_13_method_6_code_1 : decode prog_13_method_6_code 1 = .ok (.istore_n 3, 1) := by decide +kernel
theorem d_prog_13_method_6_code_2 : decode prog_13_method_6_code 2 = .ok (.iconst 0, 1) := by decide +kernel
theorem d_prog_13_method_6_code_3 : decode prog_13_method_6_code 3 = .ok (.istore 4, 2) := by decide +kernel
theorem d_prog_13_method_6_code_5 : decode prog_13_method_6_code 5 = .ok (.iload 4, 2) := by decide +kernel
theorem d_prog_13_method_6_code_7 : decode prog_13_method_6_code 7 = .ok (.aload_n 0, 1) := by decide +kernel
theorem d_prog_13_method_6_code_8 : decode prog_13_method_6_code 8 = .ok (.invokevirtual 20, 3) := by decide +kernel
theorem hw_wordsLen {Z : State} {a0 : Array Value} (hw : ∀ d ∈ tables_1, d.before a0 Z = true) : ∀ d ∈ StrChars.Road.wordsLen, d.before a0 Z = true := fun d hd => hw d ((by decide +kernel : ∀ d ∈ StrChars.Road.wordsLen, d ∈ tables_1) d hd)
theorem pd___I : parseMethodDescriptor "()I" = some ⟨[], some .int⟩ := by decide +kernel
theorem d_prog_13_method_6_code_11 : decode prog_13_method_6_code 11 = .ok (.if_icmp .ge 115, 3) := by decide +kernel
theorem d_prog_13_method_6_code_126 : decode prog_13_method_6_code 126 = .ok (.iload_n 3, 1) := by decide +kernel
theorem d_prog_13_method_6_code_127 : decode prog_13_method_6_code 127 = .ok (.ireturn, 1) := by decide +kernel
theorem d_prog_13_method_6_code_14 : decode prog_13_method_6_code 14 = .ok (.iload_n 3, 1) := by decide +kernel
theorem d_prog_13_method_6_code_15 : decode prog_13_method_6_code 15 = .ok (.iload_n 2, 1) := by decide +kernel
theorem d_prog_13_method_6_code_16 : decode prog_13_method_6_code 16 = .ok (.if_icmp .gt 110, 3) := by decide +kernel
theorem d_prog_13_method_6_code_19 : decode prog_13_method_6_code 19 = .ok (.aload_n 0, 1) := by decide +kernel
theorem d_prog_13_method_6_code_20 : decode prog_13_method_6_code 20 = .ok (.iload 4, 2) := by decide +kernel
theorem d_prog_13_method_6_code_22 : decode prog_13_method_6_code 22 = .ok (.invokevirtual 30, 3) := by decide +kernel
theorem pd__I_C : parseMethodDescriptor "(I)C" = some ⟨[.int], some .char⟩ := by decide +kernel
theorem d_prog_13_method_6_code_25 : decode prog_13_method_6_code 25 = .ok (.istore 5, 2) := by decide +kernel
theorem d_prog_13_method_6_code_27 : decode prog_13_method_6_code 27 = .ok (.iload 5, 2) := by decide +kernel
theorem d_prog_13_method_6_code_29 : decode prog_13_method_6_code 29 = .ok (.ifCond .ne 17, 3) := by decide +kernel
theorem d_prog_13_method_6_code_46 : decode prog_13_method_6_code 46 = .ok (.iload 5, 2) := by decide +kernel
theorem d_prog_13_method_6_code_48 : decode prog_13_method_6_code 48 = .ok (.invokestatic 72, 3) := by decide +kernel
theorem pd__C_Z : parseMethodDescriptor "(C)Z" = some ⟨[.char], some .boolean⟩ := by decide +kernel
theorem d_prog_13_method_6_code_51 : decode prog_13_method_6_code 51 = .ok (.ifCond .eq 37, 3) := by decide +kernel
theorem d_prog_13_method_6_code_54 : decode prog_13_method_6_code 54 = .ok (.iload 4, 2) := by decide +kernel
theorem d_prog_13_method_6_code_56 : decode prog_13_method_6_code 56 = .ok (.iconst 1, 1) := by decide +kernel
theorem d_prog_13_method_6_code_57 : decode prog_13_method_6_code 57 = .ok (.iadd, 1) := by decide +kernel
theorem d_prog_13_method_6_code_58 : decode prog_13_method_6_code 58 = .ok (.aload_n 0, 1) := by decide +kernel
theorem d_prog_13_method_6_code_59 : decode prog_13_method_6_code 59 = .ok (.invokevirtual 20, 3) := by decide +kernel
theorem d_prog_13_method_6_code_62 : decode prog_13_method_6_code 62 = .ok (.if_icmp .ge 26, 3) := by decide +kernel
theorem d_prog_13_method_6_code_65 : decode prog_13_method_6_code 65 = .ok (.aload_n 0, 1) := by decide +kernel
theorem d_prog_13_method_6_code_66 : decode prog_13_method_6_code 66 = .ok (.iload 4, 2) := by decide +kernel
theorem d_prog_13_method_6_code_68 : decode prog_13_method_6_code 68 = .ok (.iconst 1, 1) := by decide +kernel
theorem d_prog_13_method_6_code_69 : decode prog_13_method_6_code 69 = .ok (.iadd, 1) := by decide +kernel
theorem d_prog_13_method_6_code_70 : decode prog_13_method_6_code 70 = .ok (.invokevirtual 30, 3) := by decide +kernel
theorem d_prog_13_method_6_code_73 : decode prog_13_method_6_code 73 = .ok (.invokestatic 77, 3) := by decide +kernel
theorem d_prog_13_method_6_code_76 : decode prog_13_method_6_code 76 = .ok (.ifCond .eq 12, 3) := by decide +kernel
theorem d_prog_13_method_6_code_79 : decode prog_13_method_6_code 79 = .ok (.iinc 3 4, 3) := by decide +kernel
theorem d_prog_13_method_6_code_82 : decode prog_13_method_6_code 82 = .ok (.iinc 4 2, 3) := by decide +kernel
theorem d_prog_13_method_6_code_85 : decode prog_13_method_6_code 85 = .ok (.goto 38, 3) := by decide +kernel
theorem d_prog_13_method_6_code_123 : decode prog_13_method_6_code 123 = .ok (.goto (-118), 3) := by decide +kernel
theorem d_prog_13_method_6_code_88 : decode prog_13_method_6_code 88 = .ok (.iload 5, 2) := by decide +kernel
theorem d_prog_13_method_6_code_90 : decode prog_13_method_6_code 90 = .ok (.invokestatic 80, 3) := by decide +kernel
theorem d_prog_13_method_6_code_93 : decode prog_13_method_6_code 93 = .ok (.ifCond .eq 19, 3) := by decide +kernel
theorem d_prog_13_method_6_code_112 : decode prog_13_method_6_code 112 = .ok (.iload_n 3, 1) := by decide +kernel
theorem d_prog_13_method_6_code_113 : decode prog_13_method_6_code 113 = .ok (.iload 5, 2) := by decide +kernel
theorem d_prog_13_method_6_code_115 : decode prog_13_method_6_code 115 = .ok (.invokestatic 86, 3) := by decide +kernel
theorem pd__C_I : parseMethodDescriptor "(C)I" = some ⟨[.char], some .int⟩ := by decide +kernel
theorem d_prog_13_method_6_code_118 : decode prog_13_method_6_code 118 = .ok (.iadd, 1) := by decide +kernel
theorem d_prog_13_method_6_code_119 : decode prog_13_method_6_code 119 = .ok (.istore_n 3, 1) := by decide +kernel
theorem d_prog_13_method_6_code_120 : decode prog_13_method_6_code 120 = .ok (.iinc 4 1, 3) := by decide +kernel
set_option maxRecDepth 65536 in
set_option maxHeartbeats 40000000 in
theorem rm_text (l : Launch) (Z : State) (a0 : Array Value) (hw : ∀ d ∈ tables_1, d.before a0 Z = true) (a1 a2 t1 : Addr) (cs : List Int32) (zc : Int32) (fm : Value) (h0 : Heap) (S_a1 : Str Z h0 a1 t1 cs) (hlen : cs.length ≤ 60) (hwf : Wf cs) (Z_ad : Sta Z h0 "java/lang/StringUTF16" "$assertionsDisabled" "Z" (.int (1 : Int32))) (Z_hs : Sta Z h0 "java/lang/StringUTF16" "HI_BYTE_SHIFT" "I" (.int (0 : Int32))) (Z_ls : Sta Z h0 "java/lang/StringUTF16" "LO_BYTE_SHIFT" "I" (.int (8 : Int32))) (Z_fm : Sta Z h0 "jdk/internal/util/Preconditions" "SIOOBE_FORMATTER" "Ljava/util/function/BiFunction;" fm) (hfm : fm.isRef = true) (Z_cs : Sta Z h0 "java/lang/String" "COMPACT_STRINGS" "Z" (.int zc)) (hz : ¬ zc = 0) :
    MeetsW l Z (⟨"com/example/dozor/dozor/Names", "requireText", "(Ljava/lang/String;Ljava/lang/String;I)I"⟩ : MethodName) prog_13_method_6_code 6 (some .int) ({ frames := 5, cells := 0, slots := 0, locals := 66 } : Room) #[(.ref a1), (.ref a2), (.int (2147483647 : Int32))] h0 (Pu h0 (fun v => ∃ z : Int32, v = some (.int z) ∧ ¬ (2147483647 : Int32) < z)) := by
  refine MeetsW.of (plainFor_of_name pn_com_example_dozor_dozor_Names) ?_
  intro p e s m below meth c s₁ P hx hby hml hZ hown hnm hret hlk X0 e0 K
  have M0 : Mv h0 h0 [] [] := Mv.refl _ _
  refine Go.cast (ef_rm_text m a1 a2 (2147483647 : Int32) ) ?_
  refine Go.of (T' := s₁) (f' := (mkF m 1 #[.val (.ref a1), .val (.ref a2), .val (.int (2147483647 : Int32)), .unset, .unset, .unset] [(.int (0 : Int32))])) (fun _ k => XS.iconst X0.here hx rfl (hb hby d_prog_13_method_6_code_0) k) ?_
  refine Go.of (T' := s₁) (f' := (mkF m 2 #[.val (.ref a1), .val (.ref a2), .val (.int (2147483647 : Int32)), .val (.int (0 : Int32)), .unset, .unset] [])) (fun _ k => XS.istoreN X0.here hx rfl (hb hby d_prog_13_method_6_code_1) rfl (l' := #[.val (.ref a1), .val (.ref a2), .val (.int (2147483647 : Int32)), .val (.int (0 : Int32)), .unset, .unset]) rfl k) ?_
  refine Go.of (T' := s₁) (f' := (mkF m 3 #[.val (.ref a1), .val (.ref a2), .val (.int (2147483647 : Int32)), .val (.int (0 : Int32)), .unset, .unset] [(.int (0 : Int32))])) (fun _ k => XS.iconst X0.here hx rfl (hb hby d_prog_13_method_6_code_2) k) ?_
  refine Go.of (T' := s₁) (f' := (mkF m 5 #[.val (.ref a1), .val (.ref a2), .val (.int (2147483647 : Int32)), .val (.int (0 : Int32)), .val (.int (0 : Int32)), .unset] [])) (fun _ k => XS.istore X0.here hx rfl (hb hby d_prog_13_method_6_code_3) rfl (l' := #[.val (.ref a1), .val (.ref a2), .val (.int (2147483647 : Int32)), .val (.int (0 : Int32)), .val (.int (0 : Int32)), .unset]) rfl k) ?_
  show Go p e below P s₁ (mkF m 5 #[.val (.ref a1), .val (.ref a2), .val (.int (2147483647 : Int32)), .val (.int (0 : Int32)), .val (.int (Int32.ofNat 0)), .unset] [])
  have J : ∀ (n i : Nat) (cn cj : Int32) (Tj : State), cs.length ≤ i + n → i ≤ cs.length → Wf (cs.drop i) → Cnt cn i → Stand p l e ({ frames := 5, cells := 0, slots := 0, locals := 66 } : Room) s m #[(.ref a1), (.ref a2), (.int (2147483647 : Int32))] below meth c Tj [] 0 0 → Tj.heap = h0 → Go p e below P Tj (mkF m 5 #[.val (.ref a1), .val (.ref a2), .val (.int (2147483647 : Int32)), .val (.int cn), .val (.int (Int32.ofNat i)), .val (.int cj)] []) := by
    intro n
    induction n with
    | zero =>
      intro i cn cj Tj hle hi1 hW hcn Xj ej
      refine Go.of (T' := Tj) (f' := (mkF m 7 #[.val (.ref a1), .val (.ref a2), .val (.int (2147483647 : Int32)), .val (.int cn), .val (.int (Int32.ofNat i)), .val (.int cj)] [(.int (Int32.ofNat i))])) (fun _ k => XS.iload Xj.here hx rfl (hb hby d_prog_13_method_6_code_5) rfl k) ?_
      refine Go.of (T' := Tj) (f' := (mkF m 8 #[.val (.ref a1), .val (.ref a2), .val (.int (2147483647 : Int32)), .val (.int cn), .val (.int (Int32.ofNat i)), .val (.int cj)] [(.ref a1), (.int (Int32.ofNat i))])) (fun _ k => XS.aloadN Xj.here hx rfl (hb hby d_prog_13_method_6_code_7) rfl rfl k) ?_
      refine goV Xj hx hZ (y := (⟨"java/lang/String", "length", "()I"⟩ : MethodName)) (z := (⟨"java/lang/String", "length", "()I"⟩ : MethodName)) hown (hw _ (List.mem_of_getElem? (i := 47) rfl)) (hw _ (List.mem_of_getElem? (i := 48) rfl)) (notFace_of_selects (args := #[]) (mvT hZ (hw _ (List.mem_of_getElem? (i := 50) rfl)))) (hw _ (List.mem_of_getElem? (i := 50) rfl)) (hw _ (List.mem_of_getElem? (i := 49) rfl)) (by decide) (C := 0) (S := 0) (lenStr (W := 1) hZ (hw_wordsLen hw) (hw _ (List.mem_of_getElem? (i := 10) rfl)) S_a1 Z_cs hz (by decide) (by decide)) ej S_a1.exa (argsL := []) (rest := [(.int (Int32.ofNat i))]) (by rw [hml]; rfl) (lenOf pd___I rfl) rfl rfl (hb hby d_prog_13_method_6_code_8) (Nat.le_of_eq rfl) (by decide) (by decide) ?_
      intro v1 T1 L1 X1 hQ1
      obtain ⟨nq1, e1, rfl⟩ := hQ1
      replace X1 := standNil X1 nq1
      show Go p e below P T1 (mkF m 11 #[.val (.ref a1), .val (.ref a2), .val (.int (2147483647 : Int32)), .val (.int cn), .val (.int (Int32.ofNat i)), .val (.int cj)] [(.int (Int32.ofNat cs.length)), (.int (Int32.ofNat i))])
      have hc11 : ¬ ((Int32.ofNat i) < (Int32.ofNat cs.length)) := fun q => by have q := (ltN (by omega) (by omega)).mp q; omega
      refine Go.of (T' := T1) (f' := (mkF m 126 #[.val (.ref a1), .val (.ref a2), .val (.int (2147483647 : Int32)), .val (.int cn), .val (.int (Int32.ofNat i)), .val (.int cj)] [])) (fun _ k => XS.icmpYes X1.here hx rfl (pc0 := 11) (pc' := 126) rfl (hb hby d_prog_13_method_6_code_11) rfl (flt hc11).2.1 (by decide) (by decide) k) ?_
      refine Go.of (T' := T1) (f' := (mkF m 127 #[.val (.ref a1), .val (.ref a2), .val (.int (2147483647 : Int32)), .val (.int cn), .val (.int (Int32.ofNat i)), .val (.int cj)] [(.int cn)])) (fun _ k => XS.iloadN X1.here hx rfl (hb hby d_prog_13_method_6_code_126) rfl k) ?_
      exact goRetI (Q := Pu h0 (fun v => ∃ z : Int32, v = some (.int z) ∧ ¬ (2147483647 : Int32) < z)) X1 hx (t := .int) hret hlk rfl (by simp) (hb hby d_prog_13_method_6_code_127) K (by decide) (by decide) e1 (⟨rfl, rfl, _, rfl, cnt_leM _⟩)
    | succ n ih =>
      intro i cn cj Tj hle hi1 hW hcn Xj ej
      refine Go.of (T' := Tj) (f' := (mkF m 7 #[.val (.ref a1), .val (.ref a2), .val (.int (2147483647 : Int32)), .val (.int cn), .val (.int (Int32.ofNat i)), .val (.int cj)] [(.int (Int32.ofNat i))])) (fun _ k => XS.iload Xj.here hx rfl (hb hby d_prog_13_method_6_code_5) rfl k) ?_
      refine Go.of (T' := Tj) (f' := (mkF m 8 #[.val (.ref a1), .val (.ref a2), .val (.int (2147483647 : Int32)), .val (.int cn), .val (.int (Int32.ofNat i)), .val (.int cj)] [(.ref a1), (.int (Int32.ofNat i))])) (fun _ k => XS.aloadN Xj.here hx rfl (hb hby d_prog_13_method_6_code_7) rfl rfl k) ?_
      refine goV Xj hx hZ (y := (⟨"java/lang/String", "length", "()I"⟩ : MethodName)) (z := (⟨"java/lang/String", "length", "()I"⟩ : MethodName)) hown (hw _ (List.mem_of_getElem? (i := 47) rfl)) (hw _ (List.mem_of_getElem? (i := 48) rfl)) (notFace_of_selects (args := #[]) (mvT hZ (hw _ (List.mem_of_getElem? (i := 50) rfl)))) (hw _ (List.mem_of_getElem? (i := 50) rfl)) (hw _ (List.mem_of_getElem? (i := 49) rfl)) (by decide) (C := 0) (S := 0) (lenStr (W := 1) hZ (hw_wordsLen hw) (hw _ (List.mem_of_getElem? (i := 10) rfl)) S_a1 Z_cs hz (by decide) (by decide)) ej S_a1.exa (argsL := []) (rest := [(.int (Int32.ofNat i))]) (by rw [hml]; rfl) (lenOf pd___I rfl) rfl rfl (hb hby d_prog_13_method_6_code_8) (Nat.le_of_eq rfl) (by decide) (by decide) ?_
      intro v2 T2 L2 X2 hQ2
      obtain ⟨nq2, e2, rfl⟩ := hQ2
      replace X2 := standNil X2 nq2
      show Go p e below P T2 (mkF m 11 #[.val (.ref a1), .val (.ref a2), .val (.int (2147483647 : Int32)), .val (.int cn), .val (.int (Int32.ofNat i)), .val (.int cj)] [(.int (Int32.ofNat cs.length)), (.int (Int32.ofNat i))])
      by_cases hc11 : (Int32.ofNat i) < (Int32.ofNat cs.length)
      ·
        refine Go.of (T' := T2) (f' := (mkF m 14 #[.val (.ref a1), .val (.ref a2), .val (.int (2147483647 : Int32)), .val (.int cn), .val (.int (Int32.ofNat i)), .val (.int cj)] [])) (fun _ k => XS.icmpNo X2.here hx rfl (hb hby d_prog_13_method_6_code_11) rfl (tlt hc11).2.1 k) ?_
        have hi : i < cs.length := (ltN (by omega) (by omega)).mp hc11
        have hst := wfStep hi hW
        refine Go.of (T' := T2) (f' := (mkF m 15 #[.val (.ref a1), .val (.ref a2), .val (.int (2147483647 : Int32)), .val (.int cn), .val (.int (Int32.ofNat i)), .val (.int cj)] [(.int cn)])) (fun _ k => XS.iloadN X2.here hx rfl (hb hby d_prog_13_method_6_code_14) rfl k) ?_
        refine Go.of (T' := T2) (f' := (mkF m 16 #[.val (.ref a1), .val (.ref a2), .val (.int (2147483647 : Int32)), .val (.int cn), .val (.int (Int32.ofNat i)), .val (.int cj)] [(.int (2147483647 : Int32)), (.int cn)])) (fun _ k => XS.iloadN X2.here hx rfl (hb hby d_prog_13_method_6_code_15) rfl k) ?_
        have hc16 : ¬ ((2147483647 : Int32) < cn) := cnt_leM _
        refine Go.of (T' := T2) (f' := (mkF m 19 #[.val (.ref a1), .val (.ref a2), .val (.int (2147483647 : Int32)), .val (.int cn), .val (.int (Int32.ofNat i)), .val (.int cj)] [])) (fun _ k => XS.icmpNo X2.here hx rfl (hb hby d_prog_13_method_6_code_16) rfl (flt hc16).2.2.1 k) ?_
        refine Go.of (T' := T2) (f' := (mkF m 20 #[.val (.ref a1), .val (.ref a2), .val (.int (2147483647 : Int32)), .val (.int cn), .val (.int (Int32.ofNat i)), .val (.int cj)] [(.ref a1)])) (fun _ k => XS.aloadN X2.here hx rfl (hb hby d_prog_13_method_6_code_19) rfl rfl k) ?_
        refine Go.of (T' := T2) (f' := (mkF m 22 #[.val (.ref a1), .val (.ref a2), .val (.int (2147483647 : Int32)), .val (.int cn), .val (.int (Int32.ofNat i)), .val (.int cj)] [(.int (Int32.ofNat i)), (.ref a1)])) (fun _ k => XS.iload X2.here hx rfl (hb hby d_prog_13_method_6_code_20) rfl k) ?_
        refine goV X2 hx hZ (y := (⟨"java/lang/String", "charAt", "(I)C"⟩ : MethodName)) (z := (⟨"java/lang/String", "charAt", "(I)C"⟩ : MethodName)) hown (hw _ (List.mem_of_getElem? (i := 64) rfl)) (hw _ (List.mem_of_getElem? (i := 65) rfl)) (notFace_of_selects (args := #[]) (mvT hZ (hw _ (List.mem_of_getElem? (i := 67) rfl)))) (hw _ (List.mem_of_getElem? (i := 67) rfl)) (hw _ (List.mem_of_getElem? (i := 66) rfl)) (by decide) (C := 0) (S := 0) (chAny (W := 0) hw hZ (i := i) S_a1 hi Z_ad Z_hs Z_ls Z_fm hfm Z_cs hz (by decide) (by decide)) e2 S_a1.exa (argsL := [(.int (Int32.ofNat i))]) (rest := []) (by rw [hml]; rfl) (lenOf pd__I_C rfl) rfl rfl (hb hby d_prog_13_method_6_code_22) (Nat.le_of_eq rfl) (by decide) (by decide) ?_
        intro v3 T3 L3 X3 hQ3
        obtain ⟨nq3, e3, rfl⟩ := hQ3
        replace X3 := standNil X3 nq3
        show Go p e below P T3 (mkF m 25 #[.val (.ref a1), .val (.ref a2), .val (.int (2147483647 : Int32)), .val (.int cn), .val (.int (Int32.ofNat i)), .val (.int cj)] [(.int (cs.getD i 0))])
        refine Go.of (T' := T3) (f' := (mkF m 27 #[.val (.ref a1), .val (.ref a2), .val (.int (2147483647 : Int32)), .val (.int cn), .val (.int (Int32.ofNat i)), .val (.int (cs.getD i 0))] [])) (fun _ k => XS.istore X3.here hx rfl (hb hby d_prog_13_method_6_code_25) rfl (l' := #[.val (.ref a1), .val (.ref a2), .val (.int (2147483647 : Int32)), .val (.int cn), .val (.int (Int32.ofNat i)), .val (.int (cs.getD i 0))]) rfl k) ?_
        refine Go.of (T' := T3) (f' := (mkF m 29 #[.val (.ref a1), .val (.ref a2), .val (.int (2147483647 : Int32)), .val (.int cn), .val (.int (Int32.ofNat i)), .val (.int (cs.getD i 0))] [(.int (cs.getD i 0))])) (fun _ k => XS.iload X3.here hx rfl (hb hby d_prog_13_method_6_code_27) rfl k) ?_
        have hc29 : ¬ ((cs.getD i 0) = (0 : Int32)) := wfN0 hst
        refine Go.of (T' := T3) (f' := (mkF m 46 #[.val (.ref a1), .val (.ref a2), .val (.int (2147483647 : Int32)), .val (.int cn), .val (.int (Int32.ofNat i)), .val (.int (cs.getD i 0))] [])) (fun _ k => XS.ifYes X3.here hx rfl (pc0 := 29) (pc' := 46) rfl (hb hby d_prog_13_method_6_code_29) rfl ((if0 _ _).trans (feq hc29).2) (by decide) (by decide) k) ?_
        refine Go.of (T' := T3) (f' := (mkF m 48 #[.val (.ref a1), .val (.ref a2), .val (.int (2147483647 : Int32)), .val (.int cn), .val (.int (Int32.ofNat i)), .val (.int (cs.getD i 0))] [(.int (cs.getD i 0))])) (fun _ k => XS.iload X3.here hx rfl (hb hby d_prog_13_method_6_code_46) rfl k) ?_
        refine goS X3 hx hZ hown (hw _ (List.mem_of_getElem? (i := 86) rfl)) (hw _ (List.mem_of_getElem? (i := 87) rfl)) (hw _ (List.mem_of_getElem? (i := 88) rfl)) (hw _ (List.mem_of_getElem? (i := 89) rfl)) (by decide) (C := 0) (S := 0) ((rm_isHi l Z a0 hw (cs.getD i 0) h0 ).bk (W := 0) hZ (hw _ (List.mem_of_getElem? (i := 89) rfl)) (hw _ (List.mem_of_getElem? (i := 88) rfl)) (by decide) (by decide)) e3 (argsL := [(.int (cs.getD i 0))]) (rest := []) (by rw [hml]; rfl) (lenOf pd__C_Z rfl) rfl rfl (hb hby d_prog_13_method_6_code_48) (Nat.le_of_eq rfl) (by decide) (by decide) ?_
        intro v4 T4 L4 X4 hQ4
        obtain ⟨nq4, e4, rfl⟩ := hQ4
        replace X4 := standNil X4 nq4
        show Go p e below P T4 (mkF m 51 #[.val (.ref a1), .val (.ref a2), .val (.int (2147483647 : Int32)), .val (.int cn), .val (.int (Int32.ofNat i)), .val (.int (cs.getD i 0))] [(.int (bi (Hi (cs.getD i 0))))])
        by_cases hc51 : Hi (cs.getD i 0)
        ·
          refine Go.of (T' := T4) (f' := (mkF m 54 #[.val (.ref a1), .val (.ref a2), .val (.int (2147483647 : Int32)), .val (.int cn), .val (.int (Int32.ofNat i)), .val (.int (cs.getD i 0))] [])) (fun _ k => XS.ifNo X4.here hx rfl (hb hby d_prog_13_method_6_code_51) rfl ((if0 _ _).trans (feq (bi_ne hc51)).1) k) ?_
          refine Go.of (T' := T4) (f' := (mkF m 56 #[.val (.ref a1), .val (.ref a2), .val (.int (2147483647 : Int32)), .val (.int cn), .val (.int (Int32.ofNat i)), .val (.int (cs.getD i 0))] [(.int (Int32.ofNat i))])) (fun _ k => XS.iload X4.here hx rfl (hb hby d_prog_13_method_6_code_54) rfl k) ?_
          refine Go.of (T' := T4) (f' := (mkF m 57 #[.val (.ref a1), .val (.ref a2), .val (.int (2147483647 : Int32)), .val (.int cn), .val (.int (Int32.ofNat i)), .val (.int (cs.getD i 0))] [(.int (1 : Int32)), (.int (Int32.ofNat i))])) (fun _ k => XS.iconst X4.here hx rfl (hb hby d_prog_13_method_6_code_56) k) ?_
          refine Go.of (T' := T4) (f' := (mkF m 58 #[.val (.ref a1), .val (.ref a2), .val (.int (2147483647 : Int32)), .val (.int cn), .val (.int (Int32.ofNat i)), .val (.int (cs.getD i 0))] [(.int ((Int32.ofNat i) + (1 : Int32)))])) (fun _ k => XS.iadd X4.here hx rfl (hb hby d_prog_13_method_6_code_57) rfl k) ?_
          rw [show (Int32.ofNat i) + (1 : Int32) = Int32.ofNat (i + 1) from (Int32.ofNat_add _ _).symm]
          refine Go.of (T' := T4) (f' := (mkF m 59 #[.val (.ref a1), .val (.ref a2), .val (.int (2147483647 : Int32)), .val (.int cn), .val (.int (Int32.ofNat i)), .val (.int (cs.getD i 0))] [(.ref a1), (.int (Int32.ofNat (i + 1)))])) (fun _ k => XS.aloadN X4.here hx rfl (hb hby d_prog_13_method_6_code_58) rfl rfl k) ?_
          refine goV X4 hx hZ (y := (⟨"java/lang/String", "length", "()I"⟩ : MethodName)) (z := (⟨"java/lang/String", "length", "()I"⟩ : MethodName)) hown (hw _ (List.mem_of_getElem? (i := 47) rfl)) (hw _ (List.mem_of_getElem? (i := 48) rfl)) (notFace_of_selects (args := #[]) (mvT hZ (hw _ (List.mem_of_getElem? (i := 50) rfl)))) (hw _ (List.mem_of_getElem? (i := 50) rfl)) (hw _ (List.mem_of_getElem? (i := 49) rfl)) (by decide) (C := 0) (S := 0) (lenStr (W := 1) hZ (hw_wordsLen hw) (hw _ (List.mem_of_getElem? (i := 10) rfl)) S_a1 Z_cs hz (by decide) (by decide)) e4 S_a1.exa (argsL := []) (rest := [(.int (Int32.ofNat (i + 1)))]) (by rw [hml]; rfl) (lenOf pd___I rfl) rfl rfl (hb hby d_prog_13_method_6_code_59) (Nat.le_of_eq rfl) (by decide) (by decide) ?_
          intro v5 T5 L5 X5 hQ5
          obtain ⟨nq5, e5, rfl⟩ := hQ5
          replace X5 := standNil X5 nq5
          show Go p e below P T5 (mkF m 62 #[.val (.ref a1), .val (.ref a2), .val (.int (2147483647 : Int32)), .val (.int cn), .val (.int (Int32.ofNat i)), .val (.int (cs.getD i 0))] [(.int (Int32.ofNat cs.length)), (.int (Int32.ofNat (i + 1)))])
          have hc62 : (Int32.ofNat (i + 1)) < (Int32.ofNat cs.length) := (ltN (by omega) (by omega)).mpr (wfHi hst hc51).1
          refine Go.of (T' := T5) (f' := (mkF m 65 #[.val (.ref a1), .val (.ref a2), .val (.int (2147483647 : Int32)), .val (.int cn), .val (.int (Int32.ofNat i)), .val (.int (cs.getD i 0))] [])) (fun _ k => XS.icmpNo X5.here hx rfl (hb hby d_prog_13_method_6_code_62) rfl (tlt hc62).2.1 k) ?_
          refine Go.of (T' := T5) (f' := (mkF m 66 #[.val (.ref a1), .val (.ref a2), .val (.int (2147483647 : Int32)), .val (.int cn), .val (.int (Int32.ofNat i)), .val (.int (cs.getD i 0))] [(.ref a1)])) (fun _ k => XS.aloadN X5.here hx rfl (hb hby d_prog_13_method_6_code_65) rfl rfl k) ?_
          refine Go.of (T' := T5) (f' := (mkF m 68 #[.val (.ref a1), .val (.ref a2), .val (.int (2147483647 : Int32)), .val (.int cn), .val (.int (Int32.ofNat i)), .val (.int (cs.getD i 0))] [(.int (Int32.ofNat i)), (.ref a1)])) (fun _ k => XS.iload X5.here hx rfl (hb hby d_prog_13_method_6_code_66) rfl k) ?_
          refine Go.of (T' := T5) (f' := (mkF m 69 #[.val (.ref a1), .val (.ref a2), .val (.int (2147483647 : Int32)), .val (.int cn), .val (.int (Int32.ofNat i)), .val (.int (cs.getD i 0))] [(.int (1 : Int32)), (.int (Int32.ofNat i)), (.ref a1)])) (fun _ k => XS.iconst X5.here hx rfl (hb hby d_prog_13_method_6_code_68) k) ?_
          refine Go.of (T' := T5) (f' := (mkF m 70 #[.val (.ref a1), .val (.ref a2), .val (.int (2147483647 : Int32)), .val (.int cn), .val (.int (Int32.ofNat i)), .val (.int (cs.getD i 0))] [(.int ((Int32.ofNat i) + (1 : Int32))), (.ref a1)])) (fun _ k => XS.iadd X5.here hx rfl (hb hby d_prog_13_method_6_code_69) rfl k) ?_
          rw [show (Int32.ofNat i) + (1 : Int32) = Int32.ofNat (i + 1) from (Int32.ofNat_add _ _).symm]
          refine goV X5 hx hZ (y := (⟨"java/lang/String", "charAt", "(I)C"⟩ : MethodName)) (z := (⟨"java/lang/String", "charAt", "(I)C"⟩ : MethodName)) hown (hw _ (List.mem_of_getElem? (i := 64) rfl)) (hw _ (List.mem_of_getElem? (i := 65) rfl)) (notFace_of_selects (args := #[]) (mvT hZ (hw _ (List.mem_of_getElem? (i := 67) rfl)))) (hw _ (List.mem_of_getElem? (i := 67) rfl)) (hw _ (List.mem_of_getElem? (i := 66) rfl)) (by decide) (C := 0) (S := 0) (chAny (W := 0) hw hZ (i := (i + 1)) S_a1 (wfHi hst hc51).1 Z_ad Z_hs Z_ls Z_fm hfm Z_cs hz (by decide) (by decide)) e5 S_a1.exa (argsL := [(.int (Int32.ofNat (i + 1)))]) (rest := []) (by rw [hml]; rfl) (lenOf pd__I_C rfl) rfl rfl (hb hby d_prog_13_method_6_code_70) (Nat.le_of_eq rfl) (by decide) (by decide) ?_
          intro v6 T6 L6 X6 hQ6
          obtain ⟨nq6, e6, rfl⟩ := hQ6
          replace X6 := standNil X6 nq6
          show Go p e below P T6 (mkF m 73 #[.val (.ref a1), .val (.ref a2), .val (.int (2147483647 : Int32)), .val (.int cn), .val (.int (Int32.ofNat i)), .val (.int (cs.getD i 0))] [(.int (cs.getD (i + 1) 0))])
          refine goS X6 hx hZ hown (hw _ (List.mem_of_getElem? (i := 143) rfl)) (hw _ (List.mem_of_getElem? (i := 144) rfl)) (hw _ (List.mem_of_getElem? (i := 88) rfl)) (hw _ (List.mem_of_getElem? (i := 145) rfl)) (by decide) (C := 0) (S := 0) ((rm_isLo l Z a0 hw (cs.getD (i + 1) 0) h0 ).bk (W := 0) hZ (hw _ (List.mem_of_getElem? (i := 145) rfl)) (hw _ (List.mem_of_getElem? (i := 88) rfl)) (by decide) (by decide)) e6 (argsL := [(.int (cs.getD (i + 1) 0))]) (rest := []) (by rw [hml]; rfl) (lenOf pd__C_Z rfl) rfl rfl (hb hby d_prog_13_method_6_code_73) (Nat.le_of_eq rfl) (by decide) (by decide) ?_
          intro v7 T7 L7 X7 hQ7
          obtain ⟨nq7, e7, rfl⟩ := hQ7
          replace X7 := standNil X7 nq7
          show Go p e below P T7 (mkF m 76 #[.val (.ref a1), .val (.ref a2), .val (.int (2147483647 : Int32)), .val (.int cn), .val (.int (Int32.ofNat i)), .val (.int (cs.getD i 0))] [(.int (bi (Lo (cs.getD (i + 1) 0))))])
          have hc76 : Lo (cs.getD (i + 1) 0) := (wfHi hst hc51).2.1
          refine Go.of (T' := T7) (f' := (mkF m 79 #[.val (.ref a1), .val (.ref a2), .val (.int (2147483647 : Int32)), .val (.int cn), .val (.int (Int32.ofNat i)), .val (.int (cs.getD i 0))] [])) (fun _ k => XS.ifNo X7.here hx rfl (hb hby d_prog_13_method_6_code_76) rfl ((if0 _ _).trans (feq (bi_ne hc76)).1) k) ?_
          refine Go.of (T' := T7) (f' := (mkF m 82 #[.val (.ref a1), .val (.ref a2), .val (.int (2147483647 : Int32)), .val (.int (cn + (4 : Int32))), .val (.int (Int32.ofNat i)), .val (.int (cs.getD i 0))] [])) (fun _ k => XS.iinc X7.here hx rfl (hb hby d_prog_13_method_6_code_79) rfl (l' := #[.val (.ref a1), .val (.ref a2), .val (.int (2147483647 : Int32)), .val (.int (cn + (4 : Int32))), .val (.int (Int32.ofNat i)), .val (.int (cs.getD i 0))]) rfl k) ?_
          refine Go.of (T' := T7) (f' := (mkF m 85 #[.val (.ref a1), .val (.ref a2), .val (.int (2147483647 : Int32)), .val (.int (cn + (4 : Int32))), .val (.int ((Int32.ofNat i) + (2 : Int32))), .val (.int (cs.getD i 0))] [])) (fun _ k => XS.iinc X7.here hx rfl (hb hby d_prog_13_method_6_code_82) rfl (l' := #[.val (.ref a1), .val (.ref a2), .val (.int (2147483647 : Int32)), .val (.int (cn + (4 : Int32))), .val (.int ((Int32.ofNat i) + (2 : Int32))), .val (.int (cs.getD i 0))]) rfl k) ?_
          refine Go.of (T' := T7) (f' := (mkF m 123 #[.val (.ref a1), .val (.ref a2), .val (.int (2147483647 : Int32)), .val (.int (cn + (4 : Int32))), .val (.int ((Int32.ofNat i) + (2 : Int32))), .val (.int (cs.getD i 0))] [])) (fun _ k => XS.goto X7.here hx rfl (pc0 := 85) (pc' := 123) rfl (hb hby d_prog_13_method_6_code_85) (by decide) (by decide) k) ?_
          refine Go.of (T' := T7) (f' := (mkF m 5 #[.val (.ref a1), .val (.ref a2), .val (.int (2147483647 : Int32)), .val (.int (cn + (4 : Int32))), .val (.int ((Int32.ofNat i) + (2 : Int32))), .val (.int (cs.getD i 0))] [])) (fun _ k => XS.goto X7.here hx rfl (pc0 := 123) (pc' := 5) rfl (hb hby d_prog_13_method_6_code_123) (by decide) (by decide) k) ?_
          rw [show (Int32.ofNat i) + (2 : Int32) = Int32.ofNat (i + 2) from (Int32.ofNat_add _ _).symm]
          exact ih (i + 2) _ _ T7 (by omega) (wfHi hst hc51).1 (wfHi hst hc51).2.2 (cnt4 hcn (by omega)) X7 e7
        ·
          refine Go.of (T' := T4) (f' := (mkF m 88 #[.val (.ref a1), .val (.ref a2), .val (.int (2147483647 : Int32)), .val (.int cn), .val (.int (Int32.ofNat i)), .val (.int (cs.getD i 0))] [])) (fun _ k => XS.ifYes X4.here hx rfl (pc0 := 51) (pc' := 88) rfl (hb hby d_prog_13_method_6_code_51) rfl ((if0 _ _).trans (teq (bi_f hc51)).1) (by decide) (by decide) k) ?_
          refine Go.of (T' := T4) (f' := (mkF m 90 #[.val (.ref a1), .val (.ref a2), .val (.int (2147483647 : Int32)), .val (.int cn), .val (.int (Int32.ofNat i)), .val (.int (cs.getD i 0))] [(.int (cs.getD i 0))])) (fun _ k => XS.iload X4.here hx rfl (hb hby d_prog_13_method_6_code_88) rfl k) ?_
          refine goS X4 hx hZ hown (hw _ (List.mem_of_getElem? (i := 91) rfl)) (hw _ (List.mem_of_getElem? (i := 92) rfl)) (hw _ (List.mem_of_getElem? (i := 88) rfl)) (hw _ (List.mem_of_getElem? (i := 93) rfl)) (by decide) (C := 0) (S := 0) ((rm_isSur l Z a0 hw (cs.getD i 0) h0 ).bk (W := 0) hZ (hw _ (List.mem_of_getElem? (i := 93) rfl)) (hw _ (List.mem_of_getElem? (i := 88) rfl)) (by decide) (by decide)) e4 (argsL := [(.int (cs.getD i 0))]) (rest := []) (by rw [hml]; rfl) (lenOf pd__C_Z rfl) rfl rfl (hb hby d_prog_13_method_6_code_90) (Nat.le_of_eq rfl) (by decide) (by decide) ?_
          intro v8 T8 L8 X8 hQ8
          obtain ⟨nq8, e8, rfl⟩ := hQ8
          replace X8 := standNil X8 nq8
          show Go p e below P T8 (mkF m 93 #[.val (.ref a1), .val (.ref a2), .val (.int (2147483647 : Int32)), .val (.int cn), .val (.int (Int32.ofNat i)), .val (.int (cs.getD i 0))] [(.int (bi (Sur (cs.getD i 0))))])
          have hc93 : ¬ (Sur (cs.getD i 0)) := (wfBmp hst hc51).1.2.1
          refine Go.of (T' := T8) (f' := (mkF m 112 #[.val (.ref a1), .val (.ref a2), .val (.int (2147483647 : Int32)), .val (.int cn), .val (.int (Int32.ofNat i)), .val (.int (cs.getD i 0))] [])) (fun _ k => XS.ifYes X8.here hx rfl (pc0 := 93) (pc' := 112) rfl (hb hby d_prog_13_method_6_code_93) rfl ((if0 _ _).trans (teq (bi_f hc93)).1) (by decide) (by decide) k) ?_
          refine Go.of (T' := T8) (f' := (mkF m 113 #[.val (.ref a1), .val (.ref a2), .val (.int (2147483647 : Int32)), .val (.int cn), .val (.int (Int32.ofNat i)), .val (.int (cs.getD i 0))] [(.int cn)])) (fun _ k => XS.iloadN X8.here hx rfl (hb hby d_prog_13_method_6_code_112) rfl k) ?_
          refine Go.of (T' := T8) (f' := (mkF m 115 #[.val (.ref a1), .val (.ref a2), .val (.int (2147483647 : Int32)), .val (.int cn), .val (.int (Int32.ofNat i)), .val (.int (cs.getD i 0))] [(.int (cs.getD i 0)), (.int cn)])) (fun _ k => XS.iload X8.here hx rfl (hb hby d_prog_13_method_6_code_113) rfl k) ?_
          refine goS X8 hx hZ hown (hw _ (List.mem_of_getElem? (i := 94) rfl)) (hw _ (List.mem_of_getElem? (i := 95) rfl)) (hw _ (List.mem_of_getElem? (i := 40) rfl)) (hw _ (List.mem_of_getElem? (i := 96) rfl)) (by decide) (C := 0) (S := 0) ((rm_u8 l Z a0 hw (cs.getD i 0) h0).bk (W := 1) hZ (hw _ (List.mem_of_getElem? (i := 96) rfl)) (hw _ (List.mem_of_getElem? (i := 40) rfl)) (by decide) (by decide)) e8 (argsL := [(.int (cs.getD i 0))]) (rest := [(.int cn)]) (by rw [hml]; rfl) (lenOf pd__C_I rfl) rfl rfl (hb hby d_prog_13_method_6_code_115) (Nat.le_of_eq rfl) (by decide) (by decide) ?_
          intro v9 T9 L9 X9 hQ9
          obtain ⟨nq9, e9, u9, rfl, hu9⟩ := hQ9
          replace X9 := standNil X9 nq9
          show Go p e below P T9 (mkF m 118 #[.val (.ref a1), .val (.ref a2), .val (.int (2147483647 : Int32)), .val (.int cn), .val (.int (Int32.ofNat i)), .val (.int (cs.getD i 0))] [(.int u9), (.int cn)])
          refine Go.of (T' := T9) (f' := (mkF m 119 #[.val (.ref a1), .val (.ref a2), .val (.int (2147483647 : Int32)), .val (.int cn), .val (.int (Int32.ofNat i)), .val (.int (cs.getD i 0))] [(.int (cn + u9))])) (fun _ k => XS.iadd X9.here hx rfl (hb hby d_prog_13_method_6_code_118) rfl k) ?_
          refine Go.of (T' := T9) (f' := (mkF m 120 #[.val (.ref a1), .val (.ref a2), .val (.int (2147483647 : Int32)), .val (.int (cn + u9)), .val (.int (Int32.ofNat i)), .val (.int (cs.getD i 0))] [])) (fun _ k => XS.istoreN X9.here hx rfl (hb hby d_prog_13_method_6_code_119) rfl (l' := #[.val (.ref a1), .val (.ref a2), .val (.int (2147483647 : Int32)), .val (.int (cn + u9)), .val (.int (Int32.ofNat i)), .val (.int (cs.getD i 0))]) rfl k) ?_
          refine Go.of (T' := T9) (f' := (mkF m 123 #[.val (.ref a1), .val (.ref a2), .val (.int (2147483647 : Int32)), .val (.int (cn + u9)), .val (.int ((Int32.ofNat i) + (1 : Int32))), .val (.int (cs.getD i 0))] [])) (fun _ k => XS.iinc X9.here hx rfl (hb hby d_prog_13_method_6_code_120) rfl (l' := #[.val (.ref a1), .val (.ref a2), .val (.int (2147483647 : Int32)), .val (.int (cn + u9)), .val (.int ((Int32.ofNat i) + (1 : Int32))), .val (.int (cs.getD i 0))]) rfl k) ?_
          refine Go.of (T' := T9) (f' := (mkF m 5 #[.val (.ref a1), .val (.ref a2), .val (.int (2147483647 : Int32)), .val (.int (cn + u9)), .val (.int ((Int32.ofNat i) + (1 : Int32))), .val (.int (cs.getD i 0))] [])) (fun _ k => XS.goto X9.here hx rfl (pc0 := 123) (pc' := 5) rfl (hb hby d_prog_13_method_6_code_123) (by decide) (by decide) k) ?_
          rw [show (Int32.ofNat i) + (1 : Int32) = Int32.ofNat (i + 1) from (Int32.ofNat_add _ _).symm]
          exact ih (i + 1) _ _ T9 (by omega) hi (wfBmp hst hc51).2 (cnt_add hcn (by omega) hu9.1 hu9.2 (by decide)) X9 e9
      ·
        refine Go.of (T' := T2) (f' := (mkF m 126 #[.val (.ref a1), .val (.ref a2), .val (.int (2147483647 : Int32)), .val (.int cn), .val (.int (Int32.ofNat i)), .val (.int cj)] [])) (fun _ k => XS.icmpYes X2.here hx rfl (pc0 := 11) (pc' := 126) rfl (hb hby d_prog_13_method_6_code_11) rfl (flt hc11).2.1 (by decide) (by decide) k) ?_
        refine Go.of (T' := T2) (f' := (mkF m 127 #[.val (.ref a1), .val (.ref a2), .val (.int (2147483647 : Int32)), .val (.int cn), .val (.int (Int32.ofNat i)), .val (.int cj)] [(.int cn)])) (fun _ k => XS.iloadN X2.here hx rfl (hb hby d_prog_13_method_6_code_126) rfl k) ?_
        exact goRetI (Q := Pu h0 (fun v => ∃ z : Int32, v = some (.int z) ∧ ¬ (2147483647 : Int32) < z)) X2 hx (t := .int) hret hlk rfl (by simp) (hb hby d_prog_13_method_6_code_127) K (by decide) (by decide) e2 (⟨rfl, rfl, _, rfl, cnt_leM _⟩)
  have hcn : Cnt (0 : Int32) 0 := cnt0
  have hW : Wf (cs.drop 0) := hwf
  refine Go.of (T' := s₁) (f' := (mkF m 7 #[.val (.ref a1), .val (.ref a2), .val (.int (2147483647 : Int32)), .val (.int (0 : Int32)), .val (.int (Int32.ofNat 0)), .unset] [(.int (Int32.ofNat 0))])) (fun _ k => XS.iload X0.here hx rfl (hb hby d_prog_13_method_6_code_5) rfl k) ?_
  refine Go.of (T' := s₁) (f' := (mkF m 8 #[.val (.ref a1), .val (.ref a2), .val (.int (2147483647 : Int32)), .val (.int (0 : Int32)), .val (.int (Int32.ofNat 0)), .unset] [(.ref a1), (.int (Int32.ofNat 0))])) (fun _ k => XS.aloadN X0.here hx rfl (hb hby d_prog_13_method_6_code_7) rfl rfl k) ?_
  refine goV X0 hx hZ (y := (⟨"java/lang/String", "length", "()I"⟩ : MethodName)) (z := (⟨"java/lang/String", "length", "()I"⟩ : MethodName)) hown (hw _ (List.mem_of_getElem? (i := 47) rfl)) (hw _ (List.mem_of_getElem? (i := 48) rfl)) (notFace_of_selects (args := #[]) (mvT hZ (hw _ (List.mem_of_getElem? (i := 50) rfl)))) (hw _ (List.mem_of_getElem? (i := 50) rfl)) (hw _ (List.mem_of_getElem? (i := 49) rfl)) (by decide) (C := 0) (S := 0) (lenStr (W := 1) hZ (hw_wordsLen hw) (hw _ (List.mem_of_getElem? (i := 10) rfl)) S_a1 Z_cs hz (by decide) (by decide)) e0 S_a1.exa (argsL := []) (rest := [(.int (Int32.ofNat 0))]) (by rw [hml]; rfl) (lenOf pd___I rfl) rfl rfl (hb hby d_prog_13_method_6_code_8) (Nat.le_of_eq rfl) (by decide) (by decide) ?_
  intro v10 T10 L10 X10 hQ10
  obtain ⟨nq10, e10, rfl⟩ := hQ10
  replace X10 := standNil X10 nq10
  show Go p e below P T10 (mkF m 11 #[.val (.ref a1), .val (.ref a2), .val (.int (2147483647 : Int32)), .val (.int (0 : Int32)), .val (.int (Int32.ofNat 0)), .unset] [(.int (Int32.ofNat cs.length)), (.int (Int32.ofNat 0))])
  by_cases hc11 : (Int32.ofNat 0) < (Int32.ofNat cs.length)
  ·
    refine Go.of (T' := T10) (f' := (mkF m 14 #[.val (.ref a1), .val (.ref a2), .val (.int (2147483647 : Int32)), .val (.int (0 : Int32)), .val (.int (Int32.ofNat 0)), .unset] [])) (fun _ k => XS.icmpNo X10.here hx rfl (hb hby d_prog_13_method_6_code_11) rfl (tlt hc11).2.1 k) ?_
    have hi : 0 < cs.length := (ltN (by omega) (by omega)).mp hc11
    have hst := wfStep hi hW
    refine Go.of (T' := T10) (f' := (mkF m 15 #[.val (.ref a1), .val (.ref a2), .val (.int (2147483647 : Int32)), .val (.int (0 : Int32)), .val (.int (Int32.ofNat 0)), .unset] [(.int (0 : Int32))])) (fun _ k => XS.iloadN X10.here hx rfl (hb hby d_prog_13_method_6_code_14) rfl k) ?_
    refine Go.of (T' := T10) (f' := (mkF m 16 #[.val (.ref a1), .val (.ref a2), .val (.int (2147483647 : Int32)), .val (.int (0 : Int32)), .val (.int (Int32.ofNat 0)), .unset] [(.int (2147483647 : Int32)), (.int (0 : Int32))])) (fun _ k => XS.iloadN X10.here hx rfl (hb hby d_prog_13_method_6_code_15) rfl k) ?_
    refine Go.of (T' := T10) (f' := (mkF m 19 #[.val (.ref a1), .val (.ref a2), .val (.int (2147483647 : Int32)), .val (.int (0 : Int32)), .val (.int (Int32.ofNat 0)), .unset] [])) (fun _ k => XS.icmpNo X10.here hx rfl (hb hby d_prog_13_method_6_code_16) rfl (by decide) k) ?_
    refine Go.of (T' := T10) (f' := (mkF m 20 #[.val (.ref a1), .val (.ref a2), .val (.int (2147483647 : Int32)), .val (.int (0 : Int32)), .val (.int (Int32.ofNat 0)), .unset] [(.ref a1)])) (fun _ k => XS.aloadN X10.here hx rfl (hb hby d_prog_13_method_6_code_19) rfl rfl k) ?_
    refine Go.of (T' := T10) (f' := (mkF m 22 #[.val (.ref a1), .val (.ref a2), .val (.int (2147483647 : Int32)), .val (.int (0 : Int32)), .val (.int (Int32.ofNat 0)), .unset] [(.int (Int32.ofNat 0)), (.ref a1)])) (fun _ k => XS.iload X10.here hx rfl (hb hby d_prog_13_method_6_code_20) rfl k) ?_
    refine goV X10 hx hZ (y := (⟨"java/lang/String", "charAt", "(I)C"⟩ : MethodName)) (z := (⟨"java/lang/String", "charAt", "(I)C"⟩ : MethodName)) hown (hw _ (List.mem_of_getElem? (i := 64) rfl)) (hw _ (List.mem_of_getElem? (i := 65) rfl)) (notFace_of_selects (args := #[]) (mvT hZ (hw _ (List.mem_of_getElem? (i := 67) rfl)))) (hw _ (List.mem_of_getElem? (i := 67) rfl)) (hw _ (List.mem_of_getElem? (i := 66) rfl)) (by decide) (C := 0) (S := 0) (chAny (W := 0) hw hZ (i := 0) S_a1 hi Z_ad Z_hs Z_ls Z_fm hfm Z_cs hz (by decide) (by decide)) e10 S_a1.exa (argsL := [(.int (Int32.ofNat 0))]) (rest := []) (by rw [hml]; rfl) (lenOf pd__I_C rfl) rfl rfl (hb hby d_prog_13_method_6_code_22) (Nat.le_of_eq rfl) (by decide) (by decide) ?_
    intro v11 T11 L11 X11 hQ11
    obtain ⟨nq11, e11, rfl⟩ := hQ11
    replace X11 := standNil X11 nq11
    show Go p e below P T11 (mkF m 25 #[.val (.ref a1), .val (.ref a2), .val (.int (2147483647 : Int32)), .val (.int (0 : Int32)), .val (.int (Int32.ofNat 0)), .unset] [(.int (cs.getD 0 0))])
    refine Go.of (T' := T11) (f' := (mkF m 27 #[.val (.ref a1), .val (.ref a2), .val (.int (2147483647 : Int32)), .val (.int (0 : Int32)), .val (.int (Int32.ofNat 0)), .val (.int (cs.getD 0 0))] [])) (fun _ k => XS.istore X11.here hx rfl (hb hby d_prog_13_method_6_code_25) rfl (l' := #[.val (.ref a1), .val (.ref a2), .val (.int (2147483647 : Int32)), .val (.int (0 : Int32)), .val (.int (Int32.ofNat 0)), .val (.int (cs.getD 0 0))]) rfl k) ?_
    refine Go.of (T' := T11) (f' := (mkF m 29 #[.val (.ref a1), .val (.ref a2), .val (.int (2147483647 : Int32)), .val (.int (0 : Int32)), .val (.int (Int32.ofNat 0)), .val (.int (cs.getD 0 0))] [(.int (cs.getD 0 0))])) (fun _ k => XS.iload X11.here hx rfl (hb hby d_prog_13_method_6_code_27) rfl k) ?_
    have hc29 : ¬ ((cs.getD 0 0) = (0 : Int32)) := wfN0 hst
    refine Go.of (T' := T11) (f' := (mkF m 46 #[.val (.ref a1), .val (.ref a2), .val (.int (2147483647 : Int32)), .val (.int (0 : Int32)), .val (.int (Int32.ofNat 0)), .val (.int (cs.getD 0 0))] [])) (fun _ k => XS.ifYes X11.here hx rfl (pc0 := 29) (pc' := 46) rfl (hb hby d_prog_13_method_6_code_29) rfl ((if0 _ _).trans (feq hc29).2) (by decide) (by decide) k) ?_
    refine Go.of (T' := T11) (f' := (mkF m 48 #[.val (.ref a1), .val (.ref a2), .val (.int (2147483647 : Int32)), .val (.int (0 : Int32)), .val (.int (Int32.ofNat 0)), .val (.int (cs.getD 0 0))] [(.int (cs.getD 0 0))])) (fun _ k => XS.iload X11.here hx rfl (hb hby d_prog_13_method_6_code_46) rfl k) ?_
    refine goS X11 hx hZ hown (hw _ (List.mem_of_getElem? (i := 86) rfl)) (hw _ (List.mem_of_getElem? (i := 87) rfl)) (hw _ (List.mem_of_getElem? (i := 88) rfl)) (hw _ (List.mem_of_getElem? (i := 89) rfl)) (by decide) (C := 0) (S := 0) ((rm_isHi l Z a0 hw (cs.getD 0 0) h0 ).bk (W := 0) hZ (hw _ (List.mem_of_getElem? (i := 89) rfl)) (hw _ (List.mem_of_getElem? (i := 88) rfl)) (by decide) (by decide)) e11 (argsL := [(.int (cs.getD 0 0))]) (rest := []) (by rw [hml]; rfl) (lenOf pd__C_Z rfl) rfl rfl (hb hby d_prog_13_method_6_code_48) (Nat.le_of_eq rfl) (by decide) (by decide) ?_
    intro v12 T12 L12 X12 hQ12
    obtain ⟨nq12, e12, rfl⟩ := hQ12
    replace X12 := standNil X12 nq12
    show Go p e below P T12 (mkF m 51 #[.val (.ref a1), .val (.ref a2), .val (.int (2147483647 : Int32)), .val (.int (0 : Int32)), .val (.int (Int32.ofNat 0)), .val (.int (cs.getD 0 0))] [(.int (bi (Hi (cs.getD 0 0))))])
    by_cases hc51 : Hi (cs.getD 0 0)
    ·
      refine Go.of (T' := T12) (f' := (mkF m 54 #[.val (.ref a1), .val (.ref a2), .val (.int (2147483647 : Int32)), .val (.int (0 : Int32)), .val (.int (Int32.ofNat 0)), .val (.int (cs.getD 0 0))] [])) (fun _ k => XS.ifNo X12.here hx rfl (hb hby d_prog_13_method_6_code_51) rfl ((if0 _ _).trans (feq (bi_ne hc51)).1) k) ?_
      refine Go.of (T' := T12) (f' := (mkF m 56 #[.val (.ref a1), .val (.ref a2), .val (.int (2147483647 : Int32)), .val (.int (0 : Int32)), .val (.int (Int32.ofNat 0)), .val (.int (cs.getD 0 0))] [(.int (Int32.ofNat 0))])) (fun _ k => XS.iload X12.here hx rfl (hb hby d_prog_13_method_6_code_54) rfl k) ?_
      refine Go.of (T' := T12) (f' := (mkF m 57 #[.val (.ref a1), .val (.ref a2), .val (.int (2147483647 : Int32)), .val (.int (0 : Int32)), .val (.int (Int32.ofNat 0)), .val (.int (cs.getD 0 0))] [(.int (1 : Int32)), (.int (Int32.ofNat 0))])) (fun _ k => XS.iconst X12.here hx rfl (hb hby d_prog_13_method_6_code_56) k) ?_
      refine Go.of (T' := T12) (f' := (mkF m 58 #[.val (.ref a1), .val (.ref a2), .val (.int (2147483647 : Int32)), .val (.int (0 : Int32)), .val (.int (Int32.ofNat 0)), .val (.int (cs.getD 0 0))] [(.int ((Int32.ofNat 0) + (1 : Int32)))])) (fun _ k => XS.iadd X12.here hx rfl (hb hby d_prog_13_method_6_code_57) rfl k) ?_
      rw [show (Int32.ofNat 0) + (1 : Int32) = Int32.ofNat (0 + 1) from (Int32.ofNat_add _ _).symm]
      refine Go.of (T' := T12) (f' := (mkF m 59 #[.val (.ref a1), .val (.ref a2), .val (.int (2147483647 : Int32)), .val (.int (0 : Int32)), .val (.int (Int32.ofNat 0)), .val (.int (cs.getD 0 0))] [(.ref a1), (.int (Int32.ofNat (0 + 1)))])) (fun _ k => XS.aloadN X12.here hx rfl (hb hby d_prog_13_method_6_code_58) rfl rfl k) ?_
      refine goV X12 hx hZ (y := (⟨"java/lang/String", "length", "()I"⟩ : MethodName)) (z := (⟨"java/lang/String", "length", "()I"⟩ : MethodName)) hown (hw _ (List.mem_of_getElem? (i := 47) rfl)) (hw _ (List.mem_of_getElem? (i := 48) rfl)) (notFace_of_selects (args := #[]) (mvT hZ (hw _ (List.mem_of_getElem? (i := 50) rfl)))) (hw _ (List.mem_of_getElem? (i := 50) rfl)) (hw _ (List.mem_of_getElem? (i := 49) rfl)) (by decide) (C := 0) (S := 0) (lenStr (W := 1) hZ (hw_wordsLen hw) (hw _ (List.mem_of_getElem? (i := 10) rfl)) S_a1 Z_cs hz (by decide) (by decide)) e12 S_a1.exa (argsL := []) (rest := [(.int (Int32.ofNat (0 + 1)))]) (by rw [hml]; rfl) (lenOf pd___I rfl) rfl rfl (hb hby d_prog_13_method_6_code_59) (Nat.le_of_eq rfl) (by decide) (by decide) ?_
      intro v13 T13 L13 X13 hQ13
      obtain ⟨nq13, e13, rfl⟩ := hQ13
      replace X13 := standNil X13 nq13
      show Go p e below P T13 (mkF m 62 #[.val (.ref a1), .val (.ref a2), .val (.int (2147483647 : Int32)), .val (.int (0 : Int32)), .val (.int (Int32.ofNat 0)), .val (.int (cs.getD 0 0))] [(.int (Int32.ofNat cs.length)), (.int (Int32.ofNat (0 + 1)))])
      have hc62 : (Int32.ofNat (0 + 1)) < (Int32.ofNat cs.length) := (ltN (by omega) (by omega)).mpr (wfHi hst hc51).1
      refine Go.of (T' := T13) (f' := (mkF m 65 #[.val (.ref a1), .val (.ref a2), .val (.int (2147483647 : Int32)), .val (.int (0 : Int32)), .val (.int (Int32.ofNat 0)), .val (.int (cs.getD 0 0))] [])) (fun _ k => XS.icmpNo X13.here hx rfl (hb hby d_prog_13_method_6_code_62) rfl (tlt hc62).2.1 k) ?_
      refine Go.of (T' := T13) (f' := (mkF m 66 #[.val (.ref a1), .val (.ref a2), .val (.int (2147483647 : Int32)), .val (.int (0 : Int32)), .val (.int (Int32.ofNat 0)), .val (.int (cs.getD 0 0))] [(.ref a1)])) (fun _ k => XS.aloadN X13.here hx rfl (hb hby d_prog_13_method_6_code_65) rfl rfl k) ?_
      refine Go.of (T' := T13) (f' := (mkF m 68 #[.val (.ref a1), .val (.ref a2), .val (.int (2147483647 : Int32)), .val (.int (0 : Int32)), .val (.int (Int32.ofNat 0)), .val (.int (cs.getD 0 0))] [(.int (Int32.ofNat 0)), (.ref a1)])) (fun _ k => XS.iload X13.here hx rfl (hb hby d_prog_13_method_6_code_66) rfl k) ?_
      refine Go.of (T' := T13) (f' := (mkF m 69 #[.val (.ref a1), .val (.ref a2), .val (.int (2147483647 : Int32)), .val (.int (0 : Int32)), .val (.int (Int32.ofNat 0)), .val (.int (cs.getD 0 0))] [(.int (1 : Int32)), (.int (Int32.ofNat 0)), (.ref a1)])) (fun _ k => XS.iconst X13.here hx rfl (hb hby d_prog_13_method_6_code_68) k) ?_
      refine Go.of (T' := T13) (f' := (mkF m 70 #[.val (.ref a1), .val (.ref a2), .val (.int (2147483647 : Int32)), .val (.int (0 : Int32)), .val (.int (Int32.ofNat 0)), .val (.int (cs.getD 0 0))] [(.int ((Int32.ofNat 0) + (1 : Int32))), (.ref a1)])) (fun _ k => XS.iadd X13.here hx rfl (hb hby d_prog_13_method_6_code_69) rfl k) ?_
      rw [show (Int32.ofNat 0) + (1 : Int32) = Int32.ofNat (0 + 1) from (Int32.ofNat_add _ _).symm]
      refine goV X13 hx hZ (y := (⟨"java/lang/String", "charAt", "(I)C"⟩ : MethodName)) (z := (⟨"java/lang/String", "charAt", "(I)C"⟩ : MethodName)) hown (hw _ (List.mem_of_getElem? (i := 64) rfl)) (hw _ (List.mem_of_getElem? (i := 65) rfl)) (notFace_of_selects (args := #[]) (mvT hZ (hw _ (List.mem_of_getElem? (i := 67) rfl)))) (hw _ (List.mem_of_getElem? (i := 67) rfl)) (hw _ (List.mem_of_getElem? (i := 66) rfl)) (by decide) (C := 0) (S := 0) (chAny (W := 0) hw hZ (i := (0 + 1)) S_a1 (wfHi hst hc51).1 Z_ad Z_hs Z_ls Z_fm hfm Z_cs hz (by decide) (by decide)) e13 S_a1.exa (argsL := [(.int (Int32.ofNat (0 + 1)))]) (rest := []) (by rw [hml]; rfl) (lenOf pd__I_C rfl) rfl rfl (hb hby d_prog_13_method_6_code_70) (Nat.le_of_eq rfl) (by decide) (by decide) ?_
      intro v14 T14 L14 X14 hQ14
      obtain ⟨nq14, e14, rfl⟩ := hQ14
      replace X14 := standNil X14 nq14
      show Go p e below P T14 (mkF m 73 #[.val (.ref a1), .val (.ref a2), .val (.int (2147483647 : Int32)), .val (.int (0 : Int32)), .val (.int (Int32.ofNat 0)), .val (.int (cs.getD 0 0))] [(.int (cs.getD (0 + 1) 0))])
      refine goS X14 hx hZ hown (hw _ (List.mem_of_getElem? (i := 143) rfl)) (hw _ (List.mem_of_getElem? (i := 144) rfl)) (hw _ (List.mem_of_getElem? (i := 88) rfl)) (hw _ (List.mem_of_getElem? (i := 145) rfl)) (by decide) (C := 0) (S := 0) ((rm_isLo l Z a0 hw (cs.getD (0 + 1) 0) h0 ).bk (W := 0) hZ (hw _ (List.mem_of_getElem? (i := 145) rfl)) (hw _ (List.mem_of_getElem? (i := 88) rfl)) (by decide) (by decide)) e14 (argsL := [(.int (cs.getD (0 + 1) 0))]) (rest := []) (by rw [hml]; rfl) (lenOf pd__C_Z rfl) rfl rfl (hb hby d_prog_13_method_6_code_73) (Nat.le_of_eq rfl) (by decide) (by decide) ?_
      intro v15 T15 L15 X15 hQ15
      obtain ⟨nq15, e15, rfl⟩ := hQ15
      replace X15 := standNil X15 nq15
      show Go p e below P T15 (mkF m 76 #[.val (.ref a1), .val (.ref a2), .val (.int (2147483647 : Int32)), .val (.int (0 : Int32)), .val (.int (Int32.ofNat 0)), .val (.int (cs.getD 0 0))] [(.int (bi (Lo (cs.getD (0 + 1) 0))))])
      have hc76 : Lo (cs.getD (0 + 1) 0) := (wfHi hst hc51).2.1
      refine Go.of (T' := T15) (f' := (mkF m 79 #[.val (.ref a1), .val (.ref a2), .val (.int (2147483647 : Int32)), .val (.int (0 : Int32)), .val (.int (Int32.ofNat 0)), .val (.int (cs.getD 0 0))] [])) (fun _ k => XS.ifNo X15.here hx rfl (hb hby d_prog_13_method_6_code_76) rfl ((if0 _ _).trans (feq (bi_ne hc76)).1) k) ?_
      refine Go.of (T' := T15) (f' := (mkF m 82 #[.val (.ref a1), .val (.ref a2), .val (.int (2147483647 : Int32)), .val (.int ((0 : Int32) + (4 : Int32))), .val (.int (Int32.ofNat 0)), .val (.int (cs.getD 0 0))] [])) (fun _ k => XS.iinc X15.here hx rfl (hb hby d_prog_13_method_6_code_79) rfl (l' := #[.val (.ref a1), .val (.ref a2), .val (.int (2147483647 : Int32)), .val (.int ((0 : Int32) + (4 : Int32))), .val (.int (Int32.ofNat 0)), .val (.int (cs.getD 0 0))]) rfl k) ?_
      refine Go.of (T' := T15) (f' := (mkF m 85 #[.val (.ref a1), .val (.ref a2), .val (.int (2147483647 : Int32)), .val (.int ((0 : Int32) + (4 : Int32))), .val (.int ((Int32.ofNat 0) + (2 : Int32))), .val (.int (cs.getD 0 0))] [])) (fun _ k => XS.iinc X15.here hx rfl (hb hby d_prog_13_method_6_code_82) rfl (l' := #[.val (.ref a1), .val (.ref a2), .val (.int (2147483647 : Int32)), .val (.int ((0 : Int32) + (4 : Int32))), .val (.int ((Int32.ofNat 0) + (2 : Int32))), .val (.int (cs.getD 0 0))]) rfl k) ?_
      refine Go.of (T' := T15) (f' := (mkF m 123 #[.val (.ref a1), .val (.ref a2), .val (.int (2147483647 : Int32)), .val (.int ((0 : Int32) + (4 : Int32))), .val (.int ((Int32.ofNat 0) + (2 : Int32))), .val (.int (cs.getD 0 0))] [])) (fun _ k => XS.goto X15.here hx rfl (pc0 := 85) (pc' := 123) rfl (hb hby d_prog_13_method_6_code_85) (by decide) (by decide) k) ?_
      refine Go.of (T' := T15) (f' := (mkF m 5 #[.val (.ref a1), .val (.ref a2), .val (.int (2147483647 : Int32)), .val (.int ((0 : Int32) + (4 : Int32))), .val (.int ((Int32.ofNat 0) + (2 : Int32))), .val (.int (cs.getD 0 0))] [])) (fun _ k => XS.goto X15.here hx rfl (pc0 := 123) (pc' := 5) rfl (hb hby d_prog_13_method_6_code_123) (by decide) (by decide) k) ?_
      rw [show (Int32.ofNat 0) + (2 : Int32) = Int32.ofNat (0 + 2) from (Int32.ofNat_add _ _).symm]
      exact J cs.length (0 + 2) _ _ T15 (by omega) (wfHi hst hc51).1 (wfHi hst hc51).2.2 (cnt4 hcn (by omega)) X15 e15
    ·
      refine Go.of (T' := T12) (f' := (mkF m 88 #[.val (.ref a1), .val (.ref a2), .val (.int (2147483647 : Int32)), .val (.int (0 : Int32)), .val (.int (Int32.ofNat 0)), .val (.int (cs.getD 0 0))] [])) (fun _ k => XS.ifYes X12.here hx rfl (pc0 := 51) (pc' := 88) rfl (hb hby d_prog_13_method_6_code_51) rfl ((if0 _ _).trans (teq (bi_f hc51)).1) (by decide) (by decide) k) ?_
      refine Go.of (T' := T12) (f' := (mkF m 90 #[.val (.ref a1), .val (.ref a2), .val (.int (2147483647 : Int32)), .val (.int (0 : Int32)), .val (.int (Int32.ofNat 0)), .val (.int (cs.getD 0 0))] [(.int (cs.getD 0 0))])) (fun _ k => XS.iload X12.here hx rfl (hb hby d_prog_13_method_6_code_88) rfl k) ?_
      refine goS X12 hx hZ hown (hw _ (List.mem_of_getElem? (i := 91) rfl)) (hw _ (List.mem_of_getElem? (i := 92) rfl)) (hw _ (List.mem_of_getElem? (i := 88) rfl)) (hw _ (List.mem_of_getElem? (i := 93) rfl)) (by decide) (C := 0) (S := 0) ((rm_isSur l Z a0 hw (cs.getD 0 0) h0 ).bk (W := 0) hZ (hw _ (List.mem_of_getElem? (i := 93) rfl)) (hw _ (List.mem_of_getElem? (i := 88) rfl)) (by decide) (by decide)) e12 (argsL := [(.int (cs.getD 0 0))]) (rest := []) (by rw [hml]; rfl) (lenOf pd__C_Z rfl) rfl rfl (hb hby d_prog_13_method_6_code_90) (Nat.le_of_eq rfl) (by decide) (by decide) ?_
      intro v16 T16 L16 X16 hQ16
      obtain ⟨nq16, e16, rfl⟩ := hQ16
      replace X16 := standNil X16 nq16
      show Go p e below P T16 (mkF m 93 #[.val (.ref a1), .val (.ref a2), .val (.int (2147483647 : Int32)), .val (.int (0 : Int32)), .val (.int (Int32.ofNat 0)), .val (.int (cs.getD 0 0))] [(.int (bi (Sur (cs.getD 0 0))))])
      have hc93 : ¬ (Sur (cs.getD 0 0)) := (wfBmp hst hc51).1.2.1
      refine Go.of (T' := T16) (f' := (mkF m 112 #[.val (.ref a1), .val (.ref a2), .val (.int (2147483647 : Int32)), .val (.int (0 : Int32)), .val (.int (Int32.ofNat 0)), .val (.int (cs.getD 0 0))] [])) (fun _ k => XS.ifYes X16.here hx rfl (pc0 := 93) (pc' := 112) rfl (hb hby d_prog_13_method_6_code_93) rfl ((if0 _ _).trans (teq (bi_f hc93)).1) (by decide) (by decide) k) ?_
      refine Go.of (T' := T16) (f' := (mkF m 113 #[.val (.ref a1), .val (.ref a2), .val (.int (2147483647 : Int32)), .val (.int (0 : Int32)), .val (.int (Int32.ofNat 0)), .val (.int (cs.getD 0 0))] [(.int (0 : Int32))])) (fun _ k => XS.iloadN X16.here hx rfl (hb hby d_prog_13_method_6_code_112) rfl k) ?_
      refine Go.of (T' := T16) (f' := (mkF m 115 #[.val (.ref a1), .val (.ref a2), .val (.int (2147483647 : Int32)), .val (.int (0 : Int32)), .val (.int (Int32.ofNat 0)), .val (.int (cs.getD 0 0))] [(.int (cs.getD 0 0)), (.int (0 : Int32))])) (fun _ k => XS.iload X16.here hx rfl (hb hby d_prog_13_method_6_code_113) rfl k) ?_
      refine goS X16 hx hZ hown (hw _ (List.mem_of_getElem? (i := 94) rfl)) (hw _ (List.mem_of_getElem? (i := 95) rfl)) (hw _ (List.mem_of_getElem? (i := 40) rfl)) (hw _ (List.mem_of_getElem? (i := 96) rfl)) (by decide) (C := 0) (S := 0) ((rm_u8 l Z a0 hw (cs.getD 0 0) h0).bk (W := 1) hZ (hw _ (List.mem_of_getElem? (i := 96) rfl)) (hw _ (List.mem_of_getElem? (i := 40) rfl)) (by decide) (by decide)) e16 (argsL := [(.int (cs.getD 0 0))]) (rest := [(.int (0 : Int32))]) (by rw [hml]; rfl) (lenOf pd__C_I rfl) rfl rfl (hb hby d_prog_13_method_6_code_115) (Nat.le_of_eq rfl) (by decide) (by decide) ?_
      intro v17 T17 L17 X17 hQ17
      obtain ⟨nq17, e17, u17, rfl, hu17⟩ := hQ17
      replace X17 := standNil X17 nq17
      show Go p e below P T17 (mkF m 118 #[.val (.ref a1), .val (.ref a2), .val (.int (2147483647 : Int32)), .val (.int (0 : Int32)), .val (.int (Int32.ofNat 0)), .val (.int (cs.getD 0 0))] [(.int u17), (.int (0 : Int32))])
      refine Go.of (T' := T17) (f' := (mkF m 119 #[.val (.ref a1), .val (.ref a2), .val (.int (2147483647 : Int32)), .val (.int (0 : Int32)), .val (.int (Int32.ofNat 0)), .val (.int (cs.getD 0 0))] [(.int ((0 : Int32) + u17))])) (fun _ k => XS.iadd X17.here hx rfl (hb hby d_prog_13_method_6_code_118) rfl k) ?_
      refine Go.of (T' := T17) (f' := (mkF m 120 #[.val (.ref a1), .val (.ref a2), .val (.int (2147483647 : Int32)), .val (.int ((0 : Int32) + u17)), .val (.int (Int32.ofNat 0)), .val (.int (cs.getD 0 0))] [])) (fun _ k => XS.istoreN X17.here hx rfl (hb hby d_prog_13_method_6_code_119) rfl (l' := #[.val (.ref a1), .val (.ref a2), .val (.int (2147483647 : Int32)), .val (.int ((0 : Int32) + u17)), .val (.int (Int32.ofNat 0)), .val (.int (cs.getD 0 0))]) rfl k) ?_
      refine Go.of (T' := T17) (f' := (mkF m 123 #[.val (.ref a1), .val (.ref a2), .val (.int (2147483647 : Int32)), .val (.int ((0 : Int32) + u17)), .val (.int ((Int32.ofNat 0) + (1 : Int32))), .val (.int (cs.getD 0 0))] [])) (fun _ k => XS.iinc X17.here hx rfl (hb hby d_prog_13_method_6_code_120) rfl (l' := #[.val (.ref a1), .val (.ref a2), .val (.int (2147483647 : Int32)), .val (.int ((0 : Int32) + u17)), .val (.int ((Int32.ofNat 0) + (1 : Int32))), .val (.int (cs.getD 0 0))]) rfl k) ?_
      refine Go.of (T' := T17) (f' := (mkF m 5 #[.val (.ref a1), .val (.ref a2), .val (.int (2147483647 : Int32)), .val (.int ((0 : Int32) + u17)), .val (.int ((Int32.ofNat 0) + (1 : Int32))), .val (.int (cs.getD 0 0))] [])) (fun _ k => XS.goto X17.here hx rfl (pc0 := 123) (pc' := 5) rfl (hb hby d_prog_13_method_6_code_123) (by decide) (by decide) k) ?_
      rw [show (Int32.ofNat 0) + (1 : Int32) = Int32.ofNat (0 + 1) from (Int32.ofNat_add _ _).symm]
      exact J cs.length (0 + 1) _ _ T17 (by omega) hi (wfBmp hst hc51).2 (cnt_add hcn (by omega) hu17.1 hu17.2 (by decide)) X17 e17
  ·
    refine Go.of (T' := T10) (f' := (mkF m 126 #[.val (.ref a1), .val (.ref a2), .val (.int (2147483647 : Int32)), .val (.int (0 : Int32)), .val (.int (Int32.ofNat 0)), .unset] [])) (fun _ k => XS.icmpYes X10.here hx rfl (pc0 := 11) (pc' := 126) rfl (hb hby d_prog_13_method_6_code_11) rfl (flt hc11).2.1 (by decide) (by decide) k) ?_
    refine Go.of (T' := T10) (f' := (mkF m 127 #[.val (.ref a1), .val (.ref a2), .val (.int (2147483647 : Int32)), .val (.int (0 : Int32)), .val (.int (Int32.ofNat 0)), .unset] [(.int (0 : Int32))])) (fun _ k => XS.iloadN X10.here hx rfl (hb hby d_prog_13_method_6_code_126) rfl k) ?_
    exact goRetI (Q := Pu h0 (fun v => ∃ z : Int32, v = some (.int z) ∧ ¬ (2147483647 : Int32) < z)) X10 hx (t := .int) hret hlk rfl (by simp) (hb hby d_prog_13_method_6_code_127) K (by decide) (by decide) e10 (⟨rfl, rfl, _, rfl, cnt_leM _⟩)
theorem ltN1 {i n : Nat} (hn : n ≤ 4000) (h0 : 1 ≤ n) (hi : i ≤ 4000) : Int32.ofNat i < Int32.ofNat n - (1 : Int32) ↔ i + 1 < n := by
  have q := c_isub (Int32.ofNat n) (1 : Int32)
  have e : (1 : Int32).toInt = 1 := by decide
  have b := Int32.toInt_lt (Int32.ofNat n - (1 : Int32))
  have b' := Int32.le_toInt (Int32.ofNat n - (1 : Int32))
  rw [n32i (by omega), e] at q
  rw [Int32.lt_iff_toInt_lt, n32i (by omega)]; omega
theorem wfRng : ∀ {cs : List Int32}, Wf cs → ∀ c ∈ cs, ¬ c < 0 ∧ ¬ (65535 : Int32) < c
  | [], _, c, hc => by cases hc
  | [a], h, c, hc => by cases List.mem_singleton.mp hc; exact bmp_rng h
  | a :: b :: r, h, c, hc => by
    rcases h with ⟨h1, h2, h3⟩ | ⟨h1, h2⟩
    · rcases List.mem_cons.mp hc with rfl | hc
      · exact hi_rng h1
      rcases List.mem_cons.mp hc with rfl | hc
      · exact lo_rng h2
      · exact wfRng h3 c hc
    · rcases List.mem_cons.mp hc with rfl | hc
      · exact bmp_rng h1
      · exact wfRng h2 c hc
theorem hi_255 {c : Int32} (h : Hi c) : (255 : Int32) < c := by
  have q := hi_num h
  have e : (255 : Int32).toInt = 255 := by decide
  rw [Int32.lt_iff_toInt_lt, e]; omega
theorem z200 {z : Int32} (h : z.toInt ≤ 60) : ¬ (200 : Int32) < z := by
  have e : (200 : Int32).toInt = 200 := by decide
  rw [Int32.lt_iff_toInt_lt, e]; omega
theorem len400 {n : Nat} (h : n ≤ 60) : ¬ (400 : Int32) < Int32.ofNat n := by
  have e : (400 : Int32).toInt = 400 := by decide
  rw [Int32.lt_iff_toInt_lt, e, n32i (by omega)]; omega
def Cpc (cn : Int32) (i n : Nat) : Prop := (n : Int) - i ≤ cn.toInt ∧ cn.toInt ≤ n
theorem cpc_sub0 {n : Nat} (h : n ≤ 4000) : Cpc (Int32.ofNat n - (0 : Int32)) 0 n := by
  have q := c_isub (Int32.ofNat n) (0 : Int32)
  have e : (0 : Int32).toInt = 0 := by decide
  have b := Int32.toInt_lt (Int32.ofNat n - (0 : Int32))
  have b' := Int32.le_toInt (Int32.ofNat n - (0 : Int32))
  rw [n32i (by omega), e] at q
  unfold Cpc; omega
theorem cpc1 {cn : Int32} {i n : Nat} (h : Cpc cn i n) : Cpc cn (i + 1) n := by unfold Cpc at *; omega
theorem cpc2 {cn : Int32} {i n : Nat} (h : Cpc cn i n) (hn : n ≤ 4000) (hi : i + 1 < n) : Cpc (cn + (-1 : Int32)) (i + 1 + 1) n := by
  have q := c_iadd cn (-1 : Int32)
  have e : (-1 : Int32).toInt = -1 := by decide
  have b := Int32.toInt_lt (cn + (-1 : Int32))
  have b' := Int32.le_toInt (cn + (-1 : Int32))
  rw [e] at q
  unfold Cpc at *; omega
theorem ef_rm_cpcZ (m : MethodId) (x0 : Addr) (x1 : Int32) (x2 : Int32) (x3 : Int32)  : entryFrame m #[(.ref x0), (.int x1), (.int x2), (.int x3)] 6 = mkF m 0 #[.val (.ref x0), .val (.int x1), .val (.int x2), .val (.int x3), .unset, .unset] [] := by first | (simp [entryFrame, mkF, argsToLocals, Value.category]; done) | rfl
theorem d_jdk_52_method_11_code_0 : decode jdk_52_method_11_code 0 = .ok (.getstatic 44, 3) := by decide +kernel
theorem d_jdk_52_method_11_code_3 : decode jdk_52_method_11_code 3 = .ok (.ifCond .ne 16, 3) := by decide +kernel
theorem d_jdk_52_method_11_code_19 : decode jdk_52_method_11_code 19 = .ok (.iload_n 2, 1) := by decide +kernel
theorem d_jdk_52_method_11_code_20 : decode jdk_52_method_11_code 20 = .ok (.iload_n 1, 1) := by decide +kernel
theorem d_jdk_52_method_11_code_21 : decode jdk_52_method_11_code 21 = .ok (.isub, 1) := by decide +kernel
theorem d_jdk_52_method_11_code_22 : decode jdk_52_method_11_code 22 = .ok (.istore 4, 2) := by decide +kernel
theorem d_jdk_52_method_11_code_24 : decode jdk_52_method_11_code 24 = .ok (.iload_n 1, 1) := by decide +kernel
theorem d_jdk_52_method_11_code_25 : decode jdk_52_method_11_code 25 = .ok (.istore 5, 2) := by decide +kernel
theorem d_jdk_52_method_11_code_27 : decode jdk_52_method_11_code 27 = .ok (.iload_n 3, 1) := by decide +kernel
theorem d_jdk_52_method_11_code_28 : decode jdk_52_method_11_code 28 = .ok (.ifCond .eq 16, 3) := by decide +kernel
theorem d_jdk_52_method_11_code_44 : decode jdk_52_method_11_code 44 = .ok (.iload 5, 2) := by decide +kernel
theorem d_jdk_52_method_11_code_46 : decode jdk_52_method_11_code 46 = .ok (.iload_n 2, 1) := by decide +kernel
theorem d_jdk_52_method_11_code_47 : decode jdk_52_method_11_code 47 = .ok (.iconst 1, 1) := by decide +kernel
theorem d_jdk_52_method_11_code_48 : decode jdk_52_method_11_code 48 = .ok (.isub, 1) := by decide +kernel
theorem d_jdk_52_method_11_code_49 : decode jdk_52_method_11_code 49 = .ok (.if_icmp .ge 39, 3) := by decide +kernel
theorem d_jdk_52_method_11_code_88 : decode jdk_52_method_11_code 88 = .ok (.iload 4, 2) := by decide +kernel
theorem d_jdk_52_method_11_code_90 : decode jdk_52_method_11_code 90 = .ok (.ireturn, 1) := by decide +kernel
theorem d_jdk_52_method_11_code_52 : decode jdk_52_method_11_code 52 = .ok (.aload_n 0, 1) := by decide +kernel
theorem d_jdk_52_method_11_code_53 : decode jdk_52_method_11_code 53 = .ok (.iload 5, 2) := by decide +kernel
theorem d_jdk_52_method_11_code_55 : decode jdk_52_method_11_code 55 = .ok (.iinc 5 1, 3) := by decide +kernel
theorem d_jdk_52_method_11_code_58 : decode jdk_52_method_11_code 58 = .ok (.invokestatic 71, 3) := by decide +kernel
theorem d_jdk_52_method_11_code_61 : decode jdk_52_method_11_code 61 = .ok (.invokestatic 75, 3) := by decide +kernel
theorem d_jdk_52_method_11_code_64 : decode jdk_52_method_11_code 64 = .ok (.ifCond .eq (-20), 3) := by decide +kernel
theorem d_jdk_52_method_11_code_67 : decode jdk_52_method_11_code 67 = .ok (.aload_n 0, 1) := by decide +kernel
theorem d_jdk_52_method_11_code_68 : decode jdk_52_method_11_code 68 = .ok (.iload 5, 2) := by decide +kernel
theorem d_jdk_52_method_11_code_70 : decode jdk_52_method_11_code 70 = .ok (.invokestatic 71, 3) := by decide +kernel
theorem d_jdk_52_method_11_code_73 : decode jdk_52_method_11_code 73 = .ok (.invokestatic 81, 3) := by decide +kernel
theorem d_jdk_52_method_11_code_76 : decode jdk_52_method_11_code 76 = .ok (.ifCond .eq (-32), 3) := by decide +kernel
theorem d_jdk_52_method_11_code_79 : decode jdk_52_method_11_code 79 = .ok (.iinc 4 (-1), 3) := by decide +kernel
theorem d_jdk_52_method_11_code_82 : decode jdk_52_method_11_code 82 = .ok (.iinc 5 1, 3) := by decide +kernel
theorem d_jdk_52_method_11_code_85 : decode jdk_52_method_11_code 85 = .ok (.goto (-41), 3) := by decide +kernel
set_option maxRecDepth 65536 in
set_option maxHeartbeats 40000000 in
theorem rm_cpcZ (l : Launch) (Z : State) (a0 : Array Value) (hw : ∀ d ∈ tables_1, d.before a0 Z = true) (a1 : Addr) (ka : ClassId) (cs : List Int32) (h0 : Heap) (V_a1 : Arv Z h0 a1 ka .byte (Int32.ofNat (2 * cs.length)) (StrChars.Road.wideBytes cs) (.int (0 : Int32))) (hl : cs.length ≤ 4000) (hbr : ∀ c ∈ cs, ¬ c < 0 ∧ ¬ (65535 : Int32) < c) (h1 : 1 ≤ cs.length) (Z_ad : Sta Z h0 "java/lang/StringUTF16" "$assertionsDisabled" "Z" (.int (1 : Int32))) (Z_hs : Sta Z h0 "java/lang/StringUTF16" "HI_BYTE_SHIFT" "I" (.int (0 : Int32))) (Z_ls : Sta Z h0 "java/lang/StringUTF16" "LO_BYTE_SHIFT" "I" (.int (8 : Int32))) :
    MeetsW l Z (⟨"java/lang/StringUTF16", "codePointCount", "([BIIZ)I"⟩ : MethodName) jdk_52_method_11_code 6 (some .int) ({ frames := 1, cells := 0, slots := 0, locals := 13 } : Room) #[(.ref a1), (.int (0 : Int32)), (.int (Int32.ofNat cs.length)), (.int (0 : Int32))] h0 (Pu h0 (fun v => ∃ z : Int32, v = some (.int z) ∧ z.toInt ≤ cs.length)) := by
  refine MeetsW.of (plainFor_of_name pn_java_lang_StringUTF16) ?_
  intro p e s m below meth c s₁ P hx hby hml hZ hown hnm hret hlk X0 e0 K
  have M0 : Mv h0 h0 [] [] := Mv.refl _ _
  refine Go.cast (ef_rm_cpcZ m a1 (0 : Int32) (Int32.ofNat cs.length) (0 : Int32) ) ?_
  obtain ⟨T1, X1, e1, st1⟩ := getS2 X0 hx hZ hown (host := "") (Or.inl (hw _ (List.mem_of_getElem? (i := 126) rfl))) Via.refl e0 Z_ad (g := (mkF m 0 #[.val (.ref a1), .val (.int (0 : Int32)), .val (.int (Int32.ofNat cs.length)), .val (.int (0 : Int32)), .unset, .unset] [])) rfl (hb hby d_jdk_52_method_11_code_0)
  refine Go.of (T' := T1) (f' := (mkF m 3 #[.val (.ref a1), .val (.int (0 : Int32)), .val (.int (Int32.ofNat cs.length)), .val (.int (0 : Int32)), .unset, .unset] [(.int (1 : Int32))])) st1 ?_
  refine Go.of (T' := T1) (f' := (mkF m 19 #[.val (.ref a1), .val (.int (0 : Int32)), .val (.int (Int32.ofNat cs.length)), .val (.int (0 : Int32)), .unset, .unset] [])) (fun _ k => XS.ifYes X1.here hx rfl (pc0 := 3) (pc' := 19) rfl (hb hby d_jdk_52_method_11_code_3) rfl (by decide) (by decide) (by decide) k) ?_
  refine Go.of (T' := T1) (f' := (mkF m 20 #[.val (.ref a1), .val (.int (0 : Int32)), .val (.int (Int32.ofNat cs.length)), .val (.int (0 : Int32)), .unset, .unset] [(.int (Int32.ofNat cs.length))])) (fun _ k => XS.iloadN X1.here hx rfl (hb hby d_jdk_52_method_11_code_19) rfl k) ?_
  refine Go.of (T' := T1) (f' := (mkF m 21 #[.val (.ref a1), .val (.int (0 : Int32)), .val (.int (Int32.ofNat cs.length)), .val (.int (0 : Int32)), .unset, .unset] [(.int (0 : Int32)), (.int (Int32.ofNat cs.length))])) (fun _ k => XS.iloadN X1.here hx rfl (hb hby d_jdk_52_method_11_code_20) rfl k) ?_
  refine Go.of (T' := T1) (f' := (mkF m 22 #[.val (.ref a1), .val (.int (0 : Int32)), .val (.int (Int32.ofNat cs.length)), .val (.int (0 : Int32)), .unset, .unset] [(.int ((Int32.ofNat cs.length) - (0 : Int32)))])) (fun _ k => XS.isub X1.here hx rfl (hb hby d_jdk_52_method_11_code_21) rfl k) ?_
  refine Go.of (T' := T1) (f' := (mkF m 24 #[.val (.ref a1), .val (.int (0 : Int32)), .val (.int (Int32.ofNat cs.length)), .val (.int (0 : Int32)), .val (.int ((Int32.ofNat cs.length) - (0 : Int32))), .unset] [])) (fun _ k => XS.istore X1.here hx rfl (hb hby d_jdk_52_method_11_code_22) rfl (l' := #[.val (.ref a1), .val (.int (0 : Int32)), .val (.int (Int32.ofNat cs.length)), .val (.int (0 : Int32)), .val (.int ((Int32.ofNat cs.length) - (0 : Int32))), .unset]) rfl k) ?_
  refine Go.of (T' := T1) (f' := (mkF m 25 #[.val (.ref a1), .val (.int (0 : Int32)), .val (.int (Int32.ofNat cs.length)), .val (.int (0 : Int32)), .val (.int ((Int32.ofNat cs.length) - (0 : Int32))), .unset] [(.int (0 : Int32))])) (fun _ k => XS.iloadN X1.here hx rfl (hb hby d_jdk_52_method_11_code_24) rfl k) ?_
  refine Go.of (T' := T1) (f' := (mkF m 27 #[.val (.ref a1), .val (.int (0 : Int32)), .val (.int (Int32.ofNat cs.length)), .val (.int (0 : Int32)), .val (.int ((Int32.ofNat cs.length) - (0 : Int32))), .val (.int (0 : Int32))] [])) (fun _ k => XS.istore X1.here hx rfl (hb hby d_jdk_52_method_11_code_25) rfl (l' := #[.val (.ref a1), .val (.int (0 : Int32)), .val (.int (Int32.ofNat cs.length)), .val (.int (0 : Int32)), .val (.int ((Int32.ofNat cs.length) - (0 : Int32))), .val (.int (0 : Int32))]) rfl k) ?_
  refine Go.of (T' := T1) (f' := (mkF m 28 #[.val (.ref a1), .val (.int (0 : Int32)), .val (.int (Int32.ofNat cs.length)), .val (.int (0 : Int32)), .val (.int ((Int32.ofNat cs.length) - (0 : Int32))), .val (.int (0 : Int32))] [(.int (0 : Int32))])) (fun _ k => XS.iloadN X1.here hx rfl (hb hby d_jdk_52_method_11_code_27) rfl k) ?_
  refine Go.of (T' := T1) (f' := (mkF m 44 #[.val (.ref a1), .val (.int (0 : Int32)), .val (.int (Int32.ofNat cs.length)), .val (.int (0 : Int32)), .val (.int ((Int32.ofNat cs.length) - (0 : Int32))), .val (.int (0 : Int32))] [])) (fun _ k => XS.ifYes X1.here hx rfl (pc0 := 28) (pc' := 44) rfl (hb hby d_jdk_52_method_11_code_28) rfl (by decide) (by decide) (by decide) k) ?_
  show Go p e below P T1 (mkF m 44 #[.val (.ref a1), .val (.int (0 : Int32)), .val (.int (Int32.ofNat cs.length)), .val (.int (0 : Int32)), .val (.int ((Int32.ofNat cs.length) - (0 : Int32))), .val (.int (Int32.ofNat 0))] [])
  have J : ∀ (n i : Nat) (cn : Int32) (Tj : State), cs.length ≤ i + n → i ≤ cs.length → Cpc cn i cs.length → Stand p l e ({ frames := 1, cells := 0, slots := 0, locals := 13 } : Room) s m #[(.ref a1), (.int (0 : Int32)), (.int (Int32.ofNat cs.length)), (.int (0 : Int32))] below meth c Tj [] 0 0 → Tj.heap = h0 → Go p e below P Tj (mkF m 44 #[.val (.ref a1), .val (.int (0 : Int32)), .val (.int (Int32.ofNat cs.length)), .val (.int (0 : Int32)), .val (.int cn), .val (.int (Int32.ofNat i))] []) := by
    intro n
    induction n with
    | zero =>
      intro i cn Tj hle hi1 hcn Xj ej
      refine Go.of (T' := Tj) (f' := (mkF m 46 #[.val (.ref a1), .val (.int (0 : Int32)), .val (.int (Int32.ofNat cs.length)), .val (.int (0 : Int32)), .val (.int cn), .val (.int (Int32.ofNat i))] [(.int (Int32.ofNat i))])) (fun _ k => XS.iload Xj.here hx rfl (hb hby d_jdk_52_method_11_code_44) rfl k) ?_
      refine Go.of (T' := Tj) (f' := (mkF m 47 #[.val (.ref a1), .val (.int (0 : Int32)), .val (.int (Int32.ofNat cs.length)), .val (.int (0 : Int32)), .val (.int cn), .val (.int (Int32.ofNat i))] [(.int (Int32.ofNat cs.length)), (.int (Int32.ofNat i))])) (fun _ k => XS.iloadN Xj.here hx rfl (hb hby d_jdk_52_method_11_code_46) rfl k) ?_
      refine Go.of (T' := Tj) (f' := (mkF m 48 #[.val (.ref a1), .val (.int (0 : Int32)), .val (.int (Int32.ofNat cs.length)), .val (.int (0 : Int32)), .val (.int cn), .val (.int (Int32.ofNat i))] [(.int (1 : Int32)), (.int (Int32.ofNat cs.length)), (.int (Int32.ofNat i))])) (fun _ k => XS.iconst Xj.here hx rfl (hb hby d_jdk_52_method_11_code_47) k) ?_
      refine Go.of (T' := Tj) (f' := (mkF m 49 #[.val (.ref a1), .val (.int (0 : Int32)), .val (.int (Int32.ofNat cs.length)), .val (.int (0 : Int32)), .val (.int cn), .val (.int (Int32.ofNat i))] [(.int ((Int32.ofNat cs.length) - (1 : Int32))), (.int (Int32.ofNat i))])) (fun _ k => XS.isub Xj.here hx rfl (hb hby d_jdk_52_method_11_code_48) rfl k) ?_
      have hc49 : ¬ ((Int32.ofNat i) < ((Int32.ofNat cs.length) - (1 : Int32))) := fun q => by have q := (ltN1 hl h1 (by omega)).mp q; omega
      refine Go.of (T' := Tj) (f' := (mkF m 88 #[.val (.ref a1), .val (.int (0 : Int32)), .val (.int (Int32.ofNat cs.length)), .val (.int (0 : Int32)), .val (.int cn), .val (.int (Int32.ofNat i))] [])) (fun _ k => XS.icmpYes Xj.here hx rfl (pc0 := 49) (pc' := 88) rfl (hb hby d_jdk_52_method_11_code_49) rfl (flt hc49).2.1 (by decide) (by decide) k) ?_
      refine Go.of (T' := Tj) (f' := (mkF m 90 #[.val (.ref a1), .val (.int (0 : Int32)), .val (.int (Int32.ofNat cs.length)), .val (.int (0 : Int32)), .val (.int cn), .val (.int (Int32.ofNat i))] [(.int cn)])) (fun _ k => XS.iload Xj.here hx rfl (hb hby d_jdk_52_method_11_code_88) rfl k) ?_
      exact goRetI (Q := Pu h0 (fun v => ∃ z : Int32, v = some (.int z) ∧ z.toInt ≤ cs.length)) Xj hx (t := .int) hret hlk rfl (by simp) (hb hby d_jdk_52_method_11_code_90) K (by decide) (by decide) ej (⟨rfl, rfl, _, rfl, hcn.2⟩)
    | succ n ih =>
      intro i cn Tj hle hi1 hcn Xj ej
      refine Go.of (T' := Tj) (f' := (mkF m 46 #[.val (.ref a1), .val (.int (0 : Int32)), .val (.int (Int32.ofNat cs.length)), .val (.int (0 : Int32)), .val (.int cn), .val (.int (Int32.ofNat i))] [(.int (Int32.ofNat i))])) (fun _ k => XS.iload Xj.here hx rfl (hb hby d_jdk_52_method_11_code_44) rfl k) ?_
      refine Go.of (T' := Tj) (f' := (mkF m 47 #[.val (.ref a1), .val (.int (0 : Int32)), .val (.int (Int32.ofNat cs.length)), .val (.int (0 : Int32)), .val (.int cn), .val (.int (Int32.ofNat i))] [(.int (Int32.ofNat cs.length)), (.int (Int32.ofNat i))])) (fun _ k => XS.iloadN Xj.here hx rfl (hb hby d_jdk_52_method_11_code_46) rfl k) ?_
      refine Go.of (T' := Tj) (f' := (mkF m 48 #[.val (.ref a1), .val (.int (0 : Int32)), .val (.int (Int32.ofNat cs.length)), .val (.int (0 : Int32)), .val (.int cn), .val (.int (Int32.ofNat i))] [(.int (1 : Int32)), (.int (Int32.ofNat cs.length)), (.int (Int32.ofNat i))])) (fun _ k => XS.iconst Xj.here hx rfl (hb hby d_jdk_52_method_11_code_47) k) ?_
      refine Go.of (T' := Tj) (f' := (mkF m 49 #[.val (.ref a1), .val (.int (0 : Int32)), .val (.int (Int32.ofNat cs.length)), .val (.int (0 : Int32)), .val (.int cn), .val (.int (Int32.ofNat i))] [(.int ((Int32.ofNat cs.length) - (1 : Int32))), (.int (Int32.ofNat i))])) (fun _ k => XS.isub Xj.here hx rfl (hb hby d_jdk_52_method_11_code_48) rfl k) ?_
      by_cases hc49 : (Int32.ofNat i) < ((Int32.ofNat cs.length) - (1 : Int32))
      ·
        refine Go.of (T' := Tj) (f' := (mkF m 52 #[.val (.ref a1), .val (.int (0 : Int32)), .val (.int (Int32.ofNat cs.length)), .val (.int (0 : Int32)), .val (.int cn), .val (.int (Int32.ofNat i))] [])) (fun _ k => XS.icmpNo Xj.here hx rfl (hb hby d_jdk_52_method_11_code_49) rfl (tlt hc49).2.1 k) ?_
        have hi' : i + 1 < cs.length := (ltN1 hl h1 (by omega)).mp hc49
        have hi : i < cs.length := by omega
        refine Go.of (T' := Tj) (f' := (mkF m 53 #[.val (.ref a1), .val (.int (0 : Int32)), .val (.int (Int32.ofNat cs.length)), .val (.int (0 : Int32)), .val (.int cn), .val (.int (Int32.ofNat i))] [(.ref a1)])) (fun _ k => XS.aloadN Xj.here hx rfl (hb hby d_jdk_52_method_11_code_52) rfl rfl k) ?_
        refine Go.of (T' := Tj) (f' := (mkF m 55 #[.val (.ref a1), .val (.int (0 : Int32)), .val (.int (Int32.ofNat cs.length)), .val (.int (0 : Int32)), .val (.int cn), .val (.int (Int32.ofNat i))] [(.int (Int32.ofNat i)), (.ref a1)])) (fun _ k => XS.iload Xj.here hx rfl (hb hby d_jdk_52_method_11_code_53) rfl k) ?_
        refine Go.of (T' := Tj) (f' := (mkF m 58 #[.val (.ref a1), .val (.int (0 : Int32)), .val (.int (Int32.ofNat cs.length)), .val (.int (0 : Int32)), .val (.int cn), .val (.int ((Int32.ofNat i) + (1 : Int32)))] [(.int (Int32.ofNat i)), (.ref a1)])) (fun _ k => XS.iinc Xj.here hx rfl (hb hby d_jdk_52_method_11_code_55) rfl (l' := #[.val (.ref a1), .val (.int (0 : Int32)), .val (.int (Int32.ofNat cs.length)), .val (.int (0 : Int32)), .val (.int cn), .val (.int ((Int32.ofNat i) + (1 : Int32)))]) rfl k) ?_
        rw [show (Int32.ofNat i) + (1 : Int32) = Int32.ofNat (i + 1) from (Int32.ofNat_add _ _).symm]
        refine goS Xj hx hZ hown (hw _ (List.mem_of_getElem? (i := 129) rfl)) (hw _ (List.mem_of_getElem? (i := 130) rfl)) (hw _ (List.mem_of_getElem? (i := 25) rfl)) (hw _ (List.mem_of_getElem? (i := 131) rfl)) (by decide) (C := 0) (S := 0) ((rm_getChar l Z a0 hw a1 ka cs i h0 V_a1 hl hi hbr Z_ad Z_hs Z_ls).bk (W := 0) hZ (hw _ (List.mem_of_getElem? (i := 131) rfl)) (hw _ (List.mem_of_getElem? (i := 25) rfl)) (by decide) (by decide)) ej (argsL := [(.ref a1), (.int (Int32.ofNat i))]) (rest := []) (by rw [hml]; rfl) (lenOf pd___BI_C rfl) rfl rfl (hb hby d_jdk_52_method_11_code_58) (Nat.le_of_eq rfl) (by decide) (by decide) ?_
        intro v2 T2 L2 X2 hQ2
        obtain ⟨nq2, e2, rfl⟩ := hQ2
        replace X2 := standNil X2 nq2
        show Go p e below P T2 (mkF m 61 #[.val (.ref a1), .val (.int (0 : Int32)), .val (.int (Int32.ofNat cs.length)), .val (.int (0 : Int32)), .val (.int cn), .val (.int (Int32.ofNat (i + 1)))] [(.int (cs.getD i 0))])
        refine goS X2 hx hZ hown (hw _ (List.mem_of_getElem? (i := 153) rfl)) (hw _ (List.mem_of_getElem? (i := 87) rfl)) (hw _ (List.mem_of_getElem? (i := 88) rfl)) (hw _ (List.mem_of_getElem? (i := 89) rfl)) (by decide) (C := 0) (S := 0) ((rm_isHi l Z a0 hw (cs.getD i 0) h0 ).bk (W := 0) hZ (hw _ (List.mem_of_getElem? (i := 89) rfl)) (hw _ (List.mem_of_getElem? (i := 88) rfl)) (by decide) (by decide)) e2 (argsL := [(.int (cs.getD i 0))]) (rest := []) (by rw [hml]; rfl) (lenOf pd__C_Z rfl) rfl rfl (hb hby d_jdk_52_method_11_code_61) (Nat.le_of_eq rfl) (by decide) (by decide) ?_
        intro v3 T3 L3 X3 hQ3
        obtain ⟨nq3, e3, rfl⟩ := hQ3
        replace X3 := standNil X3 nq3
        show Go p e below P T3 (mkF m 64 #[.val (.ref a1), .val (.int (0 : Int32)), .val (.int (Int32.ofNat cs.length)), .val (.int (0 : Int32)), .val (.int cn), .val (.int (Int32.ofNat (i + 1)))] [(.int (bi (Hi (cs.getD i 0))))])
        by_cases hc64 : Hi (cs.getD i 0)
        ·
          refine Go.of (T' := T3) (f' := (mkF m 67 #[.val (.ref a1), .val (.int (0 : Int32)), .val (.int (Int32.ofNat cs.length)), .val (.int (0 : Int32)), .val (.int cn), .val (.int (Int32.ofNat (i + 1)))] [])) (fun _ k => XS.ifNo X3.here hx rfl (hb hby d_jdk_52_method_11_code_64) rfl ((if0 _ _).trans (feq (bi_ne hc64)).1) k) ?_
          refine Go.of (T' := T3) (f' := (mkF m 68 #[.val (.ref a1), .val (.int (0 : Int32)), .val (.int (Int32.ofNat cs.length)), .val (.int (0 : Int32)), .val (.int cn), .val (.int (Int32.ofNat (i + 1)))] [(.ref a1)])) (fun _ k => XS.aloadN X3.here hx rfl (hb hby d_jdk_52_method_11_code_67) rfl rfl k) ?_
          refine Go.of (T' := T3) (f' := (mkF m 70 #[.val (.ref a1), .val (.int (0 : Int32)), .val (.int (Int32.ofNat cs.length)), .val (.int (0 : Int32)), .val (.int cn), .val (.int (Int32.ofNat (i + 1)))] [(.int (Int32.ofNat (i + 1))), (.ref a1)])) (fun _ k => XS.iload X3.here hx rfl (hb hby d_jdk_52_method_11_code_68) rfl k) ?_
          refine goS X3 hx hZ hown (hw _ (List.mem_of_getElem? (i := 129) rfl)) (hw _ (List.mem_of_getElem? (i := 130) rfl)) (hw _ (List.mem_of_getElem? (i := 25) rfl)) (hw _ (List.mem_of_getElem? (i := 131) rfl)) (by decide) (C := 0) (S := 0) ((rm_getChar l Z a0 hw a1 ka cs (i + 1) h0 V_a1 hl hi' hbr Z_ad Z_hs Z_ls).bk (W := 0) hZ (hw _ (List.mem_of_getElem? (i := 131) rfl)) (hw _ (List.mem_of_getElem? (i := 25) rfl)) (by decide) (by decide)) e3 (argsL := [(.ref a1), (.int (Int32.ofNat (i + 1)))]) (rest := []) (by rw [hml]; rfl) (lenOf pd___BI_C rfl) rfl rfl (hb hby d_jdk_52_method_11_code_70) (Nat.le_of_eq rfl) (by decide) (by decide) ?_
          intro v4 T4 L4 X4 hQ4
          obtain ⟨nq4, e4, rfl⟩ := hQ4
          replace X4 := standNil X4 nq4
          show Go p e below P T4 (mkF m 73 #[.val (.ref a1), .val (.int (0 : Int32)), .val (.int (Int32.ofNat cs.length)), .val (.int (0 : Int32)), .val (.int cn), .val (.int (Int32.ofNat (i + 1)))] [(.int (cs.getD (i + 1) 0))])
          refine goS X4 hx hZ hown (hw _ (List.mem_of_getElem? (i := 154) rfl)) (hw _ (List.mem_of_getElem? (i := 144) rfl)) (hw _ (List.mem_of_getElem? (i := 88) rfl)) (hw _ (List.mem_of_getElem? (i := 145) rfl)) (by decide) (C := 0) (S := 0) ((rm_isLo l Z a0 hw (cs.getD (i + 1) 0) h0 ).bk (W := 0) hZ (hw _ (List.mem_of_getElem? (i := 145) rfl)) (hw _ (List.mem_of_getElem? (i := 88) rfl)) (by decide) (by decide)) e4 (argsL := [(.int (cs.getD (i + 1) 0))]) (rest := []) (by rw [hml]; rfl) (lenOf pd__C_Z rfl) rfl rfl (hb hby d_jdk_52_method_11_code_73) (Nat.le_of_eq rfl) (by decide) (by decide) ?_
          intro v5 T5 L5 X5 hQ5
          obtain ⟨nq5, e5, rfl⟩ := hQ5
          replace X5 := standNil X5 nq5
          show Go p e below P T5 (mkF m 76 #[.val (.ref a1), .val (.int (0 : Int32)), .val (.int (Int32.ofNat cs.length)), .val (.int (0 : Int32)), .val (.int cn), .val (.int (Int32.ofNat (i + 1)))] [(.int (bi (Lo (cs.getD (i + 1) 0))))])
          by_cases hc76 : Lo (cs.getD (i + 1) 0)
          ·
            refine Go.of (T' := T5) (f' := (mkF m 79 #[.val (.ref a1), .val (.int (0 : Int32)), .val (.int (Int32.ofNat cs.length)), .val (.int (0 : Int32)), .val (.int cn), .val (.int (Int32.ofNat (i + 1)))] [])) (fun _ k => XS.ifNo X5.here hx rfl (hb hby d_jdk_52_method_11_code_76) rfl ((if0 _ _).trans (feq (bi_ne hc76)).1) k) ?_
            refine Go.of (T' := T5) (f' := (mkF m 82 #[.val (.ref a1), .val (.int (0 : Int32)), .val (.int (Int32.ofNat cs.length)), .val (.int (0 : Int32)), .val (.int (cn + (-1 : Int32))), .val (.int (Int32.ofNat (i + 1)))] [])) (fun _ k => XS.iinc X5.here hx rfl (hb hby d_jdk_52_method_11_code_79) rfl (l' := #[.val (.ref a1), .val (.int (0 : Int32)), .val (.int (Int32.ofNat cs.length)), .val (.int (0 : Int32)), .val (.int (cn + (-1 : Int32))), .val (.int (Int32.ofNat (i + 1)))]) rfl k) ?_
            refine Go.of (T' := T5) (f' := (mkF m 85 #[.val (.ref a1), .val (.int (0 : Int32)), .val (.int (Int32.ofNat cs.length)), .val (.int (0 : Int32)), .val (.int (cn + (-1 : Int32))), .val (.int ((Int32.ofNat (i + 1)) + (1 : Int32)))] [])) (fun _ k => XS.iinc X5.here hx rfl (hb hby d_jdk_52_method_11_code_82) rfl (l' := #[.val (.ref a1), .val (.int (0 : Int32)), .val (.int (Int32.ofNat cs.length)), .val (.int (0 : Int32)), .val (.int (cn + (-1 : Int32))), .val (.int ((Int32.ofNat (i + 1)) + (1 : Int32)))]) rfl k) ?_
            refine Go.of (T' := T5) (f' := (mkF m 44 #[.val (.ref a1), .val (.int (0 : Int32)), .val (.int (Int32.ofNat cs.length)), .val (.int (0 : Int32)), .val (.int (cn + (-1 : Int32))), .val (.int ((Int32.ofNat (i + 1)) + (1 : Int32)))] [])) (fun _ k => XS.goto X5.here hx rfl (pc0 := 85) (pc' := 44) rfl (hb hby d_jdk_52_method_11_code_85) (by decide) (by decide) k) ?_
            rw [show (Int32.ofNat (i + 1)) + (1 : Int32) = Int32.ofNat (i + 1 + 1) from (Int32.ofNat_add _ _).symm]
            exact ih (i + 1 + 1) _ T5 (by omega) (by omega) (cpc2 hcn hl hi') X5 e5
          ·
            refine Go.of (T' := T5) (f' := (mkF m 44 #[.val (.ref a1), .val (.int (0 : Int32)), .val (.int (Int32.ofNat cs.length)), .val (.int (0 : Int32)), .val (.int cn), .val (.int (Int32.ofNat (i + 1)))] [])) (fun _ k => XS.ifYes X5.here hx rfl (pc0 := 76) (pc' := 44) rfl (hb hby d_jdk_52_method_11_code_76) rfl ((if0 _ _).trans (teq (bi_f hc76)).1) (by decide) (by decide) k) ?_
            exact ih (i + 1) _ T5 (by omega) (by omega) (cpc1 hcn) X5 e5
        ·
          refine Go.of (T' := T3) (f' := (mkF m 44 #[.val (.ref a1), .val (.int (0 : Int32)), .val (.int (Int32.ofNat cs.length)), .val (.int (0 : Int32)), .val (.int cn), .val (.int (Int32.ofNat (i + 1)))] [])) (fun _ k => XS.ifYes X3.here hx rfl (pc0 := 64) (pc' := 44) rfl (hb hby d_jdk_52_method_11_code_64) rfl ((if0 _ _).trans (teq (bi_f hc64)).1) (by decide) (by decide) k) ?_
          exact ih (i + 1) _ T3 (by omega) (by omega) (cpc1 hcn) X3 e3
      ·
        refine Go.of (T' := Tj) (f' := (mkF m 88 #[.val (.ref a1), .val (.int (0 : Int32)), .val (.int (Int32.ofNat cs.length)), .val (.int (0 : Int32)), .val (.int cn), .val (.int (Int32.ofNat i))] [])) (fun _ k => XS.icmpYes Xj.here hx rfl (pc0 := 49) (pc' := 88) rfl (hb hby d_jdk_52_method_11_code_49) rfl (flt hc49).2.1 (by decide) (by decide) k) ?_
        refine Go.of (T' := Tj) (f' := (mkF m 90 #[.val (.ref a1), .val (.int (0 : Int32)), .val (.int (Int32.ofNat cs.length)), .val (.int (0 : Int32)), .val (.int cn), .val (.int (Int32.ofNat i))] [(.int cn)])) (fun _ k => XS.iload Xj.here hx rfl (hb hby d_jdk_52_method_11_code_88) rfl k) ?_
        exact goRetI (Q := Pu h0 (fun v => ∃ z : Int32, v = some (.int z) ∧ z.toInt ≤ cs.length)) Xj hx (t := .int) hret hlk rfl (by simp) (hb hby d_jdk_52_method_11_code_90) K (by decide) (by decide) ej (⟨rfl, rfl, _, rfl, hcn.2⟩)
  exact J cs.length 0 _ T1 (by omega) (by omega) (cpc_sub0 hl) X1 e1
theorem ef_rm_cpc3 (m : MethodId) (x0 : Addr) (x1 : Int32) (x2 : Int32)  : entryFrame m #[(.ref x0), (.int x1), (.int x2)] 3 = mkF m 0 #[.val (.ref x0), .val (.int x1), .val (.int x2)] [] := by first | (simp [entryFrame, mkF, argsToLocals, Value.category]; done) | rfl
theorem d_jdk_52_method_12_code_0 : decode jdk_52_method_12_code 0 = .ok (.aload_n 0, 1) := by decide +kernel
theorem d_jdk_52_method_12_code_1 : decode jdk_52_method_12_code 1 = .ok (.iload_n 1, 1) := by decide +kernel
theorem d_jdk_52_method_12_code_2 : decode jdk_52_method_12_code 2 = .ok (.iload_n 2, 1) := by decide +kernel
theorem d_jdk_52_method_12_code_3 : decode jdk_52_method_12_code 3 = .ok (.iconst 0, 1) := by decide +kernel
theorem d_jdk_52_method_12_code_4 : decode jdk_52_method_12_code 4 = .ok (.invokestatic 100, 3) := by decide +kernel
theorem pd___BIIZ_I : parseMethodDescriptor "([BIIZ)I" = some ⟨[(.array .byte), .int, .int, .boolean], some .int⟩ := by decide +kernel
theorem d_jdk_52_method_12_code_7 : decode jdk_52_method_12_code 7 = .ok (.ireturn, 1) := by decide +kernel
set_option maxRecDepth 65536 in
set_option maxHeartbeats 40000000 in
theorem rm_cpc3 (l : Launch) (Z : State) (a0 : Array Value) (hw : ∀ d ∈ tables_1, d.before a0 Z = true) (a1 : Addr) (ka : ClassId) (cs : List Int32) (h0 : Heap) (V_a1 : Arv Z h0 a1 ka .byte (Int32.ofNat (2 * cs.length)) (StrChars.Road.wideBytes cs) (.int (0 : Int32))) (hl : cs.length ≤ 4000) (hbr : ∀ c ∈ cs, ¬ c < 0 ∧ ¬ (65535 : Int32) < c) (h1 : 1 ≤ cs.length) (Z_ad : Sta Z h0 "java/lang/StringUTF16" "$assertionsDisabled" "Z" (.int (1 : Int32))) (Z_hs : Sta Z h0 "java/lang/StringUTF16" "HI_BYTE_SHIFT" "I" (.int (0 : Int32))) (Z_ls : Sta Z h0 "java/lang/StringUTF16" "LO_BYTE_SHIFT" "I" (.int (8 : Int32))) :
    MeetsW l Z (⟨"java/lang/StringUTF16", "codePointCount", "([BII)I"⟩ : MethodName) jdk_52_method_12_code 3 (some .int) ({ frames := 2, cells := 0, slots := 0, locals := 30 } : Room) #[(.ref a1), (.int (0 : Int32)), (.int (Int32.ofNat cs.length))] h0 (Pu h0 (fun v => ∃ z : Int32, v = some (.int z) ∧ z.toInt ≤ cs.length)) := by
  refine MeetsW.of (plainFor_of_name pn_java_lang_StringUTF16) ?_
  intro p e s m below meth c s₁ P hx hby hml hZ hown hnm hret hlk X0 e0 K
  have M0 : Mv h0 h0 [] [] := Mv.refl _ _
  refine Go.cast (ef_rm_cpc3 m a1 (0 : Int32) (Int32.ofNat cs.length) ) ?_
  refine Go.of (T' := s₁) (f' := (mkF m 1 #[.val (.ref a1), .val (.int (0 : Int32)), .val (.int (Int32.ofNat cs.length))] [(.ref a1)])) (fun _ k => XS.aloadN X0.here hx rfl (hb hby d_jdk_52_method_12_code_0) rfl rfl k) ?_
  refine Go.of (T' := s₁) (f' := (mkF m 2 #[.val (.ref a1), .val (.int (0 : Int32)), .val (.int (Int32.ofNat cs.length))] [(.int (0 : Int32)), (.ref a1)])) (fun _ k => XS.iloadN X0.here hx rfl (hb hby d_jdk_52_method_12_code_1) rfl k) ?_
  refine Go.of (T' := s₁) (f' := (mkF m 3 #[.val (.ref a1), .val (.int (0 : Int32)), .val (.int (Int32.ofNat cs.length))] [(.int (Int32.ofNat cs.length)), (.int (0 : Int32)), (.ref a1)])) (fun _ k => XS.iloadN X0.here hx rfl (hb hby d_jdk_52_method_12_code_2) rfl k) ?_
  refine Go.of (T' := s₁) (f' := (mkF m 4 #[.val (.ref a1), .val (.int (0 : Int32)), .val (.int (Int32.ofNat cs.length))] [(.int (0 : Int32)), (.int (Int32.ofNat cs.length)), (.int (0 : Int32)), (.ref a1)])) (fun _ k => XS.iconst X0.here hx rfl (hb hby d_jdk_52_method_12_code_3) k) ?_
  refine goS X0 hx hZ hown (hw _ (List.mem_of_getElem? (i := 150) rfl)) (hw _ (List.mem_of_getElem? (i := 151) rfl)) (hw _ (List.mem_of_getElem? (i := 25) rfl)) (hw _ (List.mem_of_getElem? (i := 152) rfl)) (by decide) (C := 0) (S := 0) ((rm_cpcZ l Z a0 hw a1 ka cs h0 V_a1 hl hbr h1 Z_ad Z_hs Z_ls).bk (W := 0) hZ (hw _ (List.mem_of_getElem? (i := 152) rfl)) (hw _ (List.mem_of_getElem? (i := 25) rfl)) (by decide) (by decide)) e0 (argsL := [(.ref a1), (.int (0 : Int32)), (.int (Int32.ofNat cs.length)), (.int (0 : Int32))]) (rest := []) (by rw [hml]; rfl) (lenOf pd___BIIZ_I rfl) rfl rfl (hb hby d_jdk_52_method_12_code_4) (Nat.le_of_eq rfl) (by decide) (by decide) ?_
  intro v1 T1 L1 X1 hQ1
  obtain ⟨nq1, e1, z1, rfl, hz1⟩ := hQ1
  replace X1 := standNil X1 nq1
  show Go p e below P T1 (mkF m 7 #[.val (.ref a1), .val (.int (0 : Int32)), .val (.int (Int32.ofNat cs.length))] [(.int z1)])
  exact goRetI (Q := Pu h0 (fun v => ∃ z : Int32, v = some (.int z) ∧ z.toInt ≤ cs.length)) X1 hx (t := .int) hret hlk rfl (by simp) (hb hby d_jdk_52_method_12_code_7) K (by decide) (by decide) e1 (⟨rfl, rfl, _, rfl, hz1⟩)
theorem ef_rm_cft (m : MethodId) (x0 : Int32) (x1 : Int32) (x2 : Int32)  : entryFrame m #[(.int x0), (.int x1), (.int x2), .null] 4 = mkF m 0 #[.val (.int x0), .val (.int x1), .val (.int x2), .val .null] [] := by first | (simp [entryFrame, mkF, argsToLocals, Value.category]; done) | rfl
theorem d_jdk_41_method_12_code_0 : decode jdk_41_method_12_code 0 = .ok (.iload_n 0, 1) := by decide +kernel
theorem d_jdk_41_method_12_code_1 : decode jdk_41_method_12_code 1 = .ok (.ifCond .lt 13, 3) := by decide +kernel
theorem d_jdk_41_method_12_code_4 : decode jdk_41_method_12_code 4 = .ok (.iload_n 0, 1) := by decide +kernel
theorem d_jdk_41_method_12_code_5 : decode jdk_41_method_12_code 5 = .ok (.iload_n 1, 1) := by decide +kernel
theorem d_jdk_41_method_12_code_6 : decode jdk_41_method_12_code 6 = .ok (.if_icmp .gt 8, 3) := by decide +kernel
theorem d_jdk_41_method_12_code_9 : decode jdk_41_method_12_code 9 = .ok (.iload_n 1, 1) := by decide +kernel
theorem d_jdk_41_method_12_code_10 : decode jdk_41_method_12_code 10 = .ok (.iload_n 2, 1) := by decide +kernel
theorem d_jdk_41_method_12_code_11 : decode jdk_41_method_12_code 11 = .ok (.if_icmp .le 11, 3) := by decide +kernel
theorem d_jdk_41_method_12_code_22 : decode jdk_41_method_12_code 22 = .ok (.iload_n 0, 1) := by decide +kernel
theorem d_jdk_41_method_12_code_23 : decode jdk_41_method_12_code 23 = .ok (.ireturn, 1) := by decide +kernel
set_option maxRecDepth 65536 in
set_option maxHeartbeats 40000000 in
theorem rm_cft (l : Launch) (Z : State) (a0 : Array Value) (hw : ∀ d ∈ tables_1, d.before a0 Z = true) (n : Nat) (h0 : Heap) (hn : n ≤ 4000) :
    MeetsW l Z (⟨"jdk/internal/util/Preconditions", "checkFromToIndex", "(IIILjava/util/function/BiFunction;)I"⟩ : MethodName) jdk_41_method_12_code 4 (some .int) ({ frames := 0, cells := 0, slots := 0, locals := 0 } : Room) #[(.int (0 : Int32)), (.int (Int32.ofNat n)), (.int (Int32.ofNat n)), .null] h0 (Pu h0 (fun v => v = some (.int 0))) := by
  refine MeetsW.of (plainFor_of_name pn_jdk_internal_util_Preconditions) ?_
  intro p e s m below meth c s₁ P hx hby hml hZ hown hnm hret hlk X0 e0 K
  have M0 : Mv h0 h0 [] [] := Mv.refl _ _
  refine Go.cast (ef_rm_cft m (0 : Int32) (Int32.ofNat n) (Int32.ofNat n) ) ?_
  refine Go.of (T' := s₁) (f' := (mkF m 1 #[.val (.int (0 : Int32)), .val (.int (Int32.ofNat n)), .val (.int (Int32.ofNat n)), .val .null] [(.int (0 : Int32))])) (fun _ k => XS.iloadN X0.here hx rfl (hb hby d_jdk_41_method_12_code_0) rfl k) ?_
  refine Go.of (T' := s₁) (f' := (mkF m 4 #[.val (.int (0 : Int32)), .val (.int (Int32.ofNat n)), .val (.int (Int32.ofNat n)), .val .null] [])) (fun _ k => XS.ifNo X0.here hx rfl (hb hby d_jdk_41_method_12_code_1) rfl (by decide) k) ?_
  refine Go.of (T' := s₁) (f' := (mkF m 5 #[.val (.int (0 : Int32)), .val (.int (Int32.ofNat n)), .val (.int (Int32.ofNat n)), .val .null] [(.int (0 : Int32))])) (fun _ k => XS.iloadN X0.here hx rfl (hb hby d_jdk_41_method_12_code_4) rfl k) ?_
  refine Go.of (T' := s₁) (f' := (mkF m 6 #[.val (.int (0 : Int32)), .val (.int (Int32.ofNat n)), .val (.int (Int32.ofNat n)), .val .null] [(.int (Int32.ofNat n)), (.int (0 : Int32))])) (fun _ k => XS.iloadN X0.here hx rfl (hb hby d_jdk_41_method_12_code_5) rfl k) ?_
  have hc6 : ¬ ((Int32.ofNat n) < (0 : Int32)) := nneg (by omega)
  refine Go.of (T' := s₁) (f' := (mkF m 9 #[.val (.int (0 : Int32)), .val (.int (Int32.ofNat n)), .val (.int (Int32.ofNat n)), .val .null] [])) (fun _ k => XS.icmpNo X0.here hx rfl (hb hby d_jdk_41_method_12_code_6) rfl (flt hc6).2.2.1 k) ?_
  refine Go.of (T' := s₁) (f' := (mkF m 10 #[.val (.int (0 : Int32)), .val (.int (Int32.ofNat n)), .val (.int (Int32.ofNat n)), .val .null] [(.int (Int32.ofNat n))])) (fun _ k => XS.iloadN X0.here hx rfl (hb hby d_jdk_41_method_12_code_9) rfl k) ?_
  refine Go.of (T' := s₁) (f' := (mkF m 11 #[.val (.int (0 : Int32)), .val (.int (Int32.ofNat n)), .val (.int (Int32.ofNat n)), .val .null] [(.int (Int32.ofNat n)), (.int (Int32.ofNat n))])) (fun _ k => XS.iloadN X0.here hx rfl (hb hby d_jdk_41_method_12_code_10) rfl k) ?_
  refine Go.of (T' := s₁) (f' := (mkF m 22 #[.val (.int (0 : Int32)), .val (.int (Int32.ofNat n)), .val (.int (Int32.ofNat n)), .val .null] [])) (fun _ k => XS.icmpYes X0.here hx rfl (pc0 := 11) (pc' := 22) rfl (hb hby d_jdk_41_method_12_code_11) rfl ((flt ((Int32.lt_irrefl (a := (Int32.ofNat n))))).2.2.2) (by decide) (by decide) k) ?_
  refine Go.of (T' := s₁) (f' := (mkF m 23 #[.val (.int (0 : Int32)), .val (.int (Int32.ofNat n)), .val (.int (Int32.ofNat n)), .val .null] [(.int (0 : Int32))])) (fun _ k => XS.iloadN X0.here hx rfl (hb hby d_jdk_41_method_12_code_22) rfl k) ?_
  exact goRetI (Q := Pu h0 (fun v => v = some (.int 0))) X0 hx (t := .int) hret hlk rfl (by simp) (hb hby d_jdk_41_method_12_code_23) K (by decide) (by decide) e0 (⟨rfl, rfl, rfl⟩)
theorem pn_java_util_Objects : plainName "java/util/Objects" = true := by first | (simp [plainName, overriddenIn]; done) | decide +kernel
theorem ef_rm_cfo (m : MethodId) (x0 : Int32) (x1 : Int32) (x2 : Int32)  : entryFrame m #[(.int x0), (.int x1), (.int x2)] 3 = mkF m 0 #[.val (.int x0), .val (.int x1), .val (.int x2)] [] := by first | (simp [entryFrame, mkF, argsToLocals, Value.category]; done) | rfl
theorem d_jdk_31_method_18_code_0 : decode jdk_31_method_18_code 0 = .ok (.iload_n 0, 1) := by decide +kernel
theorem d_jdk_31_method_18_code_1 : decode jdk_31_method_18_code 1 = .ok (.iload_n 1, 1) := by decide +kernel
theorem d_jdk_31_method_18_code_2 : decode jdk_31_method_18_code 2 = .ok (.iload_n 2, 1) := by decide +kernel
theorem d_jdk_31_method_18_code_3 : decode jdk_31_method_18_code 3 = .ok (.aconst_null, 1) := by decide +kernel
theorem d_jdk_31_method_18_code_4 : decode jdk_31_method_18_code 4 = .ok (.invokestatic 111, 3) := by decide +kernel
theorem pd__IIILjava_util_function_BiFunction__I : parseMethodDescriptor "(IIILjava/util/function/BiFunction;)I" = some ⟨[.int, .int, .int, (.object "java/util/function/BiFunction")], some .int⟩ := by decide +kernel
theorem d_jdk_31_method_18_code_7 : decode jdk_31_method_18_code 7 = .ok (.ireturn, 1) := by decide +kernel
set_option maxRecDepth 65536 in
set_option maxHeartbeats 40000000 in
theorem rm_cfo (l : Launch) (Z : State) (a0 : Array Value) (hw : ∀ d ∈ tables_1, d.before a0 Z = true) (n : Nat) (h0 : Heap) (hn : n ≤ 4000) :
    MeetsW l Z (⟨"java/util/Objects", "checkFromToIndex", "(III)I"⟩ : MethodName) jdk_31_method_18_code 3 (some .int) ({ frames := 1, cells := 0, slots := 0, locals := 15 } : Room) #[(.int (0 : Int32)), (.int (Int32.ofNat n)), (.int (Int32.ofNat n))] h0 (Pu h0 (fun v => v = some (.int 0))) := by
  refine MeetsW.of (plainFor_of_name pn_java_util_Objects) ?_
  intro p e s m below meth c s₁ P hx hby hml hZ hown hnm hret hlk X0 e0 K
  have M0 : Mv h0 h0 [] [] := Mv.refl _ _
  refine Go.cast (ef_rm_cfo m (0 : Int32) (Int32.ofNat n) (Int32.ofNat n) ) ?_
  refine Go.of (T' := s₁) (f' := (mkF m 1 #[.val (.int (0 : Int32)), .val (.int (Int32.ofNat n)), .val (.int (Int32.ofNat n))] [(.int (0 : Int32))])) (fun _ k => XS.iloadN X0.here hx rfl (hb hby d_jdk_31_method_18_code_0) rfl k) ?_
  refine Go.of (T' := s₁) (f' := (mkF m 2 #[.val (.int (0 : Int32)), .val (.int (Int32.ofNat n)), .val (.int (Int32.ofNat n))] [(.int (Int32.ofNat n)), (.int (0 : Int32))])) (fun _ k => XS.iloadN X0.here hx rfl (hb hby d_jdk_31_method_18_code_1) rfl k) ?_
  refine Go.of (T' := s₁) (f' := (mkF m 3 #[.val (.int (0 : Int32)), .val (.int (Int32.ofNat n)), .val (.int (Int32.ofNat n))] [(.int (Int32.ofNat n)), (.int (Int32.ofNat n)), (.int (0 : Int32))])) (fun _ k => XS.iloadN X0.here hx rfl (hb hby d_jdk_31_method_18_code_2) rfl k) ?_
  refine Go.of (T' := s₁) (f' := (mkF m 4 #[.val (.int (0 : Int32)), .val (.int (Int32.ofNat n)), .val (.int (Int32.ofNat n))] [.null, (.int (Int32.ofNat n)), (.int (Int32.ofNat n)), (.int (0 : Int32))])) (fun _ k => XS.aconstNull X0.here hx rfl (hb hby d_jdk_31_method_18_code_3) k) ?_
  refine goS X0 hx hZ hown (hw _ (List.mem_of_getElem? (i := 107) rfl)) (hw _ (List.mem_of_getElem? (i := 108) rfl)) (hw _ (List.mem_of_getElem? (i := 82) rfl)) (hw _ (List.mem_of_getElem? (i := 109) rfl)) (by decide) (C := 0) (S := 0) ((rm_cft l Z a0 hw n h0 hn).bk (W := 0) hZ (hw _ (List.mem_of_getElem? (i := 109) rfl)) (hw _ (List.mem_of_getElem? (i := 82) rfl)) (by decide) (by decide)) e0 (argsL := [(.int (0 : Int32)), (.int (Int32.ofNat n)), (.int (Int32.ofNat n)), .null]) (rest := []) (by rw [hml]; rfl) (lenOf pd__IIILjava_util_function_BiFunction__I rfl) rfl rfl (hb hby d_jdk_31_method_18_code_4) (Nat.le_of_eq rfl) (by decide) (by decide) ?_
  intro v1 T1 L1 X1 hQ1
  obtain ⟨nq1, e1, rfl⟩ := hQ1
  replace X1 := standNil X1 nq1
  show Go p e below P T1 (mkF m 7 #[.val (.int (0 : Int32)), .val (.int (Int32.ofNat n)), .val (.int (Int32.ofNat n))] [(.int (0 : Int32))])
  exact goRetI (Q := Pu h0 (fun v => v = some (.int 0))) X1 hx (t := .int) hret hlk rfl (by simp) (hb hby d_jdk_31_method_18_code_7) K (by decide) (by decide) e1 (⟨rfl, rfl, rfl⟩)
theorem ef_rm_isL0 (m : MethodId) (x0 : Addr)  : entryFrame m #[(.ref x0)] 1 = mkF m 0 #[.val (.ref x0)] [] := by first | (simp [entryFrame, mkF, argsToLocals, Value.category]; done) | rfl
theorem d_jdk_42_method_154_code_13 : decode jdk_42_method_154_code 13 = .ok (.iconst 1, 1) := by decide +kernel
theorem d_jdk_42_method_154_code_14 : decode jdk_42_method_154_code 14 = .ok (.goto 4, 3) := by decide +kernel
set_option maxRecDepth 65536 in
set_option maxHeartbeats 40000000 in
theorem rm_isL0 (l : Launch) (Z : State) (a0 : Array Value) (hw : ∀ d ∈ tables_1, d.before a0 Z = true) (a1 : Addr) (zc : Int32) (h0 : Heap) (F_coder : Fld Z h0 a1 "java/lang/String" "coder" "B" (.int (0 : Int32))) (Z_cs : Sta Z h0 "java/lang/String" "COMPACT_STRINGS" "Z" (.int zc)) (hz : ¬ zc = 0) :
    MeetsW l Z (⟨"java/lang/String", "isLatin1", "()Z"⟩ : MethodName) jdk_42_method_154_code 1 (some .boolean) ({ frames := 0, cells := 0, slots := 0, locals := 0 } : Room) #[(.ref a1)] h0 (Pu h0 (fun v => v = some (.int 1))) := by
  refine MeetsW.of (plainFor_of_name pn_java_lang_String) ?_
  intro p e s m below meth c s₁ P hx hby hml hZ hown hnm hret hlk X0 e0 K
  have M0 : Mv h0 h0 [] [] := Mv.refl _ _
  refine Go.cast (ef_rm_isL0 m a1 ) ?_
  obtain ⟨T1, X1, e1, st1⟩ := getS2 X0 hx hZ hown (host := "") (Or.inl (hw _ (List.mem_of_getElem? (i := 22) rfl))) Via.refl e0 Z_cs (g := (mkF m 0 #[.val (.ref a1)] [])) rfl (hb hby d_jdk_42_method_154_code_0)
  refine Go.of (T' := T1) (f' := (mkF m 3 #[.val (.ref a1)] [(.int zc)])) st1 ?_
  have hc3 : ¬ (zc = (0 : Int32)) := hz
  refine Go.of (T' := T1) (f' := (mkF m 6 #[.val (.ref a1)] [])) (fun _ k => XS.ifNo X1.here hx rfl (hb hby d_jdk_42_method_154_code_3) rfl ((if0 _ _).trans (feq hc3).1) k) ?_
  refine Go.of (T' := T1) (f' := (mkF m 7 #[.val (.ref a1)] [(.ref a1)])) (fun _ k => XS.aloadN X1.here hx rfl (hb hby d_jdk_42_method_154_code_6) rfl rfl k) ?_
  obtain ⟨T2, X2, e2, st2⟩ := getF X1 hx hZ hown (host := "") (Or.inl (hw _ (List.mem_of_getElem? (i := 34) rfl))) Via.refl e1 F_coder (g := (mkF m 7 #[.val (.ref a1)] [(.ref a1)])) rfl rfl (hb hby d_jdk_42_method_154_code_7)
  refine Go.of (T' := T2) (f' := (mkF m 10 #[.val (.ref a1)] [(.int (0 : Int32))])) st2 ?_
  refine Go.of (T' := T2) (f' := (mkF m 13 #[.val (.ref a1)] [])) (fun _ k => XS.ifNo X2.here hx rfl (hb hby d_jdk_42_method_154_code_10) rfl (by decide) k) ?_
  refine Go.of (T' := T2) (f' := (mkF m 14 #[.val (.ref a1)] [(.int (1 : Int32))])) (fun _ k => XS.iconst X2.here hx rfl (hb hby d_jdk_42_method_154_code_13) k) ?_
  refine Go.of (T' := T2) (f' := (mkF m 18 #[.val (.ref a1)] [(.int (1 : Int32))])) (fun _ k => XS.goto X2.here hx rfl (pc0 := 14) (pc' := 18) rfl (hb hby d_jdk_42_method_154_code_14) (by decide) (by decide) k) ?_
  exact goRetI (Q := Pu h0 (fun v => v = some (.int 1))) X2 hx (t := .boolean) hret hlk rfl (by simp) (hb hby d_jdk_42_method_154_code_18) K (by decide) (by decide) e2 (⟨rfl, rfl, rfl⟩)
theorem ef_rm_cpcS0 (m : MethodId) (x0 : Addr) (x1 : Int32) (x2 : Int32)  : entryFrame m #[(.ref x0), (.int x1), (.int x2)] 3 = mkF m 0 #[.val (.ref x0), .val (.int x1), .val (.int x2)] [] := by first | (simp [entryFrame, mkF, argsToLocals, Value.category]; done) | rfl
theorem d_jdk_42_method_59_code_0 : decode jdk_42_method_59_code 0 = .ok (.iload_n 1, 1) := by decide +kernel
theorem d_jdk_42_method_59_code_1 : decode jdk_42_method_59_code 1 = .ok (.iload_n 2, 1) := by decide +kernel
theorem d_jdk_42_method_59_code_2 : decode jdk_42_method_59_code 2 = .ok (.aload_n 0, 1) := by decide +kernel
theorem d_jdk_42_method_59_code_3 : decode jdk_42_method_59_code 3 = .ok (.invokevirtual 505, 3) := by decide +kernel
theorem d_jdk_42_method_59_code_6 : decode jdk_42_method_59_code 6 = .ok (.invokestatic 511, 3) := by decide +kernel
theorem pd__III_I : parseMethodDescriptor "(III)I" = some ⟨[.int, .int, .int], some .int⟩ := by decide +kernel
theorem d_jdk_42_method_59_code_9 : decode jdk_42_method_59_code 9 = .ok (.pop, 1) := by decide +kernel
theorem d_jdk_42_method_59_code_10 : decode jdk_42_method_59_code 10 = .ok (.aload_n 0, 1) := by decide +kernel
theorem d_jdk_42_method_59_code_11 : decode jdk_42_method_59_code 11 = .ok (.invokevirtual 492, 3) := by decide +kernel
theorem d_jdk_42_method_59_code_14 : decode jdk_42_method_59_code 14 = .ok (.ifCond .eq 7, 3) := by decide +kernel
theorem d_jdk_42_method_59_code_17 : decode jdk_42_method_59_code 17 = .ok (.iload_n 2, 1) := by decide +kernel
theorem d_jdk_42_method_59_code_18 : decode jdk_42_method_59_code 18 = .ok (.iload_n 1, 1) := by decide +kernel
theorem d_jdk_42_method_59_code_19 : decode jdk_42_method_59_code 19 = .ok (.isub, 1) := by decide +kernel
theorem d_jdk_42_method_59_code_20 : decode jdk_42_method_59_code 20 = .ok (.ireturn, 1) := by decide +kernel
set_option maxRecDepth 65536 in
set_option maxHeartbeats 40000000 in
theorem rm_cpcS0 (l : Launch) (Z : State) (a0 : Array Value) (hw : ∀ d ∈ tables_1, d.before a0 Z = true) (a0_ a1 : Addr) (ka : ClassId) (cs : List Int32) (zc : Int32) (h0 : Heap) (S_a0 : Str Z h0 a0_ a1 cs) (hl : cs.length ≤ 4000) (F_value : Fld Z h0 a0_ "java/lang/String" "value" "[B" (.ref a1)) (F_coder : Fld Z h0 a0_ "java/lang/String" "coder" "B" (.int (0 : Int32))) (Z_ad : Sta Z h0 "java/lang/StringUTF16" "$assertionsDisabled" "Z" (.int (1 : Int32))) (Z_hs : Sta Z h0 "java/lang/StringUTF16" "HI_BYTE_SHIFT" "I" (.int (0 : Int32))) (Z_ls : Sta Z h0 "java/lang/StringUTF16" "LO_BYTE_SHIFT" "I" (.int (8 : Int32))) (Z_cs : Sta Z h0 "java/lang/String" "COMPACT_STRINGS" "Z" (.int zc)) (hz : ¬ zc = 0) :
    MeetsW l Z (⟨"java/lang/String", "codePointCount", "(II)I"⟩ : MethodName) jdk_42_method_59_code 3 (some .int) ({ frames := 2, cells := 0, slots := 0, locals := 29 } : Room) #[(.ref a0_), (.int (0 : Int32)), (.int (Int32.ofNat cs.length))] h0 (Pu h0 (fun v => ∃ z : Int32, v = some (.int z) ∧ z.toInt ≤ cs.length)) := by
  refine MeetsW.of (plainFor_of_name pn_java_lang_String) ?_
  intro p e s m below meth c s₁ P hx hby hml hZ hown hnm hret hlk X0 e0 K
  have M0 : Mv h0 h0 [] [] := Mv.refl _ _
  refine Go.cast (ef_rm_cpcS0 m a0_ (0 : Int32) (Int32.ofNat cs.length) ) ?_
  refine Go.of (T' := s₁) (f' := (mkF m 1 #[.val (.ref a0_), .val (.int (0 : Int32)), .val (.int (Int32.ofNat cs.length))] [(.int (0 : Int32))])) (fun _ k => XS.iloadN X0.here hx rfl (hb hby d_jdk_42_method_59_code_0) rfl k) ?_
  refine Go.of (T' := s₁) (f' := (mkF m 2 #[.val (.ref a0_), .val (.int (0 : Int32)), .val (.int (Int32.ofNat cs.length))] [(.int (Int32.ofNat cs.length)), (.int (0 : Int32))])) (fun _ k => XS.iloadN X0.here hx rfl (hb hby d_jdk_42_method_59_code_1) rfl k) ?_
  refine Go.of (T' := s₁) (f' := (mkF m 3 #[.val (.ref a0_), .val (.int (0 : Int32)), .val (.int (Int32.ofNat cs.length))] [(.ref a0_), (.int (Int32.ofNat cs.length)), (.int (0 : Int32))])) (fun _ k => XS.aloadN X0.here hx rfl (hb hby d_jdk_42_method_59_code_2) rfl rfl k) ?_
  refine goV X0 hx hZ (y := (⟨"java/lang/String", "length", "()I"⟩ : MethodName)) (z := (⟨"java/lang/String", "length", "()I"⟩ : MethodName)) hown (hw _ (List.mem_of_getElem? (i := 102) rfl)) (hw _ (List.mem_of_getElem? (i := 48) rfl)) (notFace_of_selects (args := #[]) (mvT hZ (hw _ (List.mem_of_getElem? (i := 50) rfl)))) (hw _ (List.mem_of_getElem? (i := 50) rfl)) (hw _ (List.mem_of_getElem? (i := 49) rfl)) (by decide) (C := 0) (S := 0) (lenStr (W := 2) hZ (hw_wordsLen hw) (hw _ (List.mem_of_getElem? (i := 10) rfl)) S_a0 Z_cs hz (by decide) (by decide)) e0 S_a0.exa (argsL := []) (rest := [(.int (Int32.ofNat cs.length)), (.int (0 : Int32))]) (by rw [hml]; rfl) (lenOf pd___I rfl) rfl rfl (hb hby d_jdk_42_method_59_code_3) (Nat.le_of_eq rfl) (by decide) (by decide) ?_
  intro v1 T1 L1 X1 hQ1
  obtain ⟨nq1, e1, rfl⟩ := hQ1
  replace X1 := standNil X1 nq1
  show Go p e below P T1 (mkF m 6 #[.val (.ref a0_), .val (.int (0 : Int32)), .val (.int (Int32.ofNat cs.length))] [(.int (Int32.ofNat cs.length)), (.int (Int32.ofNat cs.length)), (.int (0 : Int32))])
  refine goS X1 hx hZ hown (hw _ (List.mem_of_getElem? (i := 103) rfl)) (hw _ (List.mem_of_getElem? (i := 104) rfl)) (hw _ (List.mem_of_getElem? (i := 105) rfl)) (hw _ (List.mem_of_getElem? (i := 106) rfl)) (by decide) (C := 0) (S := 0) ((rm_cfo l Z a0 hw cs.length h0 hl).bk (W := 0) hZ (hw _ (List.mem_of_getElem? (i := 106) rfl)) (hw _ (List.mem_of_getElem? (i := 105) rfl)) (by decide) (by decide)) e1 (argsL := [(.int (0 : Int32)), (.int (Int32.ofNat cs.length)), (.int (Int32.ofNat cs.length))]) (rest := []) (by rw [hml]; rfl) (lenOf pd__III_I rfl) rfl rfl (hb hby d_jdk_42_method_59_code_6) (Nat.le_of_eq rfl) (by decide) (by decide) ?_
  intro v2 T2 L2 X2 hQ2
  obtain ⟨nq2, e2, rfl⟩ := hQ2
  replace X2 := standNil X2 nq2
  show Go p e below P T2 (mkF m 9 #[.val (.ref a0_), .val (.int (0 : Int32)), .val (.int (Int32.ofNat cs.length))] [(.int (0 : Int32))])
  refine Go.of (T' := T2) (f' := (mkF m 10 #[.val (.ref a0_), .val (.int (0 : Int32)), .val (.int (Int32.ofNat cs.length))] [])) (fun _ k => XS.pop X2.here hx rfl (hb hby d_jdk_42_method_59_code_9) rfl rfl k) ?_
  refine Go.of (T' := T2) (f' := (mkF m 11 #[.val (.ref a0_), .val (.int (0 : Int32)), .val (.int (Int32.ofNat cs.length))] [(.ref a0_)])) (fun _ k => XS.aloadN X2.here hx rfl (hb hby d_jdk_42_method_59_code_10) rfl rfl k) ?_
  refine goV X2 hx hZ (y := (⟨"java/lang/String", "isLatin1", "()Z"⟩ : MethodName)) (z := (⟨"java/lang/String", "isLatin1", "()Z"⟩ : MethodName)) hown (hw _ (List.mem_of_getElem? (i := 69) rfl)) (hw _ (List.mem_of_getElem? (i := 70) rfl)) (notFace_of_selects (args := #[]) (mvT hZ (hw _ (List.mem_of_getElem? (i := 72) rfl)))) (hw _ (List.mem_of_getElem? (i := 72) rfl)) (hw _ (List.mem_of_getElem? (i := 71) rfl)) (by decide) (C := 0) (S := 0) ((rm_isL0 l Z a0 hw a0_ zc h0 F_coder Z_cs hz).bk (W := 0) hZ (hw _ (List.mem_of_getElem? (i := 73) rfl)) (hw _ (List.mem_of_getElem? (i := 11) rfl)) (by decide) (by decide)) e2 S_a0.exa (argsL := []) (rest := []) (by rw [hml]; rfl) (lenOf pd___Z rfl) rfl rfl (hb hby d_jdk_42_method_59_code_11) (Nat.le_of_eq rfl) (by decide) (by decide) ?_
  intro v3 T3 L3 X3 hQ3
  obtain ⟨nq3, e3, rfl⟩ := hQ3
  replace X3 := standNil X3 nq3
  show Go p e below P T3 (mkF m 14 #[.val (.ref a0_), .val (.int (0 : Int32)), .val (.int (Int32.ofNat cs.length))] [(.int (1 : Int32))])
  refine Go.of (T' := T3) (f' := (mkF m 17 #[.val (.ref a0_), .val (.int (0 : Int32)), .val (.int (Int32.ofNat cs.length))] [])) (fun _ k => XS.ifNo X3.here hx rfl (hb hby d_jdk_42_method_59_code_14) rfl (by decide) k) ?_
  refine Go.of (T' := T3) (f' := (mkF m 18 #[.val (.ref a0_), .val (.int (0 : Int32)), .val (.int (Int32.ofNat cs.length))] [(.int (Int32.ofNat cs.length))])) (fun _ k => XS.iloadN X3.here hx rfl (hb hby d_jdk_42_method_59_code_17) rfl k) ?_
  refine Go.of (T' := T3) (f' := (mkF m 19 #[.val (.ref a0_), .val (.int (0 : Int32)), .val (.int (Int32.ofNat cs.length))] [(.int (0 : Int32)), (.int (Int32.ofNat cs.length))])) (fun _ k => XS.iloadN X3.here hx rfl (hb hby d_jdk_42_method_59_code_18) rfl k) ?_
  refine Go.of (T' := T3) (f' := (mkF m 20 #[.val (.ref a0_), .val (.int (0 : Int32)), .val (.int (Int32.ofNat cs.length))] [(.int ((Int32.ofNat cs.length) - (0 : Int32)))])) (fun _ k => XS.isub X3.here hx rfl (hb hby d_jdk_42_method_59_code_19) rfl k) ?_
  exact goRetI (Q := Pu h0 (fun v => ∃ z : Int32, v = some (.int z) ∧ z.toInt ≤ cs.length)) X3 hx (t := .int) hret hlk rfl (by simp) (hb hby d_jdk_42_method_59_code_20) K (by decide) (by decide) e3 (⟨rfl, rfl, _, rfl, (cpc_sub0 hl).2⟩)
theorem ef_rm_cpcS1 (m : MethodId) (x0 : Addr) (x1 : Int32) (x2 : Int32)  : entryFrame m #[(.ref x0), (.int x1), (.int x2)] 3 = mkF m 0 #[.val (.ref x0), .val (.int x1), .val (.int x2)] [] := by first | (simp [entryFrame, mkF, argsToLocals, Value.category]; done) | rfl
theorem d_jdk_42_method_59_code_21 : decode jdk_42_method_59_code 21 = .ok (.aload_n 0, 1) := by decide +kernel
theorem d_jdk_42_method_59_code_22 : decode jdk_42_method_59_code 22 = .ok (.getfield 9, 3) := by decide +kernel
theorem d_jdk_42_method_59_code_25 : decode jdk_42_method_59_code 25 = .ok (.iload_n 1, 1) := by decide +kernel
theorem d_jdk_42_method_59_code_26 : decode jdk_42_method_59_code 26 = .ok (.iload_n 2, 1) := by decide +kernel
theorem d_jdk_42_method_59_code_27 : decode jdk_42_method_59_code 27 = .ok (.invokestatic 514, 3) := by decide +kernel
theorem pd___BII_I : parseMethodDescriptor "([BII)I" = some ⟨[(.array .byte), .int, .int], some .int⟩ := by decide +kernel
theorem d_jdk_42_method_59_code_30 : decode jdk_42_method_59_code 30 = .ok (.ireturn, 1) := by decide +kernel
set_option maxRecDepth 65536 in
set_option maxHeartbeats 40000000 in
theorem rm_cpcS1 (l : Launch) (Z : State) (a0 : Array Value) (hw : ∀ d ∈ tables_1, d.before a0 Z = true) (a0_ a1 : Addr) (ka : ClassId) (cs : List Int32) (zc : Int32) (h0 : Heap) (S_a0 : Str Z h0 a0_ a1 cs) (hl : cs.length ≤ 4000) (F_value : Fld Z h0 a0_ "java/lang/String" "value" "[B" (.ref a1)) (F_coder : Fld Z h0 a0_ "java/lang/String" "coder" "B" (.int (1 : Int32))) (V_a1 : Arv Z h0 a1 ka .byte (Int32.ofNat (2 * cs.length)) (StrChars.Road.wideBytes cs) (.int (0 : Int32)))  (hbr : ∀ c ∈ cs, ¬ c < 0 ∧ ¬ (65535 : Int32) < c) (h1 : 1 ≤ cs.length) (Z_ad : Sta Z h0 "java/lang/StringUTF16" "$assertionsDisabled" "Z" (.int (1 : Int32))) (Z_hs : Sta Z h0 "java/lang/StringUTF16" "HI_BYTE_SHIFT" "I" (.int (0 : Int32))) (Z_ls : Sta Z h0 "java/lang/StringUTF16" "LO_BYTE_SHIFT" "I" (.int (8 : Int32))) (Z_cs : Sta Z h0 "java/lang/String" "COMPACT_STRINGS" "Z" (.int zc)) (hz : ¬ zc = 0) :
    MeetsW l Z (⟨"java/lang/String", "codePointCount", "(II)I"⟩ : MethodName) jdk_42_method_59_code 3 (some .int) ({ frames := 3, cells := 0, slots := 0, locals := 44 } : Room) #[(.ref a0_), (.int (0 : Int32)), (.int (Int32.ofNat cs.length))] h0 (Pu h0 (fun v => ∃ z : Int32, v = some (.int z) ∧ z.toInt ≤ cs.length)) := by
  refine MeetsW.of (plainFor_of_name pn_java_lang_String) ?_
  intro p e s m below meth c s₁ P hx hby hml hZ hown hnm hret hlk X0 e0 K
  have M0 : Mv h0 h0 [] [] := Mv.refl _ _
  refine Go.cast (ef_rm_cpcS1 m a0_ (0 : Int32) (Int32.ofNat cs.length) ) ?_
  refine Go.of (T' := s₁) (f' := (mkF m 1 #[.val (.ref a0_), .val (.int (0 : Int32)), .val (.int (Int32.ofNat cs.length))] [(.int (0 : Int32))])) (fun _ k => XS.iloadN X0.here hx rfl (hb hby d_jdk_42_method_59_code_0) rfl k) ?_
  refine Go.of (T' := s₁) (f' := (mkF m 2 #[.val (.ref a0_), .val (.int (0 : Int32)), .val (.int (Int32.ofNat cs.length))] [(.int (Int32.ofNat cs.length)), (.int (0 : Int32))])) (fun _ k => XS.iloadN X0.here hx rfl (hb hby d_jdk_42_method_59_code_1) rfl k) ?_
  refine Go.of (T' := s₁) (f' := (mkF m 3 #[.val (.ref a0_), .val (.int (0 : Int32)), .val (.int (Int32.ofNat cs.length))] [(.ref a0_), (.int (Int32.ofNat cs.length)), (.int (0 : Int32))])) (fun _ k => XS.aloadN X0.here hx rfl (hb hby d_jdk_42_method_59_code_2) rfl rfl k) ?_
  refine goV X0 hx hZ (y := (⟨"java/lang/String", "length", "()I"⟩ : MethodName)) (z := (⟨"java/lang/String", "length", "()I"⟩ : MethodName)) hown (hw _ (List.mem_of_getElem? (i := 102) rfl)) (hw _ (List.mem_of_getElem? (i := 48) rfl)) (notFace_of_selects (args := #[]) (mvT hZ (hw _ (List.mem_of_getElem? (i := 50) rfl)))) (hw _ (List.mem_of_getElem? (i := 50) rfl)) (hw _ (List.mem_of_getElem? (i := 49) rfl)) (by decide) (C := 0) (S := 0) (lenStr (W := 2) hZ (hw_wordsLen hw) (hw _ (List.mem_of_getElem? (i := 10) rfl)) S_a0 Z_cs hz (by decide) (by decide)) e0 S_a0.exa (argsL := []) (rest := [(.int (Int32.ofNat cs.length)), (.int (0 : Int32))]) (by rw [hml]; rfl) (lenOf pd___I rfl) rfl rfl (hb hby d_jdk_42_method_59_code_3) (Nat.le_of_eq rfl) (by decide) (by decide) ?_
  intro v1 T1 L1 X1 hQ1
  obtain ⟨nq1, e1, rfl⟩ := hQ1
  replace X1 := standNil X1 nq1
  show Go p e below P T1 (mkF m 6 #[.val (.ref a0_), .val (.int (0 : Int32)), .val (.int (Int32.ofNat cs.length))] [(.int (Int32.ofNat cs.length)), (.int (Int32.ofNat cs.length)), (.int (0 : Int32))])
  refine goS X1 hx hZ hown (hw _ (List.mem_of_getElem? (i := 103) rfl)) (hw _ (List.mem_of_getElem? (i := 104) rfl)) (hw _ (List.mem_of_getElem? (i := 105) rfl)) (hw _ (List.mem_of_getElem? (i := 106) rfl)) (by decide) (C := 0) (S := 0) ((rm_cfo l Z a0 hw cs.length h0 hl).bk (W := 0) hZ (hw _ (List.mem_of_getElem? (i := 106) rfl)) (hw _ (List.mem_of_getElem? (i := 105) rfl)) (by decide) (by decide)) e1 (argsL := [(.int (0 : Int32)), (.int (Int32.ofNat cs.length)), (.int (Int32.ofNat cs.length))]) (rest := []) (by rw [hml]; rfl) (lenOf pd__III_I rfl) rfl rfl (hb hby d_jdk_42_method_59_code_6) (Nat.le_of_eq rfl) (by decide) (by decide) ?_
  intro v2 T2 L2 X2 hQ2
  obtain ⟨nq2, e2, rfl⟩ := hQ2
  replace X2 := standNil X2 nq2
  show Go p e below P T2 (mkF m 9 #[.val (.ref a0_), .val (.int (0 : Int32)), .val (.int (Int32.ofNat cs.length))] [(.int (0 : Int32))])
  refine Go.of (T' := T2) (f' := (mkF m 10 #[.val (.ref a0_), .val (.int (0 : Int32)), .val (.int (Int32.ofNat cs.length))] [])) (fun _ k => XS.pop X2.here hx rfl (hb hby d_jdk_42_method_59_code_9) rfl rfl k) ?_
  refine Go.of (T' := T2) (f' := (mkF m 11 #[.val (.ref a0_), .val (.int (0 : Int32)), .val (.int (Int32.ofNat cs.length))] [(.ref a0_)])) (fun _ k => XS.aloadN X2.here hx rfl (hb hby d_jdk_42_method_59_code_10) rfl rfl k) ?_
  refine goV X2 hx hZ (y := (⟨"java/lang/String", "isLatin1", "()Z"⟩ : MethodName)) (z := (⟨"java/lang/String", "isLatin1", "()Z"⟩ : MethodName)) hown (hw _ (List.mem_of_getElem? (i := 69) rfl)) (hw _ (List.mem_of_getElem? (i := 70) rfl)) (notFace_of_selects (args := #[]) (mvT hZ (hw _ (List.mem_of_getElem? (i := 72) rfl)))) (hw _ (List.mem_of_getElem? (i := 72) rfl)) (hw _ (List.mem_of_getElem? (i := 71) rfl)) (by decide) (C := 0) (S := 0) ((rm_isL l Z a0 hw a0_ zc h0 F_coder Z_cs hz).bk (W := 0) hZ (hw _ (List.mem_of_getElem? (i := 73) rfl)) (hw _ (List.mem_of_getElem? (i := 11) rfl)) (by decide) (by decide)) e2 S_a0.exa (argsL := []) (rest := []) (by rw [hml]; rfl) (lenOf pd___Z rfl) rfl rfl (hb hby d_jdk_42_method_59_code_11) (Nat.le_of_eq rfl) (by decide) (by decide) ?_
  intro v3 T3 L3 X3 hQ3
  obtain ⟨nq3, e3, rfl⟩ := hQ3
  replace X3 := standNil X3 nq3
  show Go p e below P T3 (mkF m 14 #[.val (.ref a0_), .val (.int (0 : Int32)), .val (.int (Int32.ofNat cs.length))] [(.int (0 : Int32))])
  refine Go.of (T' := T3) (f' := (mkF m 21 #[.val (.ref a0_), .val (.int (0 : Int32)), .val (.int (Int32.ofNat cs.length))] [])) (fun _ k => XS.ifYes X3.here hx rfl (pc0 := 14) (pc' := 21) rfl (hb hby d_jdk_42_method_59_code_14) rfl (by decide) (by decide) (by decide) k) ?_
  refine Go.of (T' := T3) (f' := (mkF m 22 #[.val (.ref a0_), .val (.int (0 : Int32)), .val (.int (Int32.ofNat cs.length))] [(.ref a0_)])) (fun _ k => XS.aloadN X3.here hx rfl (hb hby d_jdk_42_method_59_code_21) rfl rfl k) ?_
  obtain ⟨T4, X4, e4, st4⟩ := getF X3 hx hZ hown (host := "") (Or.inl (hw _ (List.mem_of_getElem? (i := 36) rfl))) Via.refl e3 F_value (g := (mkF m 22 #[.val (.ref a0_), .val (.int (0 : Int32)), .val (.int (Int32.ofNat cs.length))] [(.ref a0_)])) rfl rfl (hb hby d_jdk_42_method_59_code_22)
  refine Go.of (T' := T4) (f' := (mkF m 25 #[.val (.ref a0_), .val (.int (0 : Int32)), .val (.int (Int32.ofNat cs.length))] [(.ref a1)])) st4 ?_
  refine Go.of (T' := T4) (f' := (mkF m 26 #[.val (.ref a0_), .val (.int (0 : Int32)), .val (.int (Int32.ofNat cs.length))] [(.int (0 : Int32)), (.ref a1)])) (fun _ k => XS.iloadN X4.here hx rfl (hb hby d_jdk_42_method_59_code_25) rfl k) ?_
  refine Go.of (T' := T4) (f' := (mkF m 27 #[.val (.ref a0_), .val (.int (0 : Int32)), .val (.int (Int32.ofNat cs.length))] [(.int (Int32.ofNat cs.length)), (.int (0 : Int32)), (.ref a1)])) (fun _ k => XS.iloadN X4.here hx rfl (hb hby d_jdk_42_method_59_code_26) rfl k) ?_
  refine goS X4 hx hZ hown (hw _ (List.mem_of_getElem? (i := 147) rfl)) (hw _ (List.mem_of_getElem? (i := 148) rfl)) (hw _ (List.mem_of_getElem? (i := 25) rfl)) (hw _ (List.mem_of_getElem? (i := 149) rfl)) (by decide) (C := 0) (S := 0) ((rm_cpc3 l Z a0 hw a1 ka cs h0 V_a1 hl hbr h1 Z_ad Z_hs Z_ls).bk (W := 0) hZ (hw _ (List.mem_of_getElem? (i := 149) rfl)) (hw _ (List.mem_of_getElem? (i := 25) rfl)) (by decide) (by decide)) e4 (argsL := [(.ref a1), (.int (0 : Int32)), (.int (Int32.ofNat cs.length))]) (rest := []) (by rw [hml]; rfl) (lenOf pd___BII_I rfl) rfl rfl (hb hby d_jdk_42_method_59_code_27) (Nat.le_of_eq rfl) (by decide) (by decide) ?_
  intro v5 T5 L5 X5 hQ5
  obtain ⟨nq5, e5, z5, rfl, hz5⟩ := hQ5
  replace X5 := standNil X5 nq5
  show Go p e below P T5 (mkF m 30 #[.val (.ref a0_), .val (.int (0 : Int32)), .val (.int (Int32.ofNat cs.length))] [(.int z5)])
  exact goRetI (Q := Pu h0 (fun v => ∃ z : Int32, v = some (.int z) ∧ z.toInt ≤ cs.length)) X5 hx (t := .int) hret hlk rfl (by simp) (hb hby d_jdk_42_method_59_code_30) K (by decide) (by decide) e5 (⟨rfl, rfl, _, rfl, hz5⟩)
theorem cpcAny {p : Program} {l : Launch} {e : Env} {R : Room} {s : State} {args : Array Value} {below : List Frame} {W : Nat} {Z : State} {a0 : Array Value} {h0 : Heap} (hw : ∀ d ∈ tables_1, d.before a0 Z = true) (hZ : Z.Warmed39 s.vm) {x t : Addr} {cs : List Int32} {zc : Int32} (F : Str Z h0 x t cs) (h1 : 1 ≤ cs.length) (Z_ad : Sta Z h0 "java/lang/StringUTF16" "$assertionsDisabled" "Z" (.int (1 : Int32))) (Z_hs : Sta Z h0 "java/lang/StringUTF16" "HI_BYTE_SHIFT" "I" (.int (0 : Int32))) (Z_ls : Sta Z h0 "java/lang/StringUTF16" "LO_BYTE_SHIFT" "I" (.int (8 : Int32))) (Z_cs : Sta Z h0 "java/lang/String" "COMPACT_STRINGS" "Z" (.int zc)) (hz : ¬ zc = 0) (hfr : 4 ≤ R.frames) (hlo : W + 58 ≤ R.locals) :
    BK l R p e below s args (⟨"java/lang/String", "codePointCount", "(II)I"⟩ : MethodName) W #[.ref x, .int (0 : Int32), .int (Int32.ofNat cs.length)] h0 0 0 (Pu h0 (fun v => ∃ z : Int32, v = some (.int z) ∧ z.toInt ≤ cs.length)) := by
  obtain ⟨kb, cd, N, vs, E, V, C, A, g1, g2, g3⟩ := id F
  rcases g1 with ⟨rfl, -, -, q⟩ | ⟨rfl, rfl, rfl, -⟩
  · exact (rm_cpcS0 l Z a0 hw x t kb cs zc h0 F g3 V C Z_ad Z_hs Z_ls Z_cs hz).bk (W := W) hZ (hw _ (List.mem_of_getElem? (i := 101) rfl)) (hw _ (List.mem_of_getElem? (i := 11) rfl)) (by show 3 ≤ _; omega) (by show W + 14 + 29 ≤ _; omega)
  · exact (rm_cpcS1 l Z a0 hw x t kb cs zc h0 F g3 V C A g2 h1 Z_ad Z_hs Z_ls Z_cs hz).bk (W := W) hZ (hw _ (List.mem_of_getElem? (i := 101) rfl)) (hw _ (List.mem_of_getElem? (i := 11) rfl)) (by show 4 ≤ _; omega) (by show W + 14 + 44 ≤ _; omega)
def consts_1 : List (String × Nat) := []
theorem hEL_1 {Z : State} {a0 : Array Value} (hw : ∀ d ∈ tables_1, d.before a0 Z = true) : EW Z a0 consts_1 := EW.nil
theorem ef_rm_own (m : MethodId) (x0 : Addr)  : entryFrame m #[(.ref x0)] 1 = mkF m 0 #[.val (.ref x0)] [] := by first | (simp [entryFrame, mkF, argsToLocals, Value.category]; done) | rfl
theorem d_prog_13_method_4_code_0 : decode prog_13_method_4_code 0 = .ok (.aload_n 0, 1) := by decide +kernel
theorem d_prog_13_method_4_code_1 : decode prog_13_method_4_code 1 = .ok (.ifnonnull 13, 3) := by decide +kernel
theorem d_prog_13_method_4_code_14 : decode prog_13_method_4_code 14 = .ok (.aload_n 0, 1) := by decide +kernel
theorem d_prog_13_method_4_code_15 : decode prog_13_method_4_code 15 = .ok (.invokevirtual 14, 3) := by decide +kernel
theorem hw_wordsEmp {Z : State} {a0 : Array Value} (hw : ∀ d ∈ tables_1, d.before a0 Z = true) : ∀ d ∈ StrChars.Road.wordsEmp, d.before a0 Z = true := fun d hd => hw d ((by decide +kernel : ∀ d ∈ StrChars.Road.wordsEmp, d ∈ tables_1) d hd)
theorem d_prog_13_method_4_code_18 : decode prog_13_method_4_code 18 = .ok (.ifCond .ne 13, 3) := by decide +kernel
theorem d_prog_13_method_4_code_21 : decode prog_13_method_4_code 21 = .ok (.aload_n 0, 1) := by decide +kernel
theorem d_prog_13_method_4_code_22 : decode prog_13_method_4_code 22 = .ok (.invokevirtual 20, 3) := by decide +kernel
theorem d_prog_13_method_4_code_25 : decode prog_13_method_4_code 25 = .ok (.sipush 400, 3) := by decide +kernel
theorem d_prog_13_method_4_code_28 : decode prog_13_method_4_code 28 = .ok (.if_icmp .le 7, 3) := by decide +kernel
theorem d_prog_13_method_4_code_35 : decode prog_13_method_4_code 35 = .ok (.aload_n 0, 1) := by decide +kernel
theorem d_prog_13_method_4_code_36 : decode prog_13_method_4_code 36 = .ok (.ldc 60, 2) := by decide +kernel
theorem hw_sA {Z : State} {a0 : Array Value} (hw : ∀ d ∈ tables_1, d.before a0 Z = true) : ∀ d ∈ Bundle.stringAtoms, d.before a0 Z = true := fun d hd => hw d ((by decide +kernel : ∀ d ∈ Bundle.stringAtoms, d ∈ tables_1) d hd)
theorem d_prog_13_method_4_code_38 : decode prog_13_method_4_code 38 = .ok (.ldc 64, 2) := by decide +kernel
theorem d_prog_13_method_4_code_40 : decode prog_13_method_4_code 40 = .ok (.invokestatic 48, 3) := by decide +kernel
theorem pd__Ljava_lang_String_Ljava_lang_String_I_I : parseMethodDescriptor "(Ljava/lang/String;Ljava/lang/String;I)I" = some ⟨[(.object "java/lang/String"), (.object "java/lang/String"), .int], some .int⟩ := by decide +kernel
theorem d_prog_13_method_4_code_43 : decode prog_13_method_4_code 43 = .ok (.pop, 1) := by decide +kernel
theorem d_prog_13_method_4_code_44 : decode prog_13_method_4_code 44 = .ok (.aload_n 0, 1) := by decide +kernel
theorem d_prog_13_method_4_code_45 : decode prog_13_method_4_code 45 = .ok (.iconst 0, 1) := by decide +kernel
theorem d_prog_13_method_4_code_46 : decode prog_13_method_4_code 46 = .ok (.aload_n 0, 1) := by decide +kernel
theorem d_prog_13_method_4_code_47 : decode prog_13_method_4_code 47 = .ok (.invokevirtual 20, 3) := by decide +kernel
theorem d_prog_13_method_4_code_50 : decode prog_13_method_4_code 50 = .ok (.invokevirtual 65, 3) := by decide +kernel
theorem pd__II_I : parseMethodDescriptor "(II)I" = some ⟨[.int, .int], some .int⟩ := by decide +kernel
theorem d_prog_13_method_4_code_53 : decode prog_13_method_4_code 53 = .ok (.sipush 200, 3) := by decide +kernel
theorem d_prog_13_method_4_code_56 : decode prog_13_method_4_code 56 = .ok (.if_icmp .le 7, 3) := by decide +kernel
theorem d_prog_13_method_4_code_63 : decode prog_13_method_4_code 63 = .ok (.aload_n 0, 1) := by decide +kernel
theorem d_prog_13_method_4_code_64 : decode prog_13_method_4_code 64 = .ok (.areturn, 1) := by decide +kernel
set_option maxRecDepth 65536 in
set_option maxHeartbeats 40000000 in
theorem rm_own (l : Launch) (Z : State) (a0 : Array Value) (hw : ∀ d ∈ tables_1, d.before a0 Z = true) (a1 t1 : Addr) (cs : List Int32) (zc : Int32) (fm : Value) (h0 : Heap) (S_a1 : Str Z h0 a1 t1 cs) (hl0 : 0 < cs.length) (hlen : cs.length ≤ 60) (hwf : Wf cs) (Z_ad : Sta Z h0 "java/lang/StringUTF16" "$assertionsDisabled" "Z" (.int (1 : Int32))) (Z_hs : Sta Z h0 "java/lang/StringUTF16" "HI_BYTE_SHIFT" "I" (.int (0 : Int32))) (Z_ls : Sta Z h0 "java/lang/StringUTF16" "LO_BYTE_SHIFT" "I" (.int (8 : Int32))) (Z_fm : Sta Z h0 "jdk/internal/util/Preconditions" "SIOOBE_FORMATTER" "Ljava/util/function/BiFunction;" fm) (hfm : fm.isRef = true) (Z_cs : Sta Z h0 "java/lang/String" "COMPACT_STRINGS" "Z" (.int zc)) (hz : ¬ zc = 0) :
    MeetsH l Z consts_1 (⟨"com/example/dozor/dozor/Names", "requireLockOwner", "(Ljava/lang/String;)Ljava/lang/String;"⟩ : MethodName) prog_13_method_4_code 1 (some (.object "java/lang/String")) ({ frames := 6, cells := 2, slots := 44, locals := 83 } : Room) #[(.ref a1)] h0 (fun v h L => v = some (.ref a1) ∧ Mv h0 h [] L) := by
  refine MeetsH.of (plainFor_of_name pn_com_example_dozor_dozor_Names) ?_
  intro p e s m below meth c s₁ P hx hby hml hZ hown hnm hret hlk X0 e0 hS RH K
  have hk : h0.size ≤ h0.size := Nat.le_refl _
  replace hZ : Z.Warmed39 (s.setVm s.vm).vm := hZ
  replace hown : (s.setVm s.vm).vm.findClass "com/example/dozor/dozor/Names" = some m.cls := hown
  have M0 : Mv h0 h0 [] [] := Mv.refl _ _
  refine Go.cast (ef_rm_own m a1 ) ?_
  refine Go.of (T' := s₁) (f' := (mkF m 1 #[.val (.ref a1)] [(.ref a1)])) (fun _ k => XS.aloadN X0.here hx rfl (hb hby d_prog_13_method_4_code_0) rfl rfl k) ?_
  refine Go.of (T' := s₁) (f' := (mkF m 14 #[.val (.ref a1)] [])) (fun _ k => XS.ifnonnullYes X0.here hx rfl (pc0 := 1) (pc' := 14) rfl (hb hby d_prog_13_method_4_code_1) rfl (by decide) (by decide) k) ?_
  refine Go.of (T' := s₁) (f' := (mkF m 15 #[.val (.ref a1)] [(.ref a1)])) (fun _ k => XS.aloadN X0.here hx rfl (hb hby d_prog_13_method_4_code_14) rfl rfl k) ?_
  refine goV X0 hx hZ (y := (⟨"java/lang/String", "isEmpty", "()Z"⟩ : MethodName)) (z := (⟨"java/lang/String", "isEmpty", "()Z"⟩ : MethodName)) hown (hw _ (List.mem_of_getElem? (i := 42) rfl)) (hw _ (List.mem_of_getElem? (i := 43) rfl)) (notFace_of_selects (args := #[]) (mvT hZ (hw _ (List.mem_of_getElem? (i := 45) rfl)))) (hw _ (List.mem_of_getElem? (i := 45) rfl)) (hw _ (List.mem_of_getElem? (i := 44) rfl)) (by decide) (C := 0) (S := 0) (empStr (W := 0) hZ (hw_wordsEmp hw) (hw _ (List.mem_of_getElem? (i := 10) rfl)) S_a1 (by decide) (by decide)) e0 S_a1.exa (argsL := []) (rest := []) (by rw [hml]; rfl) (lenOf pd___Z rfl) rfl rfl (hb hby d_prog_13_method_4_code_15) (Nat.le_of_eq rfl) (by decide) (by decide) ?_
  intro v1 T1 L1 X1 hQ1
  obtain ⟨nq1, e1, rfl⟩ := hQ1
  replace X1 := standNil X1 nq1
  show Go p e below P T1 (mkF m 18 #[.val (.ref a1)] [(.int (bi (cs.length = 0)))])
  have hc18 : ¬ (cs.length = 0) := by omega
  refine Go.of (T' := T1) (f' := (mkF m 21 #[.val (.ref a1)] [])) (fun _ k => XS.ifNo X1.here hx rfl (hb hby d_prog_13_method_4_code_18) rfl ((if0 _ _).trans (teq (bi_f hc18)).2) k) ?_
  refine Go.of (T' := T1) (f' := (mkF m 22 #[.val (.ref a1)] [(.ref a1)])) (fun _ k => XS.aloadN X1.here hx rfl (hb hby d_prog_13_method_4_code_21) rfl rfl k) ?_
  refine goV X1 hx hZ (y := (⟨"java/lang/String", "length", "()I"⟩ : MethodName)) (z := (⟨"java/lang/String", "length", "()I"⟩ : MethodName)) hown (hw _ (List.mem_of_getElem? (i := 47) rfl)) (hw _ (List.mem_of_getElem? (i := 48) rfl)) (notFace_of_selects (args := #[]) (mvT hZ (hw _ (List.mem_of_getElem? (i := 50) rfl)))) (hw _ (List.mem_of_getElem? (i := 50) rfl)) (hw _ (List.mem_of_getElem? (i := 49) rfl)) (by decide) (C := 0) (S := 0) (lenStr (W := 0) hZ (hw_wordsLen hw) (hw _ (List.mem_of_getElem? (i := 10) rfl)) S_a1 Z_cs hz (by decide) (by decide)) e1 S_a1.exa (argsL := []) (rest := []) (by rw [hml]; rfl) (lenOf pd___I rfl) rfl rfl (hb hby d_prog_13_method_4_code_22) (Nat.le_of_eq rfl) (by decide) (by decide) ?_
  intro v2 T2 L2 X2 hQ2
  obtain ⟨nq2, e2, rfl⟩ := hQ2
  replace X2 := standNil X2 nq2
  show Go p e below P T2 (mkF m 25 #[.val (.ref a1)] [(.int (Int32.ofNat cs.length))])
  refine Go.of (T' := T2) (f' := (mkF m 28 #[.val (.ref a1)] [(.int (400 : Int32)), (.int (Int32.ofNat cs.length))])) (fun _ k => XS.sipush X2.here hx rfl (hb hby d_prog_13_method_4_code_25) k) ?_
  have hc28 : ¬ ((400 : Int32) < (Int32.ofNat cs.length)) := len400 hlen
  refine Go.of (T' := T2) (f' := (mkF m 35 #[.val (.ref a1)] [])) (fun _ k => XS.icmpYes X2.here hx rfl (pc0 := 28) (pc' := 35) rfl (hb hby d_prog_13_method_4_code_28) rfl (flt hc28).2.2.2 (by decide) (by decide) k) ?_
  refine Go.of (T' := T2) (f' := (mkF m 36 #[.val (.ref a1)] [(.ref a1)])) (fun _ k => XS.aloadN X2.here hx rfl (hb hby d_prog_13_method_4_code_35) rfl rfl k) ?_
  obtain ⟨sa3, T3, h3, k3, X3, e3, E3, hS3, hk3, hZ3, hown3, A3, -, st3⟩ := ldcOH X2 hx hZ hown (hw _ (List.mem_of_getElem? (i := 57) rfl)) (hw_sA hw) e2 hS hk (hEL_1 hw) RH.1 (g := (mkF m 36 #[.val (.ref a1)] [(.ref a1)])) rfl (hb hby d_prog_13_method_4_code_36) (n := 40) (by decide) (by decide) (by decide) (by decide)
  have K3 := keepE E3
  have M3 := M0.ext E3
  clear hS hk
  replace RH := RH.trans A3
  replace S_a1 := S_a1.keep K3 nin0 nin0
  replace Z_ad := StaKeep Z_ad K3 all0
  replace Z_hs := StaKeep Z_hs K3 all0
  replace Z_ls := StaKeep Z_ls K3 all0
  replace Z_fm := StaKeep Z_fm K3 all0
  replace Z_cs := StaKeep Z_cs K3 all0
  have hS := hS3
  have hk := hk3
  replace hZ := hZ3
  replace hown := hown3
  refine Go.of (T' := T3) (f' := (mkF m 38 #[.val (.ref a1)] [(.ref sa3), (.ref a1)])) st3 ?_
  refine Go.of (T' := T3) (f' := (mkF m 40 #[.val (.ref a1)] [(.int (2147483647 : Int32)), (.ref sa3), (.ref a1)])) (fun _ k => X3.ldcInt hx hown (mvT hZ (hw _ (List.mem_of_getElem? (i := 60) rfl))) (g := (mkF m 38 #[.val (.ref a1)] [(.ref sa3), (.ref a1)])) rfl (hb hby d_prog_13_method_4_code_38) _ k) ?_
  refine goS X3 hx hZ hown (hw _ (List.mem_of_getElem? (i := 61) rfl)) (hw _ (List.mem_of_getElem? (i := 62) rfl)) (hw _ (List.mem_of_getElem? (i := 40) rfl)) (hw _ (List.mem_of_getElem? (i := 63) rfl)) (by decide) (C := 0) (S := 0) ((rm_text l Z a0 hw a1 sa3 t1 cs zc fm h3 S_a1 hlen hwf Z_ad Z_hs Z_ls Z_fm hfm Z_cs hz).bk (W := 0) hZ (hw _ (List.mem_of_getElem? (i := 63) rfl)) (hw _ (List.mem_of_getElem? (i := 40) rfl)) (by decide) (by decide)) e3 (argsL := [(.ref a1), (.ref sa3), (.int (2147483647 : Int32))]) (rest := []) (by rw [hml]; rfl) (lenOf pd__Ljava_lang_String_Ljava_lang_String_I_I rfl) rfl rfl (hb hby d_prog_13_method_4_code_40) (Nat.le_of_eq rfl) (by decide) (by decide) ?_
  intro v4 T4 L4 X4 hQ4
  obtain ⟨nq4, e4, z4, rfl, hz4⟩ := hQ4
  replace X4 := standNil X4 nq4
  show Go p e below P T4 (mkF m 43 #[.val (.ref a1)] [(.int z4)])
  refine Go.of (T' := T4) (f' := (mkF m 44 #[.val (.ref a1)] [])) (fun _ k => XS.pop X4.here hx rfl (hb hby d_prog_13_method_4_code_43) rfl rfl k) ?_
  refine Go.of (T' := T4) (f' := (mkF m 45 #[.val (.ref a1)] [(.ref a1)])) (fun _ k => XS.aloadN X4.here hx rfl (hb hby d_prog_13_method_4_code_44) rfl rfl k) ?_
  refine Go.of (T' := T4) (f' := (mkF m 46 #[.val (.ref a1)] [(.int (0 : Int32)), (.ref a1)])) (fun _ k => XS.iconst X4.here hx rfl (hb hby d_prog_13_method_4_code_45) k) ?_
  refine Go.of (T' := T4) (f' := (mkF m 47 #[.val (.ref a1)] [(.ref a1), (.int (0 : Int32)), (.ref a1)])) (fun _ k => XS.aloadN X4.here hx rfl (hb hby d_prog_13_method_4_code_46) rfl rfl k) ?_
  refine goV X4 hx hZ (y := (⟨"java/lang/String", "length", "()I"⟩ : MethodName)) (z := (⟨"java/lang/String", "length", "()I"⟩ : MethodName)) hown (hw _ (List.mem_of_getElem? (i := 47) rfl)) (hw _ (List.mem_of_getElem? (i := 48) rfl)) (notFace_of_selects (args := #[]) (mvT hZ (hw _ (List.mem_of_getElem? (i := 50) rfl)))) (hw _ (List.mem_of_getElem? (i := 50) rfl)) (hw _ (List.mem_of_getElem? (i := 49) rfl)) (by decide) (C := 0) (S := 0) (lenStr (W := 2) hZ (hw_wordsLen hw) (hw _ (List.mem_of_getElem? (i := 10) rfl)) S_a1 Z_cs hz (by decide) (by decide)) e4 S_a1.exa (argsL := []) (rest := [(.int (0 : Int32)), (.ref a1)]) (by rw [hml]; rfl) (lenOf pd___I rfl) rfl rfl (hb hby d_prog_13_method_4_code_47) (Nat.le_of_eq rfl) (by decide) (by decide) ?_
  intro v5 T5 L5 X5 hQ5
  obtain ⟨nq5, e5, rfl⟩ := hQ5
  replace X5 := standNil X5 nq5
  show Go p e below P T5 (mkF m 50 #[.val (.ref a1)] [(.int (Int32.ofNat cs.length)), (.int (0 : Int32)), (.ref a1)])
  refine goV X5 hx hZ (y := (⟨"java/lang/String", "codePointCount", "(II)I"⟩ : MethodName)) (z := (⟨"java/lang/String", "codePointCount", "(II)I"⟩ : MethodName)) hown (hw _ (List.mem_of_getElem? (i := 97) rfl)) (hw _ (List.mem_of_getElem? (i := 98) rfl)) (notFace_of_selects (args := #[]) (mvT hZ (hw _ (List.mem_of_getElem? (i := 100) rfl)))) (hw _ (List.mem_of_getElem? (i := 100) rfl)) (hw _ (List.mem_of_getElem? (i := 99) rfl)) (by decide) (C := 0) (S := 0) (cpcAny (W := 0) hw hZ S_a1 (by omega) Z_ad Z_hs Z_ls Z_cs hz (by decide) (by decide)) e5 S_a1.exa (argsL := [(.int (0 : Int32)), (.int (Int32.ofNat cs.length))]) (rest := []) (by rw [hml]; rfl) (lenOf pd__II_I rfl) rfl rfl (hb hby d_prog_13_method_4_code_50) (Nat.le_of_eq rfl) (by decide) (by decide) ?_
  intro v6 T6 L6 X6 hQ6
  obtain ⟨nq6, e6, z6, rfl, hz6⟩ := hQ6
  replace X6 := standNil X6 nq6
  show Go p e below P T6 (mkF m 53 #[.val (.ref a1)] [(.int z6)])
  refine Go.of (T' := T6) (f' := (mkF m 56 #[.val (.ref a1)] [(.int (200 : Int32)), (.int z6)])) (fun _ k => XS.sipush X6.here hx rfl (hb hby d_prog_13_method_4_code_53) k) ?_
  have hc56 : ¬ ((200 : Int32) < z6) := z200 (by have := hz6; omega)
  refine Go.of (T' := T6) (f' := (mkF m 63 #[.val (.ref a1)] [])) (fun _ k => XS.icmpYes X6.here hx rfl (pc0 := 56) (pc' := 63) rfl (hb hby d_prog_13_method_4_code_56) rfl (flt hc56).2.2.2 (by decide) (by decide) k) ?_
  refine Go.of (T' := T6) (f' := (mkF m 64 #[.val (.ref a1)] [(.ref a1)])) (fun _ k => XS.aloadN X6.here hx rfl (hb hby d_prog_13_method_4_code_63) rfl rfl k) ?_
  exact goRetRH (Q := fun v h L => v = some (.ref a1) ∧ Mv h0 h [] L) X6 hx hZ hS hk (hEL_1 hw) RH hret rfl hlk rfl rfl (hb hby d_prog_13_method_4_code_64) K (by decide) (by decide) e6 (⟨rfl, M3⟩)
theorem hiCh (x : Int32) : Hi ((55296 : Int32) ||| (x &&& (1023 : Int32))).toUInt32.toUInt16.toUInt32.toInt32 := by
  have h := c_mask x 1023 10 (by decide) (by decide)
  have e1 : (55296 : Int32).toInt = 55296 := by decide
  have e2 : (56320 : Int32).toInt = 56320 := by decide
  have o := c_or (55296 : Int32) (x &&& (1023 : Int32)) 10 (by decide) 1024 (by decide) (by decide) (by omega) (by omega)
  have c := c_i2c ((55296 : Int32) ||| (x &&& (1023 : Int32)))
  unfold Hi
  rw [Int32.lt_iff_toInt_lt, Int32.lt_iff_toInt_lt, e1, e2]
  rw [e1] at o
  omega
theorem loCh (x : Int32) : Lo ((56320 : Int32) ||| (x &&& (1023 : Int32))).toUInt32.toUInt16.toUInt32.toInt32 := by
  have h := c_mask x 1023 10 (by decide) (by decide)
  have e1 : (56320 : Int32).toInt = 56320 := by decide
  have e2 : (57344 : Int32).toInt = 57344 := by decide
  have o := c_or (56320 : Int32) (x &&& (1023 : Int32)) 10 (by decide) 1024 (by decide) (by decide) (by omega) (by omega)
  have c := c_i2c ((56320 : Int32) ||| (x &&& (1023 : Int32)))
  unfold Lo
  rw [Int32.lt_iff_toInt_lt, Int32.lt_iff_toInt_lt, e1, e2]
  rw [e1] at o
  omega
theorem bmp_num {c : Int32} (h0 : 0 < c.toInt) (h1 : c.toInt < 65536) (h2 : c.toInt < 55296 ∨ 57344 ≤ c.toInt) : Bmp c := by
  have e0 : (0 : Int32).toInt = 0 := by decide
  have e1 : (55296 : Int32).toInt = 55296 := by decide
  have e2 : (57344 : Int32).toInt = 57344 := by decide
  refine ⟨fun q => by rw [q] at h0; omega, fun q => ?_, rng (by omega) h1⟩
  unfold Sur at q
  rw [Int32.lt_iff_toInt_lt, Int32.lt_iff_toInt_lt, e1, e2] at q
  omega
theorem bmp_of {x : Int32} (h0 : ¬ x.toUInt32.toUInt16.toUInt32.toInt32 = (0 : Int32)) (h : x.toUInt32.toUInt16.toUInt32.toInt32 < (55296 : Int32) ∨ (57343 : Int32) < x.toUInt32.toUInt16.toUInt32.toInt32) : Bmp x.toUInt32.toUInt16.toUInt32.toInt32 := by
  have c := c_i2c x
  have e0 : (0 : Int32).toInt = 0 := by decide
  have e1 : (55296 : Int32).toInt = 55296 := by decide
  have e2 : (57343 : Int32).toInt = 57343 := by decide
  rw [← Int32.toInt_inj, e0] at h0
  rw [Int32.lt_iff_toInt_lt, Int32.lt_iff_toInt_lt, e1, e2] at h
  exact bmp_num (by omega) (by omega) (by omega)
theorem bmp_sub {y : Int32} (h1 : ¬ y < (55296 : Int32)) (h2 : ¬ (57343 : Int32) < y) : Bmp (y - (2048 : Int32)).toUInt32.toUInt16.toUInt32.toInt32 := by
  have e1 : (55296 : Int32).toInt = 55296 := by decide
  have e2 : (57343 : Int32).toInt = 57343 := by decide
  have e3 : (2048 : Int32).toInt = 2048 := by decide
  rw [Int32.lt_iff_toInt_lt, e1] at h1
  rw [Int32.lt_iff_toInt_lt, e2] at h2
  have s := c_isub y (2048 : Int32)
  have b := Int32.toInt_lt (y - (2048 : Int32))
  have b' := Int32.le_toInt (y - (2048 : Int32))
  have c := c_i2c (y - (2048 : Int32))
  rw [e3] at s
  exact bmp_num (by omega) (by omega) (by omega)
theorem bmp_nar {c : Int32} (h : Bmp c) : nar .char c = c := by
  have q := bmp_rng h
  have e0 : (0 : Int32).toInt = 0 := by decide
  have e1 : (65535 : Int32).toInt = 65535 := by decide
  rw [Int32.lt_iff_toInt_lt, Int32.lt_iff_toInt_lt, e0, e1] at q
  have h1 := c_i2c c
  show c.toUInt32.toUInt16.toUInt32.toInt32 = c
  apply Int32.toInt_inj.mp
  omega

theorem bmp_m {p : Int32} (h0 : ¬ (p &&& (65535 : Int32)) = (0 : Int32)) (h : (p &&& (65535 : Int32)) < (55296 : Int32) ∨ (57343 : Int32) < (p &&& (65535 : Int32))) : Bmp (p &&& (65535 : Int32)).toUInt32.toUInt16.toUInt32.toInt32 := by
  have c := c_i2c (p &&& (65535 : Int32))
  have q := c_mask p 65535 16 (by decide) (by decide)
  have e0 : (0 : Int32).toInt = 0 := by decide
  have e1 : (55296 : Int32).toInt = 55296 := by decide
  have e2 : (57343 : Int32).toInt = 57343 := by decide
  rw [← Int32.toInt_inj, e0] at h0
  rw [Int32.lt_iff_toInt_lt, Int32.lt_iff_toInt_lt, e1, e2] at h
  exact bmp_num (by omega) (by omega) (by omega)
theorem bmp_a {p : Int32} (h1 : ¬ (p &&& (65535 : Int32)) < (55296 : Int32)) (h2 : ¬ (57343 : Int32) < (p &&& (65535 : Int32))) : Bmp ((p &&& (65535 : Int32)) + (2048 : Int32)).toUInt32.toUInt16.toUInt32.toInt32 := by
  have e1 : (55296 : Int32).toInt = 55296 := by decide
  have e2 : (57343 : Int32).toInt = 57343 := by decide
  have e3 : (2048 : Int32).toInt = 2048 := by decide
  rw [Int32.lt_iff_toInt_lt, e1] at h1
  rw [Int32.lt_iff_toInt_lt, e2] at h2
  have s := c_iadd (p &&& (65535 : Int32)) (2048 : Int32)
  have b := Int32.toInt_lt ((p &&& (65535 : Int32)) + (2048 : Int32))
  have b' := Int32.le_toInt ((p &&& (65535 : Int32)) + (2048 : Int32))
  have c := c_i2c ((p &&& (65535 : Int32)) + (2048 : Int32))
  rw [e3] at s
  exact bmp_num (by omega) (by omega) (by omega)
theorem klt {a b k : Int32} (h : ¬ a < k) (hab : a.toInt ≤ b.toInt) : ¬ b < k := by
  rw [Int32.lt_iff_toInt_lt] at *; omega
theorem pn_com_example_dozor_dozor_NamesRequireLockOwnerPinLaw : plainName "com/example/dozor/dozor/NamesRequireLockOwnerPinLaw" = true := by first | (simp [plainName, overriddenIn]; done) | decide +kernel
theorem ef_rm_bmp (m : MethodId) (x0 : Int32)  : entryFrame m #[(.int x0)] 2 = mkF m 0 #[.val (.int x0), .unset] [] := by first | (simp [entryFrame, mkF, argsToLocals, Value.category]; done) | rfl
theorem d_method_2_code_0 : decode method_2_code 0 = .ok (.iload_n 0, 1) := by decide +kernel
theorem d_method_2_code_1 : decode method_2_code 1 = .ok (.ldc 7, 2) := by decide +kernel
theorem d_method_2_code_3 : decode method_2_code 3 = .ok (.iand, 1) := by decide +kernel
theorem d_method_2_code_4 : decode method_2_code 4 = .ok (.istore_n 1, 1) := by decide +kernel
theorem d_method_2_code_5 : decode method_2_code 5 = .ok (.iload_n 1, 1) := by decide +kernel
theorem d_method_2_code_6 : decode method_2_code 6 = .ok (.ifCond .ne 8, 3) := by decide +kernel
theorem d_method_2_code_9 : decode method_2_code 9 = .ok (.iconst 1, 1) := by decide +kernel
theorem d_method_2_code_10 : decode method_2_code 10 = .ok (.istore_n 1, 1) := by decide +kernel
theorem d_method_2_code_11 : decode method_2_code 11 = .ok (.goto 21, 3) := by decide +kernel
theorem d_method_2_code_32 : decode method_2_code 32 = .ok (.iload_n 1, 1) := by decide +kernel
theorem d_method_2_code_33 : decode method_2_code 33 = .ok (.i2c, 1) := by decide +kernel
theorem d_method_2_code_34 : decode method_2_code 34 = .ok (.ireturn, 1) := by decide +kernel
theorem d_method_2_code_14 : decode method_2_code 14 = .ok (.iload_n 1, 1) := by decide +kernel
theorem d_method_2_code_15 : decode method_2_code 15 = .ok (.ldc 8, 2) := by decide +kernel
theorem d_method_2_code_17 : decode method_2_code 17 = .ok (.if_icmp .lt 15, 3) := by decide +kernel
theorem d_method_2_code_20 : decode method_2_code 20 = .ok (.iload_n 1, 1) := by decide +kernel
theorem d_method_2_code_21 : decode method_2_code 21 = .ok (.ldc 9, 2) := by decide +kernel
theorem d_method_2_code_23 : decode method_2_code 23 = .ok (.if_icmp .gt 9, 3) := by decide +kernel
theorem d_method_2_code_26 : decode method_2_code 26 = .ok (.iload_n 1, 1) := by decide +kernel
theorem d_method_2_code_27 : decode method_2_code 27 = .ok (.sipush 2048, 3) := by decide +kernel
theorem d_method_2_code_30 : decode method_2_code 30 = .ok (.iadd, 1) := by decide +kernel
theorem d_method_2_code_31 : decode method_2_code 31 = .ok (.istore_n 1, 1) := by decide +kernel
set_option maxRecDepth 65536 in
set_option maxHeartbeats 40000000 in
theorem rm_bmp (l : Launch) (Z : State) (a0 : Array Value) (hw : ∀ d ∈ tables_1, d.before a0 Z = true) (p1 : Int32) (h0 : Heap)  :
    MeetsW l Z (⟨"com/example/dozor/dozor/NamesRequireLockOwnerPinLaw", "bmp", "(I)C"⟩ : MethodName) method_2_code 2 (some .char) ({ frames := 0, cells := 0, slots := 0, locals := 0 } : Room) #[(.int p1)] h0 (Pu h0 (fun v => ∃ c : Int32, v = some (.int c) ∧ Bmp c)) := by
  refine MeetsW.of (plainFor_of_name pn_com_example_dozor_dozor_NamesRequireLockOwnerPinLaw) ?_
  intro p e s m below meth c s₁ P hx hby hml hZ hown hnm hret hlk X0 e0 K
  have M0 : Mv h0 h0 [] [] := Mv.refl _ _
  refine Go.cast (ef_rm_bmp m p1 ) ?_
  refine Go.of (T' := s₁) (f' := (mkF m 1 #[.val (.int p1), .unset] [(.int p1)])) (fun _ k => XS.iloadN X0.here hx rfl (hb hby d_method_2_code_0) rfl k) ?_
  refine Go.of (T' := s₁) (f' := (mkF m 3 #[.val (.int p1), .unset] [(.int (65535 : Int32)), (.int p1)])) (fun _ k => X0.ldcInt hx hown (mvT hZ (hw _ (List.mem_of_getElem? (i := 8) rfl))) (g := (mkF m 1 #[.val (.int p1), .unset] [(.int p1)])) rfl (hb hby d_method_2_code_1) _ k) ?_
  refine Go.of (T' := s₁) (f' := (mkF m 4 #[.val (.int p1), .unset] [(.int (p1 &&& (65535 : Int32)))])) (fun _ k => XS.iand X0.here hx rfl (hb hby d_method_2_code_3) rfl k) ?_
  refine Go.of (T' := s₁) (f' := (mkF m 5 #[.val (.int p1), .val (.int (p1 &&& (65535 : Int32)))] [])) (fun _ k => XS.istoreN X0.here hx rfl (hb hby d_method_2_code_4) rfl (l' := #[.val (.int p1), .val (.int (p1 &&& (65535 : Int32)))]) rfl k) ?_
  refine Go.of (T' := s₁) (f' := (mkF m 6 #[.val (.int p1), .val (.int (p1 &&& (65535 : Int32)))] [(.int (p1 &&& (65535 : Int32)))])) (fun _ k => XS.iloadN X0.here hx rfl (hb hby d_method_2_code_5) rfl k) ?_
  by_cases hc6 : (p1 &&& (65535 : Int32)) = (0 : Int32)
  ·
    refine Go.of (T' := s₁) (f' := (mkF m 9 #[.val (.int p1), .val (.int (p1 &&& (65535 : Int32)))] [])) (fun _ k => XS.ifNo X0.here hx rfl (hb hby d_method_2_code_6) rfl ((if0 _ _).trans (teq hc6).2) k) ?_
    refine Go.of (T' := s₁) (f' := (mkF m 10 #[.val (.int p1), .val (.int (p1 &&& (65535 : Int32)))] [(.int (1 : Int32))])) (fun _ k => XS.iconst X0.here hx rfl (hb hby d_method_2_code_9) k) ?_
    refine Go.of (T' := s₁) (f' := (mkF m 11 #[.val (.int p1), .val (.int (1 : Int32))] [])) (fun _ k => XS.istoreN X0.here hx rfl (hb hby d_method_2_code_10) rfl (l' := #[.val (.int p1), .val (.int (1 : Int32))]) rfl k) ?_
    refine Go.of (T' := s₁) (f' := (mkF m 32 #[.val (.int p1), .val (.int (1 : Int32))] [])) (fun _ k => XS.goto X0.here hx rfl (pc0 := 11) (pc' := 32) rfl (hb hby d_method_2_code_11) (by decide) (by decide) k) ?_
    refine Go.of (T' := s₁) (f' := (mkF m 33 #[.val (.int p1), .val (.int (1 : Int32))] [(.int (1 : Int32))])) (fun _ k => XS.iloadN X0.here hx rfl (hb hby d_method_2_code_32) rfl k) ?_
    refine Go.of (T' := s₁) (f' := (mkF m 34 #[.val (.int p1), .val (.int (1 : Int32))] [(.int ((1 : Int32).toUInt32.toUInt16.toUInt32.toInt32))])) (fun _ k => XS.i2c X0.here hx rfl (hb hby d_method_2_code_33) rfl k) ?_
    exact goRetI (Q := Pu h0 (fun v => ∃ c : Int32, v = some (.int c) ∧ Bmp c)) X0 hx (t := .char) hret hlk (congrArg Value.int (narC _)) (by simp) (hb hby d_method_2_code_34) K (by decide) (by decide) e0 (⟨rfl, rfl, _, rfl, by decide⟩)
  ·
    refine Go.of (T' := s₁) (f' := (mkF m 14 #[.val (.int p1), .val (.int (p1 &&& (65535 : Int32)))] [])) (fun _ k => XS.ifYes X0.here hx rfl (pc0 := 6) (pc' := 14) rfl (hb hby d_method_2_code_6) rfl ((if0 _ _).trans (feq hc6).2) (by decide) (by decide) k) ?_
    refine Go.of (T' := s₁) (f' := (mkF m 15 #[.val (.int p1), .val (.int (p1 &&& (65535 : Int32)))] [(.int (p1 &&& (65535 : Int32)))])) (fun _ k => XS.iloadN X0.here hx rfl (hb hby d_method_2_code_14) rfl k) ?_
    refine Go.of (T' := s₁) (f' := (mkF m 17 #[.val (.int p1), .val (.int (p1 &&& (65535 : Int32)))] [(.int (55296 : Int32)), (.int (p1 &&& (65535 : Int32)))])) (fun _ k => X0.ldcInt hx hown (mvT hZ (hw _ (List.mem_of_getElem? (i := 111) rfl))) (g := (mkF m 15 #[.val (.int p1), .val (.int (p1 &&& (65535 : Int32)))] [(.int (p1 &&& (65535 : Int32)))])) rfl (hb hby d_method_2_code_15) _ k) ?_
    by_cases hc17 : (p1 &&& (65535 : Int32)) < (55296 : Int32)
    ·
      refine Go.of (T' := s₁) (f' := (mkF m 32 #[.val (.int p1), .val (.int (p1 &&& (65535 : Int32)))] [])) (fun _ k => XS.icmpYes X0.here hx rfl (pc0 := 17) (pc' := 32) rfl (hb hby d_method_2_code_17) rfl (tlt hc17).1 (by decide) (by decide) k) ?_
      refine Go.of (T' := s₁) (f' := (mkF m 33 #[.val (.int p1), .val (.int (p1 &&& (65535 : Int32)))] [(.int (p1 &&& (65535 : Int32)))])) (fun _ k => XS.iloadN X0.here hx rfl (hb hby d_method_2_code_32) rfl k) ?_
      refine Go.of (T' := s₁) (f' := (mkF m 34 #[.val (.int p1), .val (.int (p1 &&& (65535 : Int32)))] [(.int ((p1 &&& (65535 : Int32)).toUInt32.toUInt16.toUInt32.toInt32))])) (fun _ k => XS.i2c X0.here hx rfl (hb hby d_method_2_code_33) rfl k) ?_
      exact goRetI (Q := Pu h0 (fun v => ∃ c : Int32, v = some (.int c) ∧ Bmp c)) X0 hx (t := .char) hret hlk (congrArg Value.int (narC _)) (by simp) (hb hby d_method_2_code_34) K (by decide) (by decide) e0 (⟨rfl, rfl, _, rfl, bmp_m hc6 (by first | exact Or.inl hc17 | exact Or.inr hc23)⟩)
    ·
      refine Go.of (T' := s₁) (f' := (mkF m 20 #[.val (.int p1), .val (.int (p1 &&& (65535 : Int32)))] [])) (fun _ k => XS.icmpNo X0.here hx rfl (hb hby d_method_2_code_17) rfl (flt hc17).1 k) ?_
      refine Go.of (T' := s₁) (f' := (mkF m 21 #[.val (.int p1), .val (.int (p1 &&& (65535 : Int32)))] [(.int (p1 &&& (65535 : Int32)))])) (fun _ k => XS.iloadN X0.here hx rfl (hb hby d_method_2_code_20) rfl k) ?_
      refine Go.of (T' := s₁) (f' := (mkF m 23 #[.val (.int p1), .val (.int (p1 &&& (65535 : Int32)))] [(.int (57343 : Int32)), (.int (p1 &&& (65535 : Int32)))])) (fun _ k => X0.ldcInt hx hown (mvT hZ (hw _ (List.mem_of_getElem? (i := 155) rfl))) (g := (mkF m 21 #[.val (.int p1), .val (.int (p1 &&& (65535 : Int32)))] [(.int (p1 &&& (65535 : Int32)))])) rfl (hb hby d_method_2_code_21) _ k) ?_
      by_cases hc23 : (57343 : Int32) < (p1 &&& (65535 : Int32))
      ·
        refine Go.of (T' := s₁) (f' := (mkF m 32 #[.val (.int p1), .val (.int (p1 &&& (65535 : Int32)))] [])) (fun _ k => XS.icmpYes X0.here hx rfl (pc0 := 23) (pc' := 32) rfl (hb hby d_method_2_code_23) rfl (tlt hc23).2.2.1 (by decide) (by decide) k) ?_
        refine Go.of (T' := s₁) (f' := (mkF m 33 #[.val (.int p1), .val (.int (p1 &&& (65535 : Int32)))] [(.int (p1 &&& (65535 : Int32)))])) (fun _ k => XS.iloadN X0.here hx rfl (hb hby d_method_2_code_32) rfl k) ?_
        refine Go.of (T' := s₁) (f' := (mkF m 34 #[.val (.int p1), .val (.int (p1 &&& (65535 : Int32)))] [(.int ((p1 &&& (65535 : Int32)).toUInt32.toUInt16.toUInt32.toInt32))])) (fun _ k => XS.i2c X0.here hx rfl (hb hby d_method_2_code_33) rfl k) ?_
        exact goRetI (Q := Pu h0 (fun v => ∃ c : Int32, v = some (.int c) ∧ Bmp c)) X0 hx (t := .char) hret hlk (congrArg Value.int (narC _)) (by simp) (hb hby d_method_2_code_34) K (by decide) (by decide) e0 (⟨rfl, rfl, _, rfl, bmp_m hc6 (by first | exact Or.inl hc17 | exact Or.inr hc23)⟩)
      ·
        refine Go.of (T' := s₁) (f' := (mkF m 26 #[.val (.int p1), .val (.int (p1 &&& (65535 : Int32)))] [])) (fun _ k => XS.icmpNo X0.here hx rfl (hb hby d_method_2_code_23) rfl (flt hc23).2.2.1 k) ?_
        refine Go.of (T' := s₁) (f' := (mkF m 27 #[.val (.int p1), .val (.int (p1 &&& (65535 : Int32)))] [(.int (p1 &&& (65535 : Int32)))])) (fun _ k => XS.iloadN X0.here hx rfl (hb hby d_method_2_code_26) rfl k) ?_
        refine Go.of (T' := s₁) (f' := (mkF m 30 #[.val (.int p1), .val (.int (p1 &&& (65535 : Int32)))] [(.int (2048 : Int32)), (.int (p1 &&& (65535 : Int32)))])) (fun _ k => XS.sipush X0.here hx rfl (hb hby d_method_2_code_27) k) ?_
        refine Go.of (T' := s₁) (f' := (mkF m 31 #[.val (.int p1), .val (.int (p1 &&& (65535 : Int32)))] [(.int ((p1 &&& (65535 : Int32)) + (2048 : Int32)))])) (fun _ k => XS.iadd X0.here hx rfl (hb hby d_method_2_code_30) rfl k) ?_
        refine Go.of (T' := s₁) (f' := (mkF m 32 #[.val (.int p1), .val (.int ((p1 &&& (65535 : Int32)) + (2048 : Int32)))] [])) (fun _ k => XS.istoreN X0.here hx rfl (hb hby d_method_2_code_31) rfl (l' := #[.val (.int p1), .val (.int ((p1 &&& (65535 : Int32)) + (2048 : Int32)))]) rfl k) ?_
        refine Go.of (T' := s₁) (f' := (mkF m 33 #[.val (.int p1), .val (.int ((p1 &&& (65535 : Int32)) + (2048 : Int32)))] [(.int ((p1 &&& (65535 : Int32)) + (2048 : Int32)))])) (fun _ k => XS.iloadN X0.here hx rfl (hb hby d_method_2_code_32) rfl k) ?_
        refine Go.of (T' := s₁) (f' := (mkF m 34 #[.val (.int p1), .val (.int ((p1 &&& (65535 : Int32)) + (2048 : Int32)))] [(.int (((p1 &&& (65535 : Int32)) + (2048 : Int32)).toUInt32.toUInt16.toUInt32.toInt32))])) (fun _ k => XS.i2c X0.here hx rfl (hb hby d_method_2_code_33) rfl k) ?_
        exact goRetI (Q := Pu h0 (fun v => ∃ c : Int32, v = some (.int c) ∧ Bmp c)) X0 hx (t := .char) hret hlk (congrArg Value.int (narC _)) (by simp) (hb hby d_method_2_code_34) K (by decide) (by decide) e0 (⟨rfl, rfl, _, rfl, bmp_a hc17 hc23⟩)
def wt (f : Int32) : Nat := if f = 0 then 1 else 2
def wk (a K f : Int32) : Nat := if a < K then wt f else 0
theorem wt_le (f : Int32) : 1 ≤ wt f ∧ wt f ≤ 2 := by unfold wt; split <;> omega
theorem wk_le (a K f : Int32) : wk a K f ≤ 2 := by unfold wk; split; exact (wt_le f).2; omega
theorem wk_t {a K : Int32} (f : Int32) (h : a < K) : wk a K f = wt f := if_pos h
theorem wk_f {a K : Int32} (f : Int32) (h : ¬ a < K) : wk a K f = 0 := if_neg h
theorem wtZ {f : Int32} (h : f = 0) : wt f = 1 := if_pos h
theorem wtN {f : Int32} (h : ¬ f = 0) : wt f = 2 := if_neg h
theorem wtZ' {f : Int32} (h : f = 0) : Int32.ofNat (wt f) = (1 : Int32) := by rw [wtZ h]; rfl
theorem wtN' {f : Int32} (h : ¬ f = 0) : Int32.ofNat (wt f) = (2 : Int32) := by rw [wtN h]; rfl
theorem wkT' {a K : Int32} {m : Nat} {f : Int32} (h : a < K) : Int32.ofNat (m + wk a K f) = Int32.ofNat m + Int32.ofNat (wt f) := by rw [wk_t f h, Int32.ofNat_add]
theorem wkF' {a K : Int32} {m : Nat} {f : Int32} (h : ¬ a < K) : Int32.ofNat (m + wk a K f) = Int32.ofNat m := by rw [wk_f f h]; rfl
theorem wf_app : ∀ {a b : List Int32}, Wf a → Wf b → Wf (a ++ b)
  | [], b, _, h => h
  | [c], [], h, _ => h
  | [c], d :: r, h, h2 => Or.inr ⟨h, h2⟩
  | c :: d :: r, b, h, h2 => by
    rcases h with ⟨q1, q2, q3⟩ | ⟨q1, q2⟩
    · exact Or.inl ⟨q1, q2, wf_app q3 h2⟩
    · exact Or.inr ⟨q1, wf_app q2 h2⟩
theorem putPad1 (cs : List Int32) (u : Int32) : ∀ i, ((cs ++ [u]).map Value.int).getD i (.int (0 : Int32)) = ((cs.map Value.int ++ List.replicate 2 (Value.int (0 : Int32))).set cs.length (.int u)).getD i (.int (0 : Int32)) := by
  intro i
  have e : (cs.map Value.int ++ List.replicate 2 (Value.int (0 : Int32))).set cs.length (.int u) = (cs ++ [u]).map Value.int ++ List.replicate 1 (Value.int (0 : Int32)) := by
    rw [List.set_append_right _ _ (by simp)]; simp [List.replicate]
  rw [e, pad_rep]
theorem putPad2 (cs : List Int32) (u w : Int32) : ∀ i, ((cs ++ [u, w]).map Value.int).getD i (.int (0 : Int32)) = (((cs.map Value.int ++ List.replicate 2 (Value.int (0 : Int32))).set cs.length (.int u)).set (cs.length + 1) (.int w)).getD i (.int (0 : Int32)) := by
  intro i
  have e : ((cs.map Value.int ++ List.replicate 2 (Value.int (0 : Int32))).set cs.length (.int u)).set (cs.length + 1) (.int w) = (cs ++ [u, w]).map Value.int := by
    rw [List.set_append_right _ _ (by simp), List.set_append_right _ _ (by simp)]; simp [List.replicate]
  rw [e]
theorem putLen {cs us : List Int32} {n : Nat} (h : us.length = n) : Int32.ofNat cs.length + Int32.ofNat n = Int32.ofNat (cs ++ us).length := by rw [List.length_append, h, Int32.ofNat_add]
theorem ef_rm_put (m : MethodId) (x0 : Addr) (x1 : Int32) (x2 : Int32) (x3 : Int32)  : entryFrame m #[(.ref x0), (.int x1), (.int x2), (.int x3)] 4 = mkF m 0 #[.val (.ref x0), .val (.int x1), .val (.int x2), .val (.int x3)] [] := by first | (simp [entryFrame, mkF, argsToLocals, Value.category]; done) | rfl
theorem d_method_3_code_0 : decode method_3_code 0 = .ok (.iload_n 3, 1) := by decide +kernel
theorem d_method_3_code_1 : decode method_3_code 1 = .ok (.ifCond .eq 36, 3) := by decide +kernel
theorem d_method_3_code_37 : decode method_3_code 37 = .ok (.aload_n 0, 1) := by decide +kernel
theorem d_method_3_code_38 : decode method_3_code 38 = .ok (.iload_n 1, 1) := by decide +kernel
theorem d_method_3_code_39 : decode method_3_code 39 = .ok (.iload_n 2, 1) := by decide +kernel
theorem d_method_3_code_40 : decode method_3_code 40 = .ok (.invokestatic 11, 3) := by decide +kernel
theorem d_method_3_code_43 : decode method_3_code 43 = .ok (.castore, 1) := by decide +kernel
theorem d_method_3_code_44 : decode method_3_code 44 = .ok (.iload_n 1, 1) := by decide +kernel
theorem d_method_3_code_45 : decode method_3_code 45 = .ok (.iconst 1, 1) := by decide +kernel
theorem d_method_3_code_46 : decode method_3_code 46 = .ok (.iadd, 1) := by decide +kernel
theorem d_method_3_code_47 : decode method_3_code 47 = .ok (.ireturn, 1) := by decide +kernel
theorem d_method_3_code_4 : decode method_3_code 4 = .ok (.aload_n 0, 1) := by decide +kernel
theorem d_method_3_code_5 : decode method_3_code 5 = .ok (.iload_n 1, 1) := by decide +kernel
theorem d_method_3_code_6 : decode method_3_code 6 = .ok (.ldc 8, 2) := by decide +kernel
theorem d_method_3_code_8 : decode method_3_code 8 = .ok (.iload_n 2, 1) := by decide +kernel
theorem d_method_3_code_9 : decode method_3_code 9 = .ok (.bipush 10, 2) := by decide +kernel
theorem d_method_3_code_11 : decode method_3_code 11 = .ok (.iushr, 1) := by decide +kernel
theorem d_method_3_code_12 : decode method_3_code 12 = .ok (.sipush 1023, 3) := by decide +kernel
theorem d_method_3_code_15 : decode method_3_code 15 = .ok (.iand, 1) := by decide +kernel
theorem d_method_3_code_16 : decode method_3_code 16 = .ok (.ior, 1) := by decide +kernel
theorem d_method_3_code_17 : decode method_3_code 17 = .ok (.i2c, 1) := by decide +kernel
theorem d_method_3_code_18 : decode method_3_code 18 = .ok (.castore, 1) := by decide +kernel
theorem d_method_3_code_19 : decode method_3_code 19 = .ok (.aload_n 0, 1) := by decide +kernel
theorem d_method_3_code_20 : decode method_3_code 20 = .ok (.iload_n 1, 1) := by decide +kernel
theorem d_method_3_code_21 : decode method_3_code 21 = .ok (.iconst 1, 1) := by decide +kernel
theorem d_method_3_code_22 : decode method_3_code 22 = .ok (.iadd, 1) := by decide +kernel
theorem d_method_3_code_23 : decode method_3_code 23 = .ok (.ldc 10, 2) := by decide +kernel
theorem d_method_3_code_25 : decode method_3_code 25 = .ok (.iload_n 2, 1) := by decide +kernel
theorem d_method_3_code_26 : decode method_3_code 26 = .ok (.sipush 1023, 3) := by decide +kernel
theorem d_method_3_code_29 : decode method_3_code 29 = .ok (.iand, 1) := by decide +kernel
theorem d_method_3_code_30 : decode method_3_code 30 = .ok (.ior, 1) := by decide +kernel
theorem d_method_3_code_31 : decode method_3_code 31 = .ok (.i2c, 1) := by decide +kernel
theorem d_method_3_code_32 : decode method_3_code 32 = .ok (.castore, 1) := by decide +kernel
theorem d_method_3_code_33 : decode method_3_code 33 = .ok (.iload_n 1, 1) := by decide +kernel
theorem d_method_3_code_34 : decode method_3_code 34 = .ok (.iconst 2, 1) := by decide +kernel
theorem d_method_3_code_35 : decode method_3_code 35 = .ok (.iadd, 1) := by decide +kernel
theorem d_method_3_code_36 : decode method_3_code 36 = .ok (.ireturn, 1) := by decide +kernel
set_option maxRecDepth 65536 in
set_option maxHeartbeats 40000000 in
theorem rm_put (l : Launch) (Z : State) (a0 : Array Value) (hw : ∀ d ∈ tables_1, d.before a0 Z = true) (a1 : Addr) (ka : ClassId) (M : Nat) (cs : List Int32) (p3 p4 : Int32) (h0 : Heap) (V_a1 : Arv Z h0 a1 ka (.char) (Int32.ofNat M) (cs.map Value.int) (.int (0 : Int32))) (hM : M ≤ 8) (hi : cs.length + wt p4 ≤ M) :
    MeetsW l Z (⟨"com/example/dozor/dozor/NamesRequireLockOwnerPinLaw", "put", "([CIIZ)I"⟩ : MethodName) method_3_code 4 (some .int) ({ frames := 1, cells := 0, slots := 0, locals := 15 } : Room) #[(.ref a1), (.int (Int32.ofNat cs.length)), (.int p3), (.int p4)] h0 (fun v h L => Mv h0 h [a1] L ∧ ∃ us : List Int32, Wf us ∧ us.length = wt p4 ∧ v = some (.int (Int32.ofNat (cs ++ us).length)) ∧ Arv Z h a1 ka .char (Int32.ofNat M) ((cs ++ us).map Value.int) (.int (0 : Int32))) := by
  refine MeetsW.of (plainFor_of_name pn_com_example_dozor_dozor_NamesRequireLockOwnerPinLaw) ?_
  intro p e s m below meth c s₁ P hx hby hml hZ hown hnm hret hlk X0 e0 K
  have M0 : Mv h0 h0 [a1] [] := Mv.refl _ _
  refine Go.cast (ef_rm_put m a1 (Int32.ofNat cs.length) p3 p4 ) ?_
  have hwl := wt_le p4
  replace V_a1 := V_a1.pad (vs' := (cs.map Value.int ++ List.replicate 2 (Value.int (0 : Int32)))) (pad_rep _ _ 2)
  refine Go.of (T' := s₁) (f' := (mkF m 1 #[.val (.ref a1), .val (.int (Int32.ofNat cs.length)), .val (.int p3), .val (.int p4)] [(.int p4)])) (fun _ k => XS.iloadN X0.here hx rfl (hb hby d_method_3_code_0) rfl k) ?_
  by_cases hc1 : p4 = (0 : Int32)
  ·
    refine Go.of (T' := s₁) (f' := (mkF m 37 #[.val (.ref a1), .val (.int (Int32.ofNat cs.length)), .val (.int p3), .val (.int p4)] [])) (fun _ k => XS.ifYes X0.here hx rfl (pc0 := 1) (pc' := 37) rfl (hb hby d_method_3_code_1) rfl ((if0 _ _).trans (teq hc1).1) (by decide) (by decide) k) ?_
    have hwq := wtZ hc1
    refine Go.of (T' := s₁) (f' := (mkF m 38 #[.val (.ref a1), .val (.int (Int32.ofNat cs.length)), .val (.int p3), .val (.int p4)] [(.ref a1)])) (fun _ k => XS.aloadN X0.here hx rfl (hb hby d_method_3_code_37) rfl rfl k) ?_
    refine Go.of (T' := s₁) (f' := (mkF m 39 #[.val (.ref a1), .val (.int (Int32.ofNat cs.length)), .val (.int p3), .val (.int p4)] [(.int (Int32.ofNat cs.length)), (.ref a1)])) (fun _ k => XS.iloadN X0.here hx rfl (hb hby d_method_3_code_38) rfl k) ?_
    refine Go.of (T' := s₁) (f' := (mkF m 40 #[.val (.ref a1), .val (.int (Int32.ofNat cs.length)), .val (.int p3), .val (.int p4)] [(.int p3), (.int (Int32.ofNat cs.length)), (.ref a1)])) (fun _ k => XS.iloadN X0.here hx rfl (hb hby d_method_3_code_39) rfl k) ?_
    refine goS X0 hx hZ hown (hw _ (List.mem_of_getElem? (i := 5) rfl)) (hw _ (List.mem_of_getElem? (i := 6) rfl)) (hw _ (List.mem_of_getElem? (i := 3) rfl)) (hw _ (List.mem_of_getElem? (i := 7) rfl)) (by decide) (C := 0) (S := 0) ((rm_bmp l Z a0 hw p3 h0).bk (W := 2) hZ (hw _ (List.mem_of_getElem? (i := 7) rfl)) (hw _ (List.mem_of_getElem? (i := 3) rfl)) (by decide) (by decide)) e0 (argsL := [(.int p3)]) (rest := [(.int (Int32.ofNat cs.length)), (.ref a1)]) (by rw [hml]; rfl) (lenOf pd__I_C rfl) rfl rfl (hb hby d_method_3_code_40) (Nat.le_of_eq rfl) (by decide) (by decide) ?_
    intro v1 T1 L1 X1 hQ1
    obtain ⟨nq1, e1, u1, rfl, hu1⟩ := hQ1
    replace X1 := standNil X1 nq1
    show Go p e below P T1 (mkF m 43 #[.val (.ref a1), .val (.int (Int32.ofNat cs.length)), .val (.int p3), .val (.int p4)] [(.int u1), (.int (Int32.ofNat cs.length)), (.ref a1)])
    obtain ⟨cl2, Ar2, cq2, Sz2, Nn2, Hs2, Gs2⟩ := id V_a1
    have hin2 : ¬ ((Int32.ofNat cs.length) < 0 ∨ cl2.slots.size ≤ ((Int32.ofNat cs.length)).toNatClampNeg) := by rw [inbS Sz2 (m := M) (nat32 (by omega))]; exact ⟨nneg (by omega), by rw [nat32 (by omega)]; omega⟩
    obtain ⟨T2, h2, X2, e2, W2, st2⟩ := stC X1 hx hZ e1 Ar2 (j := (Int32.ofNat cs.length)) hin2 (g := (mkF m 43 #[.val (.ref a1), .val (.int (Int32.ofNat cs.length)), .val (.int p3), .val (.int p4)] [(.int u1), (.int (Int32.ofNat cs.length)), (.ref a1)])) rfl rfl (hb hby d_method_3_code_43)
    have fq2 : fits .char (.int (nar .char u1)) = true := fits_nar_char _
    rw [show nar .char u1 = u1 from bmp_nar hu1] at W2 fq2
    have V2 := Arv.set Ar2 cq2 Sz2 Nn2 Hs2 Gs2 fq2 W2 (cs.length) (nat32 (by omega)) (by simp)
    have K2 := Keep.of_wr W2
    have M2 := M0.wr W2 (Or.inl (List.mem_of_getElem? (i := 0) rfl))
    replace V_a1 := V2
    refine Go.of (T' := T2) (f' := (mkF m 44 #[.val (.ref a1), .val (.int (Int32.ofNat cs.length)), .val (.int p3), .val (.int p4)] [])) st2 ?_
    refine Go.of (T' := T2) (f' := (mkF m 45 #[.val (.ref a1), .val (.int (Int32.ofNat cs.length)), .val (.int p3), .val (.int p4)] [(.int (Int32.ofNat cs.length))])) (fun _ k => XS.iloadN X2.here hx rfl (hb hby d_method_3_code_44) rfl k) ?_
    refine Go.of (T' := T2) (f' := (mkF m 46 #[.val (.ref a1), .val (.int (Int32.ofNat cs.length)), .val (.int p3), .val (.int p4)] [(.int (1 : Int32)), (.int (Int32.ofNat cs.length))])) (fun _ k => XS.iconst X2.here hx rfl (hb hby d_method_3_code_45) k) ?_
    refine Go.of (T' := T2) (f' := (mkF m 47 #[.val (.ref a1), .val (.int (Int32.ofNat cs.length)), .val (.int p3), .val (.int p4)] [(.int ((Int32.ofNat cs.length) + (1 : Int32)))])) (fun _ k => XS.iadd X2.here hx rfl (hb hby d_method_3_code_46) rfl k) ?_
    exact goRetI (Q := fun v h L => Mv h0 h [a1] L ∧ ∃ us : List Int32, Wf us ∧ us.length = wt p4 ∧ v = some (.int (Int32.ofNat (cs ++ us).length)) ∧ Arv Z h a1 ka .char (Int32.ofNat M) ((cs ++ us).map Value.int) (.int (0 : Int32))) X2 hx (t := .int) hret hlk rfl (by simp) (hb hby d_method_3_code_47) K (by decide) (by decide) e2 (⟨M2, [u1], hu1, hwq.symm, congrArg (fun z => some (Value.int z)) (putLen rfl), V_a1.pad (putPad1 cs _)⟩)
  ·
    refine Go.of (T' := s₁) (f' := (mkF m 4 #[.val (.ref a1), .val (.int (Int32.ofNat cs.length)), .val (.int p3), .val (.int p4)] [])) (fun _ k => XS.ifNo X0.here hx rfl (hb hby d_method_3_code_1) rfl ((if0 _ _).trans (feq hc1).1) k) ?_
    have hwq := wtN hc1
    refine Go.of (T' := s₁) (f' := (mkF m 5 #[.val (.ref a1), .val (.int (Int32.ofNat cs.length)), .val (.int p3), .val (.int p4)] [(.ref a1)])) (fun _ k => XS.aloadN X0.here hx rfl (hb hby d_method_3_code_4) rfl rfl k) ?_
    refine Go.of (T' := s₁) (f' := (mkF m 6 #[.val (.ref a1), .val (.int (Int32.ofNat cs.length)), .val (.int p3), .val (.int p4)] [(.int (Int32.ofNat cs.length)), (.ref a1)])) (fun _ k => XS.iloadN X0.here hx rfl (hb hby d_method_3_code_5) rfl k) ?_
    refine Go.of (T' := s₁) (f' := (mkF m 8 #[.val (.ref a1), .val (.int (Int32.ofNat cs.length)), .val (.int p3), .val (.int p4)] [(.int (55296 : Int32)), (.int (Int32.ofNat cs.length)), (.ref a1)])) (fun _ k => X0.ldcInt hx hown (mvT hZ (hw _ (List.mem_of_getElem? (i := 111) rfl))) (g := (mkF m 6 #[.val (.ref a1), .val (.int (Int32.ofNat cs.length)), .val (.int p3), .val (.int p4)] [(.int (Int32.ofNat cs.length)), (.ref a1)])) rfl (hb hby d_method_3_code_6) _ k) ?_
    refine Go.of (T' := s₁) (f' := (mkF m 9 #[.val (.ref a1), .val (.int (Int32.ofNat cs.length)), .val (.int p3), .val (.int p4)] [(.int p3), (.int (55296 : Int32)), (.int (Int32.ofNat cs.length)), (.ref a1)])) (fun _ k => XS.iloadN X0.here hx rfl (hb hby d_method_3_code_8) rfl k) ?_
    refine Go.of (T' := s₁) (f' := (mkF m 11 #[.val (.ref a1), .val (.int (Int32.ofNat cs.length)), .val (.int p3), .val (.int p4)] [(.int (10 : Int32)), (.int p3), (.int (55296 : Int32)), (.int (Int32.ofNat cs.length)), (.ref a1)])) (fun _ k => XS.bipush X0.here hx rfl (hb hby d_method_3_code_9) k) ?_
    refine Go.of (T' := s₁) (f' := (mkF m 12 #[.val (.ref a1), .val (.int (Int32.ofNat cs.length)), .val (.int p3), .val (.int p4)] [(.int ((p3.toUInt32 >>> ((10 : Int32) &&& 31).toUInt32).toInt32)), (.int (55296 : Int32)), (.int (Int32.ofNat cs.length)), (.ref a1)])) (fun _ k => XS.iushr X0.here hx rfl (hb hby d_method_3_code_11) rfl k) ?_
    refine Go.of (T' := s₁) (f' := (mkF m 15 #[.val (.ref a1), .val (.int (Int32.ofNat cs.length)), .val (.int p3), .val (.int p4)] [(.int (1023 : Int32)), (.int ((p3.toUInt32 >>> ((10 : Int32) &&& 31).toUInt32).toInt32)), (.int (55296 : Int32)), (.int (Int32.ofNat cs.length)), (.ref a1)])) (fun _ k => XS.sipush X0.here hx rfl (hb hby d_method_3_code_12) k) ?_
    refine Go.of (T' := s₁) (f' := (mkF m 16 #[.val (.ref a1), .val (.int (Int32.ofNat cs.length)), .val (.int p3), .val (.int p4)] [(.int (((p3.toUInt32 >>> ((10 : Int32) &&& 31).toUInt32).toInt32) &&& (1023 : Int32))), (.int (55296 : Int32)), (.int (Int32.ofNat cs.length)), (.ref a1)])) (fun _ k => XS.iand X0.here hx rfl (hb hby d_method_3_code_15) rfl k) ?_
    refine Go.of (T' := s₁) (f' := (mkF m 17 #[.val (.ref a1), .val (.int (Int32.ofNat cs.length)), .val (.int p3), .val (.int p4)] [(.int ((55296 : Int32) ||| (((p3.toUInt32 >>> ((10 : Int32) &&& 31).toUInt32).toInt32) &&& (1023 : Int32)))), (.int (Int32.ofNat cs.length)), (.ref a1)])) (fun _ k => XS.ior X0.here hx rfl (hb hby d_method_3_code_16) rfl k) ?_
    refine Go.of (T' := s₁) (f' := (mkF m 18 #[.val (.ref a1), .val (.int (Int32.ofNat cs.length)), .val (.int p3), .val (.int p4)] [(.int (((55296 : Int32) ||| (((p3.toUInt32 >>> ((10 : Int32) &&& 31).toUInt32).toInt32) &&& (1023 : Int32))).toUInt32.toUInt16.toUInt32.toInt32)), (.int (Int32.ofNat cs.length)), (.ref a1)])) (fun _ k => XS.i2c X0.here hx rfl (hb hby d_method_3_code_17) rfl k) ?_
    obtain ⟨cl3, Ar3, cq3, Sz3, Nn3, Hs3, Gs3⟩ := id V_a1
    have hin3 : ¬ ((Int32.ofNat cs.length) < 0 ∨ cl3.slots.size ≤ ((Int32.ofNat cs.length)).toNatClampNeg) := by rw [inbS Sz3 (m := M) (nat32 (by omega))]; exact ⟨nneg (by omega), by rw [nat32 (by omega)]; omega⟩
    obtain ⟨T3, h3, X3, e3, W3, st3⟩ := stC X0 hx hZ e0 Ar3 (j := (Int32.ofNat cs.length)) hin3 (g := (mkF m 18 #[.val (.ref a1), .val (.int (Int32.ofNat cs.length)), .val (.int p3), .val (.int p4)] [(.int (((55296 : Int32) ||| (((p3.toUInt32 >>> ((10 : Int32) &&& 31).toUInt32).toInt32) &&& (1023 : Int32))).toUInt32.toUInt16.toUInt32.toInt32)), (.int (Int32.ofNat cs.length)), (.ref a1)])) rfl rfl (hb hby d_method_3_code_18)
    have fq3 : fits .char (.int (nar .char (((55296 : Int32) ||| (((p3.toUInt32 >>> ((10 : Int32) &&& 31).toUInt32).toInt32) &&& (1023 : Int32))).toUInt32.toUInt16.toUInt32.toInt32))) = true := fits_nar_char _
    rw [show nar .char (((55296 : Int32) ||| (((p3.toUInt32 >>> ((10 : Int32) &&& 31).toUInt32).toInt32) &&& (1023 : Int32))).toUInt32.toUInt16.toUInt32.toInt32) = (((55296 : Int32) ||| (((p3.toUInt32 >>> ((10 : Int32) &&& 31).toUInt32).toInt32) &&& (1023 : Int32))).toUInt32.toUInt16.toUInt32.toInt32) from narC _] at W3 fq3
    have V3 := Arv.set Ar3 cq3 Sz3 Nn3 Hs3 Gs3 fq3 W3 (cs.length) (nat32 (by omega)) (by simp)
    have K3 := Keep.of_wr W3
    have M3 := M0.wr W3 (Or.inl (List.mem_of_getElem? (i := 0) rfl))
    replace V_a1 := V3
    refine Go.of (T' := T3) (f' := (mkF m 19 #[.val (.ref a1), .val (.int (Int32.ofNat cs.length)), .val (.int p3), .val (.int p4)] [])) st3 ?_
    refine Go.of (T' := T3) (f' := (mkF m 20 #[.val (.ref a1), .val (.int (Int32.ofNat cs.length)), .val (.int p3), .val (.int p4)] [(.ref a1)])) (fun _ k => XS.aloadN X3.here hx rfl (hb hby d_method_3_code_19) rfl rfl k) ?_
    refine Go.of (T' := T3) (f' := (mkF m 21 #[.val (.ref a1), .val (.int (Int32.ofNat cs.length)), .val (.int p3), .val (.int p4)] [(.int (Int32.ofNat cs.length)), (.ref a1)])) (fun _ k => XS.iloadN X3.here hx rfl (hb hby d_method_3_code_20) rfl k) ?_
    refine Go.of (T' := T3) (f' := (mkF m 22 #[.val (.ref a1), .val (.int (Int32.ofNat cs.length)), .val (.int p3), .val (.int p4)] [(.int (1 : Int32)), (.int (Int32.ofNat cs.length)), (.ref a1)])) (fun _ k => XS.iconst X3.here hx rfl (hb hby d_method_3_code_21) k) ?_
    refine Go.of (T' := T3) (f' := (mkF m 23 #[.val (.ref a1), .val (.int (Int32.ofNat cs.length)), .val (.int p3), .val (.int p4)] [(.int ((Int32.ofNat cs.length) + (1 : Int32))), (.ref a1)])) (fun _ k => XS.iadd X3.here hx rfl (hb hby d_method_3_code_22) rfl k) ?_
    rw [show (Int32.ofNat cs.length) + (1 : Int32) = Int32.ofNat (cs.length + 1) from (Int32.ofNat_add _ _).symm]
    refine Go.of (T' := T3) (f' := (mkF m 25 #[.val (.ref a1), .val (.int (Int32.ofNat cs.length)), .val (.int p3), .val (.int p4)] [(.int (56320 : Int32)), (.int (Int32.ofNat (cs.length + 1))), (.ref a1)])) (fun _ k => X3.ldcInt hx hown (mvT hZ (hw _ (List.mem_of_getElem? (i := 112) rfl))) (g := (mkF m 23 #[.val (.ref a1), .val (.int (Int32.ofNat cs.length)), .val (.int p3), .val (.int p4)] [(.int (Int32.ofNat (cs.length + 1))), (.ref a1)])) rfl (hb hby d_method_3_code_23) _ k) ?_
    refine Go.of (T' := T3) (f' := (mkF m 26 #[.val (.ref a1), .val (.int (Int32.ofNat cs.length)), .val (.int p3), .val (.int p4)] [(.int p3), (.int (56320 : Int32)), (.int (Int32.ofNat (cs.length + 1))), (.ref a1)])) (fun _ k => XS.iloadN X3.here hx rfl (hb hby d_method_3_code_25) rfl k) ?_
    refine Go.of (T' := T3) (f' := (mkF m 29 #[.val (.ref a1), .val (.int (Int32.ofNat cs.length)), .val (.int p3), .val (.int p4)] [(.int (1023 : Int32)), (.int p3), (.int (56320 : Int32)), (.int (Int32.ofNat (cs.length + 1))), (.ref a1)])) (fun _ k => XS.sipush X3.here hx rfl (hb hby d_method_3_code_26) k) ?_
    refine Go.of (T' := T3) (f' := (mkF m 30 #[.val (.ref a1), .val (.int (Int32.ofNat cs.length)), .val (.int p3), .val (.int p4)] [(.int (p3 &&& (1023 : Int32))), (.int (56320 : Int32)), (.int (Int32.ofNat (cs.length + 1))), (.ref a1)])) (fun _ k => XS.iand X3.here hx rfl (hb hby d_method_3_code_29) rfl k) ?_
    refine Go.of (T' := T3) (f' := (mkF m 31 #[.val (.ref a1), .val (.int (Int32.ofNat cs.length)), .val (.int p3), .val (.int p4)] [(.int ((56320 : Int32) ||| (p3 &&& (1023 : Int32)))), (.int (Int32.ofNat (cs.length + 1))), (.ref a1)])) (fun _ k => XS.ior X3.here hx rfl (hb hby d_method_3_code_30) rfl k) ?_
    refine Go.of (T' := T3) (f' := (mkF m 32 #[.val (.ref a1), .val (.int (Int32.ofNat cs.length)), .val (.int p3), .val (.int p4)] [(.int (((56320 : Int32) ||| (p3 &&& (1023 : Int32))).toUInt32.toUInt16.toUInt32.toInt32)), (.int (Int32.ofNat (cs.length + 1))), (.ref a1)])) (fun _ k => XS.i2c X3.here hx rfl (hb hby d_method_3_code_31) rfl k) ?_
    obtain ⟨cl4, Ar4, cq4, Sz4, Nn4, Hs4, Gs4⟩ := id V_a1
    have hin4 : ¬ ((Int32.ofNat (cs.length + 1)) < 0 ∨ cl4.slots.size ≤ ((Int32.ofNat (cs.length + 1))).toNatClampNeg) := by rw [inbS Sz4 (m := M) (nat32 (by omega))]; exact ⟨nneg (by omega), by rw [nat32 (by omega)]; omega⟩
    obtain ⟨T4, h4, X4, e4, W4, st4⟩ := stC X3 hx hZ e3 Ar4 (j := (Int32.ofNat (cs.length + 1))) hin4 (g := (mkF m 32 #[.val (.ref a1), .val (.int (Int32.ofNat cs.length)), .val (.int p3), .val (.int p4)] [(.int (((56320 : Int32) ||| (p3 &&& (1023 : Int32))).toUInt32.toUInt16.toUInt32.toInt32)), (.int (Int32.ofNat (cs.length + 1))), (.ref a1)])) rfl rfl (hb hby d_method_3_code_32)
    have fq4 : fits .char (.int (nar .char (((56320 : Int32) ||| (p3 &&& (1023 : Int32))).toUInt32.toUInt16.toUInt32.toInt32))) = true := fits_nar_char _
    rw [show nar .char (((56320 : Int32) ||| (p3 &&& (1023 : Int32))).toUInt32.toUInt16.toUInt32.toInt32) = (((56320 : Int32) ||| (p3 &&& (1023 : Int32))).toUInt32.toUInt16.toUInt32.toInt32) from narC _] at W4 fq4
    have V4 := Arv.set Ar4 cq4 Sz4 Nn4 Hs4 Gs4 fq4 W4 (cs.length + 1) (nat32 (by omega)) (by simp)
    have K4 := Keep.of_wr W4
    have M4 := M3.wr W4 (Or.inl (List.mem_of_getElem? (i := 0) rfl))
    replace V_a1 := V4
    refine Go.of (T' := T4) (f' := (mkF m 33 #[.val (.ref a1), .val (.int (Int32.ofNat cs.length)), .val (.int p3), .val (.int p4)] [])) st4 ?_
    refine Go.of (T' := T4) (f' := (mkF m 34 #[.val (.ref a1), .val (.int (Int32.ofNat cs.length)), .val (.int p3), .val (.int p4)] [(.int (Int32.ofNat cs.length))])) (fun _ k => XS.iloadN X4.here hx rfl (hb hby d_method_3_code_33) rfl k) ?_
    refine Go.of (T' := T4) (f' := (mkF m 35 #[.val (.ref a1), .val (.int (Int32.ofNat cs.length)), .val (.int p3), .val (.int p4)] [(.int (2 : Int32)), (.int (Int32.ofNat cs.length))])) (fun _ k => XS.iconst X4.here hx rfl (hb hby d_method_3_code_34) k) ?_
    refine Go.of (T' := T4) (f' := (mkF m 36 #[.val (.ref a1), .val (.int (Int32.ofNat cs.length)), .val (.int p3), .val (.int p4)] [(.int ((Int32.ofNat cs.length) + (2 : Int32)))])) (fun _ k => XS.iadd X4.here hx rfl (hb hby d_method_3_code_35) rfl k) ?_
    exact goRetI (Q := fun v h L => Mv h0 h [a1] L ∧ ∃ us : List Int32, Wf us ∧ us.length = wt p4 ∧ v = some (.int (Int32.ofNat (cs ++ us).length)) ∧ Arv Z h a1 ka .char (Int32.ofNat M) ((cs ++ us).map Value.int) (.int (0 : Int32))) X4 hx (t := .int) hret hlk rfl (by simp) (hb hby d_method_3_code_36) K (by decide) (by decide) e4 (⟨M4, [_, _], Or.inl ⟨hiCh _, loCh _, trivial⟩, hwq.symm, congrArg (fun z => some (Value.int z)) (putLen rfl), V_a1.pad (putPad2 cs _ _)⟩)
theorem mapGet {cs : List Int32} {i : Nat} {d : Value} (hi : i < cs.length) : (cs.map Value.int).getD i d = .int (cs.getD i 0) := by simp [List.getD_eq_getElem?_getD, hi]
def WB (vs : List Value) (cs : List Int32) (i : Nat) : Prop := vs.length = 2 * cs.length ∧ ∀ j, j < i → vs[2 * j]? = some (.int (StrChars.lo8 (cs.getD j 0))) ∧ vs[2 * j + 1]? = some (.int (StrChars.hi8 (cs.getD j 0)))
theorem wb0 (cs : List Int32) : WB ([] ++ List.replicate (2 * cs.length) (.int (0 : Int32))) cs 0 := ⟨by simp, fun j hj => absurd hj (Nat.not_lt_zero _)⟩
theorem wbStep {vs : List Value} {cs : List Int32} {i : Nat} (h : WB vs cs i) (hi : i < cs.length) : WB ((vs.set (2 * i) (.int (StrChars.lo8 (cs.getD i 0)))).set (2 * i + 1) (.int (StrChars.hi8 (cs.getD i 0)))) cs (i + 1) := by
  obtain ⟨h1, h2⟩ := h
  refine ⟨by simp [h1], fun j hj => ?_⟩
  by_cases q : j = i
  · subst q
    constructor
    · rw [List.getElem?_set_ne (by omega), List.getElem?_set_self (by omega)]
    · rw [List.getElem?_set_self (by simp; omega)]
  · have := h2 j (by omega)
    constructor
    · rw [List.getElem?_set_ne (by omega), List.getElem?_set_ne (by omega)]; exact this.1
    · rw [List.getElem?_set_ne (by omega), List.getElem?_set_ne (by omega)]; exact this.2
theorem wbLen : ∀ cs : List Int32, (StrChars.Road.wideBytes cs).length = 2 * cs.length
  | [] => rfl
  | c :: cs => by have := wbLen cs; simp [StrChars.Road.wideBytes, this]; omega
theorem wbEnd {vs : List Value} {cs : List Int32} {i : Nat} (h : WB vs cs i) (hi : cs.length ≤ i) : vs = StrChars.Road.wideBytes cs := by
  obtain ⟨h1, h2⟩ := h
  apply List.ext_getElem?
  intro k
  by_cases hk : k < 2 * cs.length
  · have hlo := StrChars.Road.wide_lo (.int 0) cs (k / 2) (by omega)
    have hhi := StrChars.Road.wide_hi (.int 0) cs (k / 2) (by omega)
    have hl := wbLen cs
    rcases Nat.mod_two_eq_zero_or_one k with q | q
    · have e : k = 2 * (k / 2) := by omega
      rw [e, (h2 (k / 2) (by omega)).1, ← hlo, List.getD_eq_getElem?_getD, List.getElem?_eq_getElem (by omega)]; rfl
    · have e : k = 2 * (k / 2) + 1 := by omega
      rw [e, (h2 (k / 2) (by omega)).2, ← hhi, List.getD_eq_getElem?_getD, List.getElem?_eq_getElem (by omega)]; rfl
  · rw [List.getElem?_eq_none (by omega), List.getElem?_eq_none (by rw [wbLen]; omega)]
theorem wideNo {cs : List Int32} {i : Nat} (h : ∃ c ∈ cs, (255 : Int32) < c) (hall : ∀ j, j < i → ¬ (255 : Int32) < cs.getD j 0) (hi : cs.length ≤ i) : False := by
  obtain ⟨c, hc, q⟩ := h
  obtain ⟨j, hj, rfl⟩ := List.getElem_of_mem hc
  exact hall j (by omega) (by rw [show cs.getD j 0 = cs[j] by simp [List.getD_eq_getElem?_getD, hj]]; exact q)
theorem allStep {cs : List Int32} {i : Nat} (hall : ∀ j, j < i → ¬ (255 : Int32) < cs.getD j 0) (h : ¬ (255 : Int32) < cs.getD i 0) : ∀ j, j < i + 1 → ¬ (255 : Int32) < cs.getD j 0 := fun j hj => by
  by_cases q : j = i
  · subst q; exact h
  · exact hall j (by omega)
theorem cfa1 {n : Nat} (h0 : 0 < n) (h : n ≤ 4000) : (((Int32.ofNat n - Int32.ofNat (2 * n)).toUInt32 >>> ((31 : Int32) &&& 31).toUInt32).toInt32).toInt8.toInt32 = 1 := by
  have q := c_isub (Int32.ofNat n) (Int32.ofNat (2 * n))
  have b := Int32.toInt_lt (Int32.ofNat n - Int32.ofNat (2 * n))
  have b' := Int32.le_toInt (Int32.ofNat n - Int32.ofNat (2 * n))
  rw [n32i (by omega), n32i (by omega)] at q
  have r := c_iushr (Int32.ofNat n - Int32.ofNat (2 * n)) 31 31 (by decide) (by decide)
  have e : ((Int32.ofNat n - Int32.ofNat (2 * n)).toUInt32 >>> ((31 : Int32) &&& 31).toUInt32).toInt32 = 1 := by
    apply Int32.toInt_inj.mp
    have e1 : (1 : Int32).toInt = 1 := by decide
    rw [r, e1]; omega
  rw [e]; decide

theorem ltMax {n : Nat} (h : n ≤ 4000) : Int32.ofNat n < (1073741823 : Int32) := by
  have e : (1073741823 : Int32).toInt = 1073741823 := by decide
  rw [Int32.lt_iff_toInt_lt, n32i (by omega), e]; omega
theorem ef_rm_nbl (m : MethodId) (x0 : Int32)  : entryFrame m #[(.int x0)] 1 = mkF m 0 #[.val (.int x0)] [] := by first | (simp [entryFrame, mkF, argsToLocals, Value.category]; done) | rfl
theorem d_jdk_52_method_3_code_0 : decode jdk_52_method_3_code 0 = .ok (.iload_n 0, 1) := by decide +kernel
theorem d_jdk_52_method_3_code_1 : decode jdk_52_method_3_code 1 = .ok (.ifCond .ge 11, 3) := by decide +kernel
theorem d_jdk_52_method_3_code_12 : decode jdk_52_method_3_code 12 = .ok (.iload_n 0, 1) := by decide +kernel
theorem d_jdk_52_method_3_code_13 : decode jdk_52_method_3_code 13 = .ok (.ldc 20, 2) := by decide +kernel
theorem d_jdk_52_method_3_code_15 : decode jdk_52_method_3_code 15 = .ok (.if_icmp .lt 40, 3) := by decide +kernel
theorem d_jdk_52_method_3_code_55 : decode jdk_52_method_3_code 55 = .ok (.iload_n 0, 1) := by decide +kernel
theorem d_jdk_52_method_3_code_56 : decode jdk_52_method_3_code 56 = .ok (.iconst 1, 1) := by decide +kernel
theorem d_jdk_52_method_3_code_57 : decode jdk_52_method_3_code 57 = .ok (.ishl, 1) := by decide +kernel
theorem d_jdk_52_method_3_code_58 : decode jdk_52_method_3_code 58 = .ok (.ireturn, 1) := by decide +kernel
set_option maxRecDepth 65536 in
set_option maxHeartbeats 40000000 in
theorem rm_nbl (l : Launch) (Z : State) (a0 : Array Value) (hw : ∀ d ∈ tables_1, d.before a0 Z = true) (n : Nat) (h0 : Heap) (h8 : n ≤ 8) :
    MeetsW l Z (⟨"java/lang/StringUTF16", "newBytesLength", "(I)I"⟩ : MethodName) jdk_52_method_3_code 1 (some .int) ({ frames := 0, cells := 0, slots := 0, locals := 0 } : Room) #[(.int (Int32.ofNat n))] h0 (Pu h0 (fun v => v = some (.int (Int32.ofNat (2 * n))))) := by
  refine MeetsW.of (plainFor_of_name pn_java_lang_StringUTF16) ?_
  intro p e s m below meth c s₁ P hx hby hml hZ hown hnm hret hlk X0 e0 K
  have M0 : Mv h0 h0 [] [] := Mv.refl _ _
  refine Go.cast (ef_rm_nbl m (Int32.ofNat n) ) ?_
  refine Go.of (T' := s₁) (f' := (mkF m 1 #[.val (.int (Int32.ofNat n))] [(.int (Int32.ofNat n))])) (fun _ k => XS.iloadN X0.here hx rfl (hb hby d_jdk_52_method_3_code_0) rfl k) ?_
  have hc1 : ¬ ((Int32.ofNat n) < (0 : Int32)) := nneg (by omega)
  refine Go.of (T' := s₁) (f' := (mkF m 12 #[.val (.int (Int32.ofNat n))] [])) (fun _ k => XS.ifYes X0.here hx rfl (pc0 := 1) (pc' := 12) rfl (hb hby d_jdk_52_method_3_code_1) rfl ((if0 _ _).trans (flt hc1).2.1) (by decide) (by decide) k) ?_
  refine Go.of (T' := s₁) (f' := (mkF m 13 #[.val (.int (Int32.ofNat n))] [(.int (Int32.ofNat n))])) (fun _ k => XS.iloadN X0.here hx rfl (hb hby d_jdk_52_method_3_code_12) rfl k) ?_
  refine Go.of (T' := s₁) (f' := (mkF m 15 #[.val (.int (Int32.ofNat n))] [(.int (1073741823 : Int32)), (.int (Int32.ofNat n))])) (fun _ k => X0.ldcInt hx hown (mvT hZ (hw _ (List.mem_of_getElem? (i := 122) rfl))) (g := (mkF m 13 #[.val (.int (Int32.ofNat n))] [(.int (Int32.ofNat n))])) rfl (hb hby d_jdk_52_method_3_code_13) _ k) ?_
  have hc15 : (Int32.ofNat n) < (1073741823 : Int32) := ltMax (by omega)
  refine Go.of (T' := s₁) (f' := (mkF m 55 #[.val (.int (Int32.ofNat n))] [])) (fun _ k => XS.icmpYes X0.here hx rfl (pc0 := 15) (pc' := 55) rfl (hb hby d_jdk_52_method_3_code_15) rfl (tlt hc15).1 (by decide) (by decide) k) ?_
  refine Go.of (T' := s₁) (f' := (mkF m 56 #[.val (.int (Int32.ofNat n))] [(.int (Int32.ofNat n))])) (fun _ k => XS.iloadN X0.here hx rfl (hb hby d_jdk_52_method_3_code_55) rfl k) ?_
  refine Go.of (T' := s₁) (f' := (mkF m 57 #[.val (.int (Int32.ofNat n))] [(.int (1 : Int32)), (.int (Int32.ofNat n))])) (fun _ k => XS.iconst X0.here hx rfl (hb hby d_jdk_52_method_3_code_56) k) ?_
  refine Go.of (T' := s₁) (f' := (mkF m 58 #[.val (.int (Int32.ofNat n))] [(.int ((Int32.ofNat n) <<< ((1 : Int32) &&& 31)))])) (fun _ k => XS.ishl X0.here hx rfl (hb hby d_jdk_52_method_3_code_57) rfl k) ?_
  exact goRetI (Q := Pu h0 (fun v => v = some (.int (Int32.ofNat (2 * n))))) X0 hx (t := .int) hret hlk rfl (by simp) (hb hby d_jdk_52_method_3_code_58) K (by decide) (by decide) e0 (⟨rfl, rfl, congrArg (fun z => some (Value.int z)) (sh1 (by omega))⟩)
theorem ef_rm_nbf (m : MethodId) (x0 : Int32)  : entryFrame m #[(.int x0)] 1 = mkF m 0 #[.val (.int x0)] [] := by first | (simp [entryFrame, mkF, argsToLocals, Value.category]; done) | rfl
theorem d_jdk_52_method_2_code_0 : decode jdk_52_method_2_code 0 = .ok (.iload_n 0, 1) := by decide +kernel
theorem d_jdk_52_method_2_code_1 : decode jdk_52_method_2_code 1 = .ok (.invokestatic 11, 3) := by decide +kernel
theorem pd__I_I : parseMethodDescriptor "(I)I" = some ⟨[.int], some .int⟩ := by decide +kernel
theorem d_jdk_52_method_2_code_4 : decode jdk_52_method_2_code 4 = .ok (.newarray .byte, 2) := by decide +kernel
theorem d_jdk_52_method_2_code_6 : decode jdk_52_method_2_code 6 = .ok (.areturn, 1) := by decide +kernel
set_option maxRecDepth 65536 in
set_option maxHeartbeats 40000000 in
theorem rm_nbf (l : Launch) (Z : State) (a0 : Array Value) (hw : ∀ d ∈ tables_1, d.before a0 Z = true) (cs : List Int32) (h0 : Heap) (h8 : cs.length ≤ 8) :
    MeetsW l Z (⟨"java/lang/StringUTF16", "newBytesFor", "(I)[B"⟩ : MethodName) jdk_52_method_2_code 1 (some (.array .byte)) ({ frames := 1, cells := 1, slots := 16, locals := 12 } : Room) #[(.int (Int32.ofNat cs.length))] h0 (fun v h L => Mv h0 h [] L ∧ ∃ (b : Addr) (k : ClassId), v = some (.ref b) ∧ h0.size ≤ b ∧ Arv Z h b k .byte (Int32.ofNat (2 * cs.length)) ([] ++ List.replicate (2 * cs.length) (.int (0 : Int32))) (.int (0 : Int32))) := by
  refine MeetsW.of (plainFor_of_name pn_java_lang_StringUTF16) ?_
  intro p e s m below meth c s₁ P hx hby hml hZ hown hnm hret hlk X0 e0 K
  have M0 : Mv h0 h0 [] [] := Mv.refl _ _
  refine Go.cast (ef_rm_nbf m (Int32.ofNat cs.length) ) ?_
  refine Go.of (T' := s₁) (f' := (mkF m 1 #[.val (.int (Int32.ofNat cs.length))] [(.int (Int32.ofNat cs.length))])) (fun _ k => XS.iloadN X0.here hx rfl (hb hby d_jdk_52_method_2_code_0) rfl k) ?_
  refine goS X0 hx hZ hown (hw _ (List.mem_of_getElem? (i := 119) rfl)) (hw _ (List.mem_of_getElem? (i := 120) rfl)) (hw _ (List.mem_of_getElem? (i := 25) rfl)) (hw _ (List.mem_of_getElem? (i := 121) rfl)) (by decide) (C := 0) (S := 0) ((rm_nbl l Z a0 hw cs.length h0 (by omega)).bk (W := 0) hZ (hw _ (List.mem_of_getElem? (i := 121) rfl)) (hw _ (List.mem_of_getElem? (i := 25) rfl)) (by decide) (by decide)) e0 (argsL := [(.int (Int32.ofNat cs.length))]) (rest := []) (by rw [hml]; rfl) (lenOf pd__I_I rfl) rfl rfl (hb hby d_jdk_52_method_2_code_1) (Nat.le_of_eq rfl) (by decide) (by decide) ?_
  intro v1 T1 L1 X1 hQ1
  obtain ⟨nq1, e1, rfl⟩ := hQ1
  replace X1 := standNil X1 nq1
  show Go p e below P T1 (mkF m 4 #[.val (.int (Int32.ofNat cs.length))] [(.int (Int32.ofNat (2 * cs.length)))])
  obtain ⟨T2, h2, k2, X2, e2, E2, A2, st2⟩ := newP X1 hx hZ (hw _ (List.mem_of_getElem? (i := 27) rfl)) e1 (g := (mkF m 4 #[.val (.int (Int32.ofNat cs.length))] [(.int (Int32.ofNat (2 * cs.length)))])) rfl (hb hby d_jdk_52_method_2_code_4) rfl (nneg (by omega)) (cap := 16) (by rw [nat32 (by omega)]; omega) (by decide) (by decide) (by decide)
  obtain ⟨b2, g2⟩ : ∃ z, z = h0.size := ⟨_, rfl⟩
  rw [← g2] at A2 st2
  have fr_b2 : h0.size ≤ b2 := Nat.le_trans M0.le (Nat.le_of_eq g2.symm)
  have K2 := keepE E2
  have M2 := M0.ext E2
  have V_b2 : Arv Z h2 b2 k2 .byte (Int32.ofNat (2 * cs.length)) [] (.int (0 : Int32)) := Arv.new A2 (nneg (by omega))
  refine Go.of (T' := T2) (f' := (mkF m 6 #[.val (.int (Int32.ofNat cs.length))] [(.ref b2)])) st2 ?_
  exact goRetR (Q := fun v h L => Mv h0 h [] L ∧ ∃ (b : Addr) (k : ClassId), v = some (.ref b) ∧ h0.size ≤ b ∧ Arv Z h b k .byte (Int32.ofNat (2 * cs.length)) ([] ++ List.replicate (2 * cs.length) (.int (0 : Int32))) (.int (0 : Int32))) X2 hx hret rfl hlk rfl rfl (hb hby d_jdk_52_method_2_code_6) K (by decide) (by decide) e2 (⟨M2, b2, _, rfl, fr_b2, V_b2.pad (pad_rep [] _ _)⟩)
theorem ef_rm_tb (m : MethodId) (x0 : Addr) (x1 : Int32) (x2 : Int32)  : entryFrame m #[(.ref x0), (.int x1), (.int x2)] 5 = mkF m 0 #[.val (.ref x0), .val (.int x1), .val (.int x2), .unset, .unset] [] := by first | (simp [entryFrame, mkF, argsToLocals, Value.category]; done) | rfl
theorem d_jdk_52_method_14_code_0 : decode jdk_52_method_14_code 0 = .ok (.iload_n 2, 1) := by decide +kernel
theorem d_jdk_52_method_14_code_1 : decode jdk_52_method_14_code 1 = .ok (.invokestatic 107, 3) := by decide +kernel
theorem pd__I__B : parseMethodDescriptor "(I)[B" = some ⟨[.int], some (.array .byte)⟩ := by decide +kernel
theorem d_jdk_52_method_14_code_4 : decode jdk_52_method_14_code 4 = .ok (.astore_n 3, 1) := by decide +kernel
theorem d_jdk_52_method_14_code_5 : decode jdk_52_method_14_code 5 = .ok (.iconst 0, 1) := by decide +kernel
theorem d_jdk_52_method_14_code_6 : decode jdk_52_method_14_code 6 = .ok (.istore 4, 2) := by decide +kernel
theorem d_jdk_52_method_14_code_8 : decode jdk_52_method_14_code 8 = .ok (.iload 4, 2) := by decide +kernel
theorem d_jdk_52_method_14_code_10 : decode jdk_52_method_14_code 10 = .ok (.iload_n 2, 1) := by decide +kernel
theorem d_jdk_52_method_14_code_11 : decode jdk_52_method_14_code 11 = .ok (.if_icmp .ge 21, 3) := by decide +kernel
theorem d_jdk_52_method_14_code_32 : decode jdk_52_method_14_code 32 = .ok (.aload_n 3, 1) := by decide +kernel
theorem d_jdk_52_method_14_code_33 : decode jdk_52_method_14_code 33 = .ok (.areturn, 1) := by decide +kernel
theorem d_jdk_52_method_14_code_14 : decode jdk_52_method_14_code 14 = .ok (.aload_n 3, 1) := by decide +kernel
theorem d_jdk_52_method_14_code_15 : decode jdk_52_method_14_code 15 = .ok (.iload 4, 2) := by decide +kernel
theorem d_jdk_52_method_14_code_17 : decode jdk_52_method_14_code 17 = .ok (.aload_n 0, 1) := by decide +kernel
theorem d_jdk_52_method_14_code_18 : decode jdk_52_method_14_code 18 = .ok (.iload_n 1, 1) := by decide +kernel
theorem d_jdk_52_method_14_code_19 : decode jdk_52_method_14_code 19 = .ok (.caload, 1) := by decide +kernel
theorem d_jdk_52_method_14_code_20 : decode jdk_52_method_14_code 20 = .ok (.invokestatic 111, 3) := by decide +kernel
theorem pd___BII_V : parseMethodDescriptor "([BII)V" = some ⟨[(.array .byte), .int, .int], none⟩ := by decide +kernel
theorem d_jdk_52_method_14_code_23 : decode jdk_52_method_14_code 23 = .ok (.iinc 1 1, 3) := by decide +kernel
theorem d_jdk_52_method_14_code_26 : decode jdk_52_method_14_code 26 = .ok (.iinc 4 1, 3) := by decide +kernel
theorem d_jdk_52_method_14_code_29 : decode jdk_52_method_14_code 29 = .ok (.goto (-21), 3) := by decide +kernel
set_option maxRecDepth 65536 in
set_option maxHeartbeats 40000000 in
theorem rm_tb (l : Launch) (Z : State) (a0 : Array Value) (hw : ∀ d ∈ tables_1, d.before a0 Z = true) (a1 : Addr) (ka : ClassId) (cs : List Int32) (h0 : Heap) (V_a1 : Arv Z h0 a1 ka .char (Int32.ofNat cs.length) (cs.map Value.int) (.int (0 : Int32))) (h8 : cs.length ≤ 8) (Z_ad : Sta Z h0 "java/lang/StringUTF16" "$assertionsDisabled" "Z" (.int (1 : Int32))) (Z_hs : Sta Z h0 "java/lang/StringUTF16" "HI_BYTE_SHIFT" "I" (.int (0 : Int32))) (Z_ls : Sta Z h0 "java/lang/StringUTF16" "LO_BYTE_SHIFT" "I" (.int (8 : Int32))) :
    MeetsW l Z (⟨"java/lang/StringUTF16", "toBytes", "([CII)[B"⟩ : MethodName) jdk_52_method_14_code 5 (some (.array .byte)) ({ frames := 2, cells := 1, slots := 16, locals := 24 } : Room) #[(.ref a1), (.int (0 : Int32)), (.int (Int32.ofNat cs.length))] h0 (fun v h L => Mv h0 h [] L ∧ ∃ (b : Addr) (k : ClassId), v = some (.ref b) ∧ h0.size ≤ b ∧ Arv Z h b k .byte (Int32.ofNat (2 * cs.length)) (StrChars.Road.wideBytes cs) (.int (0 : Int32))) := by
  refine MeetsW.of (plainFor_of_name pn_java_lang_StringUTF16) ?_
  intro p e s m below meth c s₁ P hx hby hml hZ hown hnm hret hlk X0 e0 K
  have M0 : Mv h0 h0 [] [] := Mv.refl _ _
  refine Go.cast (ef_rm_tb m a1 (0 : Int32) (Int32.ofNat cs.length) ) ?_
  refine Go.of (T' := s₁) (f' := (mkF m 1 #[.val (.ref a1), .val (.int (0 : Int32)), .val (.int (Int32.ofNat cs.length)), .unset, .unset] [(.int (Int32.ofNat cs.length))])) (fun _ k => XS.iloadN X0.here hx rfl (hb hby d_jdk_52_method_14_code_0) rfl k) ?_
  refine goS X0 hx hZ hown (hw _ (List.mem_of_getElem? (i := 116) rfl)) (hw _ (List.mem_of_getElem? (i := 117) rfl)) (hw _ (List.mem_of_getElem? (i := 25) rfl)) (hw _ (List.mem_of_getElem? (i := 118) rfl)) (by decide) (C := 1) (S := 16) ((rm_nbf l Z a0 hw cs h0 h8).bk (W := 0) hZ (hw _ (List.mem_of_getElem? (i := 118) rfl)) (hw _ (List.mem_of_getElem? (i := 25) rfl)) (by decide) (by decide)) e0 (argsL := [(.int (Int32.ofNat cs.length))]) (rest := []) (by rw [hml]; rfl) (lenOf pd__I__B rfl) rfl rfl (hb hby d_jdk_52_method_14_code_1) (Nat.le_of_eq rfl) (by decide) (by decide) ?_
  intro v1 T1 L1 X1 hQ1
  obtain ⟨h1, e1⟩ : ∃ z, T1.heap = z := ⟨_, rfl⟩
  rw [e1] at hQ1
  obtain ⟨Mc1, b1, k1, rfl, le1, V_b1⟩ := hQ1
  have ne_a1_b1 : a1 ≠ b1 := Nat.ne_of_lt (Nat.lt_of_lt_of_le V_a1.lt le1)
  have fr_b1 : h0.size ≤ b1 := Nat.le_trans M0.le le1
  have M1 := M0.app0 Mc1
  replace V_a1 := V_a1.keep Mc1.1 nin0
  replace Z_ad := StaKeep Z_ad Mc1.1 all0
  replace Z_hs := StaKeep Z_hs Mc1.1 all0
  replace Z_ls := StaKeep Z_ls Mc1.1 all0
  show Go p e below P T1 (mkF m 4 #[.val (.ref a1), .val (.int (0 : Int32)), .val (.int (Int32.ofNat cs.length)), .unset, .unset] [(.ref b1)])
  refine Go.of (T' := T1) (f' := (mkF m 5 #[.val (.ref a1), .val (.int (0 : Int32)), .val (.int (Int32.ofNat cs.length)), .val (.ref b1), .unset] [])) (fun _ k => XS.astoreN X1.here hx rfl (hb hby d_jdk_52_method_14_code_4) rfl rfl (l' := #[.val (.ref a1), .val (.int (0 : Int32)), .val (.int (Int32.ofNat cs.length)), .val (.ref b1), .unset]) rfl k) ?_
  refine Go.of (T' := T1) (f' := (mkF m 6 #[.val (.ref a1), .val (.int (0 : Int32)), .val (.int (Int32.ofNat cs.length)), .val (.ref b1), .unset] [(.int (0 : Int32))])) (fun _ k => XS.iconst X1.here hx rfl (hb hby d_jdk_52_method_14_code_5) k) ?_
  refine Go.of (T' := T1) (f' := (mkF m 8 #[.val (.ref a1), .val (.int (0 : Int32)), .val (.int (Int32.ofNat cs.length)), .val (.ref b1), .val (.int (0 : Int32))] [])) (fun _ k => XS.istore X1.here hx rfl (hb hby d_jdk_52_method_14_code_6) rfl (l' := #[.val (.ref a1), .val (.int (0 : Int32)), .val (.int (Int32.ofNat cs.length)), .val (.ref b1), .val (.int (0 : Int32))]) rfl k) ?_
  show Go p e below P T1 (mkF m 8 #[.val (.ref a1), .val (.int (Int32.ofNat 0)), .val (.int (Int32.ofNat cs.length)), .val (.ref b1), .val (.int (Int32.ofNat 0))] [])
  have J : ∀ (n : Nat) (i : Nat) (vs : List Value) (Tj : State) (hj : Heap) (Lj : List Loc), cs.length ≤ i + n → i ≤ cs.length → (WB vs cs i) → Stand p l e ({ frames := 2, cells := 1, slots := 16, locals := 24 } : Room) s m #[(.ref a1), (.int (0 : Int32)), (.int (Int32.ofNat cs.length))] below meth c Tj Lj 1 16 → Tj.heap = hj → Mv h0 hj [] Lj → Arv Z hj a1 ka (.char) (Int32.ofNat cs.length) (cs.map Value.int) (.int (0 : Int32)) → Arv Z hj b1 k1 (.byte) (Int32.ofNat (2 * cs.length)) vs (.int (0 : Int32)) → Sta Z hj "java/lang/StringUTF16" "$assertionsDisabled" "Z" (.int (1 : Int32)) → Sta Z hj "java/lang/StringUTF16" "HI_BYTE_SHIFT" "I" (.int (0 : Int32)) → Sta Z hj "java/lang/StringUTF16" "LO_BYTE_SHIFT" "I" (.int (8 : Int32)) → Go p e below P Tj (mkF m 8 #[.val (.ref a1), .val (.int (Int32.ofNat i)), .val (.int (Int32.ofNat cs.length)), .val (.ref b1), .val (.int (Int32.ofNat i))] []) := by
    intro n
    induction n with
    | zero =>
      intro i vs Tj hj Lj hle hi1 hwb Xj ej Mj V_a1 V_b1 Z_ad Z_hs Z_ls
      refine Go.of (T' := Tj) (f' := (mkF m 10 #[.val (.ref a1), .val (.int (Int32.ofNat i)), .val (.int (Int32.ofNat cs.length)), .val (.ref b1), .val (.int (Int32.ofNat i))] [(.int (Int32.ofNat i))])) (fun _ k => XS.iload Xj.here hx rfl (hb hby d_jdk_52_method_14_code_8) rfl k) ?_
      refine Go.of (T' := Tj) (f' := (mkF m 11 #[.val (.ref a1), .val (.int (Int32.ofNat i)), .val (.int (Int32.ofNat cs.length)), .val (.ref b1), .val (.int (Int32.ofNat i))] [(.int (Int32.ofNat cs.length)), (.int (Int32.ofNat i))])) (fun _ k => XS.iloadN Xj.here hx rfl (hb hby d_jdk_52_method_14_code_10) rfl k) ?_
      have hc11 : ¬ ((Int32.ofNat i) < (Int32.ofNat cs.length)) := fun q => by have q := (ltN (by omega) (by omega)).mp q; omega
      refine Go.of (T' := Tj) (f' := (mkF m 32 #[.val (.ref a1), .val (.int (Int32.ofNat i)), .val (.int (Int32.ofNat cs.length)), .val (.ref b1), .val (.int (Int32.ofNat i))] [])) (fun _ k => XS.icmpYes Xj.here hx rfl (pc0 := 11) (pc' := 32) rfl (hb hby d_jdk_52_method_14_code_11) rfl (flt hc11).2.1 (by decide) (by decide) k) ?_
      refine Go.of (T' := Tj) (f' := (mkF m 33 #[.val (.ref a1), .val (.int (Int32.ofNat i)), .val (.int (Int32.ofNat cs.length)), .val (.ref b1), .val (.int (Int32.ofNat i))] [(.ref b1)])) (fun _ k => XS.aloadN Xj.here hx rfl (hb hby d_jdk_52_method_14_code_32) rfl rfl k) ?_
      exact goRetR (Q := fun v h L => Mv h0 h [] L ∧ ∃ (b : Addr) (k : ClassId), v = some (.ref b) ∧ h0.size ≤ b ∧ Arv Z h b k .byte (Int32.ofNat (2 * cs.length)) (StrChars.Road.wideBytes cs) (.int (0 : Int32))) Xj hx hret rfl hlk rfl rfl (hb hby d_jdk_52_method_14_code_33) K (by decide) (by decide) ej (⟨Mj, b1, _, rfl, fr_b1, (wbEnd hwb (by first | exact Nat.le_of_not_lt fun q => hc11 ((ltN (by omega) (by omega)).mpr q) | omega)) ▸ V_b1⟩)
    | succ n ih =>
      intro i vs Tj hj Lj hle hi1 hwb Xj ej Mj V_a1 V_b1 Z_ad Z_hs Z_ls
      refine Go.of (T' := Tj) (f' := (mkF m 10 #[.val (.ref a1), .val (.int (Int32.ofNat i)), .val (.int (Int32.ofNat cs.length)), .val (.ref b1), .val (.int (Int32.ofNat i))] [(.int (Int32.ofNat i))])) (fun _ k => XS.iload Xj.here hx rfl (hb hby d_jdk_52_method_14_code_8) rfl k) ?_
      refine Go.of (T' := Tj) (f' := (mkF m 11 #[.val (.ref a1), .val (.int (Int32.ofNat i)), .val (.int (Int32.ofNat cs.length)), .val (.ref b1), .val (.int (Int32.ofNat i))] [(.int (Int32.ofNat cs.length)), (.int (Int32.ofNat i))])) (fun _ k => XS.iloadN Xj.here hx rfl (hb hby d_jdk_52_method_14_code_10) rfl k) ?_
      by_cases hc11 : (Int32.ofNat i) < (Int32.ofNat cs.length)
      ·
        refine Go.of (T' := Tj) (f' := (mkF m 14 #[.val (.ref a1), .val (.int (Int32.ofNat i)), .val (.int (Int32.ofNat cs.length)), .val (.ref b1), .val (.int (Int32.ofNat i))] [])) (fun _ k => XS.icmpNo Xj.here hx rfl (hb hby d_jdk_52_method_14_code_11) rfl (tlt hc11).2.1 k) ?_
        have hi : i < cs.length := (ltN (by omega) (by omega)).mp hc11
        refine Go.of (T' := Tj) (f' := (mkF m 15 #[.val (.ref a1), .val (.int (Int32.ofNat i)), .val (.int (Int32.ofNat cs.length)), .val (.ref b1), .val (.int (Int32.ofNat i))] [(.ref b1)])) (fun _ k => XS.aloadN Xj.here hx rfl (hb hby d_jdk_52_method_14_code_14) rfl rfl k) ?_
        refine Go.of (T' := Tj) (f' := (mkF m 17 #[.val (.ref a1), .val (.int (Int32.ofNat i)), .val (.int (Int32.ofNat cs.length)), .val (.ref b1), .val (.int (Int32.ofNat i))] [(.int (Int32.ofNat i)), (.ref b1)])) (fun _ k => XS.iload Xj.here hx rfl (hb hby d_jdk_52_method_14_code_15) rfl k) ?_
        refine Go.of (T' := Tj) (f' := (mkF m 18 #[.val (.ref a1), .val (.int (Int32.ofNat i)), .val (.int (Int32.ofNat cs.length)), .val (.ref b1), .val (.int (Int32.ofNat i))] [(.ref a1), (.int (Int32.ofNat i)), (.ref b1)])) (fun _ k => XS.aloadN Xj.here hx rfl (hb hby d_jdk_52_method_14_code_17) rfl rfl k) ?_
        refine Go.of (T' := Tj) (f' := (mkF m 19 #[.val (.ref a1), .val (.int (Int32.ofNat i)), .val (.int (Int32.ofNat cs.length)), .val (.ref b1), .val (.int (Int32.ofNat i))] [(.int (Int32.ofNat i)), (.ref a1), (.int (Int32.ofNat i)), (.ref b1)])) (fun _ k => XS.iloadN Xj.here hx rfl (hb hby d_jdk_52_method_14_code_18) rfl k) ?_
        obtain ⟨cl2, Ar2, cq2, Sz2, Nn2, Hs2, Gs2⟩ := id V_a1
        have hin2 : ¬ ((Int32.ofNat i) < 0 ∨ cl2.slots.size ≤ ((Int32.ofNat i)).toNatClampNeg) := inbN Sz2 hi (by omega)
        have hat2 : cl2.slots[((Int32.ofNat i)).toNatClampNeg]? = some (.int (cs.getD i 0)) := Has.at Hs2 hin2 (by rw [nat32 (by omega)]; exact mapGet hi)
        refine Go.of (T' := Tj) (f' := (mkF m 20 #[.val (.ref a1), .val (.int (Int32.ofNat i)), .val (.int (Int32.ofNat cs.length)), .val (.ref b1), .val (.int (Int32.ofNat i))] [(.int (cs.getD i 0)), (.int (Int32.ofNat i)), (.ref b1)])) (fun _ k => Xj.caload hx (j := (Int32.ofNat i)) (v := (.int (cs.getD i 0))) (by rw [ej]; exact Ar2.1) (State.isArrayOf_alike hZ.alike Ar2.2.1) Ar2.2.2 hin2 hat2 (g := (mkF m 19 #[.val (.ref a1), .val (.int (Int32.ofNat i)), .val (.int (Int32.ofNat cs.length)), .val (.ref b1), .val (.int (Int32.ofNat i))] [(.int (Int32.ofNat i)), (.ref a1), (.int (Int32.ofNat i)), (.ref b1)])) rfl rfl (hb hby d_jdk_52_method_14_code_19) _ k) ?_
        refine goS Xj hx hZ hown (hw _ (List.mem_of_getElem? (i := 123) rfl)) (hw _ (List.mem_of_getElem? (i := 124) rfl)) (hw _ (List.mem_of_getElem? (i := 25) rfl)) (hw _ (List.mem_of_getElem? (i := 125) rfl)) (by decide) (C := 0) (S := 0) ((rm_putChar l Z a0 hw b1 k1 (Int32.ofNat (2 * cs.length)) _ i (cs.getD i 0) hj V_b1 (by rw [nat32 (by omega)]; have := hwb.1; omega) (by have := hwb.1; omega) (by omega) Z_ad Z_hs Z_ls).bk (W := 0) hZ (hw _ (List.mem_of_getElem? (i := 125) rfl)) (hw _ (List.mem_of_getElem? (i := 25) rfl)) (by decide) (by decide)) ej (argsL := [(.ref b1), (.int (Int32.ofNat i)), (.int (cs.getD i 0))]) (rest := []) (by rw [hml]; rfl) (lenOf pd___BII_V rfl) rfl rfl (hb hby d_jdk_52_method_14_code_20) (Nat.le_of_eq rfl) (by decide) (by decide) ?_
        intro v3 T3 L3 X3 hQ3
        obtain ⟨h3, e3⟩ : ∃ z, T3.heap = z := ⟨_, rfl⟩
        rw [e3] at hQ3
        have V_b1_o := V_b1
        obtain ⟨rfl, Mc3, Vc3⟩ := hQ3
        have M3 := Mj.app Mc3 (allS (Or.inr fr_b1) all0)
        replace V_a1 := V_a1.keep Mc3.1 (ninS ne_a1_b1 nin0)
        replace Z_ad := StaKeep Z_ad Mc3.1 (allS (staArv V_b1_o) all0)
        replace Z_hs := StaKeep Z_hs Mc3.1 (allS (staArv V_b1_o) all0)
        replace Z_ls := StaKeep Z_ls Mc3.1 (allS (staArv V_b1_o) all0)
        replace V_b1 := Vc3
        show Go p e below P T3 (mkF m 23 #[.val (.ref a1), .val (.int (Int32.ofNat i)), .val (.int (Int32.ofNat cs.length)), .val (.ref b1), .val (.int (Int32.ofNat i))] [])
        refine Go.of (T' := T3) (f' := (mkF m 26 #[.val (.ref a1), .val (.int ((Int32.ofNat i) + (1 : Int32))), .val (.int (Int32.ofNat cs.length)), .val (.ref b1), .val (.int (Int32.ofNat i))] [])) (fun _ k => XS.iinc X3.here hx rfl (hb hby d_jdk_52_method_14_code_23) rfl (l' := #[.val (.ref a1), .val (.int ((Int32.ofNat i) + (1 : Int32))), .val (.int (Int32.ofNat cs.length)), .val (.ref b1), .val (.int (Int32.ofNat i))]) rfl k) ?_
        refine Go.of (T' := T3) (f' := (mkF m 29 #[.val (.ref a1), .val (.int ((Int32.ofNat i) + (1 : Int32))), .val (.int (Int32.ofNat cs.length)), .val (.ref b1), .val (.int ((Int32.ofNat i) + (1 : Int32)))] [])) (fun _ k => XS.iinc X3.here hx rfl (hb hby d_jdk_52_method_14_code_26) rfl (l' := #[.val (.ref a1), .val (.int ((Int32.ofNat i) + (1 : Int32))), .val (.int (Int32.ofNat cs.length)), .val (.ref b1), .val (.int ((Int32.ofNat i) + (1 : Int32)))]) rfl k) ?_
        refine Go.of (T' := T3) (f' := (mkF m 8 #[.val (.ref a1), .val (.int ((Int32.ofNat i) + (1 : Int32))), .val (.int (Int32.ofNat cs.length)), .val (.ref b1), .val (.int ((Int32.ofNat i) + (1 : Int32)))] [])) (fun _ k => XS.goto X3.here hx rfl (pc0 := 29) (pc' := 8) rfl (hb hby d_jdk_52_method_14_code_29) (by decide) (by decide) k) ?_
        rw [show (Int32.ofNat i) + (1 : Int32) = Int32.ofNat (i + 1) from (Int32.ofNat_add _ _).symm]
        exact ih (i + 1) _ T3 h3 _ (by omega) hi (wbStep hwb hi) (standUp X3 (by decide) (by decide)) e3 M3 V_a1 V_b1 Z_ad Z_hs Z_ls
      ·
        refine Go.of (T' := Tj) (f' := (mkF m 32 #[.val (.ref a1), .val (.int (Int32.ofNat i)), .val (.int (Int32.ofNat cs.length)), .val (.ref b1), .val (.int (Int32.ofNat i))] [])) (fun _ k => XS.icmpYes Xj.here hx rfl (pc0 := 11) (pc' := 32) rfl (hb hby d_jdk_52_method_14_code_11) rfl (flt hc11).2.1 (by decide) (by decide) k) ?_
        refine Go.of (T' := Tj) (f' := (mkF m 33 #[.val (.ref a1), .val (.int (Int32.ofNat i)), .val (.int (Int32.ofNat cs.length)), .val (.ref b1), .val (.int (Int32.ofNat i))] [(.ref b1)])) (fun _ k => XS.aloadN Xj.here hx rfl (hb hby d_jdk_52_method_14_code_32) rfl rfl k) ?_
        exact goRetR (Q := fun v h L => Mv h0 h [] L ∧ ∃ (b : Addr) (k : ClassId), v = some (.ref b) ∧ h0.size ≤ b ∧ Arv Z h b k .byte (Int32.ofNat (2 * cs.length)) (StrChars.Road.wideBytes cs) (.int (0 : Int32))) Xj hx hret rfl hlk rfl rfl (hb hby d_jdk_52_method_14_code_33) K (by decide) (by decide) ej (⟨Mj, b1, _, rfl, fr_b1, (wbEnd hwb (by first | exact Nat.le_of_not_lt fun q => hc11 ((ltN (by omega) (by omega)).mpr q) | omega)) ▸ V_b1⟩)
  exact J cs.length 0 _ T1 h1 _ (by omega) (by omega) (wb0 cs) (standUp X1 (by decide) (by decide)) e1 M1 V_a1 V_b1 Z_ad Z_hs Z_ls
theorem ef_rm_ci (m : MethodId) (x0 : Addr) (x1 : Int32) (x2 : Addr) (x3 : Int32) (x4 : Int32)  : entryFrame m #[(.ref x0), (.int x1), (.ref x2), (.int x3), (.int x4)] 7 = mkF m 0 #[.val (.ref x0), .val (.int x1), .val (.ref x2), .val (.int x3), .val (.int x4), .unset, .unset] [] := by first | (simp [entryFrame, mkF, argsToLocals, Value.category]; done) | rfl
theorem d_jdk_52_method_21_code_0 : decode jdk_52_method_21_code 0 = .ok (.iconst 0, 1) := by decide +kernel
theorem d_jdk_52_method_21_code_1 : decode jdk_52_method_21_code 1 = .ok (.istore 5, 2) := by decide +kernel
theorem d_jdk_52_method_21_code_3 : decode jdk_52_method_21_code 3 = .ok (.iload 5, 2) := by decide +kernel
theorem d_jdk_52_method_21_code_5 : decode jdk_52_method_21_code 5 = .ok (.iload 4, 2) := by decide +kernel
theorem d_jdk_52_method_21_code_7 : decode jdk_52_method_21_code 7 = .ok (.if_icmp .ge 37, 3) := by decide +kernel
theorem d_jdk_52_method_21_code_44 : decode jdk_52_method_21_code 44 = .ok (.iload 4, 2) := by decide +kernel
theorem d_jdk_52_method_21_code_46 : decode jdk_52_method_21_code 46 = .ok (.ireturn, 1) := by decide +kernel
theorem d_jdk_52_method_21_code_10 : decode jdk_52_method_21_code 10 = .ok (.aload_n 0, 1) := by decide +kernel
theorem d_jdk_52_method_21_code_11 : decode jdk_52_method_21_code 11 = .ok (.iload_n 1, 1) := by decide +kernel
theorem d_jdk_52_method_21_code_12 : decode jdk_52_method_21_code 12 = .ok (.caload, 1) := by decide +kernel
theorem d_jdk_52_method_21_code_13 : decode jdk_52_method_21_code 13 = .ok (.istore 6, 2) := by decide +kernel
theorem d_jdk_52_method_21_code_15 : decode jdk_52_method_21_code 15 = .ok (.iload 6, 2) := by decide +kernel
theorem d_jdk_52_method_21_code_17 : decode jdk_52_method_21_code 17 = .ok (.sipush 255, 3) := by decide +kernel
theorem d_jdk_52_method_21_code_20 : decode jdk_52_method_21_code 20 = .ok (.if_icmp .le 6, 3) := by decide +kernel
theorem d_jdk_52_method_21_code_23 : decode jdk_52_method_21_code 23 = .ok (.iload 5, 2) := by decide +kernel
theorem d_jdk_52_method_21_code_25 : decode jdk_52_method_21_code 25 = .ok (.ireturn, 1) := by decide +kernel
theorem d_jdk_52_method_21_code_26 : decode jdk_52_method_21_code 26 = .ok (.aload_n 2, 1) := by decide +kernel
theorem d_jdk_52_method_21_code_27 : decode jdk_52_method_21_code 27 = .ok (.iload_n 3, 1) := by decide +kernel
theorem d_jdk_52_method_21_code_28 : decode jdk_52_method_21_code 28 = .ok (.iload 6, 2) := by decide +kernel
theorem d_jdk_52_method_21_code_30 : decode jdk_52_method_21_code 30 = .ok (.i2b, 1) := by decide +kernel
theorem d_jdk_52_method_21_code_31 : decode jdk_52_method_21_code 31 = .ok (.bastore, 1) := by decide +kernel
theorem d_jdk_52_method_21_code_32 : decode jdk_52_method_21_code 32 = .ok (.iinc 1 1, 3) := by decide +kernel
theorem d_jdk_52_method_21_code_35 : decode jdk_52_method_21_code 35 = .ok (.iinc 3 1, 3) := by decide +kernel
theorem d_jdk_52_method_21_code_38 : decode jdk_52_method_21_code 38 = .ok (.iinc 5 1, 3) := by decide +kernel
theorem d_jdk_52_method_21_code_41 : decode jdk_52_method_21_code 41 = .ok (.goto (-38), 3) := by decide +kernel
set_option maxRecDepth 65536 in
set_option maxHeartbeats 40000000 in
theorem rm_ci (l : Launch) (Z : State) (a0 : Array Value) (hw : ∀ d ∈ tables_1, d.before a0 Z = true) (a1 a2 : Addr) (ka kb : ClassId) (cs : List Int32) (vs : List Value) (h0 : Heap) (V_a1 : Arv Z h0 a1 ka .char (Int32.ofNat cs.length) (cs.map Value.int) (.int (0 : Int32))) (h8 : cs.length ≤ 8) (V_a2 : Arv Z h0 a2 kb .byte (Int32.ofNat cs.length) vs (.int (0 : Int32))) (hv : vs.length = cs.length) (hne : a1 ≠ a2) (hwd : ∃ c ∈ cs, (255 : Int32) < c) :
    MeetsW l Z (⟨"java/lang/StringUTF16", "compress", "([CI[BII)I"⟩ : MethodName) jdk_52_method_21_code 7 (some .int) ({ frames := 0, cells := 0, slots := 0, locals := 0 } : Room) #[(.ref a1), (.int (0 : Int32)), (.ref a2), (.int (0 : Int32)), (.int (Int32.ofNat cs.length))] h0 (fun v h L => Mv h0 h [a2] L ∧ ∃ k : Nat, k < cs.length ∧ (255 : Int32) < cs.getD k 0 ∧ v = some (.int (Int32.ofNat k))) := by
  refine MeetsW.of (plainFor_of_name pn_java_lang_StringUTF16) ?_
  intro p e s m below meth c s₁ P hx hby hml hZ hown hnm hret hlk X0 e0 K
  have M0 : Mv h0 h0 [a2] [] := Mv.refl _ _
  refine Go.cast (ef_rm_ci m a1 (0 : Int32) a2 (0 : Int32) (Int32.ofNat cs.length) ) ?_
  refine Go.of (T' := s₁) (f' := (mkF m 1 #[.val (.ref a1), .val (.int (0 : Int32)), .val (.ref a2), .val (.int (0 : Int32)), .val (.int (Int32.ofNat cs.length)), .unset, .unset] [(.int (0 : Int32))])) (fun _ k => XS.iconst X0.here hx rfl (hb hby d_jdk_52_method_21_code_0) k) ?_
  refine Go.of (T' := s₁) (f' := (mkF m 3 #[.val (.ref a1), .val (.int (0 : Int32)), .val (.ref a2), .val (.int (0 : Int32)), .val (.int (Int32.ofNat cs.length)), .val (.int (0 : Int32)), .unset] [])) (fun _ k => XS.istore X0.here hx rfl (hb hby d_jdk_52_method_21_code_1) rfl (l' := #[.val (.ref a1), .val (.int (0 : Int32)), .val (.ref a2), .val (.int (0 : Int32)), .val (.int (Int32.ofNat cs.length)), .val (.int (0 : Int32)), .unset]) rfl k) ?_
  show Go p e below P s₁ (mkF m 3 #[.val (.ref a1), .val (.int (Int32.ofNat 0)), .val (.ref a2), .val (.int (Int32.ofNat 0)), .val (.int (Int32.ofNat cs.length)), .val (.int (Int32.ofNat 0)), .unset] [])
  have J : ∀ (n : Nat) (i : Nat) (vs : List Value) (cj : Int32) (Tj : State) (hj : Heap) (Lj : List Loc), cs.length ≤ i + n → i ≤ cs.length → (vs.length = cs.length) → (∀ j, j < i → ¬ (255 : Int32) < cs.getD j 0) → Stand p l e ({ frames := 0, cells := 0, slots := 0, locals := 0 } : Room) s m #[(.ref a1), (.int (0 : Int32)), (.ref a2), (.int (0 : Int32)), (.int (Int32.ofNat cs.length))] below meth c Tj Lj 0 0 → Tj.heap = hj → Mv h0 hj [a2] Lj → Arv Z hj a1 ka (.char) (Int32.ofNat cs.length) (cs.map Value.int) (.int (0 : Int32)) → Arv Z hj a2 kb (.byte) (Int32.ofNat cs.length) vs (.int (0 : Int32)) → Go p e below P Tj (mkF m 3 #[.val (.ref a1), .val (.int (Int32.ofNat i)), .val (.ref a2), .val (.int (Int32.ofNat i)), .val (.int (Int32.ofNat cs.length)), .val (.int (Int32.ofNat i)), .val (.int cj)] []) := by
    intro n
    induction n with
    | zero =>
      intro i vs cj Tj hj Lj hle hi1 hv hall Xj ej Mj V_a1 V_a2
      refine Go.of (T' := Tj) (f' := (mkF m 5 #[.val (.ref a1), .val (.int (Int32.ofNat i)), .val (.ref a2), .val (.int (Int32.ofNat i)), .val (.int (Int32.ofNat cs.length)), .val (.int (Int32.ofNat i)), .val (.int cj)] [(.int (Int32.ofNat i))])) (fun _ k => XS.iload Xj.here hx rfl (hb hby d_jdk_52_method_21_code_3) rfl k) ?_
      refine Go.of (T' := Tj) (f' := (mkF m 7 #[.val (.ref a1), .val (.int (Int32.ofNat i)), .val (.ref a2), .val (.int (Int32.ofNat i)), .val (.int (Int32.ofNat cs.length)), .val (.int (Int32.ofNat i)), .val (.int cj)] [(.int (Int32.ofNat cs.length)), (.int (Int32.ofNat i))])) (fun _ k => XS.iload Xj.here hx rfl (hb hby d_jdk_52_method_21_code_5) rfl k) ?_
      have hc7 : ¬ ((Int32.ofNat i) < (Int32.ofNat cs.length)) := fun q => by have q := (ltN (by omega) (by omega)).mp q; omega
      refine Go.of (T' := Tj) (f' := (mkF m 44 #[.val (.ref a1), .val (.int (Int32.ofNat i)), .val (.ref a2), .val (.int (Int32.ofNat i)), .val (.int (Int32.ofNat cs.length)), .val (.int (Int32.ofNat i)), .val (.int cj)] [])) (fun _ k => XS.icmpYes Xj.here hx rfl (pc0 := 7) (pc' := 44) rfl (hb hby d_jdk_52_method_21_code_7) rfl (flt hc7).2.1 (by decide) (by decide) k) ?_
      refine Go.of (T' := Tj) (f' := (mkF m 46 #[.val (.ref a1), .val (.int (Int32.ofNat i)), .val (.ref a2), .val (.int (Int32.ofNat i)), .val (.int (Int32.ofNat cs.length)), .val (.int (Int32.ofNat i)), .val (.int cj)] [(.int (Int32.ofNat cs.length))])) (fun _ k => XS.iload Xj.here hx rfl (hb hby d_jdk_52_method_21_code_44) rfl k) ?_
      exact goRetI (Q := fun v h L => Mv h0 h [a2] L ∧ ∃ k : Nat, k < cs.length ∧ (255 : Int32) < cs.getD k 0 ∧ v = some (.int (Int32.ofNat k))) Xj hx (t := .int) hret hlk rfl (by simp) (hb hby d_jdk_52_method_21_code_46) K (by decide) (by decide) ej ((wideNo hwd hall (by first | exact Nat.le_of_not_lt fun q => hc7 ((ltN (by omega) (by omega)).mpr q) | omega)).elim)
    | succ n ih =>
      intro i vs cj Tj hj Lj hle hi1 hv hall Xj ej Mj V_a1 V_a2
      refine Go.of (T' := Tj) (f' := (mkF m 5 #[.val (.ref a1), .val (.int (Int32.ofNat i)), .val (.ref a2), .val (.int (Int32.ofNat i)), .val (.int (Int32.ofNat cs.length)), .val (.int (Int32.ofNat i)), .val (.int cj)] [(.int (Int32.ofNat i))])) (fun _ k => XS.iload Xj.here hx rfl (hb hby d_jdk_52_method_21_code_3) rfl k) ?_
      refine Go.of (T' := Tj) (f' := (mkF m 7 #[.val (.ref a1), .val (.int (Int32.ofNat i)), .val (.ref a2), .val (.int (Int32.ofNat i)), .val (.int (Int32.ofNat cs.length)), .val (.int (Int32.ofNat i)), .val (.int cj)] [(.int (Int32.ofNat cs.length)), (.int (Int32.ofNat i))])) (fun _ k => XS.iload Xj.here hx rfl (hb hby d_jdk_52_method_21_code_5) rfl k) ?_
      by_cases hc7 : (Int32.ofNat i) < (Int32.ofNat cs.length)
      ·
        refine Go.of (T' := Tj) (f' := (mkF m 10 #[.val (.ref a1), .val (.int (Int32.ofNat i)), .val (.ref a2), .val (.int (Int32.ofNat i)), .val (.int (Int32.ofNat cs.length)), .val (.int (Int32.ofNat i)), .val (.int cj)] [])) (fun _ k => XS.icmpNo Xj.here hx rfl (hb hby d_jdk_52_method_21_code_7) rfl (tlt hc7).2.1 k) ?_
        have hi : i < cs.length := (ltN (by omega) (by omega)).mp hc7
        refine Go.of (T' := Tj) (f' := (mkF m 11 #[.val (.ref a1), .val (.int (Int32.ofNat i)), .val (.ref a2), .val (.int (Int32.ofNat i)), .val (.int (Int32.ofNat cs.length)), .val (.int (Int32.ofNat i)), .val (.int cj)] [(.ref a1)])) (fun _ k => XS.aloadN Xj.here hx rfl (hb hby d_jdk_52_method_21_code_10) rfl rfl k) ?_
        refine Go.of (T' := Tj) (f' := (mkF m 12 #[.val (.ref a1), .val (.int (Int32.ofNat i)), .val (.ref a2), .val (.int (Int32.ofNat i)), .val (.int (Int32.ofNat cs.length)), .val (.int (Int32.ofNat i)), .val (.int cj)] [(.int (Int32.ofNat i)), (.ref a1)])) (fun _ k => XS.iloadN Xj.here hx rfl (hb hby d_jdk_52_method_21_code_11) rfl k) ?_
        obtain ⟨cl1, Ar1, cq1, Sz1, Nn1, Hs1, Gs1⟩ := id V_a1
        have hin1 : ¬ ((Int32.ofNat i) < 0 ∨ cl1.slots.size ≤ ((Int32.ofNat i)).toNatClampNeg) := inbN Sz1 hi (by omega)
        have hat1 : cl1.slots[((Int32.ofNat i)).toNatClampNeg]? = some (.int (cs.getD i 0)) := Has.at Hs1 hin1 (by rw [nat32 (by omega)]; exact mapGet hi)
        refine Go.of (T' := Tj) (f' := (mkF m 13 #[.val (.ref a1), .val (.int (Int32.ofNat i)), .val (.ref a2), .val (.int (Int32.ofNat i)), .val (.int (Int32.ofNat cs.length)), .val (.int (Int32.ofNat i)), .val (.int cj)] [(.int (cs.getD i 0))])) (fun _ k => Xj.caload hx (j := (Int32.ofNat i)) (v := (.int (cs.getD i 0))) (by rw [ej]; exact Ar1.1) (State.isArrayOf_alike hZ.alike Ar1.2.1) Ar1.2.2 hin1 hat1 (g := (mkF m 12 #[.val (.ref a1), .val (.int (Int32.ofNat i)), .val (.ref a2), .val (.int (Int32.ofNat i)), .val (.int (Int32.ofNat cs.length)), .val (.int (Int32.ofNat i)), .val (.int cj)] [(.int (Int32.ofNat i)), (.ref a1)])) rfl rfl (hb hby d_jdk_52_method_21_code_12) _ k) ?_
        refine Go.of (T' := Tj) (f' := (mkF m 15 #[.val (.ref a1), .val (.int (Int32.ofNat i)), .val (.ref a2), .val (.int (Int32.ofNat i)), .val (.int (Int32.ofNat cs.length)), .val (.int (Int32.ofNat i)), .val (.int (cs.getD i 0))] [])) (fun _ k => XS.istore Xj.here hx rfl (hb hby d_jdk_52_method_21_code_13) rfl (l' := #[.val (.ref a1), .val (.int (Int32.ofNat i)), .val (.ref a2), .val (.int (Int32.ofNat i)), .val (.int (Int32.ofNat cs.length)), .val (.int (Int32.ofNat i)), .val (.int (cs.getD i 0))]) rfl k) ?_
        refine Go.of (T' := Tj) (f' := (mkF m 17 #[.val (.ref a1), .val (.int (Int32.ofNat i)), .val (.ref a2), .val (.int (Int32.ofNat i)), .val (.int (Int32.ofNat cs.length)), .val (.int (Int32.ofNat i)), .val (.int (cs.getD i 0))] [(.int (cs.getD i 0))])) (fun _ k => XS.iload Xj.here hx rfl (hb hby d_jdk_52_method_21_code_15) rfl k) ?_
        refine Go.of (T' := Tj) (f' := (mkF m 20 #[.val (.ref a1), .val (.int (Int32.ofNat i)), .val (.ref a2), .val (.int (Int32.ofNat i)), .val (.int (Int32.ofNat cs.length)), .val (.int (Int32.ofNat i)), .val (.int (cs.getD i 0))] [(.int (255 : Int32)), (.int (cs.getD i 0))])) (fun _ k => XS.sipush Xj.here hx rfl (hb hby d_jdk_52_method_21_code_17) k) ?_
        by_cases hc20 : (255 : Int32) < (cs.getD i 0)
        ·
          refine Go.of (T' := Tj) (f' := (mkF m 23 #[.val (.ref a1), .val (.int (Int32.ofNat i)), .val (.ref a2), .val (.int (Int32.ofNat i)), .val (.int (Int32.ofNat cs.length)), .val (.int (Int32.ofNat i)), .val (.int (cs.getD i 0))] [])) (fun _ k => XS.icmpNo Xj.here hx rfl (hb hby d_jdk_52_method_21_code_20) rfl (tlt hc20).2.2.2 k) ?_
          refine Go.of (T' := Tj) (f' := (mkF m 25 #[.val (.ref a1), .val (.int (Int32.ofNat i)), .val (.ref a2), .val (.int (Int32.ofNat i)), .val (.int (Int32.ofNat cs.length)), .val (.int (Int32.ofNat i)), .val (.int (cs.getD i 0))] [(.int (Int32.ofNat i))])) (fun _ k => XS.iload Xj.here hx rfl (hb hby d_jdk_52_method_21_code_23) rfl k) ?_
          exact goRetI (Q := fun v h L => Mv h0 h [a2] L ∧ ∃ k : Nat, k < cs.length ∧ (255 : Int32) < cs.getD k 0 ∧ v = some (.int (Int32.ofNat k))) Xj hx (t := .int) hret hlk rfl (by simp) (hb hby d_jdk_52_method_21_code_25) K (by decide) (by decide) ej (⟨Mj, i, hi, hc20, rfl⟩)
        ·
          refine Go.of (T' := Tj) (f' := (mkF m 26 #[.val (.ref a1), .val (.int (Int32.ofNat i)), .val (.ref a2), .val (.int (Int32.ofNat i)), .val (.int (Int32.ofNat cs.length)), .val (.int (Int32.ofNat i)), .val (.int (cs.getD i 0))] [])) (fun _ k => XS.icmpYes Xj.here hx rfl (pc0 := 20) (pc' := 26) rfl (hb hby d_jdk_52_method_21_code_20) rfl (flt hc20).2.2.2 (by decide) (by decide) k) ?_
          refine Go.of (T' := Tj) (f' := (mkF m 27 #[.val (.ref a1), .val (.int (Int32.ofNat i)), .val (.ref a2), .val (.int (Int32.ofNat i)), .val (.int (Int32.ofNat cs.length)), .val (.int (Int32.ofNat i)), .val (.int (cs.getD i 0))] [(.ref a2)])) (fun _ k => XS.aloadN Xj.here hx rfl (hb hby d_jdk_52_method_21_code_26) rfl rfl k) ?_
          refine Go.of (T' := Tj) (f' := (mkF m 28 #[.val (.ref a1), .val (.int (Int32.ofNat i)), .val (.ref a2), .val (.int (Int32.ofNat i)), .val (.int (Int32.ofNat cs.length)), .val (.int (Int32.ofNat i)), .val (.int (cs.getD i 0))] [(.int (Int32.ofNat i)), (.ref a2)])) (fun _ k => XS.iloadN Xj.here hx rfl (hb hby d_jdk_52_method_21_code_27) rfl k) ?_
          refine Go.of (T' := Tj) (f' := (mkF m 30 #[.val (.ref a1), .val (.int (Int32.ofNat i)), .val (.ref a2), .val (.int (Int32.ofNat i)), .val (.int (Int32.ofNat cs.length)), .val (.int (Int32.ofNat i)), .val (.int (cs.getD i 0))] [(.int (cs.getD i 0)), (.int (Int32.ofNat i)), (.ref a2)])) (fun _ k => XS.iload Xj.here hx rfl (hb hby d_jdk_52_method_21_code_28) rfl k) ?_
          refine Go.of (T' := Tj) (f' := (mkF m 31 #[.val (.ref a1), .val (.int (Int32.ofNat i)), .val (.ref a2), .val (.int (Int32.ofNat i)), .val (.int (Int32.ofNat cs.length)), .val (.int (Int32.ofNat i)), .val (.int (cs.getD i 0))] [(.int ((cs.getD i 0).toInt8.toInt32)), (.int (Int32.ofNat i)), (.ref a2)])) (fun _ k => XS.i2b Xj.here hx rfl (hb hby d_jdk_52_method_21_code_30) rfl k) ?_
          obtain ⟨cl2, Ar2, cq2, Sz2, Nn2, Hs2, Gs2⟩ := id V_a2
          have hin2 : ¬ ((Int32.ofNat i) < 0 ∨ cl2.slots.size ≤ ((Int32.ofNat i)).toNatClampNeg) := by rw [inbS Sz2 (m := cs.length) (nat32 (by omega))]; exact ⟨nneg (by omega), by rw [nat32 (by omega)]; omega⟩
          obtain ⟨T2, h2, X2, e2, W2, st2⟩ := stB Xj hx hZ ej Ar2 (j := (Int32.ofNat i)) hin2 (g := (mkF m 31 #[.val (.ref a1), .val (.int (Int32.ofNat i)), .val (.ref a2), .val (.int (Int32.ofNat i)), .val (.int (Int32.ofNat cs.length)), .val (.int (Int32.ofNat i)), .val (.int (cs.getD i 0))] [(.int ((cs.getD i 0).toInt8.toInt32)), (.int (Int32.ofNat i)), (.ref a2)])) rfl rfl (hb hby d_jdk_52_method_21_code_31)
          have V2 := Arv.set Ar2 cq2 Sz2 Nn2 Hs2 Gs2 (fits_nar_byte _) W2 (i) (nat32 (by omega)) (by omega)
          have K2 := Keep.of_wr W2
          have M2 := Mj.wr W2 (Or.inl (List.mem_of_getElem? (i := 0) rfl))
          replace V_a1 := V_a1.keep K2 (ninS hne nin0)
          replace V_a2 := V2
          refine Go.of (T' := T2) (f' := (mkF m 32 #[.val (.ref a1), .val (.int (Int32.ofNat i)), .val (.ref a2), .val (.int (Int32.ofNat i)), .val (.int (Int32.ofNat cs.length)), .val (.int (Int32.ofNat i)), .val (.int (cs.getD i 0))] [])) st2 ?_
          refine Go.of (T' := T2) (f' := (mkF m 35 #[.val (.ref a1), .val (.int ((Int32.ofNat i) + (1 : Int32))), .val (.ref a2), .val (.int (Int32.ofNat i)), .val (.int (Int32.ofNat cs.length)), .val (.int (Int32.ofNat i)), .val (.int (cs.getD i 0))] [])) (fun _ k => XS.iinc X2.here hx rfl (hb hby d_jdk_52_method_21_code_32) rfl (l' := #[.val (.ref a1), .val (.int ((Int32.ofNat i) + (1 : Int32))), .val (.ref a2), .val (.int (Int32.ofNat i)), .val (.int (Int32.ofNat cs.length)), .val (.int (Int32.ofNat i)), .val (.int (cs.getD i 0))]) rfl k) ?_
          refine Go.of (T' := T2) (f' := (mkF m 38 #[.val (.ref a1), .val (.int ((Int32.ofNat i) + (1 : Int32))), .val (.ref a2), .val (.int ((Int32.ofNat i) + (1 : Int32))), .val (.int (Int32.ofNat cs.length)), .val (.int (Int32.ofNat i)), .val (.int (cs.getD i 0))] [])) (fun _ k => XS.iinc X2.here hx rfl (hb hby d_jdk_52_method_21_code_35) rfl (l' := #[.val (.ref a1), .val (.int ((Int32.ofNat i) + (1 : Int32))), .val (.ref a2), .val (.int ((Int32.ofNat i) + (1 : Int32))), .val (.int (Int32.ofNat cs.length)), .val (.int (Int32.ofNat i)), .val (.int (cs.getD i 0))]) rfl k) ?_
          refine Go.of (T' := T2) (f' := (mkF m 41 #[.val (.ref a1), .val (.int ((Int32.ofNat i) + (1 : Int32))), .val (.ref a2), .val (.int ((Int32.ofNat i) + (1 : Int32))), .val (.int (Int32.ofNat cs.length)), .val (.int ((Int32.ofNat i) + (1 : Int32))), .val (.int (cs.getD i 0))] [])) (fun _ k => XS.iinc X2.here hx rfl (hb hby d_jdk_52_method_21_code_38) rfl (l' := #[.val (.ref a1), .val (.int ((Int32.ofNat i) + (1 : Int32))), .val (.ref a2), .val (.int ((Int32.ofNat i) + (1 : Int32))), .val (.int (Int32.ofNat cs.length)), .val (.int ((Int32.ofNat i) + (1 : Int32))), .val (.int (cs.getD i 0))]) rfl k) ?_
          refine Go.of (T' := T2) (f' := (mkF m 3 #[.val (.ref a1), .val (.int ((Int32.ofNat i) + (1 : Int32))), .val (.ref a2), .val (.int ((Int32.ofNat i) + (1 : Int32))), .val (.int (Int32.ofNat cs.length)), .val (.int ((Int32.ofNat i) + (1 : Int32))), .val (.int (cs.getD i 0))] [])) (fun _ k => XS.goto X2.here hx rfl (pc0 := 41) (pc' := 3) rfl (hb hby d_jdk_52_method_21_code_41) (by decide) (by decide) k) ?_
          rw [show (Int32.ofNat i) + (1 : Int32) = Int32.ofNat (i + 1) from (Int32.ofNat_add _ _).symm]
          exact ih (i + 1) _ _ T2 h2 _ (by omega) hi (by rw [List.length_set]; exact hv) (allStep hall hc20) (standUp X2 (by decide) (by decide)) e2 M2 V_a1 V_a2
      ·
        refine Go.of (T' := Tj) (f' := (mkF m 44 #[.val (.ref a1), .val (.int (Int32.ofNat i)), .val (.ref a2), .val (.int (Int32.ofNat i)), .val (.int (Int32.ofNat cs.length)), .val (.int (Int32.ofNat i)), .val (.int cj)] [])) (fun _ k => XS.icmpYes Xj.here hx rfl (pc0 := 7) (pc' := 44) rfl (hb hby d_jdk_52_method_21_code_7) rfl (flt hc7).2.1 (by decide) (by decide) k) ?_
        refine Go.of (T' := Tj) (f' := (mkF m 46 #[.val (.ref a1), .val (.int (Int32.ofNat i)), .val (.ref a2), .val (.int (Int32.ofNat i)), .val (.int (Int32.ofNat cs.length)), .val (.int (Int32.ofNat i)), .val (.int cj)] [(.int (Int32.ofNat cs.length))])) (fun _ k => XS.iload Xj.here hx rfl (hb hby d_jdk_52_method_21_code_44) rfl k) ?_
        exact goRetI (Q := fun v h L => Mv h0 h [a2] L ∧ ∃ k : Nat, k < cs.length ∧ (255 : Int32) < cs.getD k 0 ∧ v = some (.int (Int32.ofNat k))) Xj hx (t := .int) hret hlk rfl (by simp) (hb hby d_jdk_52_method_21_code_46) K (by decide) (by decide) ej ((wideNo hwd hall (by first | exact Nat.le_of_not_lt fun q => hc7 ((ltN (by omega) (by omega)).mpr q) | omega)).elim)
  have hall : ∀ j, j < 0 → ¬ (255 : Int32) < cs.getD j 0 := fun j hj => absurd hj (Nat.not_lt_zero _)
  refine Go.of (T' := s₁) (f' := (mkF m 5 #[.val (.ref a1), .val (.int (Int32.ofNat 0)), .val (.ref a2), .val (.int (Int32.ofNat 0)), .val (.int (Int32.ofNat cs.length)), .val (.int (Int32.ofNat 0)), .unset] [(.int (Int32.ofNat 0))])) (fun _ k => XS.iload X0.here hx rfl (hb hby d_jdk_52_method_21_code_3) rfl k) ?_
  refine Go.of (T' := s₁) (f' := (mkF m 7 #[.val (.ref a1), .val (.int (Int32.ofNat 0)), .val (.ref a2), .val (.int (Int32.ofNat 0)), .val (.int (Int32.ofNat cs.length)), .val (.int (Int32.ofNat 0)), .unset] [(.int (Int32.ofNat cs.length)), (.int (Int32.ofNat 0))])) (fun _ k => XS.iload X0.here hx rfl (hb hby d_jdk_52_method_21_code_5) rfl k) ?_
  by_cases hc7 : (Int32.ofNat 0) < (Int32.ofNat cs.length)
  ·
    refine Go.of (T' := s₁) (f' := (mkF m 10 #[.val (.ref a1), .val (.int (Int32.ofNat 0)), .val (.ref a2), .val (.int (Int32.ofNat 0)), .val (.int (Int32.ofNat cs.length)), .val (.int (Int32.ofNat 0)), .unset] [])) (fun _ k => XS.icmpNo X0.here hx rfl (hb hby d_jdk_52_method_21_code_7) rfl (tlt hc7).2.1 k) ?_
    have hi : 0 < cs.length := (ltN (by omega) (by omega)).mp hc7
    refine Go.of (T' := s₁) (f' := (mkF m 11 #[.val (.ref a1), .val (.int (Int32.ofNat 0)), .val (.ref a2), .val (.int (Int32.ofNat 0)), .val (.int (Int32.ofNat cs.length)), .val (.int (Int32.ofNat 0)), .unset] [(.ref a1)])) (fun _ k => XS.aloadN X0.here hx rfl (hb hby d_jdk_52_method_21_code_10) rfl rfl k) ?_
    refine Go.of (T' := s₁) (f' := (mkF m 12 #[.val (.ref a1), .val (.int (Int32.ofNat 0)), .val (.ref a2), .val (.int (Int32.ofNat 0)), .val (.int (Int32.ofNat cs.length)), .val (.int (Int32.ofNat 0)), .unset] [(.int (Int32.ofNat 0)), (.ref a1)])) (fun _ k => XS.iloadN X0.here hx rfl (hb hby d_jdk_52_method_21_code_11) rfl k) ?_
    obtain ⟨cl3, Ar3, cq3, Sz3, Nn3, Hs3, Gs3⟩ := id V_a1
    have hin3 : ¬ ((Int32.ofNat 0) < 0 ∨ cl3.slots.size ≤ ((Int32.ofNat 0)).toNatClampNeg) := inbN Sz3 hi (by omega)
    have hat3 : cl3.slots[((Int32.ofNat 0)).toNatClampNeg]? = some (.int (cs.getD 0 0)) := Has.at Hs3 hin3 (by rw [nat32 (by omega)]; exact mapGet hi)
    refine Go.of (T' := s₁) (f' := (mkF m 13 #[.val (.ref a1), .val (.int (Int32.ofNat 0)), .val (.ref a2), .val (.int (Int32.ofNat 0)), .val (.int (Int32.ofNat cs.length)), .val (.int (Int32.ofNat 0)), .unset] [(.int (cs.getD 0 0))])) (fun _ k => X0.caload hx (j := (Int32.ofNat 0)) (v := (.int (cs.getD 0 0))) (by rw [e0]; exact Ar3.1) (State.isArrayOf_alike hZ.alike Ar3.2.1) Ar3.2.2 hin3 hat3 (g := (mkF m 12 #[.val (.ref a1), .val (.int (Int32.ofNat 0)), .val (.ref a2), .val (.int (Int32.ofNat 0)), .val (.int (Int32.ofNat cs.length)), .val (.int (Int32.ofNat 0)), .unset] [(.int (Int32.ofNat 0)), (.ref a1)])) rfl rfl (hb hby d_jdk_52_method_21_code_12) _ k) ?_
    refine Go.of (T' := s₁) (f' := (mkF m 15 #[.val (.ref a1), .val (.int (Int32.ofNat 0)), .val (.ref a2), .val (.int (Int32.ofNat 0)), .val (.int (Int32.ofNat cs.length)), .val (.int (Int32.ofNat 0)), .val (.int (cs.getD 0 0))] [])) (fun _ k => XS.istore X0.here hx rfl (hb hby d_jdk_52_method_21_code_13) rfl (l' := #[.val (.ref a1), .val (.int (Int32.ofNat 0)), .val (.ref a2), .val (.int (Int32.ofNat 0)), .val (.int (Int32.ofNat cs.length)), .val (.int (Int32.ofNat 0)), .val (.int (cs.getD 0 0))]) rfl k) ?_
    refine Go.of (T' := s₁) (f' := (mkF m 17 #[.val (.ref a1), .val (.int (Int32.ofNat 0)), .val (.ref a2), .val (.int (Int32.ofNat 0)), .val (.int (Int32.ofNat cs.length)), .val (.int (Int32.ofNat 0)), .val (.int (cs.getD 0 0))] [(.int (cs.getD 0 0))])) (fun _ k => XS.iload X0.here hx rfl (hb hby d_jdk_52_method_21_code_15) rfl k) ?_
    refine Go.of (T' := s₁) (f' := (mkF m 20 #[.val (.ref a1), .val (.int (Int32.ofNat 0)), .val (.ref a2), .val (.int (Int32.ofNat 0)), .val (.int (Int32.ofNat cs.length)), .val (.int (Int32.ofNat 0)), .val (.int (cs.getD 0 0))] [(.int (255 : Int32)), (.int (cs.getD 0 0))])) (fun _ k => XS.sipush X0.here hx rfl (hb hby d_jdk_52_method_21_code_17) k) ?_
    by_cases hc20 : (255 : Int32) < (cs.getD 0 0)
    ·
      refine Go.of (T' := s₁) (f' := (mkF m 23 #[.val (.ref a1), .val (.int (Int32.ofNat 0)), .val (.ref a2), .val (.int (Int32.ofNat 0)), .val (.int (Int32.ofNat cs.length)), .val (.int (Int32.ofNat 0)), .val (.int (cs.getD 0 0))] [])) (fun _ k => XS.icmpNo X0.here hx rfl (hb hby d_jdk_52_method_21_code_20) rfl (tlt hc20).2.2.2 k) ?_
      refine Go.of (T' := s₁) (f' := (mkF m 25 #[.val (.ref a1), .val (.int (Int32.ofNat 0)), .val (.ref a2), .val (.int (Int32.ofNat 0)), .val (.int (Int32.ofNat cs.length)), .val (.int (Int32.ofNat 0)), .val (.int (cs.getD 0 0))] [(.int (Int32.ofNat 0))])) (fun _ k => XS.iload X0.here hx rfl (hb hby d_jdk_52_method_21_code_23) rfl k) ?_
      exact goRetI (Q := fun v h L => Mv h0 h [a2] L ∧ ∃ k : Nat, k < cs.length ∧ (255 : Int32) < cs.getD k 0 ∧ v = some (.int (Int32.ofNat k))) X0 hx (t := .int) hret hlk rfl (by simp) (hb hby d_jdk_52_method_21_code_25) K (by decide) (by decide) e0 (⟨M0, 0, hi, hc20, rfl⟩)
    ·
      refine Go.of (T' := s₁) (f' := (mkF m 26 #[.val (.ref a1), .val (.int (Int32.ofNat 0)), .val (.ref a2), .val (.int (Int32.ofNat 0)), .val (.int (Int32.ofNat cs.length)), .val (.int (Int32.ofNat 0)), .val (.int (cs.getD 0 0))] [])) (fun _ k => XS.icmpYes X0.here hx rfl (pc0 := 20) (pc' := 26) rfl (hb hby d_jdk_52_method_21_code_20) rfl (flt hc20).2.2.2 (by decide) (by decide) k) ?_
      refine Go.of (T' := s₁) (f' := (mkF m 27 #[.val (.ref a1), .val (.int (Int32.ofNat 0)), .val (.ref a2), .val (.int (Int32.ofNat 0)), .val (.int (Int32.ofNat cs.length)), .val (.int (Int32.ofNat 0)), .val (.int (cs.getD 0 0))] [(.ref a2)])) (fun _ k => XS.aloadN X0.here hx rfl (hb hby d_jdk_52_method_21_code_26) rfl rfl k) ?_
      refine Go.of (T' := s₁) (f' := (mkF m 28 #[.val (.ref a1), .val (.int (Int32.ofNat 0)), .val (.ref a2), .val (.int (Int32.ofNat 0)), .val (.int (Int32.ofNat cs.length)), .val (.int (Int32.ofNat 0)), .val (.int (cs.getD 0 0))] [(.int (Int32.ofNat 0)), (.ref a2)])) (fun _ k => XS.iloadN X0.here hx rfl (hb hby d_jdk_52_method_21_code_27) rfl k) ?_
      refine Go.of (T' := s₁) (f' := (mkF m 30 #[.val (.ref a1), .val (.int (Int32.ofNat 0)), .val (.ref a2), .val (.int (Int32.ofNat 0)), .val (.int (Int32.ofNat cs.length)), .val (.int (Int32.ofNat 0)), .val (.int (cs.getD 0 0))] [(.int (cs.getD 0 0)), (.int (Int32.ofNat 0)), (.ref a2)])) (fun _ k => XS.iload X0.here hx rfl (hb hby d_jdk_52_method_21_code_28) rfl k) ?_
      refine Go.of (T' := s₁) (f' := (mkF m 31 #[.val (.ref a1), .val (.int (Int32.ofNat 0)), .val (.ref a2), .val (.int (Int32.ofNat 0)), .val (.int (Int32.ofNat cs.length)), .val (.int (Int32.ofNat 0)), .val (.int (cs.getD 0 0))] [(.int ((cs.getD 0 0).toInt8.toInt32)), (.int (Int32.ofNat 0)), (.ref a2)])) (fun _ k => XS.i2b X0.here hx rfl (hb hby d_jdk_52_method_21_code_30) rfl k) ?_
      obtain ⟨cl4, Ar4, cq4, Sz4, Nn4, Hs4, Gs4⟩ := id V_a2
      have hin4 : ¬ ((Int32.ofNat 0) < 0 ∨ cl4.slots.size ≤ ((Int32.ofNat 0)).toNatClampNeg) := by rw [inbS Sz4 (m := cs.length) (nat32 (by omega))]; exact ⟨nneg (by omega), by rw [nat32 (by omega)]; omega⟩
      obtain ⟨T4, h4, X4, e4, W4, st4⟩ := stB X0 hx hZ e0 Ar4 (j := (Int32.ofNat 0)) hin4 (g := (mkF m 31 #[.val (.ref a1), .val (.int (Int32.ofNat 0)), .val (.ref a2), .val (.int (Int32.ofNat 0)), .val (.int (Int32.ofNat cs.length)), .val (.int (Int32.ofNat 0)), .val (.int (cs.getD 0 0))] [(.int ((cs.getD 0 0).toInt8.toInt32)), (.int (Int32.ofNat 0)), (.ref a2)])) rfl rfl (hb hby d_jdk_52_method_21_code_31)
      have V4 := Arv.set Ar4 cq4 Sz4 Nn4 Hs4 Gs4 (fits_nar_byte _) W4 (0) (nat32 (by omega)) (by omega)
      have K4 := Keep.of_wr W4
      have M4 := M0.wr W4 (Or.inl (List.mem_of_getElem? (i := 0) rfl))
      replace V_a1 := V_a1.keep K4 (ninS hne nin0)
      replace V_a2 := V4
      refine Go.of (T' := T4) (f' := (mkF m 32 #[.val (.ref a1), .val (.int (Int32.ofNat 0)), .val (.ref a2), .val (.int (Int32.ofNat 0)), .val (.int (Int32.ofNat cs.length)), .val (.int (Int32.ofNat 0)), .val (.int (cs.getD 0 0))] [])) st4 ?_
      refine Go.of (T' := T4) (f' := (mkF m 35 #[.val (.ref a1), .val (.int ((Int32.ofNat 0) + (1 : Int32))), .val (.ref a2), .val (.int (Int32.ofNat 0)), .val (.int (Int32.ofNat cs.length)), .val (.int (Int32.ofNat 0)), .val (.int (cs.getD 0 0))] [])) (fun _ k => XS.iinc X4.here hx rfl (hb hby d_jdk_52_method_21_code_32) rfl (l' := #[.val (.ref a1), .val (.int ((Int32.ofNat 0) + (1 : Int32))), .val (.ref a2), .val (.int (Int32.ofNat 0)), .val (.int (Int32.ofNat cs.length)), .val (.int (Int32.ofNat 0)), .val (.int (cs.getD 0 0))]) rfl k) ?_
      refine Go.of (T' := T4) (f' := (mkF m 38 #[.val (.ref a1), .val (.int ((Int32.ofNat 0) + (1 : Int32))), .val (.ref a2), .val (.int ((Int32.ofNat 0) + (1 : Int32))), .val (.int (Int32.ofNat cs.length)), .val (.int (Int32.ofNat 0)), .val (.int (cs.getD 0 0))] [])) (fun _ k => XS.iinc X4.here hx rfl (hb hby d_jdk_52_method_21_code_35) rfl (l' := #[.val (.ref a1), .val (.int ((Int32.ofNat 0) + (1 : Int32))), .val (.ref a2), .val (.int ((Int32.ofNat 0) + (1 : Int32))), .val (.int (Int32.ofNat cs.length)), .val (.int (Int32.ofNat 0)), .val (.int (cs.getD 0 0))]) rfl k) ?_
      refine Go.of (T' := T4) (f' := (mkF m 41 #[.val (.ref a1), .val (.int ((Int32.ofNat 0) + (1 : Int32))), .val (.ref a2), .val (.int ((Int32.ofNat 0) + (1 : Int32))), .val (.int (Int32.ofNat cs.length)), .val (.int ((Int32.ofNat 0) + (1 : Int32))), .val (.int (cs.getD 0 0))] [])) (fun _ k => XS.iinc X4.here hx rfl (hb hby d_jdk_52_method_21_code_38) rfl (l' := #[.val (.ref a1), .val (.int ((Int32.ofNat 0) + (1 : Int32))), .val (.ref a2), .val (.int ((Int32.ofNat 0) + (1 : Int32))), .val (.int (Int32.ofNat cs.length)), .val (.int ((Int32.ofNat 0) + (1 : Int32))), .val (.int (cs.getD 0 0))]) rfl k) ?_
      refine Go.of (T' := T4) (f' := (mkF m 3 #[.val (.ref a1), .val (.int ((Int32.ofNat 0) + (1 : Int32))), .val (.ref a2), .val (.int ((Int32.ofNat 0) + (1 : Int32))), .val (.int (Int32.ofNat cs.length)), .val (.int ((Int32.ofNat 0) + (1 : Int32))), .val (.int (cs.getD 0 0))] [])) (fun _ k => XS.goto X4.here hx rfl (pc0 := 41) (pc' := 3) rfl (hb hby d_jdk_52_method_21_code_41) (by decide) (by decide) k) ?_
      rw [show (Int32.ofNat 0) + (1 : Int32) = Int32.ofNat (0 + 1) from (Int32.ofNat_add _ _).symm]
      exact J cs.length (0 + 1) _ _ T4 h4 _ (by omega) hi (by rw [List.length_set]; exact hv) (allStep hall hc20) (standUp X4 (by decide) (by decide)) e4 M4 V_a1 V_a2
  ·
    refine Go.of (T' := s₁) (f' := (mkF m 44 #[.val (.ref a1), .val (.int (Int32.ofNat 0)), .val (.ref a2), .val (.int (Int32.ofNat 0)), .val (.int (Int32.ofNat cs.length)), .val (.int (Int32.ofNat 0)), .unset] [])) (fun _ k => XS.icmpYes X0.here hx rfl (pc0 := 7) (pc' := 44) rfl (hb hby d_jdk_52_method_21_code_7) rfl (flt hc7).2.1 (by decide) (by decide) k) ?_
    refine Go.of (T' := s₁) (f' := (mkF m 46 #[.val (.ref a1), .val (.int (Int32.ofNat 0)), .val (.ref a2), .val (.int (Int32.ofNat 0)), .val (.int (Int32.ofNat cs.length)), .val (.int (Int32.ofNat 0)), .unset] [(.int (Int32.ofNat cs.length))])) (fun _ k => XS.iload X0.here hx rfl (hb hby d_jdk_52_method_21_code_44) rfl k) ?_
    exact goRetI (Q := fun v h L => Mv h0 h [a2] L ∧ ∃ k : Nat, k < cs.length ∧ (255 : Int32) < cs.getD k 0 ∧ v = some (.int (Int32.ofNat k))) X0 hx (t := .int) hret hlk rfl (by simp) (hb hby d_jdk_52_method_21_code_46) K (by decide) (by decide) e0 ((wideNo hwd hall (by first | exact Nat.le_of_not_lt fun q => hc7 ((ltN (by omega) (by omega)).mpr q) | omega)).elim)
theorem ef_rm_cp (m : MethodId) (x0 : Addr) (x1 : Int32) (x2 : Int32)  : entryFrame m #[(.ref x0), (.int x1), (.int x2)] 6 = mkF m 0 #[.val (.ref x0), .val (.int x1), .val (.int x2), .unset, .unset, .unset] [] := by first | (simp [entryFrame, mkF, argsToLocals, Value.category]; done) | rfl
theorem d_jdk_52_method_16_code_0 : decode jdk_52_method_16_code 0 = .ok (.iload_n 2, 1) := by decide +kernel
theorem d_jdk_52_method_16_code_1 : decode jdk_52_method_16_code 1 = .ok (.newarray .byte, 2) := by decide +kernel
theorem d_jdk_52_method_16_code_3 : decode jdk_52_method_16_code 3 = .ok (.astore_n 3, 1) := by decide +kernel
theorem d_jdk_52_method_16_code_4 : decode jdk_52_method_16_code 4 = .ok (.aload_n 0, 1) := by decide +kernel
theorem d_jdk_52_method_16_code_5 : decode jdk_52_method_16_code 5 = .ok (.iload_n 1, 1) := by decide +kernel
theorem d_jdk_52_method_16_code_6 : decode jdk_52_method_16_code 6 = .ok (.aload_n 3, 1) := by decide +kernel
theorem d_jdk_52_method_16_code_7 : decode jdk_52_method_16_code 7 = .ok (.iconst 0, 1) := by decide +kernel
theorem d_jdk_52_method_16_code_8 : decode jdk_52_method_16_code 8 = .ok (.iload_n 2, 1) := by decide +kernel
theorem d_jdk_52_method_16_code_9 : decode jdk_52_method_16_code 9 = .ok (.invokestatic 115, 3) := by decide +kernel
theorem pd___CI_BII_I : parseMethodDescriptor "([CI[BII)I" = some ⟨[(.array .char), .int, (.array .byte), .int, .int], some .int⟩ := by decide +kernel
theorem d_jdk_52_method_16_code_12 : decode jdk_52_method_16_code 12 = .ok (.istore 4, 2) := by decide +kernel
theorem d_jdk_52_method_16_code_14 : decode jdk_52_method_16_code 14 = .ok (.iload 4, 2) := by decide +kernel
theorem d_jdk_52_method_16_code_16 : decode jdk_52_method_16_code 16 = .ok (.iload_n 2, 1) := by decide +kernel
theorem d_jdk_52_method_16_code_17 : decode jdk_52_method_16_code 17 = .ok (.if_icmp .eq 40, 3) := by decide +kernel
theorem d_jdk_52_method_16_code_20 : decode jdk_52_method_16_code 20 = .ok (.aload_n 0, 1) := by decide +kernel
theorem d_jdk_52_method_16_code_21 : decode jdk_52_method_16_code 21 = .ok (.iload_n 1, 1) := by decide +kernel
theorem d_jdk_52_method_16_code_22 : decode jdk_52_method_16_code 22 = .ok (.iload_n 2, 1) := by decide +kernel
theorem d_jdk_52_method_16_code_23 : decode jdk_52_method_16_code 23 = .ok (.invokestatic 119, 3) := by decide +kernel
theorem pd___CII__B : parseMethodDescriptor "([CII)[B" = some ⟨[(.array .char), .int, .int], some (.array .byte)⟩ := by decide +kernel
theorem d_jdk_52_method_16_code_26 : decode jdk_52_method_16_code 26 = .ok (.astore 5, 2) := by decide +kernel
theorem d_jdk_52_method_16_code_28 : decode jdk_52_method_16_code 28 = .ok (.aload 5, 2) := by decide +kernel
theorem d_jdk_52_method_16_code_30 : decode jdk_52_method_16_code 30 = .ok (.iload 4, 2) := by decide +kernel
theorem d_jdk_52_method_16_code_32 : decode jdk_52_method_16_code 32 = .ok (.invokestatic 71, 3) := by decide +kernel
theorem d_jdk_52_method_16_code_35 : decode jdk_52_method_16_code 35 = .ok (.sipush 255, 3) := by decide +kernel
theorem d_jdk_52_method_16_code_38 : decode jdk_52_method_16_code 38 = .ok (.if_icmp .gt 16, 3) := by decide +kernel
theorem d_jdk_52_method_16_code_54 : decode jdk_52_method_16_code 54 = .ok (.aload 5, 2) := by decide +kernel
theorem d_jdk_52_method_16_code_56 : decode jdk_52_method_16_code 56 = .ok (.areturn, 1) := by decide +kernel
set_option maxRecDepth 65536 in
set_option maxHeartbeats 40000000 in
theorem rm_cp (l : Launch) (Z : State) (a0 : Array Value) (hw : ∀ d ∈ tables_1, d.before a0 Z = true) (a1 : Addr) (ka : ClassId) (cs : List Int32) (h0 : Heap) (V_a1 : Arv Z h0 a1 ka .char (Int32.ofNat cs.length) (cs.map Value.int) (.int (0 : Int32))) (h8 : cs.length ≤ 8) (hwd : ∃ c ∈ cs, (255 : Int32) < c) (hbr : ∀ c ∈ cs, ¬ c < 0 ∧ ¬ (65535 : Int32) < c) (Z_ad : Sta Z h0 "java/lang/StringUTF16" "$assertionsDisabled" "Z" (.int (1 : Int32))) (Z_hs : Sta Z h0 "java/lang/StringUTF16" "HI_BYTE_SHIFT" "I" (.int (0 : Int32))) (Z_ls : Sta Z h0 "java/lang/StringUTF16" "LO_BYTE_SHIFT" "I" (.int (8 : Int32))) :
    MeetsW l Z (⟨"java/lang/StringUTF16", "compress", "([CII)[B"⟩ : MethodName) jdk_52_method_16_code 6 (some (.array .byte)) ({ frames := 3, cells := 2, slots := 24, locals := 40 } : Room) #[(.ref a1), (.int (0 : Int32)), (.int (Int32.ofNat cs.length))] h0 (fun v h L => Mv h0 h [] L ∧ ∃ (b : Addr) (k : ClassId), v = some (.ref b) ∧ h0.size ≤ b ∧ Arv Z h b k .byte (Int32.ofNat (2 * cs.length)) (StrChars.Road.wideBytes cs) (.int (0 : Int32))) := by
  refine MeetsW.of (plainFor_of_name pn_java_lang_StringUTF16) ?_
  intro p e s m below meth c s₁ P hx hby hml hZ hown hnm hret hlk X0 e0 K
  have M0 : Mv h0 h0 [] [] := Mv.refl _ _
  refine Go.cast (ef_rm_cp m a1 (0 : Int32) (Int32.ofNat cs.length) ) ?_
  have hl : cs.length ≤ 4000 := by omega
  refine Go.of (T' := s₁) (f' := (mkF m 1 #[.val (.ref a1), .val (.int (0 : Int32)), .val (.int (Int32.ofNat cs.length)), .unset, .unset, .unset] [(.int (Int32.ofNat cs.length))])) (fun _ k => XS.iloadN X0.here hx rfl (hb hby d_jdk_52_method_16_code_0) rfl k) ?_
  obtain ⟨T1, h1, k1, X1, e1, E1, A1, st1⟩ := newP X0 hx hZ (hw _ (List.mem_of_getElem? (i := 27) rfl)) e0 (g := (mkF m 1 #[.val (.ref a1), .val (.int (0 : Int32)), .val (.int (Int32.ofNat cs.length)), .unset, .unset, .unset] [(.int (Int32.ofNat cs.length))])) rfl (hb hby d_jdk_52_method_16_code_1) rfl (nneg (by omega)) (cap := 8) (by rw [nat32 (by omega)]; omega) (by decide) (by decide) (by decide)
  obtain ⟨b1, g1⟩ : ∃ z, z = h0.size := ⟨_, rfl⟩
  rw [← g1] at A1 st1
  have ne_a1_b1 : a1 ≠ b1 := Nat.ne_of_lt (Nat.lt_of_lt_of_le V_a1.lt (Nat.le_of_eq g1.symm))
  have fr_b1 : h0.size ≤ b1 := Nat.le_trans M0.le (Nat.le_of_eq g1.symm)
  have K1 := keepE E1
  have M1 := M0.ext E1
  replace V_a1 := V_a1.keep K1 nin0
  replace Z_ad := StaKeep Z_ad K1 all0
  replace Z_hs := StaKeep Z_hs K1 all0
  replace Z_ls := StaKeep Z_ls K1 all0
  have V_b1 : Arv Z h1 b1 k1 .byte (Int32.ofNat cs.length) [] (.int (0 : Int32)) := Arv.new A1 (nneg (by omega))
  refine Go.of (T' := T1) (f' := (mkF m 3 #[.val (.ref a1), .val (.int (0 : Int32)), .val (.int (Int32.ofNat cs.length)), .unset, .unset, .unset] [(.ref b1)])) st1 ?_
  refine Go.of (T' := T1) (f' := (mkF m 4 #[.val (.ref a1), .val (.int (0 : Int32)), .val (.int (Int32.ofNat cs.length)), .val (.ref b1), .unset, .unset] [])) (fun _ k => XS.astoreN X1.here hx rfl (hb hby d_jdk_52_method_16_code_3) rfl rfl (l' := #[.val (.ref a1), .val (.int (0 : Int32)), .val (.int (Int32.ofNat cs.length)), .val (.ref b1), .unset, .unset]) rfl k) ?_
  refine Go.of (T' := T1) (f' := (mkF m 5 #[.val (.ref a1), .val (.int (0 : Int32)), .val (.int (Int32.ofNat cs.length)), .val (.ref b1), .unset, .unset] [(.ref a1)])) (fun _ k => XS.aloadN X1.here hx rfl (hb hby d_jdk_52_method_16_code_4) rfl rfl k) ?_
  refine Go.of (T' := T1) (f' := (mkF m 6 #[.val (.ref a1), .val (.int (0 : Int32)), .val (.int (Int32.ofNat cs.length)), .val (.ref b1), .unset, .unset] [(.int (0 : Int32)), (.ref a1)])) (fun _ k => XS.iloadN X1.here hx rfl (hb hby d_jdk_52_method_16_code_5) rfl k) ?_
  refine Go.of (T' := T1) (f' := (mkF m 7 #[.val (.ref a1), .val (.int (0 : Int32)), .val (.int (Int32.ofNat cs.length)), .val (.ref b1), .unset, .unset] [(.ref b1), (.int (0 : Int32)), (.ref a1)])) (fun _ k => XS.aloadN X1.here hx rfl (hb hby d_jdk_52_method_16_code_6) rfl rfl k) ?_
  refine Go.of (T' := T1) (f' := (mkF m 8 #[.val (.ref a1), .val (.int (0 : Int32)), .val (.int (Int32.ofNat cs.length)), .val (.ref b1), .unset, .unset] [(.int (0 : Int32)), (.ref b1), (.int (0 : Int32)), (.ref a1)])) (fun _ k => XS.iconst X1.here hx rfl (hb hby d_jdk_52_method_16_code_7) k) ?_
  refine Go.of (T' := T1) (f' := (mkF m 9 #[.val (.ref a1), .val (.int (0 : Int32)), .val (.int (Int32.ofNat cs.length)), .val (.ref b1), .unset, .unset] [(.int (Int32.ofNat cs.length)), (.int (0 : Int32)), (.ref b1), (.int (0 : Int32)), (.ref a1)])) (fun _ k => XS.iloadN X1.here hx rfl (hb hby d_jdk_52_method_16_code_8) rfl k) ?_
  refine goS X1 hx hZ hown (hw _ (List.mem_of_getElem? (i := 28) rfl)) (hw _ (List.mem_of_getElem? (i := 29) rfl)) (hw _ (List.mem_of_getElem? (i := 25) rfl)) (hw _ (List.mem_of_getElem? (i := 30) rfl)) (by decide) (C := 0) (S := 0) ((rm_ci l Z a0 hw a1 b1 ka k1 cs _ h1 V_a1 h8 (V_b1.pad (pad_rep [] _ cs.length)) (by simp) ne_a1_b1 hwd).bk (W := 0) hZ (hw _ (List.mem_of_getElem? (i := 30) rfl)) (hw _ (List.mem_of_getElem? (i := 25) rfl)) (by decide) (by decide)) e1 (argsL := [(.ref a1), (.int (0 : Int32)), (.ref b1), (.int (0 : Int32)), (.int (Int32.ofNat cs.length))]) (rest := []) (by rw [hml]; rfl) (lenOf pd___CI_BII_I rfl) rfl rfl (hb hby d_jdk_52_method_16_code_9) (Nat.le_of_eq rfl) (by decide) (by decide) ?_
  intro v2 T2 L2 X2 hQ2
  obtain ⟨h2, e2⟩ : ∃ z, T2.heap = z := ⟨_, rfl⟩
  rw [e2] at hQ2
  have V_b1_o := V_b1
  obtain ⟨Mc2, kk, hkk, hgt, rfl⟩ := hQ2
  have M2 := M1.app Mc2 (allS (Or.inr fr_b1) all0)
  replace V_a1 := V_a1.keep Mc2.1 (ninS ne_a1_b1 nin0)
  replace Z_ad := StaKeep Z_ad Mc2.1 (allS (staArv V_b1_o) all0)
  replace Z_hs := StaKeep Z_hs Mc2.1 (allS (staArv V_b1_o) all0)
  replace Z_ls := StaKeep Z_ls Mc2.1 (allS (staArv V_b1_o) all0)
  show Go p e below P T2 (mkF m 12 #[.val (.ref a1), .val (.int (0 : Int32)), .val (.int (Int32.ofNat cs.length)), .val (.ref b1), .unset, .unset] [(.int (Int32.ofNat kk))])
  refine Go.of (T' := T2) (f' := (mkF m 14 #[.val (.ref a1), .val (.int (0 : Int32)), .val (.int (Int32.ofNat cs.length)), .val (.ref b1), .val (.int (Int32.ofNat kk)), .unset] [])) (fun _ k => XS.istore X2.here hx rfl (hb hby d_jdk_52_method_16_code_12) rfl (l' := #[.val (.ref a1), .val (.int (0 : Int32)), .val (.int (Int32.ofNat cs.length)), .val (.ref b1), .val (.int (Int32.ofNat kk)), .unset]) rfl k) ?_
  refine Go.of (T' := T2) (f' := (mkF m 16 #[.val (.ref a1), .val (.int (0 : Int32)), .val (.int (Int32.ofNat cs.length)), .val (.ref b1), .val (.int (Int32.ofNat kk)), .unset] [(.int (Int32.ofNat kk))])) (fun _ k => XS.iload X2.here hx rfl (hb hby d_jdk_52_method_16_code_14) rfl k) ?_
  refine Go.of (T' := T2) (f' := (mkF m 17 #[.val (.ref a1), .val (.int (0 : Int32)), .val (.int (Int32.ofNat cs.length)), .val (.ref b1), .val (.int (Int32.ofNat kk)), .unset] [(.int (Int32.ofNat cs.length)), (.int (Int32.ofNat kk))])) (fun _ k => XS.iloadN X2.here hx rfl (hb hby d_jdk_52_method_16_code_16) rfl k) ?_
  have hc17 : ¬ ((Int32.ofNat kk) = (Int32.ofNat cs.length)) := neN (by omega) (by omega) (by omega)
  refine Go.of (T' := T2) (f' := (mkF m 20 #[.val (.ref a1), .val (.int (0 : Int32)), .val (.int (Int32.ofNat cs.length)), .val (.ref b1), .val (.int (Int32.ofNat kk)), .unset] [])) (fun _ k => XS.icmpNo X2.here hx rfl (hb hby d_jdk_52_method_16_code_17) rfl (feq hc17).1 k) ?_
  refine Go.of (T' := T2) (f' := (mkF m 21 #[.val (.ref a1), .val (.int (0 : Int32)), .val (.int (Int32.ofNat cs.length)), .val (.ref b1), .val (.int (Int32.ofNat kk)), .unset] [(.ref a1)])) (fun _ k => XS.aloadN X2.here hx rfl (hb hby d_jdk_52_method_16_code_20) rfl rfl k) ?_
  refine Go.of (T' := T2) (f' := (mkF m 22 #[.val (.ref a1), .val (.int (0 : Int32)), .val (.int (Int32.ofNat cs.length)), .val (.ref b1), .val (.int (Int32.ofNat kk)), .unset] [(.int (0 : Int32)), (.ref a1)])) (fun _ k => XS.iloadN X2.here hx rfl (hb hby d_jdk_52_method_16_code_21) rfl k) ?_
  refine Go.of (T' := T2) (f' := (mkF m 23 #[.val (.ref a1), .val (.int (0 : Int32)), .val (.int (Int32.ofNat cs.length)), .val (.ref b1), .val (.int (Int32.ofNat kk)), .unset] [(.int (Int32.ofNat cs.length)), (.int (0 : Int32)), (.ref a1)])) (fun _ k => XS.iloadN X2.here hx rfl (hb hby d_jdk_52_method_16_code_22) rfl k) ?_
  refine goS X2 hx hZ hown (hw _ (List.mem_of_getElem? (i := 113) rfl)) (hw _ (List.mem_of_getElem? (i := 114) rfl)) (hw _ (List.mem_of_getElem? (i := 25) rfl)) (hw _ (List.mem_of_getElem? (i := 115) rfl)) (by decide) (C := 1) (S := 16) ((rm_tb l Z a0 hw a1 ka cs h2 V_a1 h8 Z_ad Z_hs Z_ls).bk (W := 0) hZ (hw _ (List.mem_of_getElem? (i := 115) rfl)) (hw _ (List.mem_of_getElem? (i := 25) rfl)) (by decide) (by decide)) e2 (argsL := [(.ref a1), (.int (0 : Int32)), (.int (Int32.ofNat cs.length))]) (rest := []) (by rw [hml]; rfl) (lenOf pd___CII__B rfl) rfl rfl (hb hby d_jdk_52_method_16_code_23) (Nat.le_of_eq rfl) (by decide) (by decide) ?_
  intro v3 T3 L3 X3 hQ3
  obtain ⟨h3, e3⟩ : ∃ z, T3.heap = z := ⟨_, rfl⟩
  rw [e3] at hQ3
  obtain ⟨Mc3, b3, k3, rfl, le3, V_b3⟩ := hQ3
  have ne_a1_b3 : a1 ≠ b3 := Nat.ne_of_lt (Nat.lt_of_lt_of_le V_a1.lt le3)
  have fr_b3 : h0.size ≤ b3 := Nat.le_trans M2.le le3
  have M3 := M2.app0 Mc3
  replace V_a1 := V_a1.keep Mc3.1 nin0
  replace Z_ad := StaKeep Z_ad Mc3.1 all0
  replace Z_hs := StaKeep Z_hs Mc3.1 all0
  replace Z_ls := StaKeep Z_ls Mc3.1 all0
  show Go p e below P T3 (mkF m 26 #[.val (.ref a1), .val (.int (0 : Int32)), .val (.int (Int32.ofNat cs.length)), .val (.ref b1), .val (.int (Int32.ofNat kk)), .unset] [(.ref b3)])
  refine Go.of (T' := T3) (f' := (mkF m 28 #[.val (.ref a1), .val (.int (0 : Int32)), .val (.int (Int32.ofNat cs.length)), .val (.ref b1), .val (.int (Int32.ofNat kk)), .val (.ref b3)] [])) (fun _ k => XS.astore X3.here hx rfl (hb hby d_jdk_52_method_16_code_26) rfl rfl (l' := #[.val (.ref a1), .val (.int (0 : Int32)), .val (.int (Int32.ofNat cs.length)), .val (.ref b1), .val (.int (Int32.ofNat kk)), .val (.ref b3)]) rfl k) ?_
  refine Go.of (T' := T3) (f' := (mkF m 30 #[.val (.ref a1), .val (.int (0 : Int32)), .val (.int (Int32.ofNat cs.length)), .val (.ref b1), .val (.int (Int32.ofNat kk)), .val (.ref b3)] [(.ref b3)])) (fun _ k => XS.aload X3.here hx rfl (hb hby d_jdk_52_method_16_code_28) rfl rfl k) ?_
  refine Go.of (T' := T3) (f' := (mkF m 32 #[.val (.ref a1), .val (.int (0 : Int32)), .val (.int (Int32.ofNat cs.length)), .val (.ref b1), .val (.int (Int32.ofNat kk)), .val (.ref b3)] [(.int (Int32.ofNat kk)), (.ref b3)])) (fun _ k => XS.iload X3.here hx rfl (hb hby d_jdk_52_method_16_code_30) rfl k) ?_
  refine goS X3 hx hZ hown (hw _ (List.mem_of_getElem? (i := 129) rfl)) (hw _ (List.mem_of_getElem? (i := 130) rfl)) (hw _ (List.mem_of_getElem? (i := 25) rfl)) (hw _ (List.mem_of_getElem? (i := 131) rfl)) (by decide) (C := 0) (S := 0) ((rm_getChar l Z a0 hw b3 k3 cs kk h3 V_b3 hl hkk hbr Z_ad Z_hs Z_ls).bk (W := 0) hZ (hw _ (List.mem_of_getElem? (i := 131) rfl)) (hw _ (List.mem_of_getElem? (i := 25) rfl)) (by decide) (by decide)) e3 (argsL := [(.ref b3), (.int (Int32.ofNat kk))]) (rest := []) (by rw [hml]; rfl) (lenOf pd___BI_C rfl) rfl rfl (hb hby d_jdk_52_method_16_code_32) (Nat.le_of_eq rfl) (by decide) (by decide) ?_
  intro v4 T4 L4 X4 hQ4
  obtain ⟨nq4, e4, rfl⟩ := hQ4
  replace X4 := standNil X4 nq4
  show Go p e below P T4 (mkF m 35 #[.val (.ref a1), .val (.int (0 : Int32)), .val (.int (Int32.ofNat cs.length)), .val (.ref b1), .val (.int (Int32.ofNat kk)), .val (.ref b3)] [(.int (cs.getD kk 0))])
  refine Go.of (T' := T4) (f' := (mkF m 38 #[.val (.ref a1), .val (.int (0 : Int32)), .val (.int (Int32.ofNat cs.length)), .val (.ref b1), .val (.int (Int32.ofNat kk)), .val (.ref b3)] [(.int (255 : Int32)), (.int (cs.getD kk 0))])) (fun _ k => XS.sipush X4.here hx rfl (hb hby d_jdk_52_method_16_code_35) k) ?_
  have hc38 : (255 : Int32) < (cs.getD kk 0) := hgt
  refine Go.of (T' := T4) (f' := (mkF m 54 #[.val (.ref a1), .val (.int (0 : Int32)), .val (.int (Int32.ofNat cs.length)), .val (.ref b1), .val (.int (Int32.ofNat kk)), .val (.ref b3)] [])) (fun _ k => XS.icmpYes X4.here hx rfl (pc0 := 38) (pc' := 54) rfl (hb hby d_jdk_52_method_16_code_38) rfl (tlt hc38).2.2.1 (by decide) (by decide) k) ?_
  refine Go.of (T' := T4) (f' := (mkF m 56 #[.val (.ref a1), .val (.int (0 : Int32)), .val (.int (Int32.ofNat cs.length)), .val (.ref b1), .val (.int (Int32.ofNat kk)), .val (.ref b3)] [(.ref b3)])) (fun _ k => XS.aload X4.here hx rfl (hb hby d_jdk_52_method_16_code_54) rfl rfl k) ?_
  exact goRetR (Q := fun v h L => Mv h0 h [] L ∧ ∃ (b : Addr) (k : ClassId), v = some (.ref b) ∧ h0.size ≤ b ∧ Arv Z h b k .byte (Int32.ofNat (2 * cs.length)) (StrChars.Road.wideBytes cs) (.int (0 : Int32))) X4 hx hret rfl hlk rfl rfl (hb hby d_jdk_52_method_16_code_56) K (by decide) (by decide) e4 (⟨M3, b3, _, rfl, fr_b3, V_b3⟩)
theorem ef_rm_cfa (m : MethodId) (x0 : Addr) (x1 : Int32)  : entryFrame m #[(.ref x0), (.int x1)] 2 = mkF m 0 #[.val (.ref x0), .val (.int x1)] [] := by first | (simp [entryFrame, mkF, argsToLocals, Value.category]; done) | rfl
theorem d_jdk_52_method_15_code_0 : decode jdk_52_method_15_code 0 = .ok (.iload_n 1, 1) := by decide +kernel
theorem d_jdk_52_method_15_code_1 : decode jdk_52_method_15_code 1 = .ok (.aload_n 0, 1) := by decide +kernel
theorem d_jdk_52_method_15_code_2 : decode jdk_52_method_15_code 2 = .ok (.arraylength, 1) := by decide +kernel
theorem d_jdk_52_method_15_code_3 : decode jdk_52_method_15_code 3 = .ok (.isub, 1) := by decide +kernel
theorem d_jdk_52_method_15_code_4 : decode jdk_52_method_15_code 4 = .ok (.bipush 31, 2) := by decide +kernel
theorem d_jdk_52_method_15_code_6 : decode jdk_52_method_15_code 6 = .ok (.iushr, 1) := by decide +kernel
theorem d_jdk_52_method_15_code_7 : decode jdk_52_method_15_code 7 = .ok (.i2b, 1) := by decide +kernel
theorem d_jdk_52_method_15_code_8 : decode jdk_52_method_15_code 8 = .ok (.ireturn, 1) := by decide +kernel
set_option maxRecDepth 65536 in
set_option maxHeartbeats 40000000 in
theorem rm_cfa (l : Launch) (Z : State) (a0 : Array Value) (hw : ∀ d ∈ tables_1, d.before a0 Z = true) (a1 : Addr) (ka : ClassId) (n : Nat) (vs : List Value) (h0 : Heap) (V_a1 : Arv Z h0 a1 ka .byte (Int32.ofNat (2 * n)) vs (.int (0 : Int32))) (h8 : n ≤ 8) (h1 : 0 < n) :
    MeetsW l Z (⟨"java/lang/StringUTF16", "coderFromArrayLen", "([BI)B"⟩ : MethodName) jdk_52_method_15_code 2 (some .byte) ({ frames := 0, cells := 0, slots := 0, locals := 0 } : Room) #[(.ref a1), (.int (Int32.ofNat n))] h0 (Pu h0 (fun v => v = some (.int 1))) := by
  refine MeetsW.of (plainFor_of_name pn_java_lang_StringUTF16) ?_
  intro p e s m below meth c s₁ P hx hby hml hZ hown hnm hret hlk X0 e0 K
  have M0 : Mv h0 h0 [] [] := Mv.refl _ _
  refine Go.cast (ef_rm_cfa m a1 (Int32.ofNat n) ) ?_
  refine Go.of (T' := s₁) (f' := (mkF m 1 #[.val (.ref a1), .val (.int (Int32.ofNat n))] [(.int (Int32.ofNat n))])) (fun _ k => XS.iloadN X0.here hx rfl (hb hby d_jdk_52_method_15_code_0) rfl k) ?_
  refine Go.of (T' := s₁) (f' := (mkF m 2 #[.val (.ref a1), .val (.int (Int32.ofNat n))] [(.ref a1), (.int (Int32.ofNat n))])) (fun _ k => XS.aloadN X0.here hx rfl (hb hby d_jdk_52_method_15_code_1) rfl rfl k) ?_
  obtain ⟨cl1, Ar1, -, Sz1, Nn1, -, -⟩ := id V_a1
  refine Go.of (T' := s₁) (f' := (mkF m 3 #[.val (.ref a1), .val (.int (Int32.ofNat n))] [(.int (Int32.ofNat (2 * n))), (.int (Int32.ofNat n))])) (fun _ k => X0.arraylength hx (by rw [e0]; exact Ar1.1) (State.isArrayOf_alike hZ.alike Ar1.2.1) (g := (mkF m 2 #[.val (.ref a1), .val (.int (Int32.ofNat n))] [(.ref a1), (.int (Int32.ofNat n))])) rfl rfl (hb hby d_jdk_52_method_15_code_2) _ (by rw [len_of Sz1 Nn1]; exact k)) ?_
  refine Go.of (T' := s₁) (f' := (mkF m 4 #[.val (.ref a1), .val (.int (Int32.ofNat n))] [(.int ((Int32.ofNat n) - (Int32.ofNat (2 * n))))])) (fun _ k => XS.isub X0.here hx rfl (hb hby d_jdk_52_method_15_code_3) rfl k) ?_
  refine Go.of (T' := s₁) (f' := (mkF m 6 #[.val (.ref a1), .val (.int (Int32.ofNat n))] [(.int (31 : Int32)), (.int ((Int32.ofNat n) - (Int32.ofNat (2 * n))))])) (fun _ k => XS.bipush X0.here hx rfl (hb hby d_jdk_52_method_15_code_4) k) ?_
  refine Go.of (T' := s₁) (f' := (mkF m 7 #[.val (.ref a1), .val (.int (Int32.ofNat n))] [(.int ((((Int32.ofNat n) - (Int32.ofNat (2 * n))).toUInt32 >>> ((31 : Int32) &&& 31).toUInt32).toInt32))])) (fun _ k => XS.iushr X0.here hx rfl (hb hby d_jdk_52_method_15_code_6) rfl k) ?_
  refine Go.of (T' := s₁) (f' := (mkF m 8 #[.val (.ref a1), .val (.int (Int32.ofNat n))] [(.int (((((Int32.ofNat n) - (Int32.ofNat (2 * n))).toUInt32 >>> ((31 : Int32) &&& 31).toUInt32).toInt32).toInt8.toInt32))])) (fun _ k => XS.i2b X0.here hx rfl (hb hby d_jdk_52_method_15_code_7) rfl k) ?_
  exact goRetI (Q := Pu h0 (fun v => v = some (.int 1))) X0 hx (t := .byte) hret hlk (by rw [cfa1 h1 (by omega)]; rfl) (by simp) (hb hby d_jdk_52_method_15_code_8) K (by decide) (by decide) e0 (⟨rfl, rfl, congrArg (fun z => some (Value.int z)) (cfa1 h1 (by omega))⟩)
theorem ef_rm_iv (m : MethodId) (x0 : Addr) (x1 : Addr) (x2 : Int32) (x3 : Int32)  : entryFrame m #[(.ref x0), (.ref x1), (.int x2), (.int x3), .null] 6 = mkF m 0 #[.val (.ref x0), .val (.ref x1), .val (.int x2), .val (.int x3), .val .null, .unset] [] := by first | (simp [entryFrame, mkF, argsToLocals, Value.category]; done) | rfl
theorem d_jdk_42_method_149_code_0 : decode jdk_42_method_149_code 0 = .ok (.aload_n 0, 1) := by decide +kernel
theorem d_jdk_42_method_149_code_1 : decode jdk_42_method_149_code 1 = .ok (.invokespecial 1, 3) := by decide +kernel
theorem d_jdk_42_method_149_code_4 : decode jdk_42_method_149_code 4 = .ok (.iload_n 3, 1) := by decide +kernel
theorem d_jdk_42_method_149_code_5 : decode jdk_42_method_149_code 5 = .ok (.ifCond .ne 22, 3) := by decide +kernel
theorem d_jdk_42_method_149_code_27 : decode jdk_42_method_149_code 27 = .ok (.getstatic 38, 3) := by decide +kernel
theorem d_jdk_42_method_149_code_30 : decode jdk_42_method_149_code 30 = .ok (.ifCond .eq 28, 3) := by decide +kernel
theorem d_jdk_42_method_149_code_33 : decode jdk_42_method_149_code 33 = .ok (.aload_n 1, 1) := by decide +kernel
theorem d_jdk_42_method_149_code_34 : decode jdk_42_method_149_code 34 = .ok (.iload_n 2, 1) := by decide +kernel
theorem d_jdk_42_method_149_code_35 : decode jdk_42_method_149_code 35 = .ok (.iload_n 3, 1) := by decide +kernel
theorem d_jdk_42_method_149_code_36 : decode jdk_42_method_149_code 36 = .ok (.invokestatic 177, 3) := by decide +kernel
theorem d_jdk_42_method_149_code_39 : decode jdk_42_method_149_code 39 = .ok (.astore 5, 2) := by decide +kernel
theorem d_jdk_42_method_149_code_41 : decode jdk_42_method_149_code 41 = .ok (.aload_n 0, 1) := by decide +kernel
theorem d_jdk_42_method_149_code_42 : decode jdk_42_method_149_code 42 = .ok (.aload 5, 2) := by decide +kernel
theorem d_jdk_42_method_149_code_44 : decode jdk_42_method_149_code 44 = .ok (.iload_n 3, 1) := by decide +kernel
theorem d_jdk_42_method_149_code_45 : decode jdk_42_method_149_code 45 = .ok (.invokestatic 47, 3) := by decide +kernel
theorem pd___BI_B : parseMethodDescriptor "([BI)B" = some ⟨[(.array .byte), .int], some .byte⟩ := by decide +kernel
theorem d_jdk_42_method_149_code_48 : decode jdk_42_method_149_code 48 = .ok (.putfield 15, 3) := by decide +kernel
theorem d_jdk_42_method_149_code_51 : decode jdk_42_method_149_code 51 = .ok (.aload_n 0, 1) := by decide +kernel
theorem d_jdk_42_method_149_code_52 : decode jdk_42_method_149_code 52 = .ok (.aload 5, 2) := by decide +kernel
theorem d_jdk_42_method_149_code_54 : decode jdk_42_method_149_code 54 = .ok (.putfield 9, 3) := by decide +kernel
theorem d_jdk_42_method_149_code_57 : decode jdk_42_method_149_code 57 = .ok (.return_, 1) := by decide +kernel
set_option maxRecDepth 65536 in
set_option maxHeartbeats 40000000 in
theorem rm_iv (l : Launch) (Z : State) (a0 : Array Value) (hw : ∀ d ∈ tables_1, d.before a0 Z = true) (a0_ a1 : Addr) (ka : ClassId) (cs : List Int32) (zc : Int32) (h0 : Heap) (E_a0 : Exa Z h0 a0_ "java/lang/String") (F_value : Fld Z h0 a0_ "java/lang/String" "value" "[B" .null) (F_coder : Fld Z h0 a0_ "java/lang/String" "coder" "B" (.int (0 : Int32))) (V_a1 : Arv Z h0 a1 ka .char (Int32.ofNat cs.length) (cs.map Value.int) (.int (0 : Int32))) (h8 : cs.length ≤ 8) (h1 : 0 < cs.length) (hne : a1 ≠ a0_) (hwd : ∃ c ∈ cs, (255 : Int32) < c) (hbr : ∀ c ∈ cs, ¬ c < 0 ∧ ¬ (65535 : Int32) < c) (Z_ad : Sta Z h0 "java/lang/StringUTF16" "$assertionsDisabled" "Z" (.int (1 : Int32))) (Z_hs : Sta Z h0 "java/lang/StringUTF16" "HI_BYTE_SHIFT" "I" (.int (0 : Int32))) (Z_ls : Sta Z h0 "java/lang/StringUTF16" "LO_BYTE_SHIFT" "I" (.int (8 : Int32))) (Z_cs : Sta Z h0 "java/lang/String" "COMPACT_STRINGS" "Z" (.int zc)) (hz : ¬ zc = 0) :
    MeetsW l Z (⟨"java/lang/String", "<init>", "([CIILjava/lang/Void;)V"⟩ : MethodName) jdk_42_method_149_code 6 none ({ frames := 4, cells := 2, slots := 24, locals := 57 } : Room) #[(.ref a0_), (.ref a1), (.int (0 : Int32)), (.int (Int32.ofNat cs.length)), .null] h0 (fun v h L => v = none ∧ Mv h0 h [a0_] L ∧ ∃ t, h0.size ≤ t ∧ Str Z h a0_ t cs) := by
  refine MeetsW.of (plainFor_of_name pn_java_lang_String) ?_
  intro p e s m below meth c s₁ P hx hby hml hZ hown hnm hret hlk X0 e0 K
  have M0 : Mv h0 h0 [a0_] [] := Mv.refl _ _
  refine Go.cast (ef_rm_iv m a0_ a1 (0 : Int32) (Int32.ofNat cs.length) ) ?_
  refine Go.of (T' := s₁) (f' := (mkF m 1 #[.val (.ref a0_), .val (.ref a1), .val (.int (0 : Int32)), .val (.int (Int32.ofNat cs.length)), .val .null, .unset] [(.ref a0_)])) (fun _ k => XS.aloadN X0.here hx rfl (hb hby d_jdk_42_method_149_code_0) rfl rfl k) ?_
  obtain ⟨T1, X1, e1, st1⟩ := initO X0 hx hZ hown (hw _ (List.mem_of_getElem? (i := 19) rfl)) (hw _ (List.mem_of_getElem? (i := 20) rfl)) (hw _ (List.mem_of_getElem? (i := 21) rfl)) e0 (g := (mkF m 1 #[.val (.ref a0_), .val (.ref a1), .val (.int (0 : Int32)), .val (.int (Int32.ofNat cs.length)), .val .null, .unset] [(.ref a0_)])) rfl (by rw [hml]; rfl) rfl (hb hby d_jdk_42_method_149_code_1) (by decide) (W := 0) (by show 2 * 0 + _ ≤ _; exact Nat.le_of_eq rfl) (by decide)
  refine Go.of (T' := T1) (f' := (mkF m 4 #[.val (.ref a0_), .val (.ref a1), .val (.int (0 : Int32)), .val (.int (Int32.ofNat cs.length)), .val .null, .unset] [])) st1 ?_
  refine Go.of (T' := T1) (f' := (mkF m 5 #[.val (.ref a0_), .val (.ref a1), .val (.int (0 : Int32)), .val (.int (Int32.ofNat cs.length)), .val .null, .unset] [(.int (Int32.ofNat cs.length))])) (fun _ k => XS.iloadN X1.here hx rfl (hb hby d_jdk_42_method_149_code_4) rfl k) ?_
  have hc5 : ¬ ((Int32.ofNat cs.length) = (0 : Int32)) := neN (n := 0) (by omega) (by omega) (by omega)
  refine Go.of (T' := T1) (f' := (mkF m 27 #[.val (.ref a0_), .val (.ref a1), .val (.int (0 : Int32)), .val (.int (Int32.ofNat cs.length)), .val .null, .unset] [])) (fun _ k => XS.ifYes X1.here hx rfl (pc0 := 5) (pc' := 27) rfl (hb hby d_jdk_42_method_149_code_5) rfl ((if0 _ _).trans (feq hc5).2) (by decide) (by decide) k) ?_
  obtain ⟨T2, X2, e2, st2⟩ := getS2 X1 hx hZ hown (host := "") (Or.inl (hw _ (List.mem_of_getElem? (i := 22) rfl))) Via.refl e1 Z_cs (g := (mkF m 27 #[.val (.ref a0_), .val (.ref a1), .val (.int (0 : Int32)), .val (.int (Int32.ofNat cs.length)), .val .null, .unset] [])) rfl (hb hby d_jdk_42_method_149_code_27)
  refine Go.of (T' := T2) (f' := (mkF m 30 #[.val (.ref a0_), .val (.ref a1), .val (.int (0 : Int32)), .val (.int (Int32.ofNat cs.length)), .val .null, .unset] [(.int zc)])) st2 ?_
  have hc30 : ¬ (zc = (0 : Int32)) := hz
  refine Go.of (T' := T2) (f' := (mkF m 33 #[.val (.ref a0_), .val (.ref a1), .val (.int (0 : Int32)), .val (.int (Int32.ofNat cs.length)), .val .null, .unset] [])) (fun _ k => XS.ifNo X2.here hx rfl (hb hby d_jdk_42_method_149_code_30) rfl ((if0 _ _).trans (feq hc30).1) k) ?_
  refine Go.of (T' := T2) (f' := (mkF m 34 #[.val (.ref a0_), .val (.ref a1), .val (.int (0 : Int32)), .val (.int (Int32.ofNat cs.length)), .val .null, .unset] [(.ref a1)])) (fun _ k => XS.aloadN X2.here hx rfl (hb hby d_jdk_42_method_149_code_33) rfl rfl k) ?_
  refine Go.of (T' := T2) (f' := (mkF m 35 #[.val (.ref a0_), .val (.ref a1), .val (.int (0 : Int32)), .val (.int (Int32.ofNat cs.length)), .val .null, .unset] [(.int (0 : Int32)), (.ref a1)])) (fun _ k => XS.iloadN X2.here hx rfl (hb hby d_jdk_42_method_149_code_34) rfl k) ?_
  refine Go.of (T' := T2) (f' := (mkF m 36 #[.val (.ref a0_), .val (.ref a1), .val (.int (0 : Int32)), .val (.int (Int32.ofNat cs.length)), .val .null, .unset] [(.int (Int32.ofNat cs.length)), (.int (0 : Int32)), (.ref a1)])) (fun _ k => XS.iloadN X2.here hx rfl (hb hby d_jdk_42_method_149_code_35) rfl k) ?_
  refine goS X2 hx hZ hown (hw _ (List.mem_of_getElem? (i := 23) rfl)) (hw _ (List.mem_of_getElem? (i := 24) rfl)) (hw _ (List.mem_of_getElem? (i := 25) rfl)) (hw _ (List.mem_of_getElem? (i := 26) rfl)) (by decide) (C := 2) (S := 24) ((rm_cp l Z a0 hw a1 ka cs h0 V_a1 h8 hwd hbr Z_ad Z_hs Z_ls).bk (W := 0) hZ (hw _ (List.mem_of_getElem? (i := 26) rfl)) (hw _ (List.mem_of_getElem? (i := 25) rfl)) (by decide) (by decide)) e2 (argsL := [(.ref a1), (.int (0 : Int32)), (.int (Int32.ofNat cs.length))]) (rest := []) (by rw [hml]; rfl) (lenOf pd___CII__B rfl) rfl rfl (hb hby d_jdk_42_method_149_code_36) (Nat.le_of_eq rfl) (by decide) (by decide) ?_
  intro v3 T3 L3 X3 hQ3
  obtain ⟨h3, e3⟩ : ∃ z, T3.heap = z := ⟨_, rfl⟩
  rw [e3] at hQ3
  obtain ⟨Mc3, b3, k3, rfl, le3, V_b3⟩ := hQ3
  have ne_a0__b3 : a0_ ≠ b3 := Nat.ne_of_lt (Nat.lt_of_lt_of_le E_a0.lt le3)
  have ne_a1_b3 : a1 ≠ b3 := Nat.ne_of_lt (Nat.lt_of_lt_of_le V_a1.lt le3)
  have fr_b3 : h0.size ≤ b3 := Nat.le_trans M0.le le3
  have M3 := M0.app0 Mc3
  replace E_a0 := E_a0.keep Mc3.1
  replace F_value := F_value.keep Mc3.1 nin0
  replace F_coder := F_coder.keep Mc3.1 nin0
  replace V_a1 := V_a1.keep Mc3.1 nin0
  replace Z_ad := StaKeep Z_ad Mc3.1 all0
  replace Z_hs := StaKeep Z_hs Mc3.1 all0
  replace Z_ls := StaKeep Z_ls Mc3.1 all0
  replace Z_cs := StaKeep Z_cs Mc3.1 all0
  show Go p e below P T3 (mkF m 39 #[.val (.ref a0_), .val (.ref a1), .val (.int (0 : Int32)), .val (.int (Int32.ofNat cs.length)), .val .null, .unset] [(.ref b3)])
  refine Go.of (T' := T3) (f' := (mkF m 41 #[.val (.ref a0_), .val (.ref a1), .val (.int (0 : Int32)), .val (.int (Int32.ofNat cs.length)), .val .null, .val (.ref b3)] [])) (fun _ k => XS.astore X3.here hx rfl (hb hby d_jdk_42_method_149_code_39) rfl rfl (l' := #[.val (.ref a0_), .val (.ref a1), .val (.int (0 : Int32)), .val (.int (Int32.ofNat cs.length)), .val .null, .val (.ref b3)]) rfl k) ?_
  refine Go.of (T' := T3) (f' := (mkF m 42 #[.val (.ref a0_), .val (.ref a1), .val (.int (0 : Int32)), .val (.int (Int32.ofNat cs.length)), .val .null, .val (.ref b3)] [(.ref a0_)])) (fun _ k => XS.aloadN X3.here hx rfl (hb hby d_jdk_42_method_149_code_41) rfl rfl k) ?_
  refine Go.of (T' := T3) (f' := (mkF m 44 #[.val (.ref a0_), .val (.ref a1), .val (.int (0 : Int32)), .val (.int (Int32.ofNat cs.length)), .val .null, .val (.ref b3)] [(.ref b3), (.ref a0_)])) (fun _ k => XS.aload X3.here hx rfl (hb hby d_jdk_42_method_149_code_42) rfl rfl k) ?_
  refine Go.of (T' := T3) (f' := (mkF m 45 #[.val (.ref a0_), .val (.ref a1), .val (.int (0 : Int32)), .val (.int (Int32.ofNat cs.length)), .val .null, .val (.ref b3)] [(.int (Int32.ofNat cs.length)), (.ref b3), (.ref a0_)])) (fun _ k => XS.iloadN X3.here hx rfl (hb hby d_jdk_42_method_149_code_44) rfl k) ?_
  refine goS X3 hx hZ hown (hw _ (List.mem_of_getElem? (i := 31) rfl)) (hw _ (List.mem_of_getElem? (i := 32) rfl)) (hw _ (List.mem_of_getElem? (i := 25) rfl)) (hw _ (List.mem_of_getElem? (i := 33) rfl)) (by decide) (C := 0) (S := 0) ((rm_cfa l Z a0 hw b3 k3 cs.length _ h3 V_b3 (by omega) (by omega)).bk (W := 1) hZ (hw _ (List.mem_of_getElem? (i := 33) rfl)) (hw _ (List.mem_of_getElem? (i := 25) rfl)) (by decide) (by decide)) e3 (argsL := [(.ref b3), (.int (Int32.ofNat cs.length))]) (rest := [(.ref a0_)]) (by rw [hml]; rfl) (lenOf pd___BI_B rfl) rfl rfl (hb hby d_jdk_42_method_149_code_45) (Nat.le_of_eq rfl) (by decide) (by decide) ?_
  intro v4 T4 L4 X4 hQ4
  obtain ⟨nq4, e4, rfl⟩ := hQ4
  replace X4 := standNil X4 nq4
  show Go p e below P T4 (mkF m 48 #[.val (.ref a0_), .val (.ref a1), .val (.int (0 : Int32)), .val (.int (Int32.ofNat cs.length)), .val .null, .val (.ref b3)] [(.int (1 : Int32)), (.ref a0_)])
  obtain ⟨T5, h5, X5, e5, W5, st5⟩ := putF X4 hx hZ hown (host := "") (Or.inl (hw _ (List.mem_of_getElem? (i := 34) rfl))) Via.refl e4 F_coder E_a0 (Or.inr ⟨(hw _ (List.mem_of_getElem? (i := 35) rfl)), rfl, hnm⟩) (hw _ (List.mem_of_getElem? (i := 10) rfl)) (ty := .byte) (by decide) rfl rfl (g := (mkF m 48 #[.val (.ref a0_), .val (.ref a1), .val (.int (0 : Int32)), .val (.int (Int32.ofNat cs.length)), .val .null, .val (.ref b3)] [(.int (1 : Int32)), (.ref a0_)])) rfl rfl (hb hby d_jdk_42_method_149_code_48)
  have E_a0_o := E_a0
  have K5 := Keep.of_wr W5
  have M5 := M3.wr W5 (Or.inl (List.mem_of_getElem? (i := 0) rfl))
  replace F_value := F_value.other W5 (Or.inr (slot_ne (Or.inr (hw _ (List.mem_of_getElem? (i := 37) rfl))) (Or.inr (hw _ (List.mem_of_getElem? (i := 35) rfl))) (by decide) (t := (.array .byte)) (t' := .byte) (by decide) (by decide)))
  replace F_coder := F_coder.same W5
  replace E_a0 := E_a0.keep K5
  replace V_a1 := V_a1.keep K5 (ninS hne nin0)
  replace Z_ad := StaKeep Z_ad K5 (allS (staExa E_a0_o) all0)
  replace Z_hs := StaKeep Z_hs K5 (allS (staExa E_a0_o) all0)
  replace Z_ls := StaKeep Z_ls K5 (allS (staExa E_a0_o) all0)
  replace Z_cs := StaKeep Z_cs K5 (allS (staExa E_a0_o) all0)
  replace V_b3 := V_b3.keep K5 (ninS (Ne.symm ne_a0__b3) nin0)
  refine Go.of (T' := T5) (f' := (mkF m 51 #[.val (.ref a0_), .val (.ref a1), .val (.int (0 : Int32)), .val (.int (Int32.ofNat cs.length)), .val .null, .val (.ref b3)] [])) st5 ?_
  refine Go.of (T' := T5) (f' := (mkF m 52 #[.val (.ref a0_), .val (.ref a1), .val (.int (0 : Int32)), .val (.int (Int32.ofNat cs.length)), .val .null, .val (.ref b3)] [(.ref a0_)])) (fun _ k => XS.aloadN X5.here hx rfl (hb hby d_jdk_42_method_149_code_51) rfl rfl k) ?_
  refine Go.of (T' := T5) (f' := (mkF m 54 #[.val (.ref a0_), .val (.ref a1), .val (.int (0 : Int32)), .val (.int (Int32.ofNat cs.length)), .val .null, .val (.ref b3)] [(.ref b3), (.ref a0_)])) (fun _ k => XS.aload X5.here hx rfl (hb hby d_jdk_42_method_149_code_52) rfl rfl k) ?_
  obtain ⟨T6, h6, X6, e6, W6, st6⟩ := putF X5 hx hZ hown (host := "") (Or.inl (hw _ (List.mem_of_getElem? (i := 36) rfl))) Via.refl e5 F_value E_a0 (Or.inr ⟨(hw _ (List.mem_of_getElem? (i := 37) rfl)), rfl, hnm⟩) (hw _ (List.mem_of_getElem? (i := 10) rfl)) (ty := (.array .byte)) (by decide) rfl rfl (g := (mkF m 54 #[.val (.ref a0_), .val (.ref a1), .val (.int (0 : Int32)), .val (.int (Int32.ofNat cs.length)), .val .null, .val (.ref b3)] [(.ref b3), (.ref a0_)])) rfl rfl (hb hby d_jdk_42_method_149_code_54)
  have E_a0_o := E_a0
  have K6 := Keep.of_wr W6
  have M6 := M5.wr W6 (Or.inl (List.mem_of_getElem? (i := 0) rfl))
  replace F_value := F_value.same W6
  replace F_coder := F_coder.other W6 (Or.inr (slot_ne (Or.inr (hw _ (List.mem_of_getElem? (i := 35) rfl))) (Or.inr (hw _ (List.mem_of_getElem? (i := 37) rfl))) (by decide) (t := .byte) (t' := (.array .byte)) (by decide) (by decide)))
  replace E_a0 := E_a0.keep K6
  replace V_a1 := V_a1.keep K6 (ninS hne nin0)
  replace Z_ad := StaKeep Z_ad K6 (allS (staExa E_a0_o) all0)
  replace Z_hs := StaKeep Z_hs K6 (allS (staExa E_a0_o) all0)
  replace Z_ls := StaKeep Z_ls K6 (allS (staExa E_a0_o) all0)
  replace Z_cs := StaKeep Z_cs K6 (allS (staExa E_a0_o) all0)
  replace V_b3 := V_b3.keep K6 (ninS (Ne.symm ne_a0__b3) nin0)
  refine Go.of (T' := T6) (f' := (mkF m 57 #[.val (.ref a0_), .val (.ref a1), .val (.int (0 : Int32)), .val (.int (Int32.ofNat cs.length)), .val .null, .val (.ref b3)] [])) st6 ?_
  exact goRet0 (Q := fun v h L => v = none ∧ Mv h0 h [a0_] L ∧ ∃ t, h0.size ≤ t ∧ Str Z h a0_ t cs) X6 hx hret hlk (hb hby d_jdk_42_method_149_code_57) K (by decide) (by decide) e6 (⟨rfl, M6, b3, fr_b3, str16 rfl rfl (by omega) hbr hwd E_a0 F_value F_coder V_b3⟩)
theorem ef_rm_in (m : MethodId) (x0 : Addr) (x1 : Addr)  : entryFrame m #[(.ref x0), (.ref x1)] 2 = mkF m 0 #[.val (.ref x0), .val (.ref x1)] [] := by first | (simp [entryFrame, mkF, argsToLocals, Value.category]; done) | rfl
theorem d_jdk_42_method_3_code_0 : decode jdk_42_method_3_code 0 = .ok (.aload_n 0, 1) := by decide +kernel
theorem d_jdk_42_method_3_code_1 : decode jdk_42_method_3_code 1 = .ok (.aload_n 1, 1) := by decide +kernel
theorem d_jdk_42_method_3_code_2 : decode jdk_42_method_3_code 2 = .ok (.iconst 0, 1) := by decide +kernel
theorem d_jdk_42_method_3_code_3 : decode jdk_42_method_3_code 3 = .ok (.aload_n 1, 1) := by decide +kernel
theorem d_jdk_42_method_3_code_4 : decode jdk_42_method_3_code 4 = .ok (.arraylength, 1) := by decide +kernel
theorem d_jdk_42_method_3_code_5 : decode jdk_42_method_3_code 5 = .ok (.aconst_null, 1) := by decide +kernel
theorem d_jdk_42_method_3_code_6 : decode jdk_42_method_3_code 6 = .ok (.invokespecial 27, 3) := by decide +kernel
theorem pd___CIILjava_lang_Void__V : parseMethodDescriptor "([CIILjava/lang/Void;)V" = some ⟨[(.array .char), .int, .int, (.object "java/lang/Void")], none⟩ := by decide +kernel
theorem d_jdk_42_method_3_code_9 : decode jdk_42_method_3_code 9 = .ok (.return_, 1) := by decide +kernel
set_option maxRecDepth 65536 in
set_option maxHeartbeats 40000000 in
theorem rm_in (l : Launch) (Z : State) (a0 : Array Value) (hw : ∀ d ∈ tables_1, d.before a0 Z = true) (a0_ a1 : Addr) (ka : ClassId) (cs : List Int32) (zc : Int32) (h0 : Heap) (E_a0 : Exa Z h0 a0_ "java/lang/String") (F_value : Fld Z h0 a0_ "java/lang/String" "value" "[B" .null) (F_coder : Fld Z h0 a0_ "java/lang/String" "coder" "B" (.int (0 : Int32))) (V_a1 : Arv Z h0 a1 ka .char (Int32.ofNat cs.length) (cs.map Value.int) (.int (0 : Int32))) (h8 : cs.length ≤ 8) (h1 : 0 < cs.length) (hne : a1 ≠ a0_) (hwd : ∃ c ∈ cs, (255 : Int32) < c) (hbr : ∀ c ∈ cs, ¬ c < 0 ∧ ¬ (65535 : Int32) < c) (Z_ad : Sta Z h0 "java/lang/StringUTF16" "$assertionsDisabled" "Z" (.int (1 : Int32))) (Z_hs : Sta Z h0 "java/lang/StringUTF16" "HI_BYTE_SHIFT" "I" (.int (0 : Int32))) (Z_ls : Sta Z h0 "java/lang/StringUTF16" "LO_BYTE_SHIFT" "I" (.int (8 : Int32))) (Z_cs : Sta Z h0 "java/lang/String" "COMPACT_STRINGS" "Z" (.int zc)) (hz : ¬ zc = 0) :
    MeetsW l Z (⟨"java/lang/String", "<init>", "([C)V"⟩ : MethodName) jdk_42_method_3_code 2 none ({ frames := 5, cells := 2, slots := 24, locals := 74 } : Room) #[(.ref a0_), (.ref a1)] h0 (fun v h L => v = none ∧ Mv h0 h [a0_] L ∧ ∃ t, h0.size ≤ t ∧ Str Z h a0_ t cs) := by
  refine MeetsW.of (plainFor_of_name pn_java_lang_String) ?_
  intro p e s m below meth c s₁ P hx hby hml hZ hown hnm hret hlk X0 e0 K
  have M0 : Mv h0 h0 [a0_] [] := Mv.refl _ _
  refine Go.cast (ef_rm_in m a0_ a1 ) ?_
  refine Go.of (T' := s₁) (f' := (mkF m 1 #[.val (.ref a0_), .val (.ref a1)] [(.ref a0_)])) (fun _ k => XS.aloadN X0.here hx rfl (hb hby d_jdk_42_method_3_code_0) rfl rfl k) ?_
  refine Go.of (T' := s₁) (f' := (mkF m 2 #[.val (.ref a0_), .val (.ref a1)] [(.ref a1), (.ref a0_)])) (fun _ k => XS.aloadN X0.here hx rfl (hb hby d_jdk_42_method_3_code_1) rfl rfl k) ?_
  refine Go.of (T' := s₁) (f' := (mkF m 3 #[.val (.ref a0_), .val (.ref a1)] [(.int (0 : Int32)), (.ref a1), (.ref a0_)])) (fun _ k => XS.iconst X0.here hx rfl (hb hby d_jdk_42_method_3_code_2) k) ?_
  refine Go.of (T' := s₁) (f' := (mkF m 4 #[.val (.ref a0_), .val (.ref a1)] [(.ref a1), (.int (0 : Int32)), (.ref a1), (.ref a0_)])) (fun _ k => XS.aloadN X0.here hx rfl (hb hby d_jdk_42_method_3_code_3) rfl rfl k) ?_
  obtain ⟨cl1, Ar1, -, Sz1, Nn1, -, -⟩ := id V_a1
  refine Go.of (T' := s₁) (f' := (mkF m 5 #[.val (.ref a0_), .val (.ref a1)] [(.int (Int32.ofNat cs.length)), (.int (0 : Int32)), (.ref a1), (.ref a0_)])) (fun _ k => X0.arraylength hx (by rw [e0]; exact Ar1.1) (State.isArrayOf_alike hZ.alike Ar1.2.1) (g := (mkF m 4 #[.val (.ref a0_), .val (.ref a1)] [(.ref a1), (.int (0 : Int32)), (.ref a1), (.ref a0_)])) rfl rfl (hb hby d_jdk_42_method_3_code_4) _ (by rw [len_of Sz1 Nn1]; exact k)) ?_
  refine Go.of (T' := s₁) (f' := (mkF m 6 #[.val (.ref a0_), .val (.ref a1)] [.null, (.int (Int32.ofNat cs.length)), (.int (0 : Int32)), (.ref a1), (.ref a0_)])) (fun _ k => XS.aconstNull X0.here hx rfl (hb hby d_jdk_42_method_3_code_5) k) ?_
  refine goI X0 hx hZ rfl hown (hw _ (List.mem_of_getElem? (i := 15) rfl)) (hw _ (List.mem_of_getElem? (i := 16) rfl)) (hw _ (List.mem_of_getElem? (i := 18) rfl)) (by decide) (C := 2) (S := 24) ((rm_iv l Z a0 hw a0_ a1 ka cs zc h0 E_a0 F_value F_coder V_a1 h8 h1 hne hwd hbr Z_ad Z_hs Z_ls Z_cs hz).bk (W := 0) hZ (hw _ (List.mem_of_getElem? (i := 18) rfl)) (hw _ (List.mem_of_getElem? (i := 11) rfl)) (by decide) (by decide)) e0 (argsL := [(.ref a1), (.int (0 : Int32)), (.int (Int32.ofNat cs.length)), .null]) (rest := []) (by rw [hml]; rfl) (lenOf pd___CIILjava_lang_Void__V rfl) rfl rfl (hb hby d_jdk_42_method_3_code_6) (Nat.le_of_eq rfl) (by decide) (by decide) ?_
  intro v2 T2 L2 X2 hQ2
  obtain ⟨h2, e2⟩ : ∃ z, T2.heap = z := ⟨_, rfl⟩
  rw [e2] at hQ2
  have E_a0_o := E_a0
  obtain ⟨rfl, Mc2, t2, le2, S2⟩ := hQ2
  have ne_a0__t2 : a0_ ≠ t2 := Nat.ne_of_lt (Nat.lt_of_lt_of_le E_a0.lt le2)
  have ne_a1_t2 : a1 ≠ t2 := Nat.ne_of_lt (Nat.lt_of_lt_of_le V_a1.lt le2)
  have fr_t2 : h0.size ≤ t2 := Nat.le_trans M0.le le2
  have M2 := M0.app Mc2 (allS (Or.inl (List.mem_of_getElem? (i := 0) rfl)) all0)
  replace E_a0 := E_a0.keep Mc2.1
  replace V_a1 := V_a1.keep Mc2.1 (ninS hne nin0)
  replace Z_ad := StaKeep Z_ad Mc2.1 (allS (staExa E_a0_o) all0)
  replace Z_hs := StaKeep Z_hs Mc2.1 (allS (staExa E_a0_o) all0)
  replace Z_ls := StaKeep Z_ls Mc2.1 (allS (staExa E_a0_o) all0)
  replace Z_cs := StaKeep Z_cs Mc2.1 (allS (staExa E_a0_o) all0)
  have S_a0_ := S2
  show Go p e below P T2 (mkF m 9 #[.val (.ref a0_), .val (.ref a1)] [])
  exact goRet0 (Q := fun v h L => v = none ∧ Mv h0 h [a0_] L ∧ ∃ t, h0.size ≤ t ∧ Str Z h a0_ t cs) X2 hx hret hlk (hb hby d_jdk_42_method_3_code_9) K (by decide) (by decide) e2 (⟨rfl, M2, t2, fr_t2, S_a0_⟩)
theorem ef_rm_law (m : MethodId) (x0 : Int32) (x1 : Int32) (x2 : Int32) (x3 : Int32) (x4 : Int32)  : entryFrame m #[(.int x0), (.int x1), (.int x2), (.int x3), (.int x4)] maxLocals = mkF m 0 #[.val (.int x0), .val (.int x1), .val (.int x2), .val (.int x3), .val (.int x4), .unset, .unset, .unset, .unset, .unset, .unset, .unset, .unset, .unset, .unset] [] := by first | (simp [entryFrame, mkF, argsToLocals, Value.category, maxLocals]; done) | rfl
theorem pd___CIIZ_I : parseMethodDescriptor "([CIIZ)I" = some ⟨[(.array .char), .int, .int, .boolean], some .int⟩ := by decide +kernel
theorem hw_words {Z : State} {a0 : Array Value} (hw : ∀ d ∈ tables_1, d.before a0 Z = true) : ∀ d ∈ StrChars.Road.words, d.before a0 Z = true := fun d hd => hw d ((by decide +kernel : ∀ d ∈ StrChars.Road.words, d ∈ tables_1) d hd)
theorem pd___C_V : parseMethodDescriptor "([C)V" = some ⟨[(.array .char)], none⟩ := by decide +kernel
theorem pd__Ljava_lang_String__Ljava_lang_String_ : parseMethodDescriptor "(Ljava/lang/String;)Ljava/lang/String;" = some ⟨[(.object "java/lang/String")], some (.object "java/lang/String")⟩ := by decide +kernel
set_option maxRecDepth 65536 in
set_option maxHeartbeats 40000000 in
theorem rm_law (l : Launch) (Z : State) (a0 : Array Value) (hw : ∀ d ∈ tables_1, d.before a0 Z = true) (p1 p2 p3 p4 p5 zc : Int32) (fm : Value) (h0 : Heap) (Z_ad : Sta Z h0 "java/lang/StringUTF16" "$assertionsDisabled" "Z" (.int (1 : Int32))) (Z_hs : Sta Z h0 "java/lang/StringUTF16" "HI_BYTE_SHIFT" "I" (.int (0 : Int32))) (Z_ls : Sta Z h0 "java/lang/StringUTF16" "LO_BYTE_SHIFT" "I" (.int (8 : Int32))) (Z_fm : Sta Z h0 "jdk/internal/util/Preconditions" "SIOOBE_FORMATTER" "Ljava/util/function/BiFunction;" fm) (hfm : fm.isRef = true) (Z_cs : Sta Z h0 "java/lang/String" "COMPACT_STRINGS" "Z" (.int zc)) (hz : ¬ zc = 0) :
    MeetsH l Z consts_1 x code maxLocals ret room_1 #[(.int p1), (.int p2), (.int p3), (.int p4), (.int p5)] h0 (fun v h L => v = some (.int 1) ∧ Mv h0 h [] L) := by
  refine MeetsH.of (plainFor_of_name pn_com_example_dozor_dozor_NamesRequireLockOwnerPinLaw) ?_
  intro p e s m below meth c s₁ P hx hby hml hZ hown hnm hret hlk X0 e0 hS RH K
  have hk : h0.size ≤ h0.size := Nat.le_refl _
  replace hZ : Z.Warmed39 (s.setVm s.vm).vm := hZ
  replace hown : (s.setVm s.vm).vm.findClass "com/example/dozor/dozor/NamesRequireLockOwnerPinLaw" = some m.cls := hown
  have M0 : Mv h0 h0 [] [] := Mv.refl _ _
  refine Go.cast (ef_rm_law m p1 p2 p3 p4 p5 ) ?_
  refine Go.of (T' := s₁) (f' := (mkF m 2 #[.val (.int p1), .val (.int p2), .val (.int p3), .val (.int p4), .val (.int p5), .unset, .unset, .unset, .unset, .unset, .unset, .unset, .unset, .unset, .unset] [(.int p5)])) (fun _ k => XS.iload X0.here hx rfl (hb hby at_0) rfl k) ?_
  refine Go.of (T' := s₁) (f' := (mkF m 3 #[.val (.int p1), .val (.int p2), .val (.int p3), .val (.int p4), .val (.int p5), .unset, .unset, .unset, .unset, .unset, .unset, .unset, .unset, .unset, .unset] [(.int (3 : Int32)), (.int p5)])) (fun _ k => XS.iconst X0.here hx rfl (hb hby at_2) k) ?_
  refine Go.of (T' := s₁) (f' := (mkF m 4 #[.val (.int p1), .val (.int p2), .val (.int p3), .val (.int p4), .val (.int p5), .unset, .unset, .unset, .unset, .unset, .unset, .unset, .unset, .unset, .unset] [(.int (p5 &&& (3 : Int32)))])) (fun _ k => XS.iand X0.here hx rfl (hb hby at_3) rfl k) ?_
  refine Go.of (T' := s₁) (f' := (mkF m 5 #[.val (.int p1), .val (.int p2), .val (.int p3), .val (.int p4), .val (.int p5), .unset, .unset, .unset, .unset, .unset, .unset, .unset, .unset, .unset, .unset] [(.int (1 : Int32)), (.int (p5 &&& (3 : Int32)))])) (fun _ k => XS.iconst X0.here hx rfl (hb hby at_4) k) ?_
  refine Go.of (T' := s₁) (f' := (mkF m 6 #[.val (.int p1), .val (.int p2), .val (.int p3), .val (.int p4), .val (.int p5), .unset, .unset, .unset, .unset, .unset, .unset, .unset, .unset, .unset, .unset] [(.int ((p5 &&& (3 : Int32)) + (1 : Int32)))])) (fun _ k => XS.iadd X0.here hx rfl (hb hby at_5) rfl k) ?_
  refine Go.of (T' := s₁) (f' := (mkF m 8 #[.val (.int p1), .val (.int p2), .val (.int p3), .val (.int p4), .val (.int p5), .val (.int ((p5 &&& (3 : Int32)) + (1 : Int32))), .unset, .unset, .unset, .unset, .unset, .unset, .unset, .unset, .unset] [])) (fun _ k => XS.istore X0.here hx rfl (hb hby at_6) rfl (l' := #[.val (.int p1), .val (.int p2), .val (.int p3), .val (.int p4), .val (.int p5), .val (.int ((p5 &&& (3 : Int32)) + (1 : Int32))), .unset, .unset, .unset, .unset, .unset, .unset, .unset, .unset, .unset]) rfl k) ?_
  generalize hKe : ((p5 &&& (3 : Int32)) + (1 : Int32)) = KK
  show Go p e below P s₁ (mkF m 8 #[.val (.int p1), .val (.int p2), .val (.int p3), .val (.int p4), .val (.int p5), .val (.int KK), .unset, .unset, .unset, .unset, .unset, .unset, .unset, .unset, .unset] [])
  refine Go.of (T' := s₁) (f' := (mkF m 10 #[.val (.int p1), .val (.int p2), .val (.int p3), .val (.int p4), .val (.int p5), .val (.int KK), .unset, .unset, .unset, .unset, .unset, .unset, .unset, .unset, .unset] [(.int p5)])) (fun _ k => XS.iload X0.here hx rfl (hb hby at_8) rfl k) ?_
  refine Go.of (T' := s₁) (f' := (mkF m 11 #[.val (.int p1), .val (.int p2), .val (.int p3), .val (.int p4), .val (.int p5), .val (.int KK), .unset, .unset, .unset, .unset, .unset, .unset, .unset, .unset, .unset] [(.int (2 : Int32)), (.int p5)])) (fun _ k => XS.iconst X0.here hx rfl (hb hby at_10) k) ?_
  refine Go.of (T' := s₁) (f' := (mkF m 12 #[.val (.int p1), .val (.int p2), .val (.int p3), .val (.int p4), .val (.int p5), .val (.int KK), .unset, .unset, .unset, .unset, .unset, .unset, .unset, .unset, .unset] [(.int ((p5.toUInt32 >>> ((2 : Int32) &&& 31).toUInt32).toInt32))])) (fun _ k => XS.iushr X0.here hx rfl (hb hby at_11) rfl k) ?_
  refine Go.of (T' := s₁) (f' := (mkF m 13 #[.val (.int p1), .val (.int p2), .val (.int p3), .val (.int p4), .val (.int p5), .val (.int KK), .unset, .unset, .unset, .unset, .unset, .unset, .unset, .unset, .unset] [(.int (1 : Int32)), (.int ((p5.toUInt32 >>> ((2 : Int32) &&& 31).toUInt32).toInt32))])) (fun _ k => XS.iconst X0.here hx rfl (hb hby at_12) k) ?_
  refine Go.of (T' := s₁) (f' := (mkF m 14 #[.val (.int p1), .val (.int p2), .val (.int p3), .val (.int p4), .val (.int p5), .val (.int KK), .unset, .unset, .unset, .unset, .unset, .unset, .unset, .unset, .unset] [(.int (((p5.toUInt32 >>> ((2 : Int32) &&& 31).toUInt32).toInt32) &&& (1 : Int32)))])) (fun _ k => XS.iand X0.here hx rfl (hb hby at_13) rfl k) ?_
  have J1 : ∀ (f1 : Int32), Go p e below P s₁ (mkF m 22 #[.val (.int p1), .val (.int p2), .val (.int p3), .val (.int p4), .val (.int p5), .val (.int KK), .unset, .unset, .unset, .unset, .unset, .unset, .unset, .unset, .unset] [(.int f1)]) := by
    intro f1 
    refine Go.of (T' := s₁) (f' := (mkF m 24 #[.val (.int p1), .val (.int p2), .val (.int p3), .val (.int p4), .val (.int p5), .val (.int KK), .val (.int f1), .unset, .unset, .unset, .unset, .unset, .unset, .unset, .unset] [])) (fun _ k => XS.istore X0.here hx rfl (hb hby at_22) rfl (l' := #[.val (.int p1), .val (.int p2), .val (.int p3), .val (.int p4), .val (.int p5), .val (.int KK), .val (.int f1), .unset, .unset, .unset, .unset, .unset, .unset, .unset, .unset]) rfl k) ?_
    refine Go.of (T' := s₁) (f' := (mkF m 26 #[.val (.int p1), .val (.int p2), .val (.int p3), .val (.int p4), .val (.int p5), .val (.int KK), .val (.int f1), .unset, .unset, .unset, .unset, .unset, .unset, .unset, .unset] [(.int p5)])) (fun _ k => XS.iload X0.here hx rfl (hb hby at_24) rfl k) ?_
    refine Go.of (T' := s₁) (f' := (mkF m 27 #[.val (.int p1), .val (.int p2), .val (.int p3), .val (.int p4), .val (.int p5), .val (.int KK), .val (.int f1), .unset, .unset, .unset, .unset, .unset, .unset, .unset, .unset] [(.int (3 : Int32)), (.int p5)])) (fun _ k => XS.iconst X0.here hx rfl (hb hby at_26) k) ?_
    refine Go.of (T' := s₁) (f' := (mkF m 28 #[.val (.int p1), .val (.int p2), .val (.int p3), .val (.int p4), .val (.int p5), .val (.int KK), .val (.int f1), .unset, .unset, .unset, .unset, .unset, .unset, .unset, .unset] [(.int ((p5.toUInt32 >>> ((3 : Int32) &&& 31).toUInt32).toInt32))])) (fun _ k => XS.iushr X0.here hx rfl (hb hby at_27) rfl k) ?_
    refine Go.of (T' := s₁) (f' := (mkF m 29 #[.val (.int p1), .val (.int p2), .val (.int p3), .val (.int p4), .val (.int p5), .val (.int KK), .val (.int f1), .unset, .unset, .unset, .unset, .unset, .unset, .unset, .unset] [(.int (1 : Int32)), (.int ((p5.toUInt32 >>> ((3 : Int32) &&& 31).toUInt32).toInt32))])) (fun _ k => XS.iconst X0.here hx rfl (hb hby at_28) k) ?_
    refine Go.of (T' := s₁) (f' := (mkF m 30 #[.val (.int p1), .val (.int p2), .val (.int p3), .val (.int p4), .val (.int p5), .val (.int KK), .val (.int f1), .unset, .unset, .unset, .unset, .unset, .unset, .unset, .unset] [(.int (((p5.toUInt32 >>> ((3 : Int32) &&& 31).toUInt32).toInt32) &&& (1 : Int32)))])) (fun _ k => XS.iand X0.here hx rfl (hb hby at_29) rfl k) ?_
    have J2 : ∀ (f2 : Int32), Go p e below P s₁ (mkF m 38 #[.val (.int p1), .val (.int p2), .val (.int p3), .val (.int p4), .val (.int p5), .val (.int KK), .val (.int f1), .unset, .unset, .unset, .unset, .unset, .unset, .unset, .unset] [(.int f2)]) := by
      intro f2 
      refine Go.of (T' := s₁) (f' := (mkF m 40 #[.val (.int p1), .val (.int p2), .val (.int p3), .val (.int p4), .val (.int p5), .val (.int KK), .val (.int f1), .val (.int f2), .unset, .unset, .unset, .unset, .unset, .unset, .unset] [])) (fun _ k => XS.istore X0.here hx rfl (hb hby at_38) rfl (l' := #[.val (.int p1), .val (.int p2), .val (.int p3), .val (.int p4), .val (.int p5), .val (.int KK), .val (.int f1), .val (.int f2), .unset, .unset, .unset, .unset, .unset, .unset, .unset]) rfl k) ?_
      refine Go.of (T' := s₁) (f' := (mkF m 42 #[.val (.int p1), .val (.int p2), .val (.int p3), .val (.int p4), .val (.int p5), .val (.int KK), .val (.int f1), .val (.int f2), .unset, .unset, .unset, .unset, .unset, .unset, .unset] [(.int p5)])) (fun _ k => XS.iload X0.here hx rfl (hb hby at_40) rfl k) ?_
      refine Go.of (T' := s₁) (f' := (mkF m 43 #[.val (.int p1), .val (.int p2), .val (.int p3), .val (.int p4), .val (.int p5), .val (.int KK), .val (.int f1), .val (.int f2), .unset, .unset, .unset, .unset, .unset, .unset, .unset] [(.int (4 : Int32)), (.int p5)])) (fun _ k => XS.iconst X0.here hx rfl (hb hby at_42) k) ?_
      refine Go.of (T' := s₁) (f' := (mkF m 44 #[.val (.int p1), .val (.int p2), .val (.int p3), .val (.int p4), .val (.int p5), .val (.int KK), .val (.int f1), .val (.int f2), .unset, .unset, .unset, .unset, .unset, .unset, .unset] [(.int ((p5.toUInt32 >>> ((4 : Int32) &&& 31).toUInt32).toInt32))])) (fun _ k => XS.iushr X0.here hx rfl (hb hby at_43) rfl k) ?_
      refine Go.of (T' := s₁) (f' := (mkF m 45 #[.val (.int p1), .val (.int p2), .val (.int p3), .val (.int p4), .val (.int p5), .val (.int KK), .val (.int f1), .val (.int f2), .unset, .unset, .unset, .unset, .unset, .unset, .unset] [(.int (1 : Int32)), (.int ((p5.toUInt32 >>> ((4 : Int32) &&& 31).toUInt32).toInt32))])) (fun _ k => XS.iconst X0.here hx rfl (hb hby at_44) k) ?_
      refine Go.of (T' := s₁) (f' := (mkF m 46 #[.val (.int p1), .val (.int p2), .val (.int p3), .val (.int p4), .val (.int p5), .val (.int KK), .val (.int f1), .val (.int f2), .unset, .unset, .unset, .unset, .unset, .unset, .unset] [(.int (((p5.toUInt32 >>> ((4 : Int32) &&& 31).toUInt32).toInt32) &&& (1 : Int32)))])) (fun _ k => XS.iand X0.here hx rfl (hb hby at_45) rfl k) ?_
      have J3 : ∀ (f3 : Int32), Go p e below P s₁ (mkF m 54 #[.val (.int p1), .val (.int p2), .val (.int p3), .val (.int p4), .val (.int p5), .val (.int KK), .val (.int f1), .val (.int f2), .unset, .unset, .unset, .unset, .unset, .unset, .unset] [(.int f3)]) := by
        intro f3 
        refine Go.of (T' := s₁) (f' := (mkF m 56 #[.val (.int p1), .val (.int p2), .val (.int p3), .val (.int p4), .val (.int p5), .val (.int KK), .val (.int f1), .val (.int f2), .val (.int f3), .unset, .unset, .unset, .unset, .unset, .unset] [])) (fun _ k => XS.istore X0.here hx rfl (hb hby at_54) rfl (l' := #[.val (.int p1), .val (.int p2), .val (.int p3), .val (.int p4), .val (.int p5), .val (.int KK), .val (.int f1), .val (.int f2), .val (.int f3), .unset, .unset, .unset, .unset, .unset, .unset]) rfl k) ?_
        refine Go.of (T' := s₁) (f' := (mkF m 58 #[.val (.int p1), .val (.int p2), .val (.int p3), .val (.int p4), .val (.int p5), .val (.int KK), .val (.int f1), .val (.int f2), .val (.int f3), .unset, .unset, .unset, .unset, .unset, .unset] [(.int p5)])) (fun _ k => XS.iload X0.here hx rfl (hb hby at_56) rfl k) ?_
        refine Go.of (T' := s₁) (f' := (mkF m 59 #[.val (.int p1), .val (.int p2), .val (.int p3), .val (.int p4), .val (.int p5), .val (.int KK), .val (.int f1), .val (.int f2), .val (.int f3), .unset, .unset, .unset, .unset, .unset, .unset] [(.int (5 : Int32)), (.int p5)])) (fun _ k => XS.iconst X0.here hx rfl (hb hby at_58) k) ?_
        refine Go.of (T' := s₁) (f' := (mkF m 60 #[.val (.int p1), .val (.int p2), .val (.int p3), .val (.int p4), .val (.int p5), .val (.int KK), .val (.int f1), .val (.int f2), .val (.int f3), .unset, .unset, .unset, .unset, .unset, .unset] [(.int ((p5.toUInt32 >>> ((5 : Int32) &&& 31).toUInt32).toInt32))])) (fun _ k => XS.iushr X0.here hx rfl (hb hby at_59) rfl k) ?_
        refine Go.of (T' := s₁) (f' := (mkF m 61 #[.val (.int p1), .val (.int p2), .val (.int p3), .val (.int p4), .val (.int p5), .val (.int KK), .val (.int f1), .val (.int f2), .val (.int f3), .unset, .unset, .unset, .unset, .unset, .unset] [(.int (1 : Int32)), (.int ((p5.toUInt32 >>> ((5 : Int32) &&& 31).toUInt32).toInt32))])) (fun _ k => XS.iconst X0.here hx rfl (hb hby at_60) k) ?_
        refine Go.of (T' := s₁) (f' := (mkF m 62 #[.val (.int p1), .val (.int p2), .val (.int p3), .val (.int p4), .val (.int p5), .val (.int KK), .val (.int f1), .val (.int f2), .val (.int f3), .unset, .unset, .unset, .unset, .unset, .unset] [(.int (((p5.toUInt32 >>> ((5 : Int32) &&& 31).toUInt32).toInt32) &&& (1 : Int32)))])) (fun _ k => XS.iand X0.here hx rfl (hb hby at_61) rfl k) ?_
        have J4 : ∀ (f4 : Int32), Go p e below P s₁ (mkF m 70 #[.val (.int p1), .val (.int p2), .val (.int p3), .val (.int p4), .val (.int p5), .val (.int KK), .val (.int f1), .val (.int f2), .val (.int f3), .unset, .unset, .unset, .unset, .unset, .unset] [(.int f4)]) := by
          intro f4 
          refine Go.of (T' := s₁) (f' := (mkF m 72 #[.val (.int p1), .val (.int p2), .val (.int p3), .val (.int p4), .val (.int p5), .val (.int KK), .val (.int f1), .val (.int f2), .val (.int f3), .val (.int f4), .unset, .unset, .unset, .unset, .unset] [])) (fun _ k => XS.istore X0.here hx rfl (hb hby at_70) rfl (l' := #[.val (.int p1), .val (.int p2), .val (.int p3), .val (.int p4), .val (.int p5), .val (.int KK), .val (.int f1), .val (.int f2), .val (.int f3), .val (.int f4), .unset, .unset, .unset, .unset, .unset]) rfl k) ?_
          refine Go.of (T' := s₁) (f' := (mkF m 74 #[.val (.int p1), .val (.int p2), .val (.int p3), .val (.int p4), .val (.int p5), .val (.int KK), .val (.int f1), .val (.int f2), .val (.int f3), .val (.int f4), .unset, .unset, .unset, .unset, .unset] [(.int f1)])) (fun _ k => XS.iload X0.here hx rfl (hb hby at_72) rfl k) ?_
          have J5 : Go p e below P s₁ (mkF m 82 #[.val (.int p1), .val (.int p2), .val (.int p3), .val (.int p4), .val (.int p5), .val (.int KK), .val (.int f1), .val (.int f2), .val (.int f3), .val (.int f4), .unset, .unset, .unset, .unset, .unset] [(.int (Int32.ofNat (wt f1)))]) := by
            refine Go.of (T' := s₁) (f' := (mkF m 84 #[.val (.int p1), .val (.int p2), .val (.int p3), .val (.int p4), .val (.int p5), .val (.int KK), .val (.int f1), .val (.int f2), .val (.int f3), .val (.int f4), .val (.int (Int32.ofNat (wt f1))), .unset, .unset, .unset, .unset] [])) (fun _ k => XS.istore X0.here hx rfl (hb hby at_82) rfl (l' := #[.val (.int p1), .val (.int p2), .val (.int p3), .val (.int p4), .val (.int p5), .val (.int KK), .val (.int f1), .val (.int f2), .val (.int f3), .val (.int f4), .val (.int (Int32.ofNat (wt f1))), .unset, .unset, .unset, .unset]) rfl k) ?_
            refine Go.of (T' := s₁) (f' := (mkF m 86 #[.val (.int p1), .val (.int p2), .val (.int p3), .val (.int p4), .val (.int p5), .val (.int KK), .val (.int f1), .val (.int f2), .val (.int f3), .val (.int f4), .val (.int (Int32.ofNat (wt f1))), .unset, .unset, .unset, .unset] [(.int KK)])) (fun _ k => XS.iload X0.here hx rfl (hb hby at_84) rfl k) ?_
            refine Go.of (T' := s₁) (f' := (mkF m 87 #[.val (.int p1), .val (.int p2), .val (.int p3), .val (.int p4), .val (.int p5), .val (.int KK), .val (.int f1), .val (.int f2), .val (.int f3), .val (.int f4), .val (.int (Int32.ofNat (wt f1))), .unset, .unset, .unset, .unset] [(.int (1 : Int32)), (.int KK)])) (fun _ k => XS.iconst X0.here hx rfl (hb hby at_86) k) ?_
            have J6 : Go p e below P s₁ (mkF m 105 #[.val (.int p1), .val (.int p2), .val (.int p3), .val (.int p4), .val (.int p5), .val (.int KK), .val (.int f1), .val (.int f2), .val (.int f3), .val (.int f4), .val (.int (Int32.ofNat (wt f1 + wk 1 KK f2))), .unset, .unset, .unset, .unset] []) := by
              refine Go.of (T' := s₁) (f' := (mkF m 107 #[.val (.int p1), .val (.int p2), .val (.int p3), .val (.int p4), .val (.int p5), .val (.int KK), .val (.int f1), .val (.int f2), .val (.int f3), .val (.int f4), .val (.int (Int32.ofNat (wt f1 + wk 1 KK f2))), .unset, .unset, .unset, .unset] [(.int KK)])) (fun _ k => XS.iload X0.here hx rfl (hb hby at_105) rfl k) ?_
              refine Go.of (T' := s₁) (f' := (mkF m 108 #[.val (.int p1), .val (.int p2), .val (.int p3), .val (.int p4), .val (.int p5), .val (.int KK), .val (.int f1), .val (.int f2), .val (.int f3), .val (.int f4), .val (.int (Int32.ofNat (wt f1 + wk 1 KK f2))), .unset, .unset, .unset, .unset] [(.int (2 : Int32)), (.int KK)])) (fun _ k => XS.iconst X0.here hx rfl (hb hby at_107) k) ?_
              have J7 : Go p e below P s₁ (mkF m 126 #[.val (.int p1), .val (.int p2), .val (.int p3), .val (.int p4), .val (.int p5), .val (.int KK), .val (.int f1), .val (.int f2), .val (.int f3), .val (.int f4), .val (.int (Int32.ofNat (wt f1 + wk 1 KK f2 + wk 2 KK f3))), .unset, .unset, .unset, .unset] []) := by
                refine Go.of (T' := s₁) (f' := (mkF m 128 #[.val (.int p1), .val (.int p2), .val (.int p3), .val (.int p4), .val (.int p5), .val (.int KK), .val (.int f1), .val (.int f2), .val (.int f3), .val (.int f4), .val (.int (Int32.ofNat (wt f1 + wk 1 KK f2 + wk 2 KK f3))), .unset, .unset, .unset, .unset] [(.int KK)])) (fun _ k => XS.iload X0.here hx rfl (hb hby at_126) rfl k) ?_
                refine Go.of (T' := s₁) (f' := (mkF m 129 #[.val (.int p1), .val (.int p2), .val (.int p3), .val (.int p4), .val (.int p5), .val (.int KK), .val (.int f1), .val (.int f2), .val (.int f3), .val (.int f4), .val (.int (Int32.ofNat (wt f1 + wk 1 KK f2 + wk 2 KK f3))), .unset, .unset, .unset, .unset] [(.int (3 : Int32)), (.int KK)])) (fun _ k => XS.iconst X0.here hx rfl (hb hby at_128) k) ?_
                have J8 : Go p e below P s₁ (mkF m 147 #[.val (.int p1), .val (.int p2), .val (.int p3), .val (.int p4), .val (.int p5), .val (.int KK), .val (.int f1), .val (.int f2), .val (.int f3), .val (.int f4), .val (.int (Int32.ofNat (wt f1 + wk 1 KK f2 + wk 2 KK f3 + wk 3 KK f4))), .unset, .unset, .unset, .unset] []) := by
                  obtain ⟨M, hM⟩ : ∃ M, M = wt f1 + wk 1 KK f2 + wk 2 KK f3 + wk 3 KK f4 := ⟨_, rfl⟩
                  rw [← hM]
                  have hw1 := wt_le f1
                  have hw2 := wk_le 1 KK f2
                  have hw3 := wk_le 2 KK f3
                  have hw4 := wk_le 3 KK f4
                  show Go p e below P s₁ (mkF m 147 #[.val (.int p1), .val (.int p2), .val (.int p3), .val (.int p4), .val (.int p5), .val (.int KK), .val (.int f1), .val (.int f2), .val (.int f3), .val (.int f4), .val (.int (Int32.ofNat M)), .unset, .unset, .unset, .unset] [])
                  refine Go.of (T' := s₁) (f' := (mkF m 149 #[.val (.int p1), .val (.int p2), .val (.int p3), .val (.int p4), .val (.int p5), .val (.int KK), .val (.int f1), .val (.int f2), .val (.int f3), .val (.int f4), .val (.int (Int32.ofNat M)), .unset, .unset, .unset, .unset] [(.int (Int32.ofNat M))])) (fun _ k => XS.iload X0.here hx rfl (hb hby at_147) rfl k) ?_
                  obtain ⟨T9, h9, k9, X9, e9, E9, A9, st9⟩ := newP X0 hx hZ (hw _ (List.mem_of_getElem? (i := 0) rfl)) e0 (g := (mkF m 149 #[.val (.int p1), .val (.int p2), .val (.int p3), .val (.int p4), .val (.int p5), .val (.int KK), .val (.int f1), .val (.int f2), .val (.int f3), .val (.int f4), .val (.int (Int32.ofNat M)), .unset, .unset, .unset, .unset] [(.int (Int32.ofNat M))])) rfl (hb hby at_149) rfl (nneg (by omega)) (cap := 8) (by rw [nat32 (by omega)]; omega) (by decide) (by decide) (by decide)
                  obtain ⟨b9, g9⟩ : ∃ z, z = h0.size := ⟨_, rfl⟩
                  rw [← g9] at A9 st9
                  have fr_b9 : h0.size ≤ b9 := Nat.le_trans M0.le (Nat.le_of_eq g9.symm)
                  have Sf_b9 := Safe.new (Z := Z) (EL := consts_1) (vm := s.vm) (Nat.le_of_eq g9.symm)
                  have K9 := keepE E9
                  have M9 := M0.ext E9
                  replace hk := Nat.le_trans hk (K9).1
                  have hs10 := CHr.keep (K9) sf0 RH.1
                  replace Sf_b9 := Safe.keep (K9) sf0 RH.1 Sf_b9
                  replace RH := RH.trans hs10
                  replace Z_ad := StaKeep Z_ad K9 all0
                  replace Z_hs := StaKeep Z_hs K9 all0
                  replace Z_ls := StaKeep Z_ls K9 all0
                  replace Z_fm := StaKeep Z_fm K9 all0
                  replace Z_cs := StaKeep Z_cs K9 all0
                  have V_b9 : Arv Z h9 b9 k9 .char (Int32.ofNat M) [] (.int (0 : Int32)) := Arv.new A9 (nneg (by omega))
                  refine Go.of (T' := T9) (f' := (mkF m 151 #[.val (.int p1), .val (.int p2), .val (.int p3), .val (.int p4), .val (.int p5), .val (.int KK), .val (.int f1), .val (.int f2), .val (.int f3), .val (.int f4), .val (.int (Int32.ofNat M)), .unset, .unset, .unset, .unset] [(.ref b9)])) st9 ?_
                  refine Go.of (T' := T9) (f' := (mkF m 153 #[.val (.int p1), .val (.int p2), .val (.int p3), .val (.int p4), .val (.int p5), .val (.int KK), .val (.int f1), .val (.int f2), .val (.int f3), .val (.int f4), .val (.int (Int32.ofNat M)), .val (.ref b9), .unset, .unset, .unset] [])) (fun _ k => XS.astore X9.here hx rfl (hb hby at_151) rfl rfl (l' := #[.val (.int p1), .val (.int p2), .val (.int p3), .val (.int p4), .val (.int p5), .val (.int KK), .val (.int f1), .val (.int f2), .val (.int f3), .val (.int f4), .val (.int (Int32.ofNat M)), .val (.ref b9), .unset, .unset, .unset]) rfl k) ?_
                  refine Go.of (T' := T9) (f' := (mkF m 155 #[.val (.int p1), .val (.int p2), .val (.int p3), .val (.int p4), .val (.int p5), .val (.int KK), .val (.int f1), .val (.int f2), .val (.int f3), .val (.int f4), .val (.int (Int32.ofNat M)), .val (.ref b9), .unset, .unset, .unset] [(.ref b9)])) (fun _ k => XS.aload X9.here hx rfl (hb hby at_153) rfl rfl k) ?_
                  refine Go.of (T' := T9) (f' := (mkF m 156 #[.val (.int p1), .val (.int p2), .val (.int p3), .val (.int p4), .val (.int p5), .val (.int KK), .val (.int f1), .val (.int f2), .val (.int f3), .val (.int f4), .val (.int (Int32.ofNat M)), .val (.ref b9), .unset, .unset, .unset] [(.int (0 : Int32)), (.ref b9)])) (fun _ k => XS.iconst X9.here hx rfl (hb hby at_155) k) ?_
                  refine Go.of (T' := T9) (f' := (mkF m 157 #[.val (.int p1), .val (.int p2), .val (.int p3), .val (.int p4), .val (.int p5), .val (.int KK), .val (.int f1), .val (.int f2), .val (.int f3), .val (.int f4), .val (.int (Int32.ofNat M)), .val (.ref b9), .unset, .unset, .unset] [(.int p1), (.int (0 : Int32)), (.ref b9)])) (fun _ k => XS.iloadN X9.here hx rfl (hb hby at_156) rfl k) ?_
                  refine Go.of (T' := T9) (f' := (mkF m 159 #[.val (.int p1), .val (.int p2), .val (.int p3), .val (.int p4), .val (.int p5), .val (.int KK), .val (.int f1), .val (.int f2), .val (.int f3), .val (.int f4), .val (.int (Int32.ofNat M)), .val (.ref b9), .unset, .unset, .unset] [(.int f1), (.int p1), (.int (0 : Int32)), (.ref b9)])) (fun _ k => XS.iload X9.here hx rfl (hb hby at_157) rfl k) ?_
                  show Go p e below P T9 (mkF m 159 #[.val (.int p1), .val (.int p2), .val (.int p3), .val (.int p4), .val (.int p5), .val (.int KK), .val (.int f1), .val (.int f2), .val (.int f3), .val (.int f4), .val (.int (Int32.ofNat M)), .val (.ref b9), .unset, .unset, .unset] [(.int f1), (.int p1), (.int (Int32.ofNat ([] : List Int32).length)), (.ref b9)])
                  refine goS X9 hx hZ hown (hw _ (List.mem_of_getElem? (i := 1) rfl)) (hw _ (List.mem_of_getElem? (i := 2) rfl)) (hw _ (List.mem_of_getElem? (i := 3) rfl)) (hw _ (List.mem_of_getElem? (i := 4) rfl)) (by decide) (C := 0) (S := 0) ((rm_put l Z a0 hw b9 k9 M ([] : List Int32) p1 f1 h9 V_b9 (by omega) (by simp only [List.length_nil]; omega)).bk (W := 0) hZ (hw _ (List.mem_of_getElem? (i := 4) rfl)) (hw _ (List.mem_of_getElem? (i := 3) rfl)) (by decide) (by decide)) e9 (argsL := [(.ref b9), (.int (Int32.ofNat ([] : List Int32).length)), (.int p1), (.int f1)]) (rest := []) (by rw [hml]; rfl) (lenOf pd___CIIZ_I rfl) rfl rfl (hb hby at_159) (Nat.le_of_eq rfl) (by decide) (by decide) ?_
                  intro v11 T11 L11 X11 hQ11
                  obtain ⟨h11, e11⟩ : ∃ z, T11.heap = z := ⟨_, rfl⟩
                  rw [e11] at hQ11
                  have V_b9_o := V_b9
                  obtain ⟨Mc11, us11, wf11, lq11, rfl, Vc11⟩ := hQ11
                  have M11 := M9.app Mc11 (allS (Or.inr fr_b9) all0)
                  replace hk := Nat.le_trans hk (Mc11.1).1
                  have hq12 : ∀ x ∈ ([b9] : List Addr), Safe Z consts_1 s.vm h9 x := (sfS Sf_b9 sf0)
                  have hs12 := CHr.keep (Mc11.1) hq12 RH.1
                  replace Sf_b9 := Safe.keep (Mc11.1) hq12 RH.1 Sf_b9
                  replace RH := RH.trans hs12
                  replace Z_ad := StaKeep Z_ad Mc11.1 (allS (staArv V_b9_o) all0)
                  replace Z_hs := StaKeep Z_hs Mc11.1 (allS (staArv V_b9_o) all0)
                  replace Z_ls := StaKeep Z_ls Mc11.1 (allS (staArv V_b9_o) all0)
                  replace Z_fm := StaKeep Z_fm Mc11.1 (allS (staArv V_b9_o) all0)
                  replace Z_cs := StaKeep Z_cs Mc11.1 (allS (staArv V_b9_o) all0)
                  replace V_b9 := Vc11
                  show Go p e below P T11 (mkF m 162 #[.val (.int p1), .val (.int p2), .val (.int p3), .val (.int p4), .val (.int p5), .val (.int KK), .val (.int f1), .val (.int f2), .val (.int f3), .val (.int f4), .val (.int (Int32.ofNat M)), .val (.ref b9), .unset, .unset, .unset] [(.int (Int32.ofNat (([] : List Int32) ++ us11).length))])
                  refine Go.of (T' := T11) (f' := (mkF m 164 #[.val (.int p1), .val (.int p2), .val (.int p3), .val (.int p4), .val (.int p5), .val (.int KK), .val (.int f1), .val (.int f2), .val (.int f3), .val (.int f4), .val (.int (Int32.ofNat M)), .val (.ref b9), .val (.int (Int32.ofNat (([] : List Int32) ++ us11).length)), .unset, .unset] [])) (fun _ k => XS.istore X11.here hx rfl (hb hby at_162) rfl (l' := #[.val (.int p1), .val (.int p2), .val (.int p3), .val (.int p4), .val (.int p5), .val (.int KK), .val (.int f1), .val (.int f2), .val (.int f3), .val (.int f4), .val (.int (Int32.ofNat M)), .val (.ref b9), .val (.int (Int32.ofNat (([] : List Int32) ++ us11).length)), .unset, .unset]) rfl k) ?_
                  refine Go.of (T' := T11) (f' := (mkF m 166 #[.val (.int p1), .val (.int p2), .val (.int p3), .val (.int p4), .val (.int p5), .val (.int KK), .val (.int f1), .val (.int f2), .val (.int f3), .val (.int f4), .val (.int (Int32.ofNat M)), .val (.ref b9), .val (.int (Int32.ofNat (([] : List Int32) ++ us11).length)), .unset, .unset] [(.int KK)])) (fun _ k => XS.iload X11.here hx rfl (hb hby at_164) rfl k) ?_
                  refine Go.of (T' := T11) (f' := (mkF m 167 #[.val (.int p1), .val (.int p2), .val (.int p3), .val (.int p4), .val (.int p5), .val (.int KK), .val (.int f1), .val (.int f2), .val (.int f3), .val (.int f4), .val (.int (Int32.ofNat M)), .val (.ref b9), .val (.int (Int32.ofNat (([] : List Int32) ++ us11).length)), .unset, .unset] [(.int (1 : Int32)), (.int KK)])) (fun _ k => XS.iconst X11.here hx rfl (hb hby at_166) k) ?_
                  have hz0 : ([] : List Int32).length = 0 := rfl
                  have hl0 := lq11
                  have hap := List.length_append (as := ([] : List Int32)) (bs := us11)
                  have J13 : ∀ (Tj13 : State) (hj13 : Heap) (Lj13 : List Loc) (cs : List Int32), Stand p l e room_1 (s.setVm s.vm) m #[(.int p1), (.int p2), (.int p3), (.int p4), (.int p5)] below meth c Tj13 Lj13 1 8 → Tj13.heap = hj13 → Mv h0 hj13 [] Lj13 → CHr Z consts_1 s.vm h0 s.vm hj13 → h0.size ≤ hj13.size → Sta Z hj13 "java/lang/StringUTF16" "$assertionsDisabled" "Z" (.int (1 : Int32)) → Sta Z hj13 "java/lang/StringUTF16" "HI_BYTE_SHIFT" "I" (.int (0 : Int32)) → Sta Z hj13 "java/lang/StringUTF16" "LO_BYTE_SHIFT" "I" (.int (8 : Int32)) → Sta Z hj13 "jdk/internal/util/Preconditions" "SIOOBE_FORMATTER" "Ljava/util/function/BiFunction;" fm → Sta Z hj13 "java/lang/String" "COMPACT_STRINGS" "Z" (.int zc) → Arv Z hj13 b9 k9 (.char) (Int32.ofNat M) (cs.map Value.int) (.int (0 : Int32)) → Wf cs → cs.length = wt f1 + wk 1 KK f2 → Go p e below P Tj13 (mkF m 182 #[.val (.int p1), .val (.int p2), .val (.int p3), .val (.int p4), .val (.int p5), .val (.int KK), .val (.int f1), .val (.int f2), .val (.int f3), .val (.int f4), .val (.int (Int32.ofNat M)), .val (.ref b9), .val (.int (Int32.ofNat cs.length)), .unset, .unset] []) := by
                    intro Tj13 hj13 Lj13 cs Xj13 ej13 Mj13 RH hk Z_ad Z_hs Z_ls Z_fm Z_cs V_b9 hwf hcl
                    refine Go.of (T' := Tj13) (f' := (mkF m 184 #[.val (.int p1), .val (.int p2), .val (.int p3), .val (.int p4), .val (.int p5), .val (.int KK), .val (.int f1), .val (.int f2), .val (.int f3), .val (.int f4), .val (.int (Int32.ofNat M)), .val (.ref b9), .val (.int (Int32.ofNat cs.length)), .unset, .unset] [(.int KK)])) (fun _ k => XS.iload Xj13.here hx rfl (hb hby at_182) rfl k) ?_
                    refine Go.of (T' := Tj13) (f' := (mkF m 185 #[.val (.int p1), .val (.int p2), .val (.int p3), .val (.int p4), .val (.int p5), .val (.int KK), .val (.int f1), .val (.int f2), .val (.int f3), .val (.int f4), .val (.int (Int32.ofNat M)), .val (.ref b9), .val (.int (Int32.ofNat cs.length)), .unset, .unset] [(.int (2 : Int32)), (.int KK)])) (fun _ k => XS.iconst Xj13.here hx rfl (hb hby at_184) k) ?_
                    have J14 : ∀ (Tj14 : State) (hj14 : Heap) (Lj14 : List Loc) (cs : List Int32), Stand p l e room_1 (s.setVm s.vm) m #[(.int p1), (.int p2), (.int p3), (.int p4), (.int p5)] below meth c Tj14 Lj14 1 8 → Tj14.heap = hj14 → Mv h0 hj14 [] Lj14 → CHr Z consts_1 s.vm h0 s.vm hj14 → h0.size ≤ hj14.size → Sta Z hj14 "java/lang/StringUTF16" "$assertionsDisabled" "Z" (.int (1 : Int32)) → Sta Z hj14 "java/lang/StringUTF16" "HI_BYTE_SHIFT" "I" (.int (0 : Int32)) → Sta Z hj14 "java/lang/StringUTF16" "LO_BYTE_SHIFT" "I" (.int (8 : Int32)) → Sta Z hj14 "jdk/internal/util/Preconditions" "SIOOBE_FORMATTER" "Ljava/util/function/BiFunction;" fm → Sta Z hj14 "java/lang/String" "COMPACT_STRINGS" "Z" (.int zc) → Arv Z hj14 b9 k9 (.char) (Int32.ofNat M) (cs.map Value.int) (.int (0 : Int32)) → Wf cs → cs.length = wt f1 + wk 1 KK f2 + wk 2 KK f3 → Go p e below P Tj14 (mkF m 200 #[.val (.int p1), .val (.int p2), .val (.int p3), .val (.int p4), .val (.int p5), .val (.int KK), .val (.int f1), .val (.int f2), .val (.int f3), .val (.int f4), .val (.int (Int32.ofNat M)), .val (.ref b9), .val (.int (Int32.ofNat cs.length)), .unset, .unset] []) := by
                      intro Tj14 hj14 Lj14 cs Xj14 ej14 Mj14 RH hk Z_ad Z_hs Z_ls Z_fm Z_cs V_b9 hwf hcl
                      refine Go.of (T' := Tj14) (f' := (mkF m 202 #[.val (.int p1), .val (.int p2), .val (.int p3), .val (.int p4), .val (.int p5), .val (.int KK), .val (.int f1), .val (.int f2), .val (.int f3), .val (.int f4), .val (.int (Int32.ofNat M)), .val (.ref b9), .val (.int (Int32.ofNat cs.length)), .unset, .unset] [(.int KK)])) (fun _ k => XS.iload Xj14.here hx rfl (hb hby at_200) rfl k) ?_
                      refine Go.of (T' := Tj14) (f' := (mkF m 203 #[.val (.int p1), .val (.int p2), .val (.int p3), .val (.int p4), .val (.int p5), .val (.int KK), .val (.int f1), .val (.int f2), .val (.int f3), .val (.int f4), .val (.int (Int32.ofNat M)), .val (.ref b9), .val (.int (Int32.ofNat cs.length)), .unset, .unset] [(.int (3 : Int32)), (.int KK)])) (fun _ k => XS.iconst Xj14.here hx rfl (hb hby at_202) k) ?_
                      have J15 : ∀ (Tj15 : State) (hj15 : Heap) (Lj15 : List Loc) (cs : List Int32), Stand p l e room_1 (s.setVm s.vm) m #[(.int p1), (.int p2), (.int p3), (.int p4), (.int p5)] below meth c Tj15 Lj15 1 8 → Tj15.heap = hj15 → Mv h0 hj15 [] Lj15 → CHr Z consts_1 s.vm h0 s.vm hj15 → h0.size ≤ hj15.size → Sta Z hj15 "java/lang/StringUTF16" "$assertionsDisabled" "Z" (.int (1 : Int32)) → Sta Z hj15 "java/lang/StringUTF16" "HI_BYTE_SHIFT" "I" (.int (0 : Int32)) → Sta Z hj15 "java/lang/StringUTF16" "LO_BYTE_SHIFT" "I" (.int (8 : Int32)) → Sta Z hj15 "jdk/internal/util/Preconditions" "SIOOBE_FORMATTER" "Ljava/util/function/BiFunction;" fm → Sta Z hj15 "java/lang/String" "COMPACT_STRINGS" "Z" (.int zc) → Arv Z hj15 b9 k9 (.char) (Int32.ofNat M) (cs.map Value.int) (.int (0 : Int32)) → Wf cs → cs.length = wt f1 + wk 1 KK f2 + wk 2 KK f3 + wk 3 KK f4 → Go p e below P Tj15 (mkF m 218 #[.val (.int p1), .val (.int p2), .val (.int p3), .val (.int p4), .val (.int p5), .val (.int KK), .val (.int f1), .val (.int f2), .val (.int f3), .val (.int f4), .val (.int (Int32.ofNat M)), .val (.ref b9), .val (.int (Int32.ofNat cs.length)), .unset, .unset] []) := by
                        intro Tj15 hj15 Lj15 cs Xj15 ej15 Mj15 RH hk Z_ad Z_hs Z_ls Z_fm Z_cs V_b9 hwf hcl
                        have hMc : M = cs.length := by omega
                        rw [hMc] at V_b9
                        rw [hMc]
                        show Go p e below P Tj15 (mkF m 218 #[.val (.int p1), .val (.int p2), .val (.int p3), .val (.int p4), .val (.int p5), .val (.int KK), .val (.int f1), .val (.int f2), .val (.int f3), .val (.int f4), .val (.int (Int32.ofNat cs.length)), .val (.ref b9), .val (.int (Int32.ofNat cs.length)), .unset, .unset] [])
                        have hpos : 0 < cs.length := by omega
                        have h8 : cs.length ≤ 8 := by omega
                        have hbr := wfRng hwf
                        obtain ⟨T16, h16, X16, e16, E16, A16, D16, -, st16⟩ := newO Xj15 hx hZ hown (hw _ (List.mem_of_getElem? (i := 9) rfl)) (hw _ (List.mem_of_getElem? (i := 10) rfl)) (hw _ (List.mem_of_getElem? (i := 11) rfl)) ej15 (g := (mkF m 218 #[.val (.int p1), .val (.int p2), .val (.int p3), .val (.int p4), .val (.int p5), .val (.int KK), .val (.int f1), .val (.int f2), .val (.int f3), .val (.int f4), .val (.int (Int32.ofNat cs.length)), .val (.ref b9), .val (.int (Int32.ofNat cs.length)), .unset, .unset] [])) rfl (hb hby at_218) (by decide) (by decide)
                        obtain ⟨b16, g16⟩ : ∃ z, z = hj15.size := ⟨_, rfl⟩
                        rw [← g16] at A16 D16 st16
                        have ne_b9_b16 : b9 ≠ b16 := Nat.ne_of_lt (Nat.lt_of_lt_of_le V_b9.lt (Nat.le_of_eq g16.symm))
                        have fr_b16 : h0.size ≤ b16 := Nat.le_trans Mj15.le (Nat.le_of_eq g16.symm)
                        have Sf_b16 := Safe.new (Z := Z) (EL := consts_1) (vm := s.vm) (Nat.le_of_eq g16.symm)
                        have K16 := keepE E16
                        have M16 := Mj15.ext E16
                        replace hk := Nat.le_trans hk (K16).1
                        have hs17 := CHr.keep (K16) sf0 RH.1
                        replace Sf_b16 := Safe.keep (K16) sf0 RH.1 Sf_b16
                        replace RH := RH.trans hs17
                        replace Z_ad := StaKeep Z_ad K16 all0
                        replace Z_hs := StaKeep Z_hs K16 all0
                        replace Z_ls := StaKeep Z_ls K16 all0
                        replace Z_fm := StaKeep Z_fm K16 all0
                        replace Z_cs := StaKeep Z_cs K16 all0
                        replace V_b9 := V_b9.keep K16 nin0
                        have E_b16 := A16
                        have F_coder_b16 : Fld Z h16 b16 "java/lang/String" "coder" "B" (.int (0 : Int32)) := D16 (Or.inr (hw _ (List.mem_of_getElem? (i := 35) rfl))) (ty := .byte) (by decide)
                        have F_value_b16 : Fld Z h16 b16 "java/lang/String" "value" "[B" .null := D16 (Or.inr (hw _ (List.mem_of_getElem? (i := 37) rfl))) (ty := (.array .byte)) (by decide)
                        refine Go.of (T' := T16) (f' := (mkF m 221 #[.val (.int p1), .val (.int p2), .val (.int p3), .val (.int p4), .val (.int p5), .val (.int KK), .val (.int f1), .val (.int f2), .val (.int f3), .val (.int f4), .val (.int (Int32.ofNat cs.length)), .val (.ref b9), .val (.int (Int32.ofNat cs.length)), .unset, .unset] [(.ref b16)])) st16 ?_
                        refine Go.of (T' := T16) (f' := (mkF m 222 #[.val (.int p1), .val (.int p2), .val (.int p3), .val (.int p4), .val (.int p5), .val (.int KK), .val (.int f1), .val (.int f2), .val (.int f3), .val (.int f4), .val (.int (Int32.ofNat cs.length)), .val (.ref b9), .val (.int (Int32.ofNat cs.length)), .unset, .unset] [(.ref b16), (.ref b16)])) (fun _ k => XS.dup X16.here hx rfl (hb hby at_221) rfl rfl k) ?_
                        refine Go.of (T' := T16) (f' := (mkF m 224 #[.val (.int p1), .val (.int p2), .val (.int p3), .val (.int p4), .val (.int p5), .val (.int KK), .val (.int f1), .val (.int f2), .val (.int f3), .val (.int f4), .val (.int (Int32.ofNat cs.length)), .val (.ref b9), .val (.int (Int32.ofNat cs.length)), .unset, .unset] [(.ref b9), (.ref b16), (.ref b16)])) (fun _ k => XS.aload X16.here hx rfl (hb hby at_222) rfl rfl k) ?_
                        by_cases hal : ∀ c ∈ cs, ¬ (255 : Int32) < c
                        ·
                          refine goI X16 hx hZ rfl hown (hw _ (List.mem_of_getElem? (i := 12) rfl)) (hw _ (List.mem_of_getElem? (i := 13) rfl)) (hw _ (List.mem_of_getElem? (i := 14) rfl)) (by decide) (C := 1) (S := cs.length) (newStr (W := 1) hZ (hw_words hw) (hw _ (List.mem_of_getElem? (i := 10) rfl)) (cs := cs) E_b16 F_value_b16 F_coder_b16 V_b9 rfl Z_cs hz (n := cs.length) rfl rfl hpos (by omega) (fun c hc => ⟨(hbr c hc).1, hal c hc⟩) (by decide) (by decide)) e16 (argsL := [(.ref b9)]) (rest := [(.ref b16)]) (by rw [hml]; rfl) (lenOf pd___C_V rfl) rfl rfl (hb hby at_224) (Nat.le_of_eq rfl) (by decide) (Nat.le_trans (Nat.add_le_add_left h8 _) (by decide : 12 + 8 ≤ _)) ?_
                          intro v18 T18 L18 X18 hQ18
                          replace X18 := standUp (C := 3) (S := 20) X18 (Nat.le_refl _) (Nat.add_le_add_left h8 _)
                          obtain ⟨h18, e18⟩ : ∃ z, T18.heap = z := ⟨_, rfl⟩
                          rw [e18] at hQ18
                          have E_b16_o := E_b16
                          obtain ⟨rfl, Mc18, t18, le18, S18⟩ := hQ18
                          have ne_b9_t18 : b9 ≠ t18 := Nat.ne_of_lt (Nat.lt_of_lt_of_le V_b9.lt le18)
                          have ne_b16_t18 : b16 ≠ t18 := Nat.ne_of_lt (Nat.lt_of_lt_of_le E_b16.lt le18)
                          have fr_t18 : h0.size ≤ t18 := Nat.le_trans M16.le le18
                          have Sf_t18 := Safe.new (Z := Z) (EL := consts_1) (vm := s.vm) le18
                          have M18 := M16.app Mc18 (allS (Or.inr fr_b16) all0)
                          replace hk := Nat.le_trans hk (Mc18.1).1
                          have hq19 : ∀ x ∈ ([b16] : List Addr), Safe Z consts_1 s.vm h16 x := (sfS Sf_b16 sf0)
                          have hs19 := CHr.keep (Mc18.1) hq19 RH.1
                          replace Sf_b16 := Safe.keep (Mc18.1) hq19 RH.1 Sf_b16
                          replace Sf_t18 := Safe.keep (Mc18.1) hq19 RH.1 Sf_t18
                          replace RH := RH.trans hs19
                          replace Z_ad := StaKeep Z_ad Mc18.1 (allS (staExa E_b16_o) all0)
                          replace Z_hs := StaKeep Z_hs Mc18.1 (allS (staExa E_b16_o) all0)
                          replace Z_ls := StaKeep Z_ls Mc18.1 (allS (staExa E_b16_o) all0)
                          replace Z_fm := StaKeep Z_fm Mc18.1 (allS (staExa E_b16_o) all0)
                          replace Z_cs := StaKeep Z_cs Mc18.1 (allS (staExa E_b16_o) all0)
                          replace V_b9 := V_b9.keep Mc18.1 (ninS ne_b9_b16 nin0)
                          replace E_b16 := E_b16.keep Mc18.1
                          have S_b16 := S18
                          show Go p e below P T18 (mkF m 227 #[.val (.int p1), .val (.int p2), .val (.int p3), .val (.int p4), .val (.int p5), .val (.int KK), .val (.int f1), .val (.int f2), .val (.int f3), .val (.int f4), .val (.int (Int32.ofNat cs.length)), .val (.ref b9), .val (.int (Int32.ofNat cs.length)), .unset, .unset] [(.ref b16)])
                          refine Go.of (T' := T18) (f' := (mkF m 229 #[.val (.int p1), .val (.int p2), .val (.int p3), .val (.int p4), .val (.int p5), .val (.int KK), .val (.int f1), .val (.int f2), .val (.int f3), .val (.int f4), .val (.int (Int32.ofNat cs.length)), .val (.ref b9), .val (.int (Int32.ofNat cs.length)), .val (.ref b16), .unset] [])) (fun _ k => XS.astore X18.here hx rfl (hb hby at_227) rfl rfl (l' := #[.val (.int p1), .val (.int p2), .val (.int p3), .val (.int p4), .val (.int p5), .val (.int KK), .val (.int f1), .val (.int f2), .val (.int f3), .val (.int f4), .val (.int (Int32.ofNat cs.length)), .val (.ref b9), .val (.int (Int32.ofNat cs.length)), .val (.ref b16), .unset]) rfl k) ?_
                          refine Go.of (T' := T18) (f' := (mkF m 231 #[.val (.int p1), .val (.int p2), .val (.int p3), .val (.int p4), .val (.int p5), .val (.int KK), .val (.int f1), .val (.int f2), .val (.int f3), .val (.int f4), .val (.int (Int32.ofNat cs.length)), .val (.ref b9), .val (.int (Int32.ofNat cs.length)), .val (.ref b16), .unset] [(.ref b16)])) (fun _ k => XS.aload X18.here hx rfl (hb hby at_229) rfl rfl k) ?_
                          refine goSH X18 hx hZ hown (hw _ (List.mem_of_getElem? (i := 38) rfl)) (hw _ (List.mem_of_getElem? (i := 39) rfl)) (hw _ (List.mem_of_getElem? (i := 40) rfl)) (hw _ (List.mem_of_getElem? (i := 41) rfl)) (by decide) (W := 0) (C := 2) (S := 44) (rm_own l Z a0 hw b16 t18 cs zc fm h18 S_b16 hpos (by omega) hwf Z_ad Z_hs Z_ls Z_fm hfm Z_cs hz) rfl rfl (by decide) (by decide) hS hk (hEL_1 hw) RH.1 e18 (argsL := [(.ref b16)]) (rest := []) (by rw [hml]; rfl) (lenOf pd__Ljava_lang_String__Ljava_lang_String_ rfl) rfl rfl (hb hby at_231) (Nat.le_of_eq rfl) (by decide) (by decide) ?_
                          intro v20 T20 L20 X20 hQ20 hS20 hZ20 hown20 A20
                          obtain ⟨h20, e20⟩ : ∃ z, T20.heap = z := ⟨_, rfl⟩
                          rw [e20] at hQ20 hS20 A20
                          obtain ⟨rfl, Mc20⟩ := hQ20
                          have M20 := M18.app0 Mc20
                          clear hS hk
                          replace Sf_b16 := CHr.safe A20 S_b16.lt1 Sf_b16
                          replace Sf_t18 := CHr.safe A20 S_b16.lt2 Sf_t18
                          replace RH := RH.trans A20
                          replace Z_ad := StaKeep Z_ad Mc20.1 all0
                          replace Z_hs := StaKeep Z_hs Mc20.1 all0
                          replace Z_ls := StaKeep Z_ls Mc20.1 all0
                          replace Z_fm := StaKeep Z_fm Mc20.1 all0
                          replace Z_cs := StaKeep Z_cs Mc20.1 all0
                          replace V_b9 := V_b9.keep Mc20.1 nin0
                          replace S_b16 := S_b16.keep Mc20.1 nin0 nin0
                          have hS := hS20
                          have hk : h20.size ≤ h20.size := Nat.le_refl _
                          replace hZ := hZ20
                          replace hown := hown20
                          show Go p e below P T20 (mkF m 234 #[.val (.int p1), .val (.int p2), .val (.int p3), .val (.int p4), .val (.int p5), .val (.int KK), .val (.int f1), .val (.int f2), .val (.int f3), .val (.int f4), .val (.int (Int32.ofNat cs.length)), .val (.ref b9), .val (.int (Int32.ofNat cs.length)), .val (.ref b16), .unset] [(.ref b16)])
                          refine Go.of (T' := T20) (f' := (mkF m 236 #[.val (.int p1), .val (.int p2), .val (.int p3), .val (.int p4), .val (.int p5), .val (.int KK), .val (.int f1), .val (.int f2), .val (.int f3), .val (.int f4), .val (.int (Int32.ofNat cs.length)), .val (.ref b9), .val (.int (Int32.ofNat cs.length)), .val (.ref b16), .val (.ref b16)] [])) (fun _ k => XS.astore X20.here hx rfl (hb hby at_234) rfl rfl (l' := #[.val (.int p1), .val (.int p2), .val (.int p3), .val (.int p4), .val (.int p5), .val (.int KK), .val (.int f1), .val (.int f2), .val (.int f3), .val (.int f4), .val (.int (Int32.ofNat cs.length)), .val (.ref b9), .val (.int (Int32.ofNat cs.length)), .val (.ref b16), .val (.ref b16)]) rfl k) ?_
                          refine Go.of (T' := T20) (f' := (mkF m 238 #[.val (.int p1), .val (.int p2), .val (.int p3), .val (.int p4), .val (.int p5), .val (.int KK), .val (.int f1), .val (.int f2), .val (.int f3), .val (.int f4), .val (.int (Int32.ofNat cs.length)), .val (.ref b9), .val (.int (Int32.ofNat cs.length)), .val (.ref b16), .val (.ref b16)] [(.ref b16)])) (fun _ k => XS.aload X20.here hx rfl (hb hby at_236) rfl rfl k) ?_
                          refine Go.of (T' := T20) (f' := (mkF m 240 #[.val (.int p1), .val (.int p2), .val (.int p3), .val (.int p4), .val (.int p5), .val (.int KK), .val (.int f1), .val (.int f2), .val (.int f3), .val (.int f4), .val (.int (Int32.ofNat cs.length)), .val (.ref b9), .val (.int (Int32.ofNat cs.length)), .val (.ref b16), .val (.ref b16)] [(.ref b16), (.ref b16)])) (fun _ k => XS.aload X20.here hx rfl (hb hby at_238) rfl rfl k) ?_
                          refine Go.of (T' := T20) (f' := (mkF m 243 #[.val (.int p1), .val (.int p2), .val (.int p3), .val (.int p4), .val (.int p5), .val (.int KK), .val (.int f1), .val (.int f2), .val (.int f3), .val (.int f4), .val (.int (Int32.ofNat cs.length)), .val (.ref b9), .val (.int (Int32.ofNat cs.length)), .val (.ref b16), .val (.ref b16)] [])) (fun _ k => Jvm.RoadKit.acmp (g := (mkF m 240 #[.val (.int p1), .val (.int p2), .val (.int p3), .val (.int p4), .val (.int p5), .val (.int KK), .val (.int f1), .val (.int f2), .val (.int f3), .val (.int f4), .val (.int (Int32.ofNat cs.length)), .val (.ref b9), .val (.int (Int32.ofNat cs.length)), .val (.ref b16), .val (.ref b16)] [(.ref b16), (.ref b16)])) X20 hx rfl rfl rfl (pc0 := 240) (pc' := 243) (same := true) rfl (hb hby at_240) rfl (decide_eq_true rfl) (by decide) (by decide) k) ?_
                          refine Go.of (T' := T20) (f' := (mkF m 245 #[.val (.int p1), .val (.int p2), .val (.int p3), .val (.int p4), .val (.int p5), .val (.int KK), .val (.int f1), .val (.int f2), .val (.int f3), .val (.int f4), .val (.int (Int32.ofNat cs.length)), .val (.ref b9), .val (.int (Int32.ofNat cs.length)), .val (.ref b16), .val (.ref b16)] [(.ref b16)])) (fun _ k => XS.aload X20.here hx rfl (hb hby at_243) rfl rfl k) ?_
                          refine goV X20 hx hZ (y := (⟨"java/lang/String", "length", "()I"⟩ : MethodName)) (z := (⟨"java/lang/String", "length", "()I"⟩ : MethodName)) hown (hw _ (List.mem_of_getElem? (i := 110) rfl)) (hw _ (List.mem_of_getElem? (i := 48) rfl)) (notFace_of_selects (args := #[]) (mvT hZ (hw _ (List.mem_of_getElem? (i := 50) rfl)))) (hw _ (List.mem_of_getElem? (i := 50) rfl)) (hw _ (List.mem_of_getElem? (i := 49) rfl)) (by decide) (C := 0) (S := 0) (lenStr (W := 0) hZ (hw_wordsLen hw) (hw _ (List.mem_of_getElem? (i := 10) rfl)) S_b16 Z_cs hz (by decide) (by decide)) e20 S_b16.exa (argsL := []) (rest := []) (by rw [hml]; rfl) (lenOf pd___I rfl) rfl rfl (hb hby at_245) (Nat.le_of_eq rfl) (by decide) (by decide) ?_
                          intro v21 T21 L21 X21 hQ21
                          obtain ⟨nq21, e21, rfl⟩ := hQ21
                          replace X21 := standNil X21 nq21
                          show Go p e below P T21 (mkF m 248 #[.val (.int p1), .val (.int p2), .val (.int p3), .val (.int p4), .val (.int p5), .val (.int KK), .val (.int f1), .val (.int f2), .val (.int f3), .val (.int f4), .val (.int (Int32.ofNat cs.length)), .val (.ref b9), .val (.int (Int32.ofNat cs.length)), .val (.ref b16), .val (.ref b16)] [(.int (Int32.ofNat cs.length))])
                          refine Go.of (T' := T21) (f' := (mkF m 250 #[.val (.int p1), .val (.int p2), .val (.int p3), .val (.int p4), .val (.int p5), .val (.int KK), .val (.int f1), .val (.int f2), .val (.int f3), .val (.int f4), .val (.int (Int32.ofNat cs.length)), .val (.ref b9), .val (.int (Int32.ofNat cs.length)), .val (.ref b16), .val (.ref b16)] [(.int (Int32.ofNat cs.length)), (.int (Int32.ofNat cs.length))])) (fun _ k => XS.iload X21.here hx rfl (hb hby at_248) rfl k) ?_
                          refine Go.of (T' := T21) (f' := (mkF m 253 #[.val (.int p1), .val (.int p2), .val (.int p3), .val (.int p4), .val (.int p5), .val (.int KK), .val (.int f1), .val (.int f2), .val (.int f3), .val (.int f4), .val (.int (Int32.ofNat cs.length)), .val (.ref b9), .val (.int (Int32.ofNat cs.length)), .val (.ref b16), .val (.ref b16)] [])) (fun _ k => XS.icmpNo X21.here hx rfl (hb hby at_250) rfl ((teq (rfl : (Int32.ofNat cs.length) = (Int32.ofNat cs.length))).2) k) ?_
                          refine Go.of (T' := T21) (f' := (mkF m 255 #[.val (.int p1), .val (.int p2), .val (.int p3), .val (.int p4), .val (.int p5), .val (.int KK), .val (.int f1), .val (.int f2), .val (.int f3), .val (.int f4), .val (.int (Int32.ofNat cs.length)), .val (.ref b9), .val (.int (Int32.ofNat cs.length)), .val (.ref b16), .val (.ref b16)] [(.int (Int32.ofNat cs.length))])) (fun _ k => XS.iload X21.here hx rfl (hb hby at_253) rfl k) ?_
                          refine Go.of (T' := T21) (f' := (mkF m 257 #[.val (.int p1), .val (.int p2), .val (.int p3), .val (.int p4), .val (.int p5), .val (.int KK), .val (.int f1), .val (.int f2), .val (.int f3), .val (.int f4), .val (.int (Int32.ofNat cs.length)), .val (.ref b9), .val (.int (Int32.ofNat cs.length)), .val (.ref b16), .val (.ref b16)] [(.int (Int32.ofNat cs.length)), (.int (Int32.ofNat cs.length))])) (fun _ k => XS.iload X21.here hx rfl (hb hby at_255) rfl k) ?_
                          refine Go.of (T' := T21) (f' := (mkF m 260 #[.val (.int p1), .val (.int p2), .val (.int p3), .val (.int p4), .val (.int p5), .val (.int KK), .val (.int f1), .val (.int f2), .val (.int f3), .val (.int f4), .val (.int (Int32.ofNat cs.length)), .val (.ref b9), .val (.int (Int32.ofNat cs.length)), .val (.ref b16), .val (.ref b16)] [])) (fun _ k => XS.icmpNo X21.here hx rfl (hb hby at_257) rfl ((teq (rfl : (Int32.ofNat cs.length) = (Int32.ofNat cs.length))).2) k) ?_
                          refine Go.of (T' := T21) (f' := (mkF m 261 #[.val (.int p1), .val (.int p2), .val (.int p3), .val (.int p4), .val (.int p5), .val (.int KK), .val (.int f1), .val (.int f2), .val (.int f3), .val (.int f4), .val (.int (Int32.ofNat cs.length)), .val (.ref b9), .val (.int (Int32.ofNat cs.length)), .val (.ref b16), .val (.ref b16)] [(.int (1 : Int32))])) (fun _ k => XS.iconst X21.here hx rfl (hb hby at_260) k) ?_
                          refine Go.of (T' := T21) (f' := (mkF m 265 #[.val (.int p1), .val (.int p2), .val (.int p3), .val (.int p4), .val (.int p5), .val (.int KK), .val (.int f1), .val (.int f2), .val (.int f3), .val (.int f4), .val (.int (Int32.ofNat cs.length)), .val (.ref b9), .val (.int (Int32.ofNat cs.length)), .val (.ref b16), .val (.ref b16)] [(.int (1 : Int32))])) (fun _ k => XS.goto X21.here hx rfl (pc0 := 261) (pc' := 265) rfl (hb hby at_261) (by decide) (by decide) k) ?_
                          exact goRetIH (Q := fun v h L => v = some (.int 1) ∧ Mv h0 h [] L) X21 hx hZ hS hk (hEL_1 hw) RH (t := .boolean) hret hlk rfl (by simp) (hb hby at_265) K (by decide) (by decide) e21 (⟨rfl, M20⟩)
                        ·
                          have hwd : ∃ c ∈ cs, (255 : Int32) < c := Classical.byContradiction fun q => hal fun c hc r => q ⟨c, hc, r⟩
                          refine goI X16 hx hZ rfl hown (hw _ (List.mem_of_getElem? (i := 12) rfl)) (hw _ (List.mem_of_getElem? (i := 13) rfl)) (hw _ (List.mem_of_getElem? (i := 14) rfl)) (by decide) (C := 2) (S := 24) ((rm_in l Z a0 hw b16 b9 k9 cs zc h16 E_b16 F_value_b16 F_coder_b16 V_b9 h8 hpos ne_b9_b16 hwd hbr Z_ad Z_hs Z_ls Z_cs hz).bk (W := 1) hZ (hw _ (List.mem_of_getElem? (i := 14) rfl)) (hw _ (List.mem_of_getElem? (i := 11) rfl)) (by decide) (by decide)) e16 (argsL := [(.ref b9)]) (rest := [(.ref b16)]) (by rw [hml]; rfl) (lenOf pd___C_V rfl) rfl rfl (hb hby at_224) (Nat.le_of_eq rfl) (by decide) (by decide) ?_
                          intro v22 T22 L22 X22 hQ22
                          obtain ⟨h22, e22⟩ : ∃ z, T22.heap = z := ⟨_, rfl⟩
                          rw [e22] at hQ22
                          have E_b16_o := E_b16
                          obtain ⟨rfl, Mc22, t22, le22, S22⟩ := hQ22
                          have ne_b9_t22 : b9 ≠ t22 := Nat.ne_of_lt (Nat.lt_of_lt_of_le V_b9.lt le22)
                          have ne_b16_t22 : b16 ≠ t22 := Nat.ne_of_lt (Nat.lt_of_lt_of_le E_b16.lt le22)
                          have fr_t22 : h0.size ≤ t22 := Nat.le_trans M16.le le22
                          have Sf_t22 := Safe.new (Z := Z) (EL := consts_1) (vm := s.vm) le22
                          have M22 := M16.app Mc22 (allS (Or.inr fr_b16) all0)
                          replace hk := Nat.le_trans hk (Mc22.1).1
                          have hq23 : ∀ x ∈ ([b16] : List Addr), Safe Z consts_1 s.vm h16 x := (sfS Sf_b16 sf0)
                          have hs23 := CHr.keep (Mc22.1) hq23 RH.1
                          replace Sf_b16 := Safe.keep (Mc22.1) hq23 RH.1 Sf_b16
                          replace Sf_t22 := Safe.keep (Mc22.1) hq23 RH.1 Sf_t22
                          replace RH := RH.trans hs23
                          replace Z_ad := StaKeep Z_ad Mc22.1 (allS (staExa E_b16_o) all0)
                          replace Z_hs := StaKeep Z_hs Mc22.1 (allS (staExa E_b16_o) all0)
                          replace Z_ls := StaKeep Z_ls Mc22.1 (allS (staExa E_b16_o) all0)
                          replace Z_fm := StaKeep Z_fm Mc22.1 (allS (staExa E_b16_o) all0)
                          replace Z_cs := StaKeep Z_cs Mc22.1 (allS (staExa E_b16_o) all0)
                          replace V_b9 := V_b9.keep Mc22.1 (ninS ne_b9_b16 nin0)
                          replace E_b16 := E_b16.keep Mc22.1
                          have S_b16 := S22
                          show Go p e below P T22 (mkF m 227 #[.val (.int p1), .val (.int p2), .val (.int p3), .val (.int p4), .val (.int p5), .val (.int KK), .val (.int f1), .val (.int f2), .val (.int f3), .val (.int f4), .val (.int (Int32.ofNat cs.length)), .val (.ref b9), .val (.int (Int32.ofNat cs.length)), .unset, .unset] [(.ref b16)])
                          refine Go.of (T' := T22) (f' := (mkF m 229 #[.val (.int p1), .val (.int p2), .val (.int p3), .val (.int p4), .val (.int p5), .val (.int KK), .val (.int f1), .val (.int f2), .val (.int f3), .val (.int f4), .val (.int (Int32.ofNat cs.length)), .val (.ref b9), .val (.int (Int32.ofNat cs.length)), .val (.ref b16), .unset] [])) (fun _ k => XS.astore X22.here hx rfl (hb hby at_227) rfl rfl (l' := #[.val (.int p1), .val (.int p2), .val (.int p3), .val (.int p4), .val (.int p5), .val (.int KK), .val (.int f1), .val (.int f2), .val (.int f3), .val (.int f4), .val (.int (Int32.ofNat cs.length)), .val (.ref b9), .val (.int (Int32.ofNat cs.length)), .val (.ref b16), .unset]) rfl k) ?_
                          refine Go.of (T' := T22) (f' := (mkF m 231 #[.val (.int p1), .val (.int p2), .val (.int p3), .val (.int p4), .val (.int p5), .val (.int KK), .val (.int f1), .val (.int f2), .val (.int f3), .val (.int f4), .val (.int (Int32.ofNat cs.length)), .val (.ref b9), .val (.int (Int32.ofNat cs.length)), .val (.ref b16), .unset] [(.ref b16)])) (fun _ k => XS.aload X22.here hx rfl (hb hby at_229) rfl rfl k) ?_
                          refine goSH X22 hx hZ hown (hw _ (List.mem_of_getElem? (i := 38) rfl)) (hw _ (List.mem_of_getElem? (i := 39) rfl)) (hw _ (List.mem_of_getElem? (i := 40) rfl)) (hw _ (List.mem_of_getElem? (i := 41) rfl)) (by decide) (W := 0) (C := 2) (S := 44) (rm_own l Z a0 hw b16 t22 cs zc fm h22 S_b16 hpos (by omega) hwf Z_ad Z_hs Z_ls Z_fm hfm Z_cs hz) rfl rfl (by decide) (by decide) hS hk (hEL_1 hw) RH.1 e22 (argsL := [(.ref b16)]) (rest := []) (by rw [hml]; rfl) (lenOf pd__Ljava_lang_String__Ljava_lang_String_ rfl) rfl rfl (hb hby at_231) (Nat.le_of_eq rfl) (by decide) (by decide) ?_
                          intro v24 T24 L24 X24 hQ24 hS24 hZ24 hown24 A24
                          obtain ⟨h24, e24⟩ : ∃ z, T24.heap = z := ⟨_, rfl⟩
                          rw [e24] at hQ24 hS24 A24
                          obtain ⟨rfl, Mc24⟩ := hQ24
                          have M24 := M22.app0 Mc24
                          clear hS hk
                          replace Sf_b16 := CHr.safe A24 S_b16.lt1 Sf_b16
                          replace Sf_t22 := CHr.safe A24 S_b16.lt2 Sf_t22
                          replace RH := RH.trans A24
                          replace Z_ad := StaKeep Z_ad Mc24.1 all0
                          replace Z_hs := StaKeep Z_hs Mc24.1 all0
                          replace Z_ls := StaKeep Z_ls Mc24.1 all0
                          replace Z_fm := StaKeep Z_fm Mc24.1 all0
                          replace Z_cs := StaKeep Z_cs Mc24.1 all0
                          replace V_b9 := V_b9.keep Mc24.1 nin0
                          replace S_b16 := S_b16.keep Mc24.1 nin0 nin0
                          have hS := hS24
                          have hk : h24.size ≤ h24.size := Nat.le_refl _
                          replace hZ := hZ24
                          replace hown := hown24
                          show Go p e below P T24 (mkF m 234 #[.val (.int p1), .val (.int p2), .val (.int p3), .val (.int p4), .val (.int p5), .val (.int KK), .val (.int f1), .val (.int f2), .val (.int f3), .val (.int f4), .val (.int (Int32.ofNat cs.length)), .val (.ref b9), .val (.int (Int32.ofNat cs.length)), .val (.ref b16), .unset] [(.ref b16)])
                          refine Go.of (T' := T24) (f' := (mkF m 236 #[.val (.int p1), .val (.int p2), .val (.int p3), .val (.int p4), .val (.int p5), .val (.int KK), .val (.int f1), .val (.int f2), .val (.int f3), .val (.int f4), .val (.int (Int32.ofNat cs.length)), .val (.ref b9), .val (.int (Int32.ofNat cs.length)), .val (.ref b16), .val (.ref b16)] [])) (fun _ k => XS.astore X24.here hx rfl (hb hby at_234) rfl rfl (l' := #[.val (.int p1), .val (.int p2), .val (.int p3), .val (.int p4), .val (.int p5), .val (.int KK), .val (.int f1), .val (.int f2), .val (.int f3), .val (.int f4), .val (.int (Int32.ofNat cs.length)), .val (.ref b9), .val (.int (Int32.ofNat cs.length)), .val (.ref b16), .val (.ref b16)]) rfl k) ?_
                          refine Go.of (T' := T24) (f' := (mkF m 238 #[.val (.int p1), .val (.int p2), .val (.int p3), .val (.int p4), .val (.int p5), .val (.int KK), .val (.int f1), .val (.int f2), .val (.int f3), .val (.int f4), .val (.int (Int32.ofNat cs.length)), .val (.ref b9), .val (.int (Int32.ofNat cs.length)), .val (.ref b16), .val (.ref b16)] [(.ref b16)])) (fun _ k => XS.aload X24.here hx rfl (hb hby at_236) rfl rfl k) ?_
                          refine Go.of (T' := T24) (f' := (mkF m 240 #[.val (.int p1), .val (.int p2), .val (.int p3), .val (.int p4), .val (.int p5), .val (.int KK), .val (.int f1), .val (.int f2), .val (.int f3), .val (.int f4), .val (.int (Int32.ofNat cs.length)), .val (.ref b9), .val (.int (Int32.ofNat cs.length)), .val (.ref b16), .val (.ref b16)] [(.ref b16), (.ref b16)])) (fun _ k => XS.aload X24.here hx rfl (hb hby at_238) rfl rfl k) ?_
                          refine Go.of (T' := T24) (f' := (mkF m 243 #[.val (.int p1), .val (.int p2), .val (.int p3), .val (.int p4), .val (.int p5), .val (.int KK), .val (.int f1), .val (.int f2), .val (.int f3), .val (.int f4), .val (.int (Int32.ofNat cs.length)), .val (.ref b9), .val (.int (Int32.ofNat cs.length)), .val (.ref b16), .val (.ref b16)] [])) (fun _ k => Jvm.RoadKit.acmp (g := (mkF m 240 #[.val (.int p1), .val (.int p2), .val (.int p3), .val (.int p4), .val (.int p5), .val (.int KK), .val (.int f1), .val (.int f2), .val (.int f3), .val (.int f4), .val (.int (Int32.ofNat cs.length)), .val (.ref b9), .val (.int (Int32.ofNat cs.length)), .val (.ref b16), .val (.ref b16)] [(.ref b16), (.ref b16)])) X24 hx rfl rfl rfl (pc0 := 240) (pc' := 243) (same := true) rfl (hb hby at_240) rfl (decide_eq_true rfl) (by decide) (by decide) k) ?_
                          refine Go.of (T' := T24) (f' := (mkF m 245 #[.val (.int p1), .val (.int p2), .val (.int p3), .val (.int p4), .val (.int p5), .val (.int KK), .val (.int f1), .val (.int f2), .val (.int f3), .val (.int f4), .val (.int (Int32.ofNat cs.length)), .val (.ref b9), .val (.int (Int32.ofNat cs.length)), .val (.ref b16), .val (.ref b16)] [(.ref b16)])) (fun _ k => XS.aload X24.here hx rfl (hb hby at_243) rfl rfl k) ?_
                          refine goV X24 hx hZ (y := (⟨"java/lang/String", "length", "()I"⟩ : MethodName)) (z := (⟨"java/lang/String", "length", "()I"⟩ : MethodName)) hown (hw _ (List.mem_of_getElem? (i := 110) rfl)) (hw _ (List.mem_of_getElem? (i := 48) rfl)) (notFace_of_selects (args := #[]) (mvT hZ (hw _ (List.mem_of_getElem? (i := 50) rfl)))) (hw _ (List.mem_of_getElem? (i := 50) rfl)) (hw _ (List.mem_of_getElem? (i := 49) rfl)) (by decide) (C := 0) (S := 0) (lenStr (W := 0) hZ (hw_wordsLen hw) (hw _ (List.mem_of_getElem? (i := 10) rfl)) S_b16 Z_cs hz (by decide) (by decide)) e24 S_b16.exa (argsL := []) (rest := []) (by rw [hml]; rfl) (lenOf pd___I rfl) rfl rfl (hb hby at_245) (Nat.le_of_eq rfl) (by decide) (by decide) ?_
                          intro v25 T25 L25 X25 hQ25
                          obtain ⟨nq25, e25, rfl⟩ := hQ25
                          replace X25 := standNil X25 nq25
                          show Go p e below P T25 (mkF m 248 #[.val (.int p1), .val (.int p2), .val (.int p3), .val (.int p4), .val (.int p5), .val (.int KK), .val (.int f1), .val (.int f2), .val (.int f3), .val (.int f4), .val (.int (Int32.ofNat cs.length)), .val (.ref b9), .val (.int (Int32.ofNat cs.length)), .val (.ref b16), .val (.ref b16)] [(.int (Int32.ofNat cs.length))])
                          refine Go.of (T' := T25) (f' := (mkF m 250 #[.val (.int p1), .val (.int p2), .val (.int p3), .val (.int p4), .val (.int p5), .val (.int KK), .val (.int f1), .val (.int f2), .val (.int f3), .val (.int f4), .val (.int (Int32.ofNat cs.length)), .val (.ref b9), .val (.int (Int32.ofNat cs.length)), .val (.ref b16), .val (.ref b16)] [(.int (Int32.ofNat cs.length)), (.int (Int32.ofNat cs.length))])) (fun _ k => XS.iload X25.here hx rfl (hb hby at_248) rfl k) ?_
                          refine Go.of (T' := T25) (f' := (mkF m 253 #[.val (.int p1), .val (.int p2), .val (.int p3), .val (.int p4), .val (.int p5), .val (.int KK), .val (.int f1), .val (.int f2), .val (.int f3), .val (.int f4), .val (.int (Int32.ofNat cs.length)), .val (.ref b9), .val (.int (Int32.ofNat cs.length)), .val (.ref b16), .val (.ref b16)] [])) (fun _ k => XS.icmpNo X25.here hx rfl (hb hby at_250) rfl ((teq (rfl : (Int32.ofNat cs.length) = (Int32.ofNat cs.length))).2) k) ?_
                          refine Go.of (T' := T25) (f' := (mkF m 255 #[.val (.int p1), .val (.int p2), .val (.int p3), .val (.int p4), .val (.int p5), .val (.int KK), .val (.int f1), .val (.int f2), .val (.int f3), .val (.int f4), .val (.int (Int32.ofNat cs.length)), .val (.ref b9), .val (.int (Int32.ofNat cs.length)), .val (.ref b16), .val (.ref b16)] [(.int (Int32.ofNat cs.length))])) (fun _ k => XS.iload X25.here hx rfl (hb hby at_253) rfl k) ?_
                          refine Go.of (T' := T25) (f' := (mkF m 257 #[.val (.int p1), .val (.int p2), .val (.int p3), .val (.int p4), .val (.int p5), .val (.int KK), .val (.int f1), .val (.int f2), .val (.int f3), .val (.int f4), .val (.int (Int32.ofNat cs.length)), .val (.ref b9), .val (.int (Int32.ofNat cs.length)), .val (.ref b16), .val (.ref b16)] [(.int (Int32.ofNat cs.length)), (.int (Int32.ofNat cs.length))])) (fun _ k => XS.iload X25.here hx rfl (hb hby at_255) rfl k) ?_
                          refine Go.of (T' := T25) (f' := (mkF m 260 #[.val (.int p1), .val (.int p2), .val (.int p3), .val (.int p4), .val (.int p5), .val (.int KK), .val (.int f1), .val (.int f2), .val (.int f3), .val (.int f4), .val (.int (Int32.ofNat cs.length)), .val (.ref b9), .val (.int (Int32.ofNat cs.length)), .val (.ref b16), .val (.ref b16)] [])) (fun _ k => XS.icmpNo X25.here hx rfl (hb hby at_257) rfl ((teq (rfl : (Int32.ofNat cs.length) = (Int32.ofNat cs.length))).2) k) ?_
                          refine Go.of (T' := T25) (f' := (mkF m 261 #[.val (.int p1), .val (.int p2), .val (.int p3), .val (.int p4), .val (.int p5), .val (.int KK), .val (.int f1), .val (.int f2), .val (.int f3), .val (.int f4), .val (.int (Int32.ofNat cs.length)), .val (.ref b9), .val (.int (Int32.ofNat cs.length)), .val (.ref b16), .val (.ref b16)] [(.int (1 : Int32))])) (fun _ k => XS.iconst X25.here hx rfl (hb hby at_260) k) ?_
                          refine Go.of (T' := T25) (f' := (mkF m 265 #[.val (.int p1), .val (.int p2), .val (.int p3), .val (.int p4), .val (.int p5), .val (.int KK), .val (.int f1), .val (.int f2), .val (.int f3), .val (.int f4), .val (.int (Int32.ofNat cs.length)), .val (.ref b9), .val (.int (Int32.ofNat cs.length)), .val (.ref b16), .val (.ref b16)] [(.int (1 : Int32))])) (fun _ k => XS.goto X25.here hx rfl (pc0 := 261) (pc' := 265) rfl (hb hby at_261) (by decide) (by decide) k) ?_
                          exact goRetIH (Q := fun v h L => v = some (.int 1) ∧ Mv h0 h [] L) X25 hx hZ hS hk (hEL_1 hw) RH (t := .boolean) hret hlk rfl (by simp) (hb hby at_265) K (by decide) (by decide) e25 (⟨rfl, M24⟩)
                      by_cases hc203 : (3 : Int32) < KK
                      ·
                        refine Go.of (T' := Tj14) (f' := (mkF m 206 #[.val (.int p1), .val (.int p2), .val (.int p3), .val (.int p4), .val (.int p5), .val (.int KK), .val (.int f1), .val (.int f2), .val (.int f3), .val (.int f4), .val (.int (Int32.ofNat M)), .val (.ref b9), .val (.int (Int32.ofNat cs.length)), .unset, .unset] [])) (fun _ k => XS.icmpNo Xj14.here hx rfl (hb hby at_203) rfl (tlt hc203).2.2.2 k) ?_
                        refine Go.of (T' := Tj14) (f' := (mkF m 208 #[.val (.int p1), .val (.int p2), .val (.int p3), .val (.int p4), .val (.int p5), .val (.int KK), .val (.int f1), .val (.int f2), .val (.int f3), .val (.int f4), .val (.int (Int32.ofNat M)), .val (.ref b9), .val (.int (Int32.ofNat cs.length)), .unset, .unset] [(.ref b9)])) (fun _ k => XS.aload Xj14.here hx rfl (hb hby at_206) rfl rfl k) ?_
                        refine Go.of (T' := Tj14) (f' := (mkF m 210 #[.val (.int p1), .val (.int p2), .val (.int p3), .val (.int p4), .val (.int p5), .val (.int KK), .val (.int f1), .val (.int f2), .val (.int f3), .val (.int f4), .val (.int (Int32.ofNat M)), .val (.ref b9), .val (.int (Int32.ofNat cs.length)), .unset, .unset] [(.int (Int32.ofNat cs.length)), (.ref b9)])) (fun _ k => XS.iload Xj14.here hx rfl (hb hby at_208) rfl k) ?_
                        refine Go.of (T' := Tj14) (f' := (mkF m 211 #[.val (.int p1), .val (.int p2), .val (.int p3), .val (.int p4), .val (.int p5), .val (.int KK), .val (.int f1), .val (.int f2), .val (.int f3), .val (.int f4), .val (.int (Int32.ofNat M)), .val (.ref b9), .val (.int (Int32.ofNat cs.length)), .unset, .unset] [(.int p4), (.int (Int32.ofNat cs.length)), (.ref b9)])) (fun _ k => XS.iloadN Xj14.here hx rfl (hb hby at_210) rfl k) ?_
                        refine Go.of (T' := Tj14) (f' := (mkF m 213 #[.val (.int p1), .val (.int p2), .val (.int p3), .val (.int p4), .val (.int p5), .val (.int KK), .val (.int f1), .val (.int f2), .val (.int f3), .val (.int f4), .val (.int (Int32.ofNat M)), .val (.ref b9), .val (.int (Int32.ofNat cs.length)), .unset, .unset] [(.int f4), (.int p4), (.int (Int32.ofNat cs.length)), (.ref b9)])) (fun _ k => XS.iload Xj14.here hx rfl (hb hby at_211) rfl k) ?_
                        refine goS Xj14 hx hZ hown (hw _ (List.mem_of_getElem? (i := 1) rfl)) (hw _ (List.mem_of_getElem? (i := 2) rfl)) (hw _ (List.mem_of_getElem? (i := 3) rfl)) (hw _ (List.mem_of_getElem? (i := 4) rfl)) (by decide) (C := 0) (S := 0) ((rm_put l Z a0 hw b9 k9 M cs p4 f4 hj14 V_b9 (by omega) (by have := wk_t f4 hc203; omega)).bk (W := 0) hZ (hw _ (List.mem_of_getElem? (i := 4) rfl)) (hw _ (List.mem_of_getElem? (i := 3) rfl)) (by decide) (by decide)) ej14 (argsL := [(.ref b9), (.int (Int32.ofNat cs.length)), (.int p4), (.int f4)]) (rest := []) (by rw [hml]; rfl) (lenOf pd___CIIZ_I rfl) rfl rfl (hb hby at_213) (Nat.le_of_eq rfl) (by decide) (by decide) ?_
                        intro v26 T26 L26 X26 hQ26
                        obtain ⟨h26, e26⟩ : ∃ z, T26.heap = z := ⟨_, rfl⟩
                        rw [e26] at hQ26
                        have V_b9_o := V_b9
                        obtain ⟨Mc26, us26, wf26, lq26, rfl, Vc26⟩ := hQ26
                        have M26 := Mj14.app Mc26 (allS (Or.inr fr_b9) all0)
                        replace hk := Nat.le_trans hk (Mc26.1).1
                        have hq27 : ∀ x ∈ ([b9] : List Addr), Safe Z consts_1 s.vm hj14 x := (sfS (safeArv hZ.alike V_b9 (by decide)) sf0)
                        have hs27 := CHr.keep (Mc26.1) hq27 RH.1
                        replace RH := RH.trans hs27
                        replace Z_ad := StaKeep Z_ad Mc26.1 (allS (staArv V_b9_o) all0)
                        replace Z_hs := StaKeep Z_hs Mc26.1 (allS (staArv V_b9_o) all0)
                        replace Z_ls := StaKeep Z_ls Mc26.1 (allS (staArv V_b9_o) all0)
                        replace Z_fm := StaKeep Z_fm Mc26.1 (allS (staArv V_b9_o) all0)
                        replace Z_cs := StaKeep Z_cs Mc26.1 (allS (staArv V_b9_o) all0)
                        replace V_b9 := Vc26
                        show Go p e below P T26 (mkF m 216 #[.val (.int p1), .val (.int p2), .val (.int p3), .val (.int p4), .val (.int p5), .val (.int KK), .val (.int f1), .val (.int f2), .val (.int f3), .val (.int f4), .val (.int (Int32.ofNat M)), .val (.ref b9), .val (.int (Int32.ofNat cs.length)), .unset, .unset] [(.int (Int32.ofNat (cs ++ us26).length))])
                        refine Go.of (T' := T26) (f' := (mkF m 218 #[.val (.int p1), .val (.int p2), .val (.int p3), .val (.int p4), .val (.int p5), .val (.int KK), .val (.int f1), .val (.int f2), .val (.int f3), .val (.int f4), .val (.int (Int32.ofNat M)), .val (.ref b9), .val (.int (Int32.ofNat (cs ++ us26).length)), .unset, .unset] [])) (fun _ k => XS.istore X26.here hx rfl (hb hby at_216) rfl (l' := #[.val (.int p1), .val (.int p2), .val (.int p3), .val (.int p4), .val (.int p5), .val (.int KK), .val (.int f1), .val (.int f2), .val (.int f3), .val (.int f4), .val (.int (Int32.ofNat M)), .val (.ref b9), .val (.int (Int32.ofNat (cs ++ us26).length)), .unset, .unset]) rfl k) ?_
                        exact J15 T26 h26 _ (cs ++ us26) (standUp X26 (by decide) (by decide)) e26 M26 RH hk Z_ad Z_hs Z_ls Z_fm Z_cs V_b9 (wf_app hwf wf26) (by have := wk_t f4 hc203; have := List.length_append (as := cs) (bs := us26);  omega)
                      ·
                        refine Go.of (T' := Tj14) (f' := (mkF m 218 #[.val (.int p1), .val (.int p2), .val (.int p3), .val (.int p4), .val (.int p5), .val (.int KK), .val (.int f1), .val (.int f2), .val (.int f3), .val (.int f4), .val (.int (Int32.ofNat M)), .val (.ref b9), .val (.int (Int32.ofNat cs.length)), .unset, .unset] [])) (fun _ k => XS.icmpYes Xj14.here hx rfl (pc0 := 203) (pc' := 218) rfl (hb hby at_203) rfl (flt hc203).2.2.2 (by decide) (by decide) k) ?_
                        exact J15 Tj14 hj14 _ cs (standUp Xj14 (by decide) (by decide)) ej14 Mj14 RH hk Z_ad Z_hs Z_ls Z_fm Z_cs V_b9 hwf (by have := wk_f f4 hc203;  omega)
                    by_cases hc185 : (2 : Int32) < KK
                    ·
                      refine Go.of (T' := Tj13) (f' := (mkF m 188 #[.val (.int p1), .val (.int p2), .val (.int p3), .val (.int p4), .val (.int p5), .val (.int KK), .val (.int f1), .val (.int f2), .val (.int f3), .val (.int f4), .val (.int (Int32.ofNat M)), .val (.ref b9), .val (.int (Int32.ofNat cs.length)), .unset, .unset] [])) (fun _ k => XS.icmpNo Xj13.here hx rfl (hb hby at_185) rfl (tlt hc185).2.2.2 k) ?_
                      refine Go.of (T' := Tj13) (f' := (mkF m 190 #[.val (.int p1), .val (.int p2), .val (.int p3), .val (.int p4), .val (.int p5), .val (.int KK), .val (.int f1), .val (.int f2), .val (.int f3), .val (.int f4), .val (.int (Int32.ofNat M)), .val (.ref b9), .val (.int (Int32.ofNat cs.length)), .unset, .unset] [(.ref b9)])) (fun _ k => XS.aload Xj13.here hx rfl (hb hby at_188) rfl rfl k) ?_
                      refine Go.of (T' := Tj13) (f' := (mkF m 192 #[.val (.int p1), .val (.int p2), .val (.int p3), .val (.int p4), .val (.int p5), .val (.int KK), .val (.int f1), .val (.int f2), .val (.int f3), .val (.int f4), .val (.int (Int32.ofNat M)), .val (.ref b9), .val (.int (Int32.ofNat cs.length)), .unset, .unset] [(.int (Int32.ofNat cs.length)), (.ref b9)])) (fun _ k => XS.iload Xj13.here hx rfl (hb hby at_190) rfl k) ?_
                      refine Go.of (T' := Tj13) (f' := (mkF m 193 #[.val (.int p1), .val (.int p2), .val (.int p3), .val (.int p4), .val (.int p5), .val (.int KK), .val (.int f1), .val (.int f2), .val (.int f3), .val (.int f4), .val (.int (Int32.ofNat M)), .val (.ref b9), .val (.int (Int32.ofNat cs.length)), .unset, .unset] [(.int p3), (.int (Int32.ofNat cs.length)), (.ref b9)])) (fun _ k => XS.iloadN Xj13.here hx rfl (hb hby at_192) rfl k) ?_
                      refine Go.of (T' := Tj13) (f' := (mkF m 195 #[.val (.int p1), .val (.int p2), .val (.int p3), .val (.int p4), .val (.int p5), .val (.int KK), .val (.int f1), .val (.int f2), .val (.int f3), .val (.int f4), .val (.int (Int32.ofNat M)), .val (.ref b9), .val (.int (Int32.ofNat cs.length)), .unset, .unset] [(.int f3), (.int p3), (.int (Int32.ofNat cs.length)), (.ref b9)])) (fun _ k => XS.iload Xj13.here hx rfl (hb hby at_193) rfl k) ?_
                      refine goS Xj13 hx hZ hown (hw _ (List.mem_of_getElem? (i := 1) rfl)) (hw _ (List.mem_of_getElem? (i := 2) rfl)) (hw _ (List.mem_of_getElem? (i := 3) rfl)) (hw _ (List.mem_of_getElem? (i := 4) rfl)) (by decide) (C := 0) (S := 0) ((rm_put l Z a0 hw b9 k9 M cs p3 f3 hj13 V_b9 (by omega) (by have := wk_t f3 hc185; omega)).bk (W := 0) hZ (hw _ (List.mem_of_getElem? (i := 4) rfl)) (hw _ (List.mem_of_getElem? (i := 3) rfl)) (by decide) (by decide)) ej13 (argsL := [(.ref b9), (.int (Int32.ofNat cs.length)), (.int p3), (.int f3)]) (rest := []) (by rw [hml]; rfl) (lenOf pd___CIIZ_I rfl) rfl rfl (hb hby at_195) (Nat.le_of_eq rfl) (by decide) (by decide) ?_
                      intro v28 T28 L28 X28 hQ28
                      obtain ⟨h28, e28⟩ : ∃ z, T28.heap = z := ⟨_, rfl⟩
                      rw [e28] at hQ28
                      have V_b9_o := V_b9
                      obtain ⟨Mc28, us28, wf28, lq28, rfl, Vc28⟩ := hQ28
                      have M28 := Mj13.app Mc28 (allS (Or.inr fr_b9) all0)
                      replace hk := Nat.le_trans hk (Mc28.1).1
                      have hq29 : ∀ x ∈ ([b9] : List Addr), Safe Z consts_1 s.vm hj13 x := (sfS (safeArv hZ.alike V_b9 (by decide)) sf0)
                      have hs29 := CHr.keep (Mc28.1) hq29 RH.1
                      replace RH := RH.trans hs29
                      replace Z_ad := StaKeep Z_ad Mc28.1 (allS (staArv V_b9_o) all0)
                      replace Z_hs := StaKeep Z_hs Mc28.1 (allS (staArv V_b9_o) all0)
                      replace Z_ls := StaKeep Z_ls Mc28.1 (allS (staArv V_b9_o) all0)
                      replace Z_fm := StaKeep Z_fm Mc28.1 (allS (staArv V_b9_o) all0)
                      replace Z_cs := StaKeep Z_cs Mc28.1 (allS (staArv V_b9_o) all0)
                      replace V_b9 := Vc28
                      show Go p e below P T28 (mkF m 198 #[.val (.int p1), .val (.int p2), .val (.int p3), .val (.int p4), .val (.int p5), .val (.int KK), .val (.int f1), .val (.int f2), .val (.int f3), .val (.int f4), .val (.int (Int32.ofNat M)), .val (.ref b9), .val (.int (Int32.ofNat cs.length)), .unset, .unset] [(.int (Int32.ofNat (cs ++ us28).length))])
                      refine Go.of (T' := T28) (f' := (mkF m 200 #[.val (.int p1), .val (.int p2), .val (.int p3), .val (.int p4), .val (.int p5), .val (.int KK), .val (.int f1), .val (.int f2), .val (.int f3), .val (.int f4), .val (.int (Int32.ofNat M)), .val (.ref b9), .val (.int (Int32.ofNat (cs ++ us28).length)), .unset, .unset] [])) (fun _ k => XS.istore X28.here hx rfl (hb hby at_198) rfl (l' := #[.val (.int p1), .val (.int p2), .val (.int p3), .val (.int p4), .val (.int p5), .val (.int KK), .val (.int f1), .val (.int f2), .val (.int f3), .val (.int f4), .val (.int (Int32.ofNat M)), .val (.ref b9), .val (.int (Int32.ofNat (cs ++ us28).length)), .unset, .unset]) rfl k) ?_
                      exact J14 T28 h28 _ (cs ++ us28) (standUp X28 (by decide) (by decide)) e28 M28 RH hk Z_ad Z_hs Z_ls Z_fm Z_cs V_b9 (wf_app hwf wf28) (by have := wk_t f3 hc185; have := List.length_append (as := cs) (bs := us28);  omega)
                    ·
                      refine Go.of (T' := Tj13) (f' := (mkF m 200 #[.val (.int p1), .val (.int p2), .val (.int p3), .val (.int p4), .val (.int p5), .val (.int KK), .val (.int f1), .val (.int f2), .val (.int f3), .val (.int f4), .val (.int (Int32.ofNat M)), .val (.ref b9), .val (.int (Int32.ofNat cs.length)), .unset, .unset] [])) (fun _ k => XS.icmpYes Xj13.here hx rfl (pc0 := 185) (pc' := 200) rfl (hb hby at_185) rfl (flt hc185).2.2.2 (by decide) (by decide) k) ?_
                      exact J14 Tj13 hj13 _ cs (standUp Xj13 (by decide) (by decide)) ej13 Mj13 RH hk Z_ad Z_hs Z_ls Z_fm Z_cs V_b9 hwf (by have := wk_f f3 hc185;  omega)
                  by_cases hc167 : (1 : Int32) < KK
                  ·
                    refine Go.of (T' := T11) (f' := (mkF m 170 #[.val (.int p1), .val (.int p2), .val (.int p3), .val (.int p4), .val (.int p5), .val (.int KK), .val (.int f1), .val (.int f2), .val (.int f3), .val (.int f4), .val (.int (Int32.ofNat M)), .val (.ref b9), .val (.int (Int32.ofNat (([] : List Int32) ++ us11).length)), .unset, .unset] [])) (fun _ k => XS.icmpNo X11.here hx rfl (hb hby at_167) rfl (tlt hc167).2.2.2 k) ?_
                    refine Go.of (T' := T11) (f' := (mkF m 172 #[.val (.int p1), .val (.int p2), .val (.int p3), .val (.int p4), .val (.int p5), .val (.int KK), .val (.int f1), .val (.int f2), .val (.int f3), .val (.int f4), .val (.int (Int32.ofNat M)), .val (.ref b9), .val (.int (Int32.ofNat (([] : List Int32) ++ us11).length)), .unset, .unset] [(.ref b9)])) (fun _ k => XS.aload X11.here hx rfl (hb hby at_170) rfl rfl k) ?_
                    refine Go.of (T' := T11) (f' := (mkF m 174 #[.val (.int p1), .val (.int p2), .val (.int p3), .val (.int p4), .val (.int p5), .val (.int KK), .val (.int f1), .val (.int f2), .val (.int f3), .val (.int f4), .val (.int (Int32.ofNat M)), .val (.ref b9), .val (.int (Int32.ofNat (([] : List Int32) ++ us11).length)), .unset, .unset] [(.int (Int32.ofNat (([] : List Int32) ++ us11).length)), (.ref b9)])) (fun _ k => XS.iload X11.here hx rfl (hb hby at_172) rfl k) ?_
                    refine Go.of (T' := T11) (f' := (mkF m 175 #[.val (.int p1), .val (.int p2), .val (.int p3), .val (.int p4), .val (.int p5), .val (.int KK), .val (.int f1), .val (.int f2), .val (.int f3), .val (.int f4), .val (.int (Int32.ofNat M)), .val (.ref b9), .val (.int (Int32.ofNat (([] : List Int32) ++ us11).length)), .unset, .unset] [(.int p2), (.int (Int32.ofNat (([] : List Int32) ++ us11).length)), (.ref b9)])) (fun _ k => XS.iloadN X11.here hx rfl (hb hby at_174) rfl k) ?_
                    refine Go.of (T' := T11) (f' := (mkF m 177 #[.val (.int p1), .val (.int p2), .val (.int p3), .val (.int p4), .val (.int p5), .val (.int KK), .val (.int f1), .val (.int f2), .val (.int f3), .val (.int f4), .val (.int (Int32.ofNat M)), .val (.ref b9), .val (.int (Int32.ofNat (([] : List Int32) ++ us11).length)), .unset, .unset] [(.int f2), (.int p2), (.int (Int32.ofNat (([] : List Int32) ++ us11).length)), (.ref b9)])) (fun _ k => XS.iload X11.here hx rfl (hb hby at_175) rfl k) ?_
                    refine goS X11 hx hZ hown (hw _ (List.mem_of_getElem? (i := 1) rfl)) (hw _ (List.mem_of_getElem? (i := 2) rfl)) (hw _ (List.mem_of_getElem? (i := 3) rfl)) (hw _ (List.mem_of_getElem? (i := 4) rfl)) (by decide) (C := 0) (S := 0) ((rm_put l Z a0 hw b9 k9 M (([] : List Int32) ++ us11) p2 f2 h11 V_b9 (by omega) (by have := wk_t f2 hc167; omega)).bk (W := 0) hZ (hw _ (List.mem_of_getElem? (i := 4) rfl)) (hw _ (List.mem_of_getElem? (i := 3) rfl)) (by decide) (by decide)) e11 (argsL := [(.ref b9), (.int (Int32.ofNat (([] : List Int32) ++ us11).length)), (.int p2), (.int f2)]) (rest := []) (by rw [hml]; rfl) (lenOf pd___CIIZ_I rfl) rfl rfl (hb hby at_177) (Nat.le_of_eq rfl) (by decide) (by decide) ?_
                    intro v30 T30 L30 X30 hQ30
                    obtain ⟨h30, e30⟩ : ∃ z, T30.heap = z := ⟨_, rfl⟩
                    rw [e30] at hQ30
                    have V_b9_o := V_b9
                    obtain ⟨Mc30, us30, wf30, lq30, rfl, Vc30⟩ := hQ30
                    have M30 := M11.app Mc30 (allS (Or.inr fr_b9) all0)
                    replace hk := Nat.le_trans hk (Mc30.1).1
                    have hq31 : ∀ x ∈ ([b9] : List Addr), Safe Z consts_1 s.vm h11 x := (sfS Sf_b9 sf0)
                    have hs31 := CHr.keep (Mc30.1) hq31 RH.1
                    replace Sf_b9 := Safe.keep (Mc30.1) hq31 RH.1 Sf_b9
                    replace RH := RH.trans hs31
                    replace Z_ad := StaKeep Z_ad Mc30.1 (allS (staArv V_b9_o) all0)
                    replace Z_hs := StaKeep Z_hs Mc30.1 (allS (staArv V_b9_o) all0)
                    replace Z_ls := StaKeep Z_ls Mc30.1 (allS (staArv V_b9_o) all0)
                    replace Z_fm := StaKeep Z_fm Mc30.1 (allS (staArv V_b9_o) all0)
                    replace Z_cs := StaKeep Z_cs Mc30.1 (allS (staArv V_b9_o) all0)
                    replace V_b9 := Vc30
                    show Go p e below P T30 (mkF m 180 #[.val (.int p1), .val (.int p2), .val (.int p3), .val (.int p4), .val (.int p5), .val (.int KK), .val (.int f1), .val (.int f2), .val (.int f3), .val (.int f4), .val (.int (Int32.ofNat M)), .val (.ref b9), .val (.int (Int32.ofNat (([] : List Int32) ++ us11).length)), .unset, .unset] [(.int (Int32.ofNat ((([] : List Int32) ++ us11) ++ us30).length))])
                    refine Go.of (T' := T30) (f' := (mkF m 182 #[.val (.int p1), .val (.int p2), .val (.int p3), .val (.int p4), .val (.int p5), .val (.int KK), .val (.int f1), .val (.int f2), .val (.int f3), .val (.int f4), .val (.int (Int32.ofNat M)), .val (.ref b9), .val (.int (Int32.ofNat ((([] : List Int32) ++ us11) ++ us30).length)), .unset, .unset] [])) (fun _ k => XS.istore X30.here hx rfl (hb hby at_180) rfl (l' := #[.val (.int p1), .val (.int p2), .val (.int p3), .val (.int p4), .val (.int p5), .val (.int KK), .val (.int f1), .val (.int f2), .val (.int f3), .val (.int f4), .val (.int (Int32.ofNat M)), .val (.ref b9), .val (.int (Int32.ofNat ((([] : List Int32) ++ us11) ++ us30).length)), .unset, .unset]) rfl k) ?_
                    exact J13 T30 h30 _ ((([] : List Int32) ++ us11) ++ us30) (standUp X30 (by decide) (by decide)) e30 M30 RH hk Z_ad Z_hs Z_ls Z_fm Z_cs V_b9 (wf_app (wf_app trivial wf11) wf30) (by have := wk_t f2 hc167; have := List.length_append (as := (([] : List Int32) ++ us11)) (bs := us30); have := List.length_append (as := ([] : List Int32)) (bs := us11);  omega)
                  ·
                    refine Go.of (T' := T11) (f' := (mkF m 182 #[.val (.int p1), .val (.int p2), .val (.int p3), .val (.int p4), .val (.int p5), .val (.int KK), .val (.int f1), .val (.int f2), .val (.int f3), .val (.int f4), .val (.int (Int32.ofNat M)), .val (.ref b9), .val (.int (Int32.ofNat (([] : List Int32) ++ us11).length)), .unset, .unset] [])) (fun _ k => XS.icmpYes X11.here hx rfl (pc0 := 167) (pc' := 182) rfl (hb hby at_167) rfl (flt hc167).2.2.2 (by decide) (by decide) k) ?_
                    exact J13 T11 h11 _ (([] : List Int32) ++ us11) (standUp X11 (by decide) (by decide)) e11 M11 RH hk Z_ad Z_hs Z_ls Z_fm Z_cs V_b9 (wf_app trivial wf11) (by have := wk_f f2 hc167; have := List.length_append (as := ([] : List Int32)) (bs := us11);  omega)
                by_cases hc129 : (3 : Int32) < KK
                ·
                  refine Go.of (T' := s₁) (f' := (mkF m 132 #[.val (.int p1), .val (.int p2), .val (.int p3), .val (.int p4), .val (.int p5), .val (.int KK), .val (.int f1), .val (.int f2), .val (.int f3), .val (.int f4), .val (.int (Int32.ofNat (wt f1 + wk 1 KK f2 + wk 2 KK f3))), .unset, .unset, .unset, .unset] [])) (fun _ k => XS.icmpNo X0.here hx rfl (hb hby at_129) rfl (tlt hc129).2.2.2 k) ?_
                  refine Go.of (T' := s₁) (f' := (mkF m 134 #[.val (.int p1), .val (.int p2), .val (.int p3), .val (.int p4), .val (.int p5), .val (.int KK), .val (.int f1), .val (.int f2), .val (.int f3), .val (.int f4), .val (.int (Int32.ofNat (wt f1 + wk 1 KK f2 + wk 2 KK f3))), .unset, .unset, .unset, .unset] [(.int (Int32.ofNat (wt f1 + wk 1 KK f2 + wk 2 KK f3)))])) (fun _ k => XS.iload X0.here hx rfl (hb hby at_132) rfl k) ?_
                  refine Go.of (T' := s₁) (f' := (mkF m 136 #[.val (.int p1), .val (.int p2), .val (.int p3), .val (.int p4), .val (.int p5), .val (.int KK), .val (.int f1), .val (.int f2), .val (.int f3), .val (.int f4), .val (.int (Int32.ofNat (wt f1 + wk 1 KK f2 + wk 2 KK f3))), .unset, .unset, .unset, .unset] [(.int f4), (.int (Int32.ofNat (wt f1 + wk 1 KK f2 + wk 2 KK f3)))])) (fun _ k => XS.iload X0.here hx rfl (hb hby at_134) rfl k) ?_
                  have J32 : Go p e below P s₁ (mkF m 144 #[.val (.int p1), .val (.int p2), .val (.int p3), .val (.int p4), .val (.int p5), .val (.int KK), .val (.int f1), .val (.int f2), .val (.int f3), .val (.int f4), .val (.int (Int32.ofNat (wt f1 + wk 1 KK f2 + wk 2 KK f3))), .unset, .unset, .unset, .unset] [(.int (Int32.ofNat (wt f4))), (.int (Int32.ofNat (wt f1 + wk 1 KK f2 + wk 2 KK f3)))]) := by
                    refine Go.of (T' := s₁) (f' := (mkF m 145 #[.val (.int p1), .val (.int p2), .val (.int p3), .val (.int p4), .val (.int p5), .val (.int KK), .val (.int f1), .val (.int f2), .val (.int f3), .val (.int f4), .val (.int (Int32.ofNat (wt f1 + wk 1 KK f2 + wk 2 KK f3))), .unset, .unset, .unset, .unset] [(.int ((Int32.ofNat (wt f1 + wk 1 KK f2 + wk 2 KK f3)) + (Int32.ofNat (wt f4))))])) (fun _ k => XS.iadd X0.here hx rfl (hb hby at_144) rfl k) ?_
                    refine Go.of (T' := s₁) (f' := (mkF m 147 #[.val (.int p1), .val (.int p2), .val (.int p3), .val (.int p4), .val (.int p5), .val (.int KK), .val (.int f1), .val (.int f2), .val (.int f3), .val (.int f4), .val (.int ((Int32.ofNat (wt f1 + wk 1 KK f2 + wk 2 KK f3)) + (Int32.ofNat (wt f4)))), .unset, .unset, .unset, .unset] [])) (fun _ k => XS.istore X0.here hx rfl (hb hby at_145) rfl (l' := #[.val (.int p1), .val (.int p2), .val (.int p3), .val (.int p4), .val (.int p5), .val (.int KK), .val (.int f1), .val (.int f2), .val (.int f3), .val (.int f4), .val (.int ((Int32.ofNat (wt f1 + wk 1 KK f2 + wk 2 KK f3)) + (Int32.ofNat (wt f4)))), .unset, .unset, .unset, .unset]) rfl k) ?_
                    rw [wkT' hc129] at J8
                    exact J8
                  by_cases hc136 : f4 = (0 : Int32)
                  ·
                    refine Go.of (T' := s₁) (f' := (mkF m 143 #[.val (.int p1), .val (.int p2), .val (.int p3), .val (.int p4), .val (.int p5), .val (.int KK), .val (.int f1), .val (.int f2), .val (.int f3), .val (.int f4), .val (.int (Int32.ofNat (wt f1 + wk 1 KK f2 + wk 2 KK f3))), .unset, .unset, .unset, .unset] [(.int (Int32.ofNat (wt f1 + wk 1 KK f2 + wk 2 KK f3)))])) (fun _ k => XS.ifYes X0.here hx rfl (pc0 := 136) (pc' := 143) rfl (hb hby at_136) rfl ((if0 _ _).trans (teq hc136).1) (by decide) (by decide) k) ?_
                    refine Go.of (T' := s₁) (f' := (mkF m 144 #[.val (.int p1), .val (.int p2), .val (.int p3), .val (.int p4), .val (.int p5), .val (.int KK), .val (.int f1), .val (.int f2), .val (.int f3), .val (.int f4), .val (.int (Int32.ofNat (wt f1 + wk 1 KK f2 + wk 2 KK f3))), .unset, .unset, .unset, .unset] [(.int (1 : Int32)), (.int (Int32.ofNat (wt f1 + wk 1 KK f2 + wk 2 KK f3)))])) (fun _ k => XS.iconst X0.here hx rfl (hb hby at_143) k) ?_
                    rw [wtZ' hc136] at J32
                    exact J32
                  ·
                    refine Go.of (T' := s₁) (f' := (mkF m 139 #[.val (.int p1), .val (.int p2), .val (.int p3), .val (.int p4), .val (.int p5), .val (.int KK), .val (.int f1), .val (.int f2), .val (.int f3), .val (.int f4), .val (.int (Int32.ofNat (wt f1 + wk 1 KK f2 + wk 2 KK f3))), .unset, .unset, .unset, .unset] [(.int (Int32.ofNat (wt f1 + wk 1 KK f2 + wk 2 KK f3)))])) (fun _ k => XS.ifNo X0.here hx rfl (hb hby at_136) rfl ((if0 _ _).trans (feq hc136).1) k) ?_
                    refine Go.of (T' := s₁) (f' := (mkF m 140 #[.val (.int p1), .val (.int p2), .val (.int p3), .val (.int p4), .val (.int p5), .val (.int KK), .val (.int f1), .val (.int f2), .val (.int f3), .val (.int f4), .val (.int (Int32.ofNat (wt f1 + wk 1 KK f2 + wk 2 KK f3))), .unset, .unset, .unset, .unset] [(.int (2 : Int32)), (.int (Int32.ofNat (wt f1 + wk 1 KK f2 + wk 2 KK f3)))])) (fun _ k => XS.iconst X0.here hx rfl (hb hby at_139) k) ?_
                    refine Go.of (T' := s₁) (f' := (mkF m 144 #[.val (.int p1), .val (.int p2), .val (.int p3), .val (.int p4), .val (.int p5), .val (.int KK), .val (.int f1), .val (.int f2), .val (.int f3), .val (.int f4), .val (.int (Int32.ofNat (wt f1 + wk 1 KK f2 + wk 2 KK f3))), .unset, .unset, .unset, .unset] [(.int (2 : Int32)), (.int (Int32.ofNat (wt f1 + wk 1 KK f2 + wk 2 KK f3)))])) (fun _ k => XS.goto X0.here hx rfl (pc0 := 140) (pc' := 144) rfl (hb hby at_140) (by decide) (by decide) k) ?_
                    rw [wtN' hc136] at J32
                    exact J32
                ·
                  refine Go.of (T' := s₁) (f' := (mkF m 147 #[.val (.int p1), .val (.int p2), .val (.int p3), .val (.int p4), .val (.int p5), .val (.int KK), .val (.int f1), .val (.int f2), .val (.int f3), .val (.int f4), .val (.int (Int32.ofNat (wt f1 + wk 1 KK f2 + wk 2 KK f3))), .unset, .unset, .unset, .unset] [])) (fun _ k => XS.icmpYes X0.here hx rfl (pc0 := 129) (pc' := 147) rfl (hb hby at_129) rfl (flt hc129).2.2.2 (by decide) (by decide) k) ?_
                  rw [wkF' hc129] at J8
                  exact J8
              by_cases hc108 : (2 : Int32) < KK
              ·
                refine Go.of (T' := s₁) (f' := (mkF m 111 #[.val (.int p1), .val (.int p2), .val (.int p3), .val (.int p4), .val (.int p5), .val (.int KK), .val (.int f1), .val (.int f2), .val (.int f3), .val (.int f4), .val (.int (Int32.ofNat (wt f1 + wk 1 KK f2))), .unset, .unset, .unset, .unset] [])) (fun _ k => XS.icmpNo X0.here hx rfl (hb hby at_108) rfl (tlt hc108).2.2.2 k) ?_
                refine Go.of (T' := s₁) (f' := (mkF m 113 #[.val (.int p1), .val (.int p2), .val (.int p3), .val (.int p4), .val (.int p5), .val (.int KK), .val (.int f1), .val (.int f2), .val (.int f3), .val (.int f4), .val (.int (Int32.ofNat (wt f1 + wk 1 KK f2))), .unset, .unset, .unset, .unset] [(.int (Int32.ofNat (wt f1 + wk 1 KK f2)))])) (fun _ k => XS.iload X0.here hx rfl (hb hby at_111) rfl k) ?_
                refine Go.of (T' := s₁) (f' := (mkF m 115 #[.val (.int p1), .val (.int p2), .val (.int p3), .val (.int p4), .val (.int p5), .val (.int KK), .val (.int f1), .val (.int f2), .val (.int f3), .val (.int f4), .val (.int (Int32.ofNat (wt f1 + wk 1 KK f2))), .unset, .unset, .unset, .unset] [(.int f3), (.int (Int32.ofNat (wt f1 + wk 1 KK f2)))])) (fun _ k => XS.iload X0.here hx rfl (hb hby at_113) rfl k) ?_
                have J33 : Go p e below P s₁ (mkF m 123 #[.val (.int p1), .val (.int p2), .val (.int p3), .val (.int p4), .val (.int p5), .val (.int KK), .val (.int f1), .val (.int f2), .val (.int f3), .val (.int f4), .val (.int (Int32.ofNat (wt f1 + wk 1 KK f2))), .unset, .unset, .unset, .unset] [(.int (Int32.ofNat (wt f3))), (.int (Int32.ofNat (wt f1 + wk 1 KK f2)))]) := by
                  refine Go.of (T' := s₁) (f' := (mkF m 124 #[.val (.int p1), .val (.int p2), .val (.int p3), .val (.int p4), .val (.int p5), .val (.int KK), .val (.int f1), .val (.int f2), .val (.int f3), .val (.int f4), .val (.int (Int32.ofNat (wt f1 + wk 1 KK f2))), .unset, .unset, .unset, .unset] [(.int ((Int32.ofNat (wt f1 + wk 1 KK f2)) + (Int32.ofNat (wt f3))))])) (fun _ k => XS.iadd X0.here hx rfl (hb hby at_123) rfl k) ?_
                  refine Go.of (T' := s₁) (f' := (mkF m 126 #[.val (.int p1), .val (.int p2), .val (.int p3), .val (.int p4), .val (.int p5), .val (.int KK), .val (.int f1), .val (.int f2), .val (.int f3), .val (.int f4), .val (.int ((Int32.ofNat (wt f1 + wk 1 KK f2)) + (Int32.ofNat (wt f3)))), .unset, .unset, .unset, .unset] [])) (fun _ k => XS.istore X0.here hx rfl (hb hby at_124) rfl (l' := #[.val (.int p1), .val (.int p2), .val (.int p3), .val (.int p4), .val (.int p5), .val (.int KK), .val (.int f1), .val (.int f2), .val (.int f3), .val (.int f4), .val (.int ((Int32.ofNat (wt f1 + wk 1 KK f2)) + (Int32.ofNat (wt f3)))), .unset, .unset, .unset, .unset]) rfl k) ?_
                  rw [wkT' hc108] at J7
                  exact J7
                by_cases hc115 : f3 = (0 : Int32)
                ·
                  refine Go.of (T' := s₁) (f' := (mkF m 122 #[.val (.int p1), .val (.int p2), .val (.int p3), .val (.int p4), .val (.int p5), .val (.int KK), .val (.int f1), .val (.int f2), .val (.int f3), .val (.int f4), .val (.int (Int32.ofNat (wt f1 + wk 1 KK f2))), .unset, .unset, .unset, .unset] [(.int (Int32.ofNat (wt f1 + wk 1 KK f2)))])) (fun _ k => XS.ifYes X0.here hx rfl (pc0 := 115) (pc' := 122) rfl (hb hby at_115) rfl ((if0 _ _).trans (teq hc115).1) (by decide) (by decide) k) ?_
                  refine Go.of (T' := s₁) (f' := (mkF m 123 #[.val (.int p1), .val (.int p2), .val (.int p3), .val (.int p4), .val (.int p5), .val (.int KK), .val (.int f1), .val (.int f2), .val (.int f3), .val (.int f4), .val (.int (Int32.ofNat (wt f1 + wk 1 KK f2))), .unset, .unset, .unset, .unset] [(.int (1 : Int32)), (.int (Int32.ofNat (wt f1 + wk 1 KK f2)))])) (fun _ k => XS.iconst X0.here hx rfl (hb hby at_122) k) ?_
                  rw [wtZ' hc115] at J33
                  exact J33
                ·
                  refine Go.of (T' := s₁) (f' := (mkF m 118 #[.val (.int p1), .val (.int p2), .val (.int p3), .val (.int p4), .val (.int p5), .val (.int KK), .val (.int f1), .val (.int f2), .val (.int f3), .val (.int f4), .val (.int (Int32.ofNat (wt f1 + wk 1 KK f2))), .unset, .unset, .unset, .unset] [(.int (Int32.ofNat (wt f1 + wk 1 KK f2)))])) (fun _ k => XS.ifNo X0.here hx rfl (hb hby at_115) rfl ((if0 _ _).trans (feq hc115).1) k) ?_
                  refine Go.of (T' := s₁) (f' := (mkF m 119 #[.val (.int p1), .val (.int p2), .val (.int p3), .val (.int p4), .val (.int p5), .val (.int KK), .val (.int f1), .val (.int f2), .val (.int f3), .val (.int f4), .val (.int (Int32.ofNat (wt f1 + wk 1 KK f2))), .unset, .unset, .unset, .unset] [(.int (2 : Int32)), (.int (Int32.ofNat (wt f1 + wk 1 KK f2)))])) (fun _ k => XS.iconst X0.here hx rfl (hb hby at_118) k) ?_
                  refine Go.of (T' := s₁) (f' := (mkF m 123 #[.val (.int p1), .val (.int p2), .val (.int p3), .val (.int p4), .val (.int p5), .val (.int KK), .val (.int f1), .val (.int f2), .val (.int f3), .val (.int f4), .val (.int (Int32.ofNat (wt f1 + wk 1 KK f2))), .unset, .unset, .unset, .unset] [(.int (2 : Int32)), (.int (Int32.ofNat (wt f1 + wk 1 KK f2)))])) (fun _ k => XS.goto X0.here hx rfl (pc0 := 119) (pc' := 123) rfl (hb hby at_119) (by decide) (by decide) k) ?_
                  rw [wtN' hc115] at J33
                  exact J33
              ·
                refine Go.of (T' := s₁) (f' := (mkF m 126 #[.val (.int p1), .val (.int p2), .val (.int p3), .val (.int p4), .val (.int p5), .val (.int KK), .val (.int f1), .val (.int f2), .val (.int f3), .val (.int f4), .val (.int (Int32.ofNat (wt f1 + wk 1 KK f2))), .unset, .unset, .unset, .unset] [])) (fun _ k => XS.icmpYes X0.here hx rfl (pc0 := 108) (pc' := 126) rfl (hb hby at_108) rfl (flt hc108).2.2.2 (by decide) (by decide) k) ?_
                rw [wkF' hc108] at J7
                exact J7
            by_cases hc87 : (1 : Int32) < KK
            ·
              refine Go.of (T' := s₁) (f' := (mkF m 90 #[.val (.int p1), .val (.int p2), .val (.int p3), .val (.int p4), .val (.int p5), .val (.int KK), .val (.int f1), .val (.int f2), .val (.int f3), .val (.int f4), .val (.int (Int32.ofNat (wt f1))), .unset, .unset, .unset, .unset] [])) (fun _ k => XS.icmpNo X0.here hx rfl (hb hby at_87) rfl (tlt hc87).2.2.2 k) ?_
              refine Go.of (T' := s₁) (f' := (mkF m 92 #[.val (.int p1), .val (.int p2), .val (.int p3), .val (.int p4), .val (.int p5), .val (.int KK), .val (.int f1), .val (.int f2), .val (.int f3), .val (.int f4), .val (.int (Int32.ofNat (wt f1))), .unset, .unset, .unset, .unset] [(.int (Int32.ofNat (wt f1)))])) (fun _ k => XS.iload X0.here hx rfl (hb hby at_90) rfl k) ?_
              refine Go.of (T' := s₁) (f' := (mkF m 94 #[.val (.int p1), .val (.int p2), .val (.int p3), .val (.int p4), .val (.int p5), .val (.int KK), .val (.int f1), .val (.int f2), .val (.int f3), .val (.int f4), .val (.int (Int32.ofNat (wt f1))), .unset, .unset, .unset, .unset] [(.int f2), (.int (Int32.ofNat (wt f1)))])) (fun _ k => XS.iload X0.here hx rfl (hb hby at_92) rfl k) ?_
              have J34 : Go p e below P s₁ (mkF m 102 #[.val (.int p1), .val (.int p2), .val (.int p3), .val (.int p4), .val (.int p5), .val (.int KK), .val (.int f1), .val (.int f2), .val (.int f3), .val (.int f4), .val (.int (Int32.ofNat (wt f1))), .unset, .unset, .unset, .unset] [(.int (Int32.ofNat (wt f2))), (.int (Int32.ofNat (wt f1)))]) := by
                refine Go.of (T' := s₁) (f' := (mkF m 103 #[.val (.int p1), .val (.int p2), .val (.int p3), .val (.int p4), .val (.int p5), .val (.int KK), .val (.int f1), .val (.int f2), .val (.int f3), .val (.int f4), .val (.int (Int32.ofNat (wt f1))), .unset, .unset, .unset, .unset] [(.int ((Int32.ofNat (wt f1)) + (Int32.ofNat (wt f2))))])) (fun _ k => XS.iadd X0.here hx rfl (hb hby at_102) rfl k) ?_
                refine Go.of (T' := s₁) (f' := (mkF m 105 #[.val (.int p1), .val (.int p2), .val (.int p3), .val (.int p4), .val (.int p5), .val (.int KK), .val (.int f1), .val (.int f2), .val (.int f3), .val (.int f4), .val (.int ((Int32.ofNat (wt f1)) + (Int32.ofNat (wt f2)))), .unset, .unset, .unset, .unset] [])) (fun _ k => XS.istore X0.here hx rfl (hb hby at_103) rfl (l' := #[.val (.int p1), .val (.int p2), .val (.int p3), .val (.int p4), .val (.int p5), .val (.int KK), .val (.int f1), .val (.int f2), .val (.int f3), .val (.int f4), .val (.int ((Int32.ofNat (wt f1)) + (Int32.ofNat (wt f2)))), .unset, .unset, .unset, .unset]) rfl k) ?_
                rw [wkT' hc87] at J6
                exact J6
              by_cases hc94 : f2 = (0 : Int32)
              ·
                refine Go.of (T' := s₁) (f' := (mkF m 101 #[.val (.int p1), .val (.int p2), .val (.int p3), .val (.int p4), .val (.int p5), .val (.int KK), .val (.int f1), .val (.int f2), .val (.int f3), .val (.int f4), .val (.int (Int32.ofNat (wt f1))), .unset, .unset, .unset, .unset] [(.int (Int32.ofNat (wt f1)))])) (fun _ k => XS.ifYes X0.here hx rfl (pc0 := 94) (pc' := 101) rfl (hb hby at_94) rfl ((if0 _ _).trans (teq hc94).1) (by decide) (by decide) k) ?_
                refine Go.of (T' := s₁) (f' := (mkF m 102 #[.val (.int p1), .val (.int p2), .val (.int p3), .val (.int p4), .val (.int p5), .val (.int KK), .val (.int f1), .val (.int f2), .val (.int f3), .val (.int f4), .val (.int (Int32.ofNat (wt f1))), .unset, .unset, .unset, .unset] [(.int (1 : Int32)), (.int (Int32.ofNat (wt f1)))])) (fun _ k => XS.iconst X0.here hx rfl (hb hby at_101) k) ?_
                rw [wtZ' hc94] at J34
                exact J34
              ·
                refine Go.of (T' := s₁) (f' := (mkF m 97 #[.val (.int p1), .val (.int p2), .val (.int p3), .val (.int p4), .val (.int p5), .val (.int KK), .val (.int f1), .val (.int f2), .val (.int f3), .val (.int f4), .val (.int (Int32.ofNat (wt f1))), .unset, .unset, .unset, .unset] [(.int (Int32.ofNat (wt f1)))])) (fun _ k => XS.ifNo X0.here hx rfl (hb hby at_94) rfl ((if0 _ _).trans (feq hc94).1) k) ?_
                refine Go.of (T' := s₁) (f' := (mkF m 98 #[.val (.int p1), .val (.int p2), .val (.int p3), .val (.int p4), .val (.int p5), .val (.int KK), .val (.int f1), .val (.int f2), .val (.int f3), .val (.int f4), .val (.int (Int32.ofNat (wt f1))), .unset, .unset, .unset, .unset] [(.int (2 : Int32)), (.int (Int32.ofNat (wt f1)))])) (fun _ k => XS.iconst X0.here hx rfl (hb hby at_97) k) ?_
                refine Go.of (T' := s₁) (f' := (mkF m 102 #[.val (.int p1), .val (.int p2), .val (.int p3), .val (.int p4), .val (.int p5), .val (.int KK), .val (.int f1), .val (.int f2), .val (.int f3), .val (.int f4), .val (.int (Int32.ofNat (wt f1))), .unset, .unset, .unset, .unset] [(.int (2 : Int32)), (.int (Int32.ofNat (wt f1)))])) (fun _ k => XS.goto X0.here hx rfl (pc0 := 98) (pc' := 102) rfl (hb hby at_98) (by decide) (by decide) k) ?_
                rw [wtN' hc94] at J34
                exact J34
            ·
              refine Go.of (T' := s₁) (f' := (mkF m 105 #[.val (.int p1), .val (.int p2), .val (.int p3), .val (.int p4), .val (.int p5), .val (.int KK), .val (.int f1), .val (.int f2), .val (.int f3), .val (.int f4), .val (.int (Int32.ofNat (wt f1))), .unset, .unset, .unset, .unset] [])) (fun _ k => XS.icmpYes X0.here hx rfl (pc0 := 87) (pc' := 105) rfl (hb hby at_87) rfl (flt hc87).2.2.2 (by decide) (by decide) k) ?_
              rw [wkF' hc87] at J6
              exact J6
          by_cases hc74 : f1 = (0 : Int32)
          ·
            refine Go.of (T' := s₁) (f' := (mkF m 81 #[.val (.int p1), .val (.int p2), .val (.int p3), .val (.int p4), .val (.int p5), .val (.int KK), .val (.int f1), .val (.int f2), .val (.int f3), .val (.int f4), .unset, .unset, .unset, .unset, .unset] [])) (fun _ k => XS.ifYes X0.here hx rfl (pc0 := 74) (pc' := 81) rfl (hb hby at_74) rfl ((if0 _ _).trans (teq hc74).1) (by decide) (by decide) k) ?_
            refine Go.of (T' := s₁) (f' := (mkF m 82 #[.val (.int p1), .val (.int p2), .val (.int p3), .val (.int p4), .val (.int p5), .val (.int KK), .val (.int f1), .val (.int f2), .val (.int f3), .val (.int f4), .unset, .unset, .unset, .unset, .unset] [(.int (1 : Int32))])) (fun _ k => XS.iconst X0.here hx rfl (hb hby at_81) k) ?_
            rw [wtZ' hc74] at J5
            exact J5
          ·
            refine Go.of (T' := s₁) (f' := (mkF m 77 #[.val (.int p1), .val (.int p2), .val (.int p3), .val (.int p4), .val (.int p5), .val (.int KK), .val (.int f1), .val (.int f2), .val (.int f3), .val (.int f4), .unset, .unset, .unset, .unset, .unset] [])) (fun _ k => XS.ifNo X0.here hx rfl (hb hby at_74) rfl ((if0 _ _).trans (feq hc74).1) k) ?_
            refine Go.of (T' := s₁) (f' := (mkF m 78 #[.val (.int p1), .val (.int p2), .val (.int p3), .val (.int p4), .val (.int p5), .val (.int KK), .val (.int f1), .val (.int f2), .val (.int f3), .val (.int f4), .unset, .unset, .unset, .unset, .unset] [(.int (2 : Int32))])) (fun _ k => XS.iconst X0.here hx rfl (hb hby at_77) k) ?_
            refine Go.of (T' := s₁) (f' := (mkF m 82 #[.val (.int p1), .val (.int p2), .val (.int p3), .val (.int p4), .val (.int p5), .val (.int KK), .val (.int f1), .val (.int f2), .val (.int f3), .val (.int f4), .unset, .unset, .unset, .unset, .unset] [(.int (2 : Int32))])) (fun _ k => XS.goto X0.here hx rfl (pc0 := 78) (pc' := 82) rfl (hb hby at_78) (by decide) (by decide) k) ?_
            rw [wtN' hc74] at J5
            exact J5
        by_cases hc62 : (((p5.toUInt32 >>> ((5 : Int32) &&& 31).toUInt32).toInt32) &&& (1 : Int32)) = (0 : Int32)
        ·
          refine Go.of (T' := s₁) (f' := (mkF m 69 #[.val (.int p1), .val (.int p2), .val (.int p3), .val (.int p4), .val (.int p5), .val (.int KK), .val (.int f1), .val (.int f2), .val (.int f3), .unset, .unset, .unset, .unset, .unset, .unset] [])) (fun _ k => XS.ifYes X0.here hx rfl (pc0 := 62) (pc' := 69) rfl (hb hby at_62) rfl ((if0 _ _).trans (teq hc62).1) (by decide) (by decide) k) ?_
          refine Go.of (T' := s₁) (f' := (mkF m 70 #[.val (.int p1), .val (.int p2), .val (.int p3), .val (.int p4), .val (.int p5), .val (.int KK), .val (.int f1), .val (.int f2), .val (.int f3), .unset, .unset, .unset, .unset, .unset, .unset] [(.int (0 : Int32))])) (fun _ k => XS.iconst X0.here hx rfl (hb hby at_69) k) ?_
          exact J4 (0 : Int32) 
        ·
          refine Go.of (T' := s₁) (f' := (mkF m 65 #[.val (.int p1), .val (.int p2), .val (.int p3), .val (.int p4), .val (.int p5), .val (.int KK), .val (.int f1), .val (.int f2), .val (.int f3), .unset, .unset, .unset, .unset, .unset, .unset] [])) (fun _ k => XS.ifNo X0.here hx rfl (hb hby at_62) rfl ((if0 _ _).trans (feq hc62).1) k) ?_
          refine Go.of (T' := s₁) (f' := (mkF m 66 #[.val (.int p1), .val (.int p2), .val (.int p3), .val (.int p4), .val (.int p5), .val (.int KK), .val (.int f1), .val (.int f2), .val (.int f3), .unset, .unset, .unset, .unset, .unset, .unset] [(.int (1 : Int32))])) (fun _ k => XS.iconst X0.here hx rfl (hb hby at_65) k) ?_
          refine Go.of (T' := s₁) (f' := (mkF m 70 #[.val (.int p1), .val (.int p2), .val (.int p3), .val (.int p4), .val (.int p5), .val (.int KK), .val (.int f1), .val (.int f2), .val (.int f3), .unset, .unset, .unset, .unset, .unset, .unset] [(.int (1 : Int32))])) (fun _ k => XS.goto X0.here hx rfl (pc0 := 66) (pc' := 70) rfl (hb hby at_66) (by decide) (by decide) k) ?_
          exact J4 (1 : Int32) 
      by_cases hc46 : (((p5.toUInt32 >>> ((4 : Int32) &&& 31).toUInt32).toInt32) &&& (1 : Int32)) = (0 : Int32)
      ·
        refine Go.of (T' := s₁) (f' := (mkF m 53 #[.val (.int p1), .val (.int p2), .val (.int p3), .val (.int p4), .val (.int p5), .val (.int KK), .val (.int f1), .val (.int f2), .unset, .unset, .unset, .unset, .unset, .unset, .unset] [])) (fun _ k => XS.ifYes X0.here hx rfl (pc0 := 46) (pc' := 53) rfl (hb hby at_46) rfl ((if0 _ _).trans (teq hc46).1) (by decide) (by decide) k) ?_
        refine Go.of (T' := s₁) (f' := (mkF m 54 #[.val (.int p1), .val (.int p2), .val (.int p3), .val (.int p4), .val (.int p5), .val (.int KK), .val (.int f1), .val (.int f2), .unset, .unset, .unset, .unset, .unset, .unset, .unset] [(.int (0 : Int32))])) (fun _ k => XS.iconst X0.here hx rfl (hb hby at_53) k) ?_
        exact J3 (0 : Int32) 
      ·
        refine Go.of (T' := s₁) (f' := (mkF m 49 #[.val (.int p1), .val (.int p2), .val (.int p3), .val (.int p4), .val (.int p5), .val (.int KK), .val (.int f1), .val (.int f2), .unset, .unset, .unset, .unset, .unset, .unset, .unset] [])) (fun _ k => XS.ifNo X0.here hx rfl (hb hby at_46) rfl ((if0 _ _).trans (feq hc46).1) k) ?_
        refine Go.of (T' := s₁) (f' := (mkF m 50 #[.val (.int p1), .val (.int p2), .val (.int p3), .val (.int p4), .val (.int p5), .val (.int KK), .val (.int f1), .val (.int f2), .unset, .unset, .unset, .unset, .unset, .unset, .unset] [(.int (1 : Int32))])) (fun _ k => XS.iconst X0.here hx rfl (hb hby at_49) k) ?_
        refine Go.of (T' := s₁) (f' := (mkF m 54 #[.val (.int p1), .val (.int p2), .val (.int p3), .val (.int p4), .val (.int p5), .val (.int KK), .val (.int f1), .val (.int f2), .unset, .unset, .unset, .unset, .unset, .unset, .unset] [(.int (1 : Int32))])) (fun _ k => XS.goto X0.here hx rfl (pc0 := 50) (pc' := 54) rfl (hb hby at_50) (by decide) (by decide) k) ?_
        exact J3 (1 : Int32) 
    by_cases hc30 : (((p5.toUInt32 >>> ((3 : Int32) &&& 31).toUInt32).toInt32) &&& (1 : Int32)) = (0 : Int32)
    ·
      refine Go.of (T' := s₁) (f' := (mkF m 37 #[.val (.int p1), .val (.int p2), .val (.int p3), .val (.int p4), .val (.int p5), .val (.int KK), .val (.int f1), .unset, .unset, .unset, .unset, .unset, .unset, .unset, .unset] [])) (fun _ k => XS.ifYes X0.here hx rfl (pc0 := 30) (pc' := 37) rfl (hb hby at_30) rfl ((if0 _ _).trans (teq hc30).1) (by decide) (by decide) k) ?_
      refine Go.of (T' := s₁) (f' := (mkF m 38 #[.val (.int p1), .val (.int p2), .val (.int p3), .val (.int p4), .val (.int p5), .val (.int KK), .val (.int f1), .unset, .unset, .unset, .unset, .unset, .unset, .unset, .unset] [(.int (0 : Int32))])) (fun _ k => XS.iconst X0.here hx rfl (hb hby at_37) k) ?_
      exact J2 (0 : Int32) 
    ·
      refine Go.of (T' := s₁) (f' := (mkF m 33 #[.val (.int p1), .val (.int p2), .val (.int p3), .val (.int p4), .val (.int p5), .val (.int KK), .val (.int f1), .unset, .unset, .unset, .unset, .unset, .unset, .unset, .unset] [])) (fun _ k => XS.ifNo X0.here hx rfl (hb hby at_30) rfl ((if0 _ _).trans (feq hc30).1) k) ?_
      refine Go.of (T' := s₁) (f' := (mkF m 34 #[.val (.int p1), .val (.int p2), .val (.int p3), .val (.int p4), .val (.int p5), .val (.int KK), .val (.int f1), .unset, .unset, .unset, .unset, .unset, .unset, .unset, .unset] [(.int (1 : Int32))])) (fun _ k => XS.iconst X0.here hx rfl (hb hby at_33) k) ?_
      refine Go.of (T' := s₁) (f' := (mkF m 38 #[.val (.int p1), .val (.int p2), .val (.int p3), .val (.int p4), .val (.int p5), .val (.int KK), .val (.int f1), .unset, .unset, .unset, .unset, .unset, .unset, .unset, .unset] [(.int (1 : Int32))])) (fun _ k => XS.goto X0.here hx rfl (pc0 := 34) (pc' := 38) rfl (hb hby at_34) (by decide) (by decide) k) ?_
      exact J2 (1 : Int32) 
  by_cases hc14 : (((p5.toUInt32 >>> ((2 : Int32) &&& 31).toUInt32).toInt32) &&& (1 : Int32)) = (0 : Int32)
  ·
    refine Go.of (T' := s₁) (f' := (mkF m 21 #[.val (.int p1), .val (.int p2), .val (.int p3), .val (.int p4), .val (.int p5), .val (.int KK), .unset, .unset, .unset, .unset, .unset, .unset, .unset, .unset, .unset] [])) (fun _ k => XS.ifYes X0.here hx rfl (pc0 := 14) (pc' := 21) rfl (hb hby at_14) rfl ((if0 _ _).trans (teq hc14).1) (by decide) (by decide) k) ?_
    refine Go.of (T' := s₁) (f' := (mkF m 22 #[.val (.int p1), .val (.int p2), .val (.int p3), .val (.int p4), .val (.int p5), .val (.int KK), .unset, .unset, .unset, .unset, .unset, .unset, .unset, .unset, .unset] [(.int (0 : Int32))])) (fun _ k => XS.iconst X0.here hx rfl (hb hby at_21) k) ?_
    exact J1 (0 : Int32) 
  ·
    refine Go.of (T' := s₁) (f' := (mkF m 17 #[.val (.int p1), .val (.int p2), .val (.int p3), .val (.int p4), .val (.int p5), .val (.int KK), .unset, .unset, .unset, .unset, .unset, .unset, .unset, .unset, .unset] [])) (fun _ k => XS.ifNo X0.here hx rfl (hb hby at_14) rfl ((if0 _ _).trans (feq hc14).1) k) ?_
    refine Go.of (T' := s₁) (f' := (mkF m 18 #[.val (.int p1), .val (.int p2), .val (.int p3), .val (.int p4), .val (.int p5), .val (.int KK), .unset, .unset, .unset, .unset, .unset, .unset, .unset, .unset, .unset] [(.int (1 : Int32))])) (fun _ k => XS.iconst X0.here hx rfl (hb hby at_17) k) ?_
    refine Go.of (T' := s₁) (f' := (mkF m 22 #[.val (.int p1), .val (.int p2), .val (.int p3), .val (.int p4), .val (.int p5), .val (.int KK), .unset, .unset, .unset, .unset, .unset, .unset, .unset, .unset, .unset] [(.int (1 : Int32))])) (fun _ k => XS.goto X0.here hx rfl (pc0 := 18) (pc' := 22) rfl (hb hby at_18) (by decide) (by decide) k) ?_
    exact J1 (1 : Int32) 
set_option maxRecDepth 65536 in
set_option maxHeartbeats 40000000 in
theorem comes_1 {Post : Tables → Env → Array Value → State → Outcome → State → Prop} (hpost : ∀ tb e args s v u, (limb_1_1.after args s (.returned v) u = true ∧ limb_1_2.after args s (.returned v) u = true ∧ True) → ReturnedEndW s (.returned v) u (Jvm.fieldLocs frame_1_writes args s ++ Jvm.arrayLocs frame_1_arrays args s ++ Jvm.staticLocs frame_1_statics s) 24 1216 → Post tb e args s (.returned v) u) :
    ArmFor flags0 classFile x code maxLocals ret World_1 tables_1 room_1 Calls_1 rest_1 Pre_1 Post := by
  intro l hfl _ _ p e ha hc hk s m args below hf hA hF happ hP
  obtain ⟨hcalls, hrest, hpre⟩ := hP
  obtain ⟨-, -, -, hnamed, -, -, -, hat⟩ := (Spec.applies_iff hf).mp happ
  obtain ⟨hg, hn⟩ := and_e (Cond.before_iff.mp (show (Jvm.Cond.and given_1 narrow_1).before args s = true from hpre))
  obtain ⟨g1, g2⟩ := and_e hg
  obtain ⟨g3, g4⟩ := and_e g2
  obtain ⟨g5, g6⟩ := and_e g4
  obtain ⟨g7, g8⟩ := and_e g6
  obtain ⟨g9, g10⟩ := and_e g8
  obtain ⟨w0, w1, w2, w3, w4, rfl⟩ : ∃ w0 w1 w2 w3 w4 : Value, args = #[w0, w1, w2, w3, w4] := by
    have hs : args.size = 5 := by simpa [Cond.value, given_1] using g1
    obtain ⟨L⟩ := args
    match L, hs with
    | [w0, w1, w2, w3, w4], _ => exact ⟨w0, w1, w2, w3, w4, rfl⟩
  have hw := fun d (hd : d ∈ tables_1) => atoms_spec (ws := Jvm.Cond.code x code maxLocals ret :: tables_1) hat d (List.mem_cons_of_mem _ hd)
  have hfit : Fit s := fun {y c} hc i hi => by
    obtain ⟨ha, rfl⟩ := Array.getElem?_eq_some_iff.mp hc
    have q := List.all_eq_true.mp ((Array.all_eq_true_iff_forall_mem.mp hF) _ (Array.getElem_mem ha)) i (List.mem_range.mpr hi)
    simpa [Array.getElem?_eq_getElem hi] using q
  obtain ⟨hsets, hown0⟩ := atoms_of _ (rest_1_c_eq ▸ (show rest_1_c.before _ s = true from hrest))
  have hr0 := Cond.before_iff.mp hown0
  obtain ⟨i0, ei0⟩ := is_v g3
  obtain rfl : w0 = (.int i0) := Option.some.inj ei0
  obtain ⟨i1, ei1⟩ := is_v g5
  obtain rfl : w1 = (.int i1) := Option.some.inj ei1
  obtain ⟨i2, ei2⟩ := is_v g7
  obtain rfl : w2 = (.int i2) := Option.some.inj ei2
  obtain ⟨i3, ei3⟩ := is_v g9
  obtain rfl : w3 = (.int i3) := Option.some.inj ei3
  obtain ⟨i4, ei4⟩ := is_v g10
  obtain rfl : w4 = (.int i4) := Option.some.inj ei4
  have H0 : CHv s consts_1 s.vm s.heap := fun p hp => by simp [consts_1] at hp
  have n3 := not_v (Cond.before_iff.mp (hsets _ (List.mem_of_getElem? (i := 2) rfl)))
  obtain ⟨zc, ezc⟩ := is_v (Cond.before_iff.mp (hsets _ (List.mem_of_getElem? (i := 1) rfl)))
  have Z_cs : Sta s s.heap "java/lang/String" "COMPACT_STRINGS" "Z" (.int zc) := Sta.start ezc (Or.inl (hsets _ (List.mem_of_getElem? (i := 0) rfl)))
  have hz : ¬ (zc = (0 : Int32)) := gotF (Cond.eq_ints ezc (Term.int_eval (0))) n3
  obtain ⟨fm, efm, hfm⟩ := isR_v (Cond.before_iff.mp (hsets _ (List.mem_of_getElem? (i := 8) rfl)))
  have Z_fm : Sta s s.heap "jdk/internal/util/Preconditions" "SIOOBE_FORMATTER" "Ljava/util/function/BiFunction;" fm := Sta.start efm (Or.inl (hsets _ (List.mem_of_getElem? (i := 7) rfl)))
  have eZ_ad := eqInt (hsets _ (List.mem_of_getElem? (i := 12) rfl))
  have Z_ad : Sta s s.heap "java/lang/StringUTF16" "$assertionsDisabled" "Z" (.int (1 : Int32)) := Sta.start eZ_ad (Or.inl (hsets _ (List.mem_of_getElem? (i := 11) rfl)))
  have eZ_hs := eqInt (hsets _ (List.mem_of_getElem? (i := 15) rfl))
  have Z_hs : Sta s s.heap "java/lang/StringUTF16" "HI_BYTE_SHIFT" "I" (.int (0 : Int32)) := Sta.start eZ_hs (Or.inl (hsets _ (List.mem_of_getElem? (i := 14) rfl)))
  have eZ_ls := eqInt (hsets _ (List.mem_of_getElem? (i := 18) rfl))
  have Z_ls : Sta s s.heap "java/lang/StringUTF16" "LO_BYTE_SHIFT" "I" (.int (8 : Int32)) := Sta.start eZ_ls (Or.inl (hsets _ (List.mem_of_getElem? (i := 17) rfl)))
  obtain ⟨n, o, h1, h2, h3, _, L, rfl, ⟨rfl, M⟩, _, hq⟩ := rm_law l s _ hw i0 i1 i2 i3 i4 zc fm s.heap Z_ad Z_hs Z_ls Z_fm hfm Z_cs hz tables_1 p e ha hc hk s m _ below hf ((Spec.applies_iff_loose hf).mp happ).1 ⟨rfl, State.Warmed39.refl s, rfl, H0⟩ trivial
  refine ⟨n, _, h1, h2, h3, hpost _ _ _ _ _ _ ⟨Cond.after_iff.mpr rfl, Cond.after_iff.mpr (eq_i res_at (Term.int_eval (1)) rfl), trivial⟩ ⟨hq.1, hq.2.1, hq.2.2.1, (hq.2.2.2.sift fun y hy => Or.inr (M.fr y hy)).mono (by decide) (by decide)⟩⟩
theorem main_1_1 : Claimed_1_1 := comes_1 fun _ _ _ _ _ _ h hF => ⟨h.1, hF⟩
theorem main_1_2 : Claimed_1_2 := comes_1 fun _ _ _ _ _ _ h hF => ⟨h.2.1, hF⟩
end Jvm.Pilot.@@N@@
namespace Jvm.Pilot.@@N@@
open Jvm Jvm.ClassFile Sem Op Lib Jvm.Free Jvm.Stand Jvm.Pilot.@@N@@.Jvm.D
/-! MADE BY PROGRAM (witnessworld.py) out of the Statement's table words and the real class files: 20 classes; the members and pool entries that the words name. The judged class is class 1, her method 3. -/
namespace start1
open Jvm.ClassFile
def u (s : String) : CpInfo := .utf8 (stringToUtf16 s)
/-- a pool by its gaps: so many unusable entries, then the entry; so many at the end -/
def gap : Nat → List CpInfo → List CpInfo
  | 0, r => r
  | n + 1, r => .unusable :: gap n r
def poolList (es : List (Nat × CpInfo)) (last : Nat) : List CpInfo := es.foldr (fun e r => gap e.1 (e.2 :: r)) (gap last [])
def pool (es : List (Nat × CpInfo)) (last : Nat) : Array CpInfo := ⟨poolList es last⟩
def fileOf (pool : Array CpInfo) (this : Nat) (attrs : Array Attribute := #[]) (ms : Array MethodInfo := #[]) (fl : Nat := 33) (sup : Nat := 0) (ifs : Array Nat := #[]) (fds : Array FieldInfo := #[]) : ClassFile where
  minorVersion := 0
  majorVersion := 65
  constantPool := pool
  accessFlags := fl
  thisClass := this
  superClass := sup
  interfaces := ifs
  fields := fds
  methods := ms
  attributes := attrs
def plain (name : String) (sup : Option ClassId) : Class where
  name := name
  kind := .ordinary
  loader := none
  accessFlags := 33
  super := sup
  interfaces := #[]
  cf := none
  fields := #[]
  methods := #[]
  instanceTypes := #[]
  staticTypes := #[]
  resolved := #[]
  callSites := []
  init := .initialized
  statics := none
  mirror := none

def pool0 : Array CpInfo := pool [(5, u "<init>"), (0, u "()V"), (1, .class_ 10), (1, u "java/lang/Object")] 113

def k0c0 : Code := { maxStack := 0, maxLocals := 1, code := object_method_1_code, exceptionTable := #[], attributes := #[] }
def k0m0 : Method := { name := "<init>", desc := "()V", sig := { parameters := [], returnType := none }, accessFlags := 1, code := some k0c0 }
/-- java/lang/Object -/
def k0 : Class := { plain "java/lang/Object" none with
  accessFlags := 33
  interfaces := #[]
  cf := some (fileOf pool0 8 #[] #[{ accessFlags := 1, nameIndex := 5, descriptorIndex := 6, attributes := #[] }] 33 0 #[] #[])
  fields := #[]
  methods := #[k0m0]
  instanceTypes := #[]
  staticTypes := #[]
  resolved := Array.replicate 124 none
  statics := none }

def pool1 : Array CpInfo := pool [(2, .class_ 4), (1, u "java/lang/Object"), (0, u "<init>"), (0, u "()V"), (0, .integer 65535), (0, .integer 55296), (0, .integer 57343), (0, .integer 56320), (0, .methodref 12 13), (0, .class_ 14), (0, .nameAndType 15 16), (0, u "com/example/dozor/dozor/NamesRequireLockOwnerPinLaw"), (0, u "bmp"), (0, u "(I)C"), (0, .methodref 12 18), (0, .nameAndType 19 20), (0, u "put"), (0, u "([CIIZ)I"), (0, .class_ 22), (0, u "java/lang/String"), (0, .methodref 21 24), (0, .nameAndType 5 25), (0, u "([C)V"), (0, .methodref 27 28), (0, .class_ 29), (0, .nameAndType 30 31), (0, u "com/example/dozor/dozor/Names"), (0, u "requireLockOwner"), (0, u "(Ljava/lang/String;)Ljava/lang/String;"), (0, .methodref 21 33), (0, .nameAndType 34 35), (0, u "length"), (0, u "()I"), (3, u "law"), (0, u "(IIIII)Z")] 4

def k1m0 : Method := { name := "<init>", desc := "()V", sig := { parameters := [], returnType := none }, accessFlags := 2, code := none }
def k1c1 : Code := { maxStack := 2, maxLocals := 2, code := method_2_code, exceptionTable := #[], attributes := #[] }
def k1m1 : Method := { name := "bmp", desc := "(I)C", sig := { parameters := [.int], returnType := some .char }, accessFlags := 10, code := some k1c1 }
def k1c2 : Code := { maxStack := 5, maxLocals := 4, code := method_3_code, exceptionTable := #[], attributes := #[] }
def k1m2 : Method := { name := "put", desc := "([CIIZ)I", sig := { parameters := [(.array .char), .int, .int, .boolean], returnType := some .int }, accessFlags := 10, code := some k1c2 }
def k1c3 : Code := { maxStack := 4, maxLocals := 15, code := code, exceptionTable := #[], attributes := #[] }
def k1m3 : Method := { name := "law", desc := "(IIIII)Z", sig := { parameters := [.int, .int, .int, .int, .int], returnType := some .boolean }, accessFlags := 9, code := some k1c3 }
/-- com/example/dozor/dozor/NamesRequireLockOwnerPinLaw -/
def k1 : Class := { plain "com/example/dozor/dozor/NamesRequireLockOwnerPinLaw" (some 0) with
  accessFlags := 49
  interfaces := #[]
  cf := some (fileOf pool1 12 #[] #[{ accessFlags := 2, nameIndex := 5, descriptorIndex := 6, attributes := #[] }, { accessFlags := 10, nameIndex := 15, descriptorIndex := 16, attributes := #[] }, { accessFlags := 10, nameIndex := 19, descriptorIndex := 20, attributes := #[] }, { accessFlags := 9, nameIndex := 39, descriptorIndex := 40, attributes := #[] }] 49 2 #[] #[])
  fields := #[]
  methods := #[k1m0, k1m1, k1m2, k1m3]
  instanceTypes := #[]
  staticTypes := #[]
  resolved := Array.replicate 45 none
  statics := none }

def pool2 : Array CpInfo := pool [(1, .class_ 2), (0, u "java/io/Serializable"), (0, .class_ 4), (0, u "java/lang/Object")] 2

/-- java/io/Serializable -/
def k2 : Class := { plain "java/io/Serializable" (some 0) with
  accessFlags := 1537
  interfaces := #[]
  cf := some (fileOf pool2 1 #[] #[] 1537 3 #[] #[])
  fields := #[]
  methods := #[]
  instanceTypes := #[]
  staticTypes := #[]
  resolved := Array.replicate 7 none
  statics := none }

def pool3 : Array CpInfo := pool [(1, .class_ 2), (0, u "java/lang/Comparable"), (0, .class_ 4), (0, u "java/lang/Object")] 7

/-- java/lang/Comparable -/
def k3 : Class := { plain "java/lang/Comparable" (some 0) with
  accessFlags := 1537
  interfaces := #[]
  cf := some (fileOf pool3 1 #[] #[] 1537 3 #[] #[])
  fields := #[]
  methods := #[]
  instanceTypes := #[]
  staticTypes := #[]
  resolved := Array.replicate 12 none
  statics := none }

def pool4 : Array CpInfo := pool [(2, .class_ 4), (1, u "java/lang/CharSequence"), (42, .class_ 48), (0, u "java/lang/CharSequence$1CodePointIterator"), (10, .class_ 60), (0, u "java/lang/CharSequence$1CharIterator"), (5, .class_ 67), (0, u "java/lang/Object")] 63

/-- java/lang/CharSequence -/
def k4 : Class := { plain "java/lang/CharSequence" (some 0) with
  accessFlags := 1537
  interfaces := #[]
  cf := some (fileOf pool4 2 #[.nestMembers #[47, 59]] #[] 1537 66 #[] #[])
  fields := #[]
  methods := #[]
  instanceTypes := #[]
  staticTypes := #[]
  resolved := Array.replicate 131 none
  statics := none }

def pool5 : Array CpInfo := pool [(1, .class_ 2), (0, u "java/lang/constant/Constable"), (0, .class_ 4), (0, u "java/lang/Object")] 6

/-- java/lang/constant/Constable -/
def k5 : Class := { plain "java/lang/constant/Constable" (some 0) with
  accessFlags := 1537
  interfaces := #[]
  cf := some (fileOf pool5 1 #[] #[] 1537 3 #[] #[])
  fields := #[]
  methods := #[]
  instanceTypes := #[]
  staticTypes := #[]
  resolved := Array.replicate 11 none
  statics := none }

def pool6 : Array CpInfo := pool [(1, .class_ 2), (0, u "java/lang/constant/ConstantDesc"), (0, .class_ 4), (0, u "java/lang/Object")] 32

/-- java/lang/constant/ConstantDesc -/
def k6 : Class := { plain "java/lang/constant/ConstantDesc" (some 0) with
  accessFlags := 1537
  interfaces := #[]
  cf := some (fileOf pool6 1 #[] #[] 1537 3 #[] #[])
  fields := #[]
  methods := #[]
  instanceTypes := #[]
  staticTypes := #[]
  resolved := Array.replicate 37 none
  statics := none }

def pool7 : Array CpInfo := pool [(1, .methodref 2 3), (0, .class_ 4), (0, .nameAndType 5 6), (0, u "java/lang/Object"), (0, u "<init>"), (0, u "()V"), (2, .fieldref 10 11), (0, .class_ 12), (0, .nameAndType 13 14), (0, u "java/lang/String"), (0, u "value"), (0, u "[B"), (0, .fieldref 10 16), (0, .nameAndType 17 18), (0, u "coder"), (0, u "B"), (2, u "hash"), (0, u "I"), (2, u "hashIsZero"), (0, u "Z"), (0, .methodref 10 28), (0, .nameAndType 5 29), (0, u "([CIILjava/lang/Void;)V"), (7, u "(III)I"), (0, .fieldref 10 39), (0, .nameAndType 40 26), (0, u "COMPACT_STRINGS"), (1, .class_ 44), (1, u "java/lang/StringUTF16"), (0, u "compress"), (1, .methodref 42 48), (0, .nameAndType 49 50), (0, u "coderFromArrayLen"), (0, u "([BI)B"), (28, .class_ 81), (1, u "java/util/Objects"), (15, u "([BII)I"), (9, .class_ 109), (1, u "java/lang/StringLatin1"), (32, u "()Z"), (34, .methodref 42 178), (0, .nameAndType 45 179), (0, u "([CII)[B"), (154, u "()I"), (0, .methodref 10 336), (0, .nameAndType 17 337), (0, u "()B"), (25, u "([BI)C"), (27, u "(II)V"), (35, u "(I)C"), (64, .methodref 10 493), (0, .nameAndType 494 142), (0, u "isLatin1"), (0, .methodref 107 496), (0, .nameAndType 497 363), (0, u "charAt"), (0, .methodref 42 496), (2, u "checkIndex"), (3, .methodref 10 506), (0, .nameAndType 507 334), (0, u "length"), (3, .methodref 79 512), (0, .nameAndType 513 37), (0, u "checkFromToIndex"), (0, .methodref 42 515), (0, .nameAndType 516 97), (0, u "codePointCount"), (58, .class_ 576), (0, u "java/lang/CharSequence"), (22, u "CASE_INSENSITIVE_ORDER"), (0, u "Ljava/util/Comparator;"), (35, u "(II)I"), (55, u "isEmpty"), (317, u "([C)V"), (42, .fieldref 1054 1055), (0, .class_ 1056), (0, .nameAndType 1057 1058), (0, u "jdk/internal/util/Preconditions"), (0, u "SIOOBE_FORMATTER"), (0, u "Ljava/util/function/BiFunction;"), (0, .methodref 1054 1060), (0, .nameAndType 501 1061), (0, u "(IILjava/util/function/BiFunction;)I"), (39, u "serialPersistentFields"), (0, u "[Ljava/io/ObjectStreamField;"), (0, .class_ 1104), (0, u "java/lang/String$CaseInsensitiveComparator"), (1, .class_ 1107), (0, u "java/io/Serializable"), (0, .class_ 1109), (0, u "java/lang/Comparable"), (0, .class_ 1111), (0, u "java/lang/constant/Constable"), (0, .class_ 1113), (0, u "java/lang/constant/ConstantDesc"), (2, u "serialVersionUID"), (0, u "J"), (3, u "REPL"), (0, u "C"), (2, u "LATIN1"), (1, u "UTF16")] 323

def k7m0 : Method := { name := "<init>", desc := "()V", sig := { parameters := [], returnType := none }, accessFlags := 1, code := none }
def k7c1 : Code := { maxStack := 5, maxLocals := 2, code := jdk_42_method_3_code, exceptionTable := #[], attributes := #[] }
def k7m1 : Method := { name := "<init>", desc := "([C)V", sig := { parameters := [(.array .char)], returnType := none }, accessFlags := 1, code := some k7c1 }
def k7c2 : Code := { maxStack := 2, maxLocals := 1, code := jdk_42_method_54_code, exceptionTable := #[], attributes := #[] }
def k7m2 : Method := { name := "length", desc := "()I", sig := { parameters := [], returnType := some .int }, accessFlags := 1, code := some k7c2 }
def k7c3 : Code := { maxStack := 1, maxLocals := 1, code := jdk_42_method_55_code, exceptionTable := #[], attributes := #[] }
def k7m3 : Method := { name := "isEmpty", desc := "()Z", sig := { parameters := [], returnType := some .boolean }, accessFlags := 1, code := some k7c3 }
def k7c4 : Code := { maxStack := 2, maxLocals := 2, code := jdk_42_method_56_code, exceptionTable := #[], attributes := #[] }
def k7m4 : Method := { name := "charAt", desc := "(I)C", sig := { parameters := [.int], returnType := some .char }, accessFlags := 1, code := some k7c4 }
def k7c5 : Code := { maxStack := 3, maxLocals := 3, code := jdk_42_method_59_code, exceptionTable := #[], attributes := #[] }
def k7m5 : Method := { name := "codePointCount", desc := "(II)I", sig := { parameters := [.int, .int], returnType := some .int }, accessFlags := 1, code := some k7c5 }
def k7c6 : Code := { maxStack := 4, maxLocals := 6, code := jdk_42_method_149_code, exceptionTable := #[], attributes := #[] }
def k7m6 : Method := { name := "<init>", desc := "([CIILjava/lang/Void;)V", sig := { parameters := [(.array .char), .int, .int, (.object "java/lang/Void")], returnType := none }, accessFlags := 2, code := some k7c6 }
def k7c7 : Code := { maxStack := 1, maxLocals := 1, code := jdk_42_method_152_code, exceptionTable := #[], attributes := #[] }
def k7m7 : Method := { name := "coder", desc := "()B", sig := { parameters := [], returnType := some .byte }, accessFlags := 0, code := some k7c7 }
def k7c8 : Code := { maxStack := 1, maxLocals := 1, code := jdk_42_method_154_code, exceptionTable := #[], attributes := #[] }
def k7m8 : Method := { name := "isLatin1", desc := "()Z", sig := { parameters := [], returnType := some .boolean }, accessFlags := 0, code := some k7c8 }
def k7c9 : Code := { maxStack := 3, maxLocals := 2, code := jdk_42_method_155_code, exceptionTable := #[], attributes := #[] }
def k7m9 : Method := { name := "checkIndex", desc := "(II)V", sig := { parameters := [.int, .int], returnType := none }, accessFlags := 8, code := some k7c9 }
/-- java/lang/String -/
def k7 : Class := { plain "java/lang/String" (some 0) with
  accessFlags := 49
  interfaces := #[2, 3, 4, 5, 6]
  cf := some (fileOf pool7 10 #[.nestMembers #[1103]] #[{ accessFlags := 1, nameIndex := 5, descriptorIndex := 6, attributes := #[] }, { accessFlags := 1, nameIndex := 5, descriptorIndex := 1010, attributes := #[] }, { accessFlags := 1, nameIndex := 507, descriptorIndex := 334, attributes := #[] }, { accessFlags := 1, nameIndex := 692, descriptorIndex := 142, attributes := #[] }, { accessFlags := 1, nameIndex := 497, descriptorIndex := 427, attributes := #[] }, { accessFlags := 1, nameIndex := 516, descriptorIndex := 636, attributes := #[] }, { accessFlags := 2, nameIndex := 5, descriptorIndex := 29, attributes := #[] }, { accessFlags := 0, nameIndex := 17, descriptorIndex := 337, attributes := #[] }, { accessFlags := 0, nameIndex := 494, descriptorIndex := 142, attributes := #[] }, { accessFlags := 8, nameIndex := 501, descriptorIndex := 391, attributes := #[] }] 49 2 #[1106, 1108, 575, 1110, 1112] #[{ accessFlags := 18, nameIndex := 13, descriptorIndex := 14, attributes := #[] }, { accessFlags := 18, nameIndex := 17, descriptorIndex := 18, attributes := #[] }, { accessFlags := 2, nameIndex := 21, descriptorIndex := 22, attributes := #[] }, { accessFlags := 2, nameIndex := 25, descriptorIndex := 26, attributes := #[] }, { accessFlags := 26, nameIndex := 1116, descriptorIndex := 1117, attributes := #[] }, { accessFlags := 24, nameIndex := 40, descriptorIndex := 26, attributes := #[] }, { accessFlags := 26, nameIndex := 1101, descriptorIndex := 1102, attributes := #[] }, { accessFlags := 26, nameIndex := 1121, descriptorIndex := 1122, attributes := #[] }, { accessFlags := 25, nameIndex := 599, descriptorIndex := 600, attributes := #[] }, { accessFlags := 24, nameIndex := 1125, descriptorIndex := 18, attributes := #[] }, { accessFlags := 24, nameIndex := 1127, descriptorIndex := 18, attributes := #[] }])
  fields := #[{ name := "value", type := (.array .byte), accessFlags := 18, slot := 0, constantValue := 0 }, { name := "coder", type := .byte, accessFlags := 18, slot := 1, constantValue := 0 }, { name := "hash", type := .int, accessFlags := 2, slot := 2, constantValue := 0 }, { name := "hashIsZero", type := .boolean, accessFlags := 2, slot := 3, constantValue := 0 }, { name := "serialVersionUID", type := .long, accessFlags := 26, slot := 0, constantValue := 0 }, { name := "COMPACT_STRINGS", type := .boolean, accessFlags := 24, slot := 1, constantValue := 0 }, { name := "serialPersistentFields", type := (.array (.object "java/io/ObjectStreamField")), accessFlags := 26, slot := 2, constantValue := 0 }, { name := "REPL", type := .char, accessFlags := 26, slot := 3, constantValue := 0 }, { name := "CASE_INSENSITIVE_ORDER", type := (.object "java/util/Comparator"), accessFlags := 25, slot := 4, constantValue := 0 }, { name := "LATIN1", type := .byte, accessFlags := 24, slot := 5, constantValue := 0 }, { name := "UTF16", type := .byte, accessFlags := 24, slot := 6, constantValue := 0 }]
  methods := #[k7m0, k7m1, k7m2, k7m3, k7m4, k7m5, k7m6, k7m7, k7m8, k7m9]
  instanceTypes := #[(.array .byte), .byte, .int, .boolean]
  staticTypes := #[.long, .boolean, (.array (.object "java/io/ObjectStreamField")), .char, (.object "java/util/Comparator"), .byte, .byte]
  resolved := Array.replicate 1451 none
  statics := some 0 }

def pool8 : Array CpInfo := pool [(3, .class_ 4), (0, u "java/lang/String"), (1, .class_ 8), (1, u "java/lang/Object"), (0, u "<init>"), (0, u "()V"), (0, .methodref 12 13), (0, .class_ 14), (0, .nameAndType 15 16), (0, u "java/lang/StringUTF16"), (0, u "newBytesLength"), (0, u "(I)I"), (3, .integer 1073741823), (23, .fieldref 12 45), (0, .nameAndType 46 47), (0, u "$assertionsDisabled"), (0, u "Z"), (0, .methodref 12 49), (0, .nameAndType 50 51), (0, u "length"), (0, u "([B)I"), (7, .fieldref 12 60), (0, .nameAndType 61 62), (0, u "HI_BYTE_SHIFT"), (0, u "I"), (0, .fieldref 12 64), (0, .nameAndType 65 62), (0, u "LO_BYTE_SHIFT"), (1, .methodref 12 68), (0, .nameAndType 69 70), (0, u "checkIndex"), (0, u "(I[B)V"), (0, .methodref 12 72), (0, .nameAndType 73 74), (0, u "getChar"), (0, u "([BI)C"), (0, .methodref 76 77), (0, .class_ 78), (0, .nameAndType 79 80), (0, u "java/lang/Character"), (0, u "isHighSurrogate"), (0, u "(C)Z"), (0, .methodref 76 82), (0, .nameAndType 83 80), (0, u "isLowSurrogate"), (7, u "([BIIZ)I"), (8, .methodref 12 101), (0, .nameAndType 102 91), (0, u "codePointCount"), (4, .methodref 12 108), (0, .nameAndType 109 110), (0, u "newBytesFor"), (0, u "(I)[B"), (0, .methodref 12 112), (0, .nameAndType 113 114), (0, u "putChar"), (0, u "([BII)V"), (0, .methodref 12 116), (0, .nameAndType 117 118), (0, u "compress"), (0, u "([CI[BII)I"), (0, .methodref 12 120), (0, .nameAndType 121 122), (0, u "toBytes"), (0, u "([CII)[B"), (127, u "([BII)I"), (10, u "coderFromArrayLen"), (0, u "([BI)B"), (106, .class_ 371), (1, u "java/lang/StringUTF16$LinesSpliterator"), (20, u "charAt"), (21, .methodref 3 415), (0, .nameAndType 69 416), (0, u "(II)V"), (13, u "MAX_LENGTH"), (196, .class_ 628), (0, u "java/lang/StringUTF16$CodePointsSpliterator"), (0, .class_ 630), (0, u "java/lang/StringUTF16$CharsSpliterator")] 4

def k8m0 : Method := { name := "<init>", desc := "()V", sig := { parameters := [], returnType := none }, accessFlags := 0, code := none }
def k8c1 : Code := { maxStack := 1, maxLocals := 1, code := jdk_52_method_2_code, exceptionTable := #[], attributes := #[] }
def k8m1 : Method := { name := "newBytesFor", desc := "(I)[B", sig := { parameters := [.int], returnType := some (.array .byte) }, accessFlags := 9, code := some k8c1 }
def k8c2 : Code := { maxStack := 4, maxLocals := 1, code := jdk_52_method_3_code, exceptionTable := #[], attributes := #[] }
def k8m2 : Method := { name := "newBytesLength", desc := "(I)I", sig := { parameters := [.int], returnType := some .int }, accessFlags := 9, code := some k8c2 }
def k8c3 : Code := { maxStack := 4, maxLocals := 3, code := jdk_52_method_4_code, exceptionTable := #[], attributes := #[] }
def k8m3 : Method := { name := "putChar", desc := "([BII)V", sig := { parameters := [(.array .byte), .int, .int], returnType := none }, accessFlags := 8, code := some k8c3 }
def k8c4 : Code := { maxStack := 3, maxLocals := 2, code := jdk_52_method_5_code, exceptionTable := #[], attributes := #[] }
def k8m4 : Method := { name := "getChar", desc := "([BI)C", sig := { parameters := [(.array .byte), .int], returnType := some .char }, accessFlags := 8, code := some k8c4 }
def k8c5 : Code := { maxStack := 2, maxLocals := 1, code := jdk_52_method_6_code, exceptionTable := #[], attributes := #[] }
def k8m5 : Method := { name := "length", desc := "([B)I", sig := { parameters := [(.array .byte)], returnType := some .int }, accessFlags := 9, code := some k8c5 }
def k8c6 : Code := { maxStack := 3, maxLocals := 6, code := jdk_52_method_11_code, exceptionTable := #[], attributes := #[] }
def k8m6 : Method := { name := "codePointCount", desc := "([BIIZ)I", sig := { parameters := [(.array .byte), .int, .int, .boolean], returnType := some .int }, accessFlags := 10, code := some k8c6 }
def k8c7 : Code := { maxStack := 4, maxLocals := 3, code := jdk_52_method_12_code, exceptionTable := #[], attributes := #[] }
def k8m7 : Method := { name := "codePointCount", desc := "([BII)I", sig := { parameters := [(.array .byte), .int, .int], returnType := some .int }, accessFlags := 9, code := some k8c7 }
def k8c8 : Code := { maxStack := 4, maxLocals := 5, code := jdk_52_method_14_code, exceptionTable := #[], attributes := #[] }
def k8m8 : Method := { name := "toBytes", desc := "([CII)[B", sig := { parameters := [(.array .char), .int, .int], returnType := some (.array .byte) }, accessFlags := 9, code := some k8c8 }
def k8c9 : Code := { maxStack := 2, maxLocals := 2, code := jdk_52_method_15_code, exceptionTable := #[], attributes := #[] }
def k8m9 : Method := { name := "coderFromArrayLen", desc := "([BI)B", sig := { parameters := [(.array .byte), .int], returnType := some .byte }, accessFlags := 8, code := some k8c9 }
def k8c10 : Code := { maxStack := 5, maxLocals := 6, code := jdk_52_method_16_code, exceptionTable := #[], attributes := #[] }
def k8m10 : Method := { name := "compress", desc := "([CII)[B", sig := { parameters := [(.array .char), .int, .int], returnType := some (.array .byte) }, accessFlags := 9, code := some k8c10 }
def k8c11 : Code := { maxStack := 3, maxLocals := 7, code := jdk_52_method_21_code, exceptionTable := #[], attributes := #[] }
def k8m11 : Method := { name := "compress", desc := "([CI[BII)I", sig := { parameters := [(.array .char), .int, (.array .byte), .int, .int], returnType := some .int }, accessFlags := 9, code := some k8c11 }
def k8c12 : Code := { maxStack := 2, maxLocals := 2, code := jdk_52_method_83_code, exceptionTable := #[], attributes := #[] }
def k8m12 : Method := { name := "charAt", desc := "([BI)C", sig := { parameters := [(.array .byte), .int], returnType := some .char }, accessFlags := 9, code := some k8c12 }
def k8c13 : Code := { maxStack := 2, maxLocals := 2, code := jdk_52_method_91_code, exceptionTable := #[], attributes := #[] }
def k8m13 : Method := { name := "checkIndex", desc := "(I[B)V", sig := { parameters := [.int, (.array .byte)], returnType := none }, accessFlags := 9, code := some k8c13 }
/-- java/lang/StringUTF16 -/
def k8 : Class := { plain "java/lang/StringUTF16" (some 0) with
  accessFlags := 48
  interfaces := #[]
  cf := some (fileOf pool8 12 #[.nestMembers #[627, 629, 369]] #[{ accessFlags := 0, nameIndex := 9, descriptorIndex := 10, attributes := #[] }, { accessFlags := 9, nameIndex := 109, descriptorIndex := 110, attributes := #[] }, { accessFlags := 9, nameIndex := 15, descriptorIndex := 16, attributes := #[] }, { accessFlags := 8, nameIndex := 113, descriptorIndex := 114, attributes := #[] }, { accessFlags := 8, nameIndex := 73, descriptorIndex := 74, attributes := #[] }, { accessFlags := 9, nameIndex := 50, descriptorIndex := 51, attributes := #[] }, { accessFlags := 10, nameIndex := 102, descriptorIndex := 91, attributes := #[] }, { accessFlags := 9, nameIndex := 102, descriptorIndex := 250, attributes := #[] }, { accessFlags := 9, nameIndex := 121, descriptorIndex := 122, attributes := #[] }, { accessFlags := 8, nameIndex := 261, descriptorIndex := 262, attributes := #[] }, { accessFlags := 9, nameIndex := 117, descriptorIndex := 122, attributes := #[] }, { accessFlags := 9, nameIndex := 117, descriptorIndex := 118, attributes := #[] }, { accessFlags := 9, nameIndex := 392, descriptorIndex := 74, attributes := #[] }, { accessFlags := 9, nameIndex := 69, descriptorIndex := 70, attributes := #[] }] 48 6 #[] #[{ accessFlags := 26, nameIndex := 61, descriptorIndex := 62, attributes := #[] }, { accessFlags := 26, nameIndex := 65, descriptorIndex := 62, attributes := #[] }, { accessFlags := 24, nameIndex := 430, descriptorIndex := 62, attributes := #[] }, { accessFlags := 4120, nameIndex := 46, descriptorIndex := 47, attributes := #[] }])
  fields := #[{ name := "HI_BYTE_SHIFT", type := .int, accessFlags := 26, slot := 0, constantValue := 0 }, { name := "LO_BYTE_SHIFT", type := .int, accessFlags := 26, slot := 1, constantValue := 0 }, { name := "MAX_LENGTH", type := .int, accessFlags := 24, slot := 2, constantValue := 0 }, { name := "$assertionsDisabled", type := .boolean, accessFlags := 4120, slot := 3, constantValue := 0 }]
  methods := #[k8m0, k8m1, k8m2, k8m3, k8m4, k8m5, k8m6, k8m7, k8m8, k8m9, k8m10, k8m11, k8m12, k8m13]
  instanceTypes := #[]
  staticTypes := #[.int, .int, .int, .boolean]
  resolved := Array.replicate 635 none
  statics := some 1 }

def pool9 : Array CpInfo := pool [(2, .class_ 4), (1, u "java/lang/Object"), (0, u "<init>"), (0, u "()V"), (7, .methodref 15 16), (0, .class_ 17), (0, .nameAndType 18 19), (0, u "java/lang/String"), (0, u "isEmpty"), (0, u "()Z"), (0, .methodref 15 21), (0, .nameAndType 22 23), (0, u "length"), (0, u "()I"), (0, .class_ 25), (0, u "com/example/dozor/dozor/Names"), (4, .methodref 15 31), (0, .nameAndType 32 33), (0, u "charAt"), (0, u "(I)C"), (3, u "(C)Z"), (2, u "(Ljava/lang/String;)Ljava/lang/String;"), (7, .methodref 24 49), (0, .nameAndType 50 51), (0, u "requireText"), (0, u "(Ljava/lang/String;Ljava/lang/String;I)I"), (8, .string 61), (0, u "lock owner"), (2, .integer 2147483647), (0, .methodref 15 66), (0, .nameAndType 67 68), (0, u "codePointCount"), (0, u "(II)I"), (3, .methodref 73 74), (0, .class_ 75), (0, .nameAndType 76 37), (0, u "java/lang/Character"), (0, u "isHighSurrogate"), (0, .methodref 73 78), (0, .nameAndType 79 37), (0, u "isLowSurrogate"), (0, .methodref 73 81), (0, .nameAndType 82 37), (0, u "isSurrogate"), (3, .methodref 24 87), (0, .nameAndType 88 89), (0, u "utf8Length"), (0, u "(C)I"), (0, u "MAX_COLLECTION_NAME_LENGTH"), (0, u "I"), (2, u "MAX_ID_BYTES"), (1, u "MAX_OWNER_LENGTH"), (6, u "requireLockOwner")] 25

def k9m0 : Method := { name := "<init>", desc := "()V", sig := { parameters := [], returnType := none }, accessFlags := 2, code := none }
def k9c1 : Code := { maxStack := 3, maxLocals := 1, code := prog_13_method_4_code, exceptionTable := #[], attributes := #[] }
def k9m1 : Method := { name := "requireLockOwner", desc := "(Ljava/lang/String;)Ljava/lang/String;", sig := { parameters := [(.object "java/lang/String")], returnType := some (.object "java/lang/String") }, accessFlags := 8, code := some k9c1 }
def k9c2 : Code := { maxStack := 4, maxLocals := 6, code := prog_13_method_6_code, exceptionTable := #[], attributes := #[] }
def k9m2 : Method := { name := "requireText", desc := "(Ljava/lang/String;Ljava/lang/String;I)I", sig := { parameters := [(.object "java/lang/String"), (.object "java/lang/String"), .int], returnType := some .int }, accessFlags := 10, code := some k9c2 }
def k9c3 : Code := { maxStack := 2, maxLocals := 2, code := prog_13_method_8_code, exceptionTable := #[], attributes := #[] }
def k9m3 : Method := { name := "utf8Length", desc := "(C)I", sig := { parameters := [.char], returnType := some .int }, accessFlags := 10, code := some k9c3 }
/-- com/example/dozor/dozor/Names -/
def k9 : Class := { plain "com/example/dozor/dozor/Names" (some 0) with
  accessFlags := 48
  interfaces := #[]
  cf := some (fileOf pool9 24 #[] #[{ accessFlags := 2, nameIndex := 5, descriptorIndex := 6, attributes := #[] }, { accessFlags := 8, nameIndex := 103, descriptorIndex := 40, attributes := #[] }, { accessFlags := 10, nameIndex := 50, descriptorIndex := 51, attributes := #[] }, { accessFlags := 10, nameIndex := 88, descriptorIndex := 89, attributes := #[] }] 48 2 #[] #[{ accessFlags := 24, nameIndex := 90, descriptorIndex := 91, attributes := #[] }, { accessFlags := 24, nameIndex := 94, descriptorIndex := 91, attributes := #[] }, { accessFlags := 24, nameIndex := 96, descriptorIndex := 91, attributes := #[] }])
  fields := #[{ name := "MAX_COLLECTION_NAME_LENGTH", type := .int, accessFlags := 24, slot := 0, constantValue := 0 }, { name := "MAX_ID_BYTES", type := .int, accessFlags := 24, slot := 1, constantValue := 0 }, { name := "MAX_OWNER_LENGTH", type := .int, accessFlags := 24, slot := 2, constantValue := 0 }]
  methods := #[k9m0, k9m1, k9m2, k9m3]
  instanceTypes := #[]
  staticTypes := #[.int, .int, .int]
  resolved := Array.replicate 129 none
  statics := none }

def pool10 : Array CpInfo := pool [(1, .class_ 2), (0, u "java/lang/String"), (1, .class_ 6), (1, u "java/lang/Object"), (0, u "<init>"), (0, u "()V"), (0, .methodref 1 10), (0, .nameAndType 11 12), (0, u "checkIndex"), (0, u "(II)V"), (1, .class_ 16), (1, u "java/lang/StringLatin1"), (36, u "([BI)C"), (67, u "$assertionsDisabled"), (0, u "Z"), (98, .class_ 223), (1, u "java/lang/StringLatin1$LinesSpliterator"), (28, u "charAt"), (137, .class_ 391), (0, u "java/lang/StringLatin1$CharsSpliterator")] 3

def k10m0 : Method := { name := "<init>", desc := "()V", sig := { parameters := [], returnType := none }, accessFlags := 0, code := none }
def k10c1 : Code := { maxStack := 2, maxLocals := 2, code := jdk_43_method_2_code, exceptionTable := #[], attributes := #[] }
def k10m1 : Method := { name := "charAt", desc := "([BI)C", sig := { parameters := [(.array .byte), .int], returnType := some .char }, accessFlags := 9, code := some k10c1 }
/-- java/lang/StringLatin1 -/
def k10 : Class := { plain "java/lang/StringLatin1" (some 0) with
  accessFlags := 48
  interfaces := #[]
  cf := some (fileOf pool10 14 #[.nestMembers #[390, 221]] #[{ accessFlags := 0, nameIndex := 7, descriptorIndex := 8, attributes := #[] }, { accessFlags := 9, nameIndex := 252, descriptorIndex := 53, attributes := #[] }] 48 4 #[] #[{ accessFlags := 4120, nameIndex := 121, descriptorIndex := 122, attributes := #[] }])
  fields := #[{ name := "$assertionsDisabled", type := .boolean, accessFlags := 4120, slot := 0, constantValue := 0 }]
  methods := #[k10m0, k10m1]
  instanceTypes := #[]
  staticTypes := #[.boolean]
  resolved := Array.replicate 395 none
  statics := none }

def pool11 : Array CpInfo := pool [(2, .class_ 4), (1, u "java/lang/Object"), (0, u "<init>"), (0, u "()V"), (17, .class_ 26), (1, u "jdk/internal/util/Preconditions"), (6, u "checkIndex"), (13, u "checkFromToIndex"), (7, .class_ 56), (0, u "jdk/internal/util/Preconditions$4"), (57, .class_ 115), (0, u "jdk/internal/util/Preconditions$1"), (7, u "SIOOBE_FORMATTER"), (0, u "Ljava/util/function/BiFunction;"), (0, .class_ 126), (0, u "jdk/internal/util/Preconditions$2"), (3, u "AIOOBE_FORMATTER"), (0, .class_ 132), (0, u "jdk/internal/util/Preconditions$3"), (3, u "IOOBE_FORMATTER"), (41, u "(IILjava/util/function/BiFunction;)I"), (4, u "(IIILjava/util/function/BiFunction;)I")] 10

def k11m0 : Method := { name := "<init>", desc := "()V", sig := { parameters := [], returnType := none }, accessFlags := 1, code := none }
def k11c1 : Code := { maxStack := 3, maxLocals := 3, code := jdk_41_method_11_code, exceptionTable := #[], attributes := #[] }
def k11m1 : Method := { name := "checkIndex", desc := "(IILjava/util/function/BiFunction;)I", sig := { parameters := [.int, .int, (.object "java/util/function/BiFunction")], returnType := some .int }, accessFlags := 9, code := some k11c1 }
def k11c2 : Code := { maxStack := 4, maxLocals := 4, code := jdk_41_method_12_code, exceptionTable := #[], attributes := #[] }
def k11m2 : Method := { name := "checkFromToIndex", desc := "(IIILjava/util/function/BiFunction;)I", sig := { parameters := [.int, .int, .int, (.object "java/util/function/BiFunction")], returnType := some .int }, accessFlags := 9, code := some k11c2 }
/-- jdk/internal/util/Preconditions -/
def k11 : Class := { plain "jdk/internal/util/Preconditions" (some 0) with
  accessFlags := 33
  interfaces := #[]
  cf := some (fileOf pool11 24 #[.nestMembers #[55, 131, 125, 114]] #[{ accessFlags := 1, nameIndex := 5, descriptorIndex := 6, attributes := #[] }, { accessFlags := 9, nameIndex := 33, descriptorIndex := 178, attributes := #[] }, { accessFlags := 9, nameIndex := 47, descriptorIndex := 183, attributes := #[] }] 33 2 #[] #[{ accessFlags := 25, nameIndex := 123, descriptorIndex := 124, attributes := #[] }, { accessFlags := 25, nameIndex := 130, descriptorIndex := 124, attributes := #[] }, { accessFlags := 25, nameIndex := 136, descriptorIndex := 124, attributes := #[] }])
  fields := #[{ name := "SIOOBE_FORMATTER", type := (.object "java/util/function/BiFunction"), accessFlags := 25, slot := 0, constantValue := 0 }, { name := "AIOOBE_FORMATTER", type := (.object "java/util/function/BiFunction"), accessFlags := 25, slot := 1, constantValue := 0 }, { name := "IOOBE_FORMATTER", type := (.object "java/util/function/BiFunction"), accessFlags := 25, slot := 2, constantValue := 0 }]
  methods := #[k11m0, k11m1, k11m2]
  instanceTypes := #[]
  staticTypes := #[(.object "java/util/function/BiFunction"), (.object "java/util/function/BiFunction"), (.object "java/util/function/BiFunction")]
  resolved := Array.replicate 194 none
  statics := some 2 }

def pool12 : Array CpInfo := pool [(1, .class_ 2), (0, u "java/lang/Character"), (18, u "value"), (0, u "C"), (19, .class_ 44), (1, u "java/lang/Object"), (3, .class_ 50), (1, u "java/lang/Character$CharacterCache"), (24, .integer 55296), (0, .integer 56320), (0, .integer 57344), (2, u "isHighSurrogate"), (0, u "(C)Z"), (2, u "isLowSurrogate"), (199, u "$assertionsDisabled"), (0, u "Z"), (21, .class_ 309), (1, u "java/lang/Character$UnicodeBlock"), (73, u "TYPE"), (0, u "Ljava/lang/Class;"), (0, .class_ 386), (0, u "java/io/Serializable"), (0, .class_ 388), (0, u "java/lang/Comparable"), (0, .class_ 390), (0, u "java/lang/constant/Constable"), (0, u "MIN_RADIX"), (0, u "I"), (2, u "MAX_RADIX"), (1, u "MIN_VALUE"), (1, u "MAX_VALUE"), (3, u "UNASSIGNED"), (0, u "B"), (0, u "UPPERCASE_LETTER"), (1, u "LOWERCASE_LETTER"), (0, u "TITLECASE_LETTER"), (1, u "MODIFIER_LETTER"), (1, u "OTHER_LETTER"), (1, u "NON_SPACING_MARK"), (1, u "ENCLOSING_MARK"), (1, u "COMBINING_SPACING_MARK"), (1, u "DECIMAL_DIGIT_NUMBER"), (1, u "LETTER_NUMBER"), (1, u "OTHER_NUMBER"), (1, u "SPACE_SEPARATOR"), (1, u "LINE_SEPARATOR"), (1, u "PARAGRAPH_SEPARATOR"), (1, u "CONTROL"), (1, u "FORMAT"), (1, u "PRIVATE_USE"), (1, u "SURROGATE"), (1, u "DASH_PUNCTUATION"), (1, u "START_PUNCTUATION"), (1, u "END_PUNCTUATION"), (1, u "CONNECTOR_PUNCTUATION"), (1, u "OTHER_PUNCTUATION"), (1, u "MATH_SYMBOL"), (1, u "CURRENCY_SYMBOL"), (1, u "MODIFIER_SYMBOL"), (1, u "OTHER_SYMBOL"), (1, u "INITIAL_QUOTE_PUNCTUATION"), (1, u "FINAL_QUOTE_PUNCTUATION"), (1, u "ERROR"), (1, u "DIRECTIONALITY_UNDEFINED"), (0, u "DIRECTIONALITY_LEFT_TO_RIGHT"), (0, u "DIRECTIONALITY_RIGHT_TO_LEFT"), (0, u "DIRECTIONALITY_RIGHT_TO_LEFT_ARABIC"), (0, u "DIRECTIONALITY_EUROPEAN_NUMBER"), (0, u "DIRECTIONALITY_EUROPEAN_NUMBER_SEPARATOR"), (0, u "DIRECTIONALITY_EUROPEAN_NUMBER_TERMINATOR"), (0, u "DIRECTIONALITY_ARABIC_NUMBER"), (0, u "DIRECTIONALITY_COMMON_NUMBER_SEPARATOR"), (0, u "DIRECTIONALITY_NONSPACING_MARK"), (0, u "DIRECTIONALITY_BOUNDARY_NEUTRAL"), (0, u "DIRECTIONALITY_PARAGRAPH_SEPARATOR"), (0, u "DIRECTIONALITY_SEGMENT_SEPARATOR"), (0, u "DIRECTIONALITY_WHITESPACE"), (0, u "DIRECTIONALITY_OTHER_NEUTRALS"), (0, u "DIRECTIONALITY_LEFT_TO_RIGHT_EMBEDDING"), (0, u "DIRECTIONALITY_LEFT_TO_RIGHT_OVERRIDE"), (0, u "DIRECTIONALITY_RIGHT_TO_LEFT_EMBEDDING"), (0, u "DIRECTIONALITY_RIGHT_TO_LEFT_OVERRIDE"), (1, u "DIRECTIONALITY_POP_DIRECTIONAL_FORMAT"), (0, u "DIRECTIONALITY_LEFT_TO_RIGHT_ISOLATE"), (0, u "DIRECTIONALITY_RIGHT_TO_LEFT_ISOLATE"), (0, u "DIRECTIONALITY_FIRST_STRONG_ISOLATE"), (0, u "DIRECTIONALITY_POP_DIRECTIONAL_ISOLATE"), (0, u "MIN_HIGH_SURROGATE"), (0, u "MAX_HIGH_SURROGATE"), (1, u "MIN_LOW_SURROGATE"), (0, u "MAX_LOW_SURROGATE"), (1, u "MIN_SURROGATE"), (0, u "MAX_SURROGATE"), (0, u "MIN_SUPPLEMENTARY_CODE_POINT"), (0, u "MIN_CODE_POINT"), (0, u "MAX_CODE_POINT"), (1, u "serialVersionUID"), (0, u "J"), (2, u "SIZE"), (0, u "BYTES"), (24, u "isSurrogate"), (63, .class_ 596), (0, u "java/lang/Character$UnicodeScript"), (0, .class_ 598), (0, u "java/lang/Character$Subset")] 5

def k12c0 : Code := { maxStack := 2, maxLocals := 1, code := jdk_89_method_14_code, exceptionTable := #[], attributes := #[] }
def k12m0 : Method := { name := "isHighSurrogate", desc := "(C)Z", sig := { parameters := [.char], returnType := some .boolean }, accessFlags := 9, code := some k12c0 }
def k12c1 : Code := { maxStack := 2, maxLocals := 1, code := jdk_89_method_15_code, exceptionTable := #[], attributes := #[] }
def k12m1 : Method := { name := "isLowSurrogate", desc := "(C)Z", sig := { parameters := [.char], returnType := some .boolean }, accessFlags := 9, code := some k12c1 }
def k12c2 : Code := { maxStack := 2, maxLocals := 1, code := jdk_89_method_16_code, exceptionTable := #[], attributes := #[] }
def k12m2 : Method := { name := "isSurrogate", desc := "(C)Z", sig := { parameters := [.char], returnType := some .boolean }, accessFlags := 9, code := some k12c2 }
/-- java/lang/Character -/
def k12 : Class := { plain "java/lang/Character" (some 0) with
  accessFlags := 49
  interfaces := #[2, 3, 5]
  cf := some (fileOf pool12 1 #[.nestMembers #[48, 595, 307, 597]] #[{ accessFlags := 9, nameIndex := 80, descriptorIndex := 81, attributes := #[] }, { accessFlags := 9, nameIndex := 84, descriptorIndex := 81, attributes := #[] }, { accessFlags := 9, nameIndex := 531, descriptorIndex := 81, attributes := #[] }] 49 42 #[385, 387, 389] #[{ accessFlags := 25, nameIndex := 391, descriptorIndex := 392, attributes := #[] }, { accessFlags := 25, nameIndex := 395, descriptorIndex := 392, attributes := #[] }, { accessFlags := 25, nameIndex := 397, descriptorIndex := 22, attributes := #[] }, { accessFlags := 25, nameIndex := 399, descriptorIndex := 22, attributes := #[] }, { accessFlags := 25, nameIndex := 383, descriptorIndex := 384, attributes := #[] }, { accessFlags := 25, nameIndex := 403, descriptorIndex := 404, attributes := #[] }, { accessFlags := 25, nameIndex := 405, descriptorIndex := 404, attributes := #[] }, { accessFlags := 25, nameIndex := 407, descriptorIndex := 404, attributes := #[] }, { accessFlags := 25, nameIndex := 408, descriptorIndex := 404, attributes := #[] }, { accessFlags := 25, nameIndex := 410, descriptorIndex := 404, attributes := #[] }, { accessFlags := 25, nameIndex := 412, descriptorIndex := 404, attributes := #[] }, { accessFlags := 25, nameIndex := 414, descriptorIndex := 404, attributes := #[] }, { accessFlags := 25, nameIndex := 416, descriptorIndex := 404, attributes := #[] }, { accessFlags := 25, nameIndex := 418, descriptorIndex := 404, attributes := #[] }, { accessFlags := 25, nameIndex := 420, descriptorIndex := 404, attributes := #[] }, { accessFlags := 25, nameIndex := 422, descriptorIndex := 404, attributes := #[] }, { accessFlags := 25, nameIndex := 424, descriptorIndex := 404, attributes := #[] }, { accessFlags := 25, nameIndex := 426, descriptorIndex := 404, attributes := #[] }, { accessFlags := 25, nameIndex := 428, descriptorIndex := 404, attributes := #[] }, { accessFlags := 25, nameIndex := 430, descriptorIndex := 404, attributes := #[] }, { accessFlags := 25, nameIndex := 432, descriptorIndex := 404, attributes := #[] }, { accessFlags := 25, nameIndex := 434, descriptorIndex := 404, attributes := #[] }, { accessFlags := 25, nameIndex := 436, descriptorIndex := 404, attributes := #[] }, { accessFlags := 25, nameIndex := 438, descriptorIndex := 404, attributes := #[] }, { accessFlags := 25, nameIndex := 440, descriptorIndex := 404, attributes := #[] }, { accessFlags := 25, nameIndex := 442, descriptorIndex := 404, attributes := #[] }, { accessFlags := 25, nameIndex := 444, descriptorIndex := 404, attributes := #[] }, { accessFlags := 25, nameIndex := 446, descriptorIndex := 404, attributes := #[] }, { accessFlags := 25, nameIndex := 448, descriptorIndex := 404, attributes := #[] }, { accessFlags := 25, nameIndex := 450, descriptorIndex := 404, attributes := #[] }, { accessFlags := 25, nameIndex := 452, descriptorIndex := 404, attributes := #[] }, { accessFlags := 25, nameIndex := 454, descriptorIndex := 404, attributes := #[] }, { accessFlags := 25, nameIndex := 456, descriptorIndex := 404, attributes := #[] }, { accessFlags := 25, nameIndex := 458, descriptorIndex := 404, attributes := #[] }, { accessFlags := 25, nameIndex := 460, descriptorIndex := 404, attributes := #[] }, { accessFlags := 24, nameIndex := 462, descriptorIndex := 392, attributes := #[] }, { accessFlags := 25, nameIndex := 464, descriptorIndex := 404, attributes := #[] }, { accessFlags := 25, nameIndex := 465, descriptorIndex := 404, attributes := #[] }, { accessFlags := 25, nameIndex := 466, descriptorIndex := 404, attributes := #[] }, { accessFlags := 25, nameIndex := 467, descriptorIndex := 404, attributes := #[] }, { accessFlags := 25, nameIndex := 468, descriptorIndex := 404, attributes := #[] }, { accessFlags := 25, nameIndex := 469, descriptorIndex := 404, attributes := #[] }, { accessFlags := 25, nameIndex := 470, descriptorIndex := 404, attributes := #[] }, { accessFlags := 25, nameIndex := 471, descriptorIndex := 404, attributes := #[] }, { accessFlags := 25, nameIndex := 472, descriptorIndex := 404, attributes := #[] }, { accessFlags := 25, nameIndex := 473, descriptorIndex := 404, attributes := #[] }, { accessFlags := 25, nameIndex := 474, descriptorIndex := 404, attributes := #[] }, { accessFlags := 25, nameIndex := 475, descriptorIndex := 404, attributes := #[] }, { accessFlags := 25, nameIndex := 476, descriptorIndex := 404, attributes := #[] }, { accessFlags := 25, nameIndex := 477, descriptorIndex := 404, attributes := #[] }, { accessFlags := 25, nameIndex := 478, descriptorIndex := 404, attributes := #[] }, { accessFlags := 25, nameIndex := 479, descriptorIndex := 404, attributes := #[] }, { accessFlags := 25, nameIndex := 480, descriptorIndex := 404, attributes := #[] }, { accessFlags := 25, nameIndex := 481, descriptorIndex := 404, attributes := #[] }, { accessFlags := 25, nameIndex := 482, descriptorIndex := 404, attributes := #[] }, { accessFlags := 25, nameIndex := 484, descriptorIndex := 404, attributes := #[] }, { accessFlags := 25, nameIndex := 485, descriptorIndex := 404, attributes := #[] }, { accessFlags := 25, nameIndex := 486, descriptorIndex := 404, attributes := #[] }, { accessFlags := 25, nameIndex := 487, descriptorIndex := 404, attributes := #[] }, { accessFlags := 25, nameIndex := 488, descriptorIndex := 404, attributes := #[] }, { accessFlags := 25, nameIndex := 489, descriptorIndex := 22, attributes := #[] }, { accessFlags := 25, nameIndex := 490, descriptorIndex := 22, attributes := #[] }, { accessFlags := 25, nameIndex := 492, descriptorIndex := 22, attributes := #[] }, { accessFlags := 25, nameIndex := 493, descriptorIndex := 22, attributes := #[] }, { accessFlags := 25, nameIndex := 495, descriptorIndex := 22, attributes := #[] }, { accessFlags := 25, nameIndex := 496, descriptorIndex := 22, attributes := #[] }, { accessFlags := 25, nameIndex := 497, descriptorIndex := 392, attributes := #[] }, { accessFlags := 25, nameIndex := 498, descriptorIndex := 392, attributes := #[] }, { accessFlags := 25, nameIndex := 499, descriptorIndex := 392, attributes := #[] }, { accessFlags := 18, nameIndex := 21, descriptorIndex := 22, attributes := #[] }, { accessFlags := 26, nameIndex := 501, descriptorIndex := 502, attributes := #[] }, { accessFlags := 25, nameIndex := 505, descriptorIndex := 392, attributes := #[] }, { accessFlags := 25, nameIndex := 506, descriptorIndex := 392, attributes := #[] }, { accessFlags := 4120, nameIndex := 284, descriptorIndex := 285, attributes := #[] }])
  fields := #[{ name := "MIN_RADIX", type := .int, accessFlags := 25, slot := 0, constantValue := 0 }, { name := "MAX_RADIX", type := .int, accessFlags := 25, slot := 1, constantValue := 0 }, { name := "MIN_VALUE", type := .char, accessFlags := 25, slot := 2, constantValue := 0 }, { name := "MAX_VALUE", type := .char, accessFlags := 25, slot := 3, constantValue := 0 }, { name := "TYPE", type := (.object "java/lang/Class"), accessFlags := 25, slot := 4, constantValue := 0 }, { name := "UNASSIGNED", type := .byte, accessFlags := 25, slot := 5, constantValue := 0 }, { name := "UPPERCASE_LETTER", type := .byte, accessFlags := 25, slot := 6, constantValue := 0 }, { name := "LOWERCASE_LETTER", type := .byte, accessFlags := 25, slot := 7, constantValue := 0 }, { name := "TITLECASE_LETTER", type := .byte, accessFlags := 25, slot := 8, constantValue := 0 }, { name := "MODIFIER_LETTER", type := .byte, accessFlags := 25, slot := 9, constantValue := 0 }, { name := "OTHER_LETTER", type := .byte, accessFlags := 25, slot := 10, constantValue := 0 }, { name := "NON_SPACING_MARK", type := .byte, accessFlags := 25, slot := 11, constantValue := 0 }, { name := "ENCLOSING_MARK", type := .byte, accessFlags := 25, slot := 12, constantValue := 0 }, { name := "COMBINING_SPACING_MARK", type := .byte, accessFlags := 25, slot := 13, constantValue := 0 }, { name := "DECIMAL_DIGIT_NUMBER", type := .byte, accessFlags := 25, slot := 14, constantValue := 0 }, { name := "LETTER_NUMBER", type := .byte, accessFlags := 25, slot := 15, constantValue := 0 }, { name := "OTHER_NUMBER", type := .byte, accessFlags := 25, slot := 16, constantValue := 0 }, { name := "SPACE_SEPARATOR", type := .byte, accessFlags := 25, slot := 17, constantValue := 0 }, { name := "LINE_SEPARATOR", type := .byte, accessFlags := 25, slot := 18, constantValue := 0 }, { name := "PARAGRAPH_SEPARATOR", type := .byte, accessFlags := 25, slot := 19, constantValue := 0 }, { name := "CONTROL", type := .byte, accessFlags := 25, slot := 20, constantValue := 0 }, { name := "FORMAT", type := .byte, accessFlags := 25, slot := 21, constantValue := 0 }, { name := "PRIVATE_USE", type := .byte, accessFlags := 25, slot := 22, constantValue := 0 }, { name := "SURROGATE", type := .byte, accessFlags := 25, slot := 23, constantValue := 0 }, { name := "DASH_PUNCTUATION", type := .byte, accessFlags := 25, slot := 24, constantValue := 0 }, { name := "START_PUNCTUATION", type := .byte, accessFlags := 25, slot := 25, constantValue := 0 }, { name := "END_PUNCTUATION", type := .byte, accessFlags := 25, slot := 26, constantValue := 0 }, { name := "CONNECTOR_PUNCTUATION", type := .byte, accessFlags := 25, slot := 27, constantValue := 0 }, { name := "OTHER_PUNCTUATION", type := .byte, accessFlags := 25, slot := 28, constantValue := 0 }, { name := "MATH_SYMBOL", type := .byte, accessFlags := 25, slot := 29, constantValue := 0 }, { name := "CURRENCY_SYMBOL", type := .byte, accessFlags := 25, slot := 30, constantValue := 0 }, { name := "MODIFIER_SYMBOL", type := .byte, accessFlags := 25, slot := 31, constantValue := 0 }, { name := "OTHER_SYMBOL", type := .byte, accessFlags := 25, slot := 32, constantValue := 0 }, { name := "INITIAL_QUOTE_PUNCTUATION", type := .byte, accessFlags := 25, slot := 33, constantValue := 0 }, { name := "FINAL_QUOTE_PUNCTUATION", type := .byte, accessFlags := 25, slot := 34, constantValue := 0 }, { name := "ERROR", type := .int, accessFlags := 24, slot := 35, constantValue := 0 }, { name := "DIRECTIONALITY_UNDEFINED", type := .byte, accessFlags := 25, slot := 36, constantValue := 0 }, { name := "DIRECTIONALITY_LEFT_TO_RIGHT", type := .byte, accessFlags := 25, slot := 37, constantValue := 0 }, { name := "DIRECTIONALITY_RIGHT_TO_LEFT", type := .byte, accessFlags := 25, slot := 38, constantValue := 0 }, { name := "DIRECTIONALITY_RIGHT_TO_LEFT_ARABIC", type := .byte, accessFlags := 25, slot := 39, constantValue := 0 }, { name := "DIRECTIONALITY_EUROPEAN_NUMBER", type := .byte, accessFlags := 25, slot := 40, constantValue := 0 }, { name := "DIRECTIONALITY_EUROPEAN_NUMBER_SEPARATOR", type := .byte, accessFlags := 25, slot := 41, constantValue := 0 }, { name := "DIRECTIONALITY_EUROPEAN_NUMBER_TERMINATOR", type := .byte, accessFlags := 25, slot := 42, constantValue := 0 }, { name := "DIRECTIONALITY_ARABIC_NUMBER", type := .byte, accessFlags := 25, slot := 43, constantValue := 0 }, { name := "DIRECTIONALITY_COMMON_NUMBER_SEPARATOR", type := .byte, accessFlags := 25, slot := 44, constantValue := 0 }, { name := "DIRECTIONALITY_NONSPACING_MARK", type := .byte, accessFlags := 25, slot := 45, constantValue := 0 }, { name := "DIRECTIONALITY_BOUNDARY_NEUTRAL", type := .byte, accessFlags := 25, slot := 46, constantValue := 0 }, { name := "DIRECTIONALITY_PARAGRAPH_SEPARATOR", type := .byte, accessFlags := 25, slot := 47, constantValue := 0 }, { name := "DIRECTIONALITY_SEGMENT_SEPARATOR", type := .byte, accessFlags := 25, slot := 48, constantValue := 0 }, { name := "DIRECTIONALITY_WHITESPACE", type := .byte, accessFlags := 25, slot := 49, constantValue := 0 }, { name := "DIRECTIONALITY_OTHER_NEUTRALS", type := .byte, accessFlags := 25, slot := 50, constantValue := 0 }, { name := "DIRECTIONALITY_LEFT_TO_RIGHT_EMBEDDING", type := .byte, accessFlags := 25, slot := 51, constantValue := 0 }, { name := "DIRECTIONALITY_LEFT_TO_RIGHT_OVERRIDE", type := .byte, accessFlags := 25, slot := 52, constantValue := 0 }, { name := "DIRECTIONALITY_RIGHT_TO_LEFT_EMBEDDING", type := .byte, accessFlags := 25, slot := 53, constantValue := 0 }, { name := "DIRECTIONALITY_RIGHT_TO_LEFT_OVERRIDE", type := .byte, accessFlags := 25, slot := 54, constantValue := 0 }, { name := "DIRECTIONALITY_POP_DIRECTIONAL_FORMAT", type := .byte, accessFlags := 25, slot := 55, constantValue := 0 }, { name := "DIRECTIONALITY_LEFT_TO_RIGHT_ISOLATE", type := .byte, accessFlags := 25, slot := 56, constantValue := 0 }, { name := "DIRECTIONALITY_RIGHT_TO_LEFT_ISOLATE", type := .byte, accessFlags := 25, slot := 57, constantValue := 0 }, { name := "DIRECTIONALITY_FIRST_STRONG_ISOLATE", type := .byte, accessFlags := 25, slot := 58, constantValue := 0 }, { name := "DIRECTIONALITY_POP_DIRECTIONAL_ISOLATE", type := .byte, accessFlags := 25, slot := 59, constantValue := 0 }, { name := "MIN_HIGH_SURROGATE", type := .char, accessFlags := 25, slot := 60, constantValue := 0 }, { name := "MAX_HIGH_SURROGATE", type := .char, accessFlags := 25, slot := 61, constantValue := 0 }, { name := "MIN_LOW_SURROGATE", type := .char, accessFlags := 25, slot := 62, constantValue := 0 }, { name := "MAX_LOW_SURROGATE", type := .char, accessFlags := 25, slot := 63, constantValue := 0 }, { name := "MIN_SURROGATE", type := .char, accessFlags := 25, slot := 64, constantValue := 0 }, { name := "MAX_SURROGATE", type := .char, accessFlags := 25, slot := 65, constantValue := 0 }, { name := "MIN_SUPPLEMENTARY_CODE_POINT", type := .int, accessFlags := 25, slot := 66, constantValue := 0 }, { name := "MIN_CODE_POINT", type := .int, accessFlags := 25, slot := 67, constantValue := 0 }, { name := "MAX_CODE_POINT", type := .int, accessFlags := 25, slot := 68, constantValue := 0 }, { name := "value", type := .char, accessFlags := 18, slot := 0, constantValue := 0 }, { name := "serialVersionUID", type := .long, accessFlags := 26, slot := 69, constantValue := 0 }, { name := "SIZE", type := .int, accessFlags := 25, slot := 70, constantValue := 0 }, { name := "BYTES", type := .int, accessFlags := 25, slot := 71, constantValue := 0 }, { name := "$assertionsDisabled", type := .boolean, accessFlags := 4120, slot := 72, constantValue := 0 }]
  methods := #[k12m0, k12m1, k12m2]
  instanceTypes := #[.char]
  staticTypes := #[.int, .int, .char, .char, (.object "java/lang/Class"), .byte, .byte, .byte, .byte, .byte, .byte, .byte, .byte, .byte, .byte, .byte, .byte, .byte, .byte, .byte, .byte, .byte, .byte, .byte, .byte, .byte, .byte, .byte, .byte, .byte, .byte, .byte, .byte, .byte, .byte, .int, .byte, .byte, .byte, .byte, .byte, .byte, .byte, .byte, .byte, .byte, .byte, .byte, .byte, .byte, .byte, .byte, .byte, .byte, .byte, .byte, .byte, .byte, .byte, .byte, .char, .char, .char, .char, .char, .char, .int, .int, .int, .long, .int, .int, .boolean]
  resolved := Array.replicate 604 none
  statics := none }

def pool13 : Array CpInfo := pool [(2, .class_ 4), (1, u "java/lang/Object"), (0, u "<init>"), (0, u "()V"), (35, .class_ 44), (1, u "java/util/Objects"), (61, .class_ 108), (1, u "jdk/internal/util/Preconditions"), (2, .methodref 106 112), (0, .nameAndType 113 114), (0, u "checkFromToIndex"), (0, u "(IIILjava/util/function/BiFunction;)I"), (60, u "(III)I")] 8

def k13m0 : Method := { name := "<init>", desc := "()V", sig := { parameters := [], returnType := none }, accessFlags := 2, code := none }
def k13c1 : Code := { maxStack := 4, maxLocals := 3, code := jdk_31_method_18_code, exceptionTable := #[], attributes := #[] }
def k13m1 : Method := { name := "checkFromToIndex", desc := "(III)I", sig := { parameters := [.int, .int, .int], returnType := some .int }, accessFlags := 9, code := some k13c1 }
/-- java/util/Objects -/
def k13 : Class := { plain "java/util/Objects" (some 0) with
  accessFlags := 49
  interfaces := #[]
  cf := some (fileOf pool13 42 #[] #[{ accessFlags := 2, nameIndex := 5, descriptorIndex := 6, attributes := #[] }, { accessFlags := 9, nameIndex := 113, descriptorIndex := 175, attributes := #[] }] 49 2 #[] #[])
  fields := #[]
  methods := #[k13m0, k13m1]
  instanceTypes := #[]
  staticTypes := #[]
  resolved := Array.replicate 184 none
  statics := none }

def pool14 : Array CpInfo := pool [(9, u "<init>"), (6, .class_ 18), (1, u "java/lang/Object"), (0, u "()V"), (1, .class_ 23), (1, u "jdk/internal/util/ArraysSupport"), (0, u "LOG2_ARRAY_LONG_INDEX_SCALE"), (0, u "I"), (2, u "U"), (0, u "Ljdk/internal/misc/Unsafe;"), (8, u "BIG_ENDIAN"), (0, u "Z"), (8, u "LOG2_BYTE_BIT_SIZE"), (4, u "LOG2_ARRAY_INT_INDEX_SCALE"), (54, u "JLA"), (0, u "Ljdk/internal/access/JavaLangAccess;"), (11, u "LOG2_ARRAY_BOOLEAN_INDEX_SCALE"), (9, u "LOG2_ARRAY_BYTE_INDEX_SCALE"), (5, u "LOG2_ARRAY_CHAR_INDEX_SCALE"), (5, u "LOG2_ARRAY_SHORT_INDEX_SCALE"), (18, u "LOG2_ARRAY_FLOAT_INDEX_SCALE"), (24, u "LOG2_ARRAY_DOUBLE_INDEX_SCALE"), (89, u "T_BOOLEAN"), (2, u "T_CHAR"), (1, u "T_FLOAT"), (1, u "T_DOUBLE"), (1, u "T_BYTE"), (1, u "T_SHORT"), (1, u "T_INT"), (1, u "T_LONG"), (1, u "SOFT_MAX_ARRAY_LENGTH")] 83

def k14m0 : Method := { name := "<init>", desc := "()V", sig := { parameters := [], returnType := none }, accessFlags := 2, code := none }
/-- jdk/internal/util/ArraysSupport -/
def k14 : Class := { plain "jdk/internal/util/ArraysSupport" (some 0) with
  accessFlags := 33
  interfaces := #[]
  cf := some (fileOf pool14 21 #[] #[{ accessFlags := 2, nameIndex := 9, descriptorIndex := 19, attributes := #[] }] 33 16 #[] #[{ accessFlags := 24, nameIndex := 28, descriptorIndex := 29, attributes := #[] }, { accessFlags := 26, nameIndex := 38, descriptorIndex := 39, attributes := #[] }, { accessFlags := 25, nameIndex := 121, descriptorIndex := 25, attributes := #[] }, { accessFlags := 25, nameIndex := 131, descriptorIndex := 25, attributes := #[] }, { accessFlags := 25, nameIndex := 137, descriptorIndex := 25, attributes := #[] }, { accessFlags := 25, nameIndex := 143, descriptorIndex := 25, attributes := #[] }, { accessFlags := 25, nameIndex := 53, descriptorIndex := 25, attributes := #[] }, { accessFlags := 25, nameIndex := 24, descriptorIndex := 25, attributes := #[] }, { accessFlags := 25, nameIndex := 162, descriptorIndex := 25, attributes := #[] }, { accessFlags := 25, nameIndex := 187, descriptorIndex := 25, attributes := #[] }, { accessFlags := 26, nameIndex := 48, descriptorIndex := 25, attributes := #[] }, { accessFlags := 25, nameIndex := 277, descriptorIndex := 25, attributes := #[] }, { accessFlags := 25, nameIndex := 280, descriptorIndex := 25, attributes := #[] }, { accessFlags := 25, nameIndex := 282, descriptorIndex := 25, attributes := #[] }, { accessFlags := 25, nameIndex := 284, descriptorIndex := 25, attributes := #[] }, { accessFlags := 25, nameIndex := 286, descriptorIndex := 25, attributes := #[] }, { accessFlags := 25, nameIndex := 288, descriptorIndex := 25, attributes := #[] }, { accessFlags := 25, nameIndex := 290, descriptorIndex := 25, attributes := #[] }, { accessFlags := 25, nameIndex := 292, descriptorIndex := 25, attributes := #[] }, { accessFlags := 26, nameIndex := 108, descriptorIndex := 109, attributes := #[] }, { accessFlags := 25, nameIndex := 294, descriptorIndex := 25, attributes := #[] }])
  fields := #[{ name := "U", type := (.object "jdk/internal/misc/Unsafe"), accessFlags := 24, slot := 0, constantValue := 0 }, { name := "BIG_ENDIAN", type := .boolean, accessFlags := 26, slot := 1, constantValue := 0 }, { name := "LOG2_ARRAY_BOOLEAN_INDEX_SCALE", type := .int, accessFlags := 25, slot := 2, constantValue := 0 }, { name := "LOG2_ARRAY_BYTE_INDEX_SCALE", type := .int, accessFlags := 25, slot := 3, constantValue := 0 }, { name := "LOG2_ARRAY_CHAR_INDEX_SCALE", type := .int, accessFlags := 25, slot := 4, constantValue := 0 }, { name := "LOG2_ARRAY_SHORT_INDEX_SCALE", type := .int, accessFlags := 25, slot := 5, constantValue := 0 }, { name := "LOG2_ARRAY_INT_INDEX_SCALE", type := .int, accessFlags := 25, slot := 6, constantValue := 0 }, { name := "LOG2_ARRAY_LONG_INDEX_SCALE", type := .int, accessFlags := 25, slot := 7, constantValue := 0 }, { name := "LOG2_ARRAY_FLOAT_INDEX_SCALE", type := .int, accessFlags := 25, slot := 8, constantValue := 0 }, { name := "LOG2_ARRAY_DOUBLE_INDEX_SCALE", type := .int, accessFlags := 25, slot := 9, constantValue := 0 }, { name := "LOG2_BYTE_BIT_SIZE", type := .int, accessFlags := 26, slot := 10, constantValue := 0 }, { name := "T_BOOLEAN", type := .int, accessFlags := 25, slot := 11, constantValue := 0 }, { name := "T_CHAR", type := .int, accessFlags := 25, slot := 12, constantValue := 0 }, { name := "T_FLOAT", type := .int, accessFlags := 25, slot := 13, constantValue := 0 }, { name := "T_DOUBLE", type := .int, accessFlags := 25, slot := 14, constantValue := 0 }, { name := "T_BYTE", type := .int, accessFlags := 25, slot := 15, constantValue := 0 }, { name := "T_SHORT", type := .int, accessFlags := 25, slot := 16, constantValue := 0 }, { name := "T_INT", type := .int, accessFlags := 25, slot := 17, constantValue := 0 }, { name := "T_LONG", type := .int, accessFlags := 25, slot := 18, constantValue := 0 }, { name := "JLA", type := (.object "jdk/internal/access/JavaLangAccess"), accessFlags := 26, slot := 19, constantValue := 0 }, { name := "SOFT_MAX_ARRAY_LENGTH", type := .int, accessFlags := 25, slot := 20, constantValue := 0 }]
  methods := #[k14m0]
  instanceTypes := #[]
  staticTypes := #[(.object "jdk/internal/misc/Unsafe"), .boolean, .int, .int, .int, .int, .int, .int, .int, .int, .int, .int, .int, .int, .int, .int, .int, .int, .int, (.object "jdk/internal/access/JavaLangAccess"), .int]
  resolved := Array.replicate 378 none
  statics := none }

def pool15 : Array CpInfo := pool [(1, u "java/lang/Cloneable"), (0, .class_ 1), (0, u "java/lang/Object"), (0, .class_ 3)] 3

/-- java/lang/Cloneable -/
def k15 : Class := { plain "java/lang/Cloneable" (some 0) with
  accessFlags := 1537
  interfaces := #[]
  cf := some (fileOf pool15 2 #[] #[] 1537 4 #[] #[])
  fields := #[]
  methods := #[]
  instanceTypes := #[]
  staticTypes := #[]
  resolved := Array.replicate 8 none
  statics := none }

/-- the primitive byte -/
def k16 : Class := { plain "byte" none with kind := .primitive 'B', accessFlags := 0x411 }
/-- [B -/
def k17 : Class := { plain "[B" (some 0) with kind := .array 16 .byte, interfaces := #[15, 2], accessFlags := 1041 }

/-- the primitive char -/
def k18 : Class := { plain "char" none with kind := .primitive 'C', accessFlags := 0x411 }
/-- [C -/
def k19 : Class := { plain "[C" (some 0) with kind := .array 18 .char, interfaces := #[15, 2], accessFlags := 1041 }

def heap : Heap := #[{ cls := 7, slots := #[.long 0, .int 1, .null, .int 0, .null, .int 0, .int 0], vm := .statics 7 },
  { cls := 8, slots := #[.int 0, .int 8, .int 0, .int 1], vm := .statics 8 },
  { cls := 11, slots := #[.null, .null, .null], vm := .statics 11 }]
def classes : Array Class := #[k0, k1, k2, k3, k4, k5, k6, k7, k8, k9, k10, k11, k12, k13, k14, k15, k16, k17, k18, k19]
def interned : List (Array UInt16 × Addr) := []
def slotsUsed : Nat := 14
def theMethod : MethodId := ⟨1, 3⟩
def args0 : Array Value := #[.int 5, .int 6, .int 7, .int 8, .int 9]
def aboutOver (below : List Frame) : State where
  vm := { classes := classes, interned := interned.toArray }
  heap := heap
  slotsUsed := slotsUsed
  threads := #[{ frames := .invoking theMethod args0 :: below }]
def below0 : List Frame := [.native { method := ⟨0, 0⟩, args := #[] }]
def about1 : State := aboutOver below0
def p0 : Program := .bare "" "" ""
def e0 : Env := launch0.env 0 0 0
theorem w_frames : about1.frames = Frame.invoking theMethod args0 :: below0 := rfl
set_option maxRecDepth 65536 in
theorem w_args : argsFit about1.vm theMethod args0 = true := by decide +kernel
set_option maxRecDepth 65536 in
theorem w_heap : heapFits about1 = true := by decide +kernel
set_option maxRecDepth 65536 in
theorem w_runnable : about1.curStatus? = some .runnable := by decide +kernel
set_option maxRecDepth 65536 in
theorem w_alone : about1.alone = true := by decide +kernel
set_option maxRecDepth 65536 in
theorem w_named : about1.methodNamed? x = some theMethod := by decide +kernel
set_option maxRecDepth 65536 in
theorem w_hears : about1.hears theMethod below0 = true := by decide +kernel
set_option maxRecDepth 65536 in
theorem w_ripe : about1.ripe theMethod args0 below0 = true := by decide +kernel
theorem w_running : about1.status = .running := rfl
set_option maxRecDepth 65536 in
theorem w_room : about1.hasRoom e0.platform room_1 = true :=
  launch0.hasRoom_least _ room_1 (by decide +kernel) (by decide +kernel) (by decide +kernel) (by decide +kernel) (by decide +kernel) (by decide +kernel)
theorem allAtoms_all (ts : List Jvm.Cond) (a : Array Jvm.Value) (st : Jvm.State) : (allAtoms ts).before a st = ts.all (fun c => c.before a st) := by
  induction ts with
  | nil => rfl
  | cons c t ih =>
    show (Jvm.Cond.and c (allAtoms t)).before a st = _
    rw [Jvm.Cond.before_and, ih, List.all_cons]
def words1 : List Jvm.Cond := Jvm.Cond.code x code maxLocals ret :: tables_1
/-- a 'code' word, met by the world's own term for the bytes: nothing is compared byte by byte -/
theorem code_word {y : MethodName} {bytes : ByteArray} {mx : Nat} {rt : Option FieldType} {a : Array Value} {s : State} {m : MethodId} {meth : Method} {c : Code} (h1 : s.methodNamed? y = some m) (h2 : s.vm.method? m = some meth) (h3 : meth.code = some c) (h4 : c.code = bytes)
    (h5 : (c.maxLocals == mx && c.exceptionTable.isEmpty && decide (c.maxStack ≤ mostOperands) && decide (meth.sig.returnType = rt) && !meth.locks && decide (parseMethodDescriptor y.desc = some meth.sig)) = true) : (Jvm.Cond.code y bytes mx rt).before a s = true := by
  simp only [Bool.and_eq_true, beq_iff_eq, Bool.not_eq_true', decide_eq_true_eq] at h5
  obtain ⟨⟨⟨⟨⟨g1, g2⟩, g3⟩, g4⟩, g5⟩, g6⟩ := h5
  simp [Cond.before, Cond.holds, Cond.value, h1, h2, h3, h4, g1, g2, g3, g4, g5, g6]
def isCode : Jvm.Cond → Bool
  | .code _ _ _ _ => true
  | _ => false
theorem all_split {L : List Jvm.Cond} {P : Jvm.Cond → Bool} (h1 : L.all (fun c => isCode c || P c) = true) (h2 : ∀ c ∈ L.filter isCode, P c = true) : L.all P = true := by
  refine List.all_eq_true.mpr fun c hc => ?_
  have h := List.all_eq_true.mp h1 c hc
  rcases Bool.eq_false_or_eq_true (isCode c) with hi | hi
  · exact h2 c (List.mem_filter.mpr ⟨hc, hi⟩)
  · simpa [hi] using h
set_option maxRecDepth 65536 in
theorem w_c0 : (Jvm.Cond.code x code maxLocals ret).before args0 about1 = true := code_word (m := ⟨1, 3⟩) (meth := k1m3) (c := k1c3) (by decide +kernel) rfl rfl rfl (by decide +kernel)
set_option maxRecDepth 65536 in
theorem w_c1 : (Jvm.Cond.code ({ cls := "com/example/dozor/dozor/NamesRequireLockOwnerPinLaw", name := "put", desc := "([CIIZ)I" } : Jvm.MethodName) method_3_code (4 : Nat) (Option.some Jvm.ClassFile.FieldType.int)).before args0 about1 = true := code_word (m := ⟨1, 2⟩) (meth := k1m2) (c := k1c2) (by decide +kernel) rfl rfl rfl (by decide +kernel)
set_option maxRecDepth 65536 in
theorem w_c2 : (Jvm.Cond.code ({ cls := "com/example/dozor/dozor/NamesRequireLockOwnerPinLaw", name := "bmp", desc := "(I)C" } : Jvm.MethodName) method_2_code (2 : Nat) (Option.some Jvm.ClassFile.FieldType.char)).before args0 about1 = true := code_word (m := ⟨1, 1⟩) (meth := k1m1) (c := k1c1) (by decide +kernel) rfl rfl rfl (by decide +kernel)
set_option maxRecDepth 65536 in
theorem w_c3 : (Jvm.Cond.code ({ cls := "java/lang/String", name := "<init>", desc := "([C)V" } : Jvm.MethodName) jdk_42_method_3_code (2 : Nat) (Option.none : Option Jvm.ClassFile.FieldType)).before args0 about1 = true := code_word (m := ⟨7, 1⟩) (meth := k7m1) (c := k7c1) (by decide +kernel) rfl rfl rfl (by decide +kernel)
set_option maxRecDepth 65536 in
theorem w_c4 : (Jvm.Cond.code ({ cls := "java/lang/String", name := "<init>", desc := "([CIILjava/lang/Void;)V" } : Jvm.MethodName) jdk_42_method_149_code (6 : Nat) (Option.none : Option Jvm.ClassFile.FieldType)).before args0 about1 = true := code_word (m := ⟨7, 6⟩) (meth := k7m6) (c := k7c6) (by decide +kernel) rfl rfl rfl (by decide +kernel)
set_option maxRecDepth 65536 in
theorem w_c5 : (Jvm.Cond.code ({ cls := "java/lang/Object", name := "<init>", desc := "()V" } : Jvm.MethodName) object_method_1_code (1 : Nat) (Option.none : Option Jvm.ClassFile.FieldType)).before args0 about1 = true := code_word (m := ⟨0, 0⟩) (meth := k0m0) (c := k0c0) (by decide +kernel) rfl rfl rfl (by decide +kernel)
set_option maxRecDepth 65536 in
theorem w_c6 : (Jvm.Cond.code ({ cls := "java/lang/StringUTF16", name := "compress", desc := "([CII)[B" } : Jvm.MethodName) jdk_52_method_16_code (6 : Nat) (Option.some (Jvm.ClassFile.FieldType.array Jvm.ClassFile.FieldType.byte))).before args0 about1 = true := code_word (m := ⟨8, 10⟩) (meth := k8m10) (c := k8c10) (by decide +kernel) rfl rfl rfl (by decide +kernel)
set_option maxRecDepth 65536 in
theorem w_c7 : (Jvm.Cond.code ({ cls := "java/lang/StringUTF16", name := "compress", desc := "([CI[BII)I" } : Jvm.MethodName) jdk_52_method_21_code (7 : Nat) (Option.some Jvm.ClassFile.FieldType.int)).before args0 about1 = true := code_word (m := ⟨8, 11⟩) (meth := k8m11) (c := k8c11) (by decide +kernel) rfl rfl rfl (by decide +kernel)
set_option maxRecDepth 65536 in
theorem w_c8 : (Jvm.Cond.code ({ cls := "java/lang/StringUTF16", name := "coderFromArrayLen", desc := "([BI)B" } : Jvm.MethodName) jdk_52_method_15_code (2 : Nat) (Option.some Jvm.ClassFile.FieldType.byte)).before args0 about1 = true := code_word (m := ⟨8, 9⟩) (meth := k8m9) (c := k8c9) (by decide +kernel) rfl rfl rfl (by decide +kernel)
set_option maxRecDepth 65536 in
theorem w_c9 : (Jvm.Cond.code ({ cls := "com/example/dozor/dozor/Names", name := "requireLockOwner", desc := "(Ljava/lang/String;)Ljava/lang/String;" } : Jvm.MethodName) prog_13_method_4_code (1 : Nat) (Option.some (Jvm.ClassFile.FieldType.object "java/lang/String"))).before args0 about1 = true := code_word (m := ⟨9, 1⟩) (meth := k9m1) (c := k9c1) (by decide +kernel) rfl rfl rfl (by decide +kernel)
set_option maxRecDepth 65536 in
theorem w_c10 : (Jvm.Cond.code ({ cls := "java/lang/String", name := "isEmpty", desc := "()Z" } : Jvm.MethodName) jdk_42_method_55_code (1 : Nat) (Option.some Jvm.ClassFile.FieldType.boolean)).before args0 about1 = true := code_word (m := ⟨7, 3⟩) (meth := k7m3) (c := k7c3) (by decide +kernel) rfl rfl rfl (by decide +kernel)
set_option maxRecDepth 65536 in
theorem w_c11 : (Jvm.Cond.code ({ cls := "java/lang/String", name := "length", desc := "()I" } : Jvm.MethodName) jdk_42_method_54_code (1 : Nat) (Option.some Jvm.ClassFile.FieldType.int)).before args0 about1 = true := code_word (m := ⟨7, 2⟩) (meth := k7m2) (c := k7c2) (by decide +kernel) rfl rfl rfl (by decide +kernel)
set_option maxRecDepth 65536 in
theorem w_c12 : (Jvm.Cond.code ({ cls := "java/lang/String", name := "coder", desc := "()B" } : Jvm.MethodName) jdk_42_method_152_code (1 : Nat) (Option.some Jvm.ClassFile.FieldType.byte)).before args0 about1 = true := code_word (m := ⟨7, 7⟩) (meth := k7m7) (c := k7c7) (by decide +kernel) rfl rfl rfl (by decide +kernel)
set_option maxRecDepth 65536 in
theorem w_c13 : (Jvm.Cond.code ({ cls := "com/example/dozor/dozor/Names", name := "requireText", desc := "(Ljava/lang/String;Ljava/lang/String;I)I" } : Jvm.MethodName) prog_13_method_6_code (6 : Nat) (Option.some Jvm.ClassFile.FieldType.int)).before args0 about1 = true := code_word (m := ⟨9, 2⟩) (meth := k9m2) (c := k9c2) (by decide +kernel) rfl rfl rfl (by decide +kernel)
set_option maxRecDepth 65536 in
theorem w_c14 : (Jvm.Cond.code ({ cls := "java/lang/String", name := "charAt", desc := "(I)C" } : Jvm.MethodName) jdk_42_method_56_code (2 : Nat) (Option.some Jvm.ClassFile.FieldType.char)).before args0 about1 = true := code_word (m := ⟨7, 4⟩) (meth := k7m4) (c := k7c4) (by decide +kernel) rfl rfl rfl (by decide +kernel)
set_option maxRecDepth 65536 in
theorem w_c15 : (Jvm.Cond.code ({ cls := "java/lang/String", name := "isLatin1", desc := "()Z" } : Jvm.MethodName) jdk_42_method_154_code (1 : Nat) (Option.some Jvm.ClassFile.FieldType.boolean)).before args0 about1 = true := code_word (m := ⟨7, 8⟩) (meth := k7m8) (c := k7c8) (by decide +kernel) rfl rfl rfl (by decide +kernel)
set_option maxRecDepth 65536 in
theorem w_c16 : (Jvm.Cond.code ({ cls := "java/lang/StringLatin1", name := "charAt", desc := "([BI)C" } : Jvm.MethodName) jdk_43_method_2_code (2 : Nat) (Option.some Jvm.ClassFile.FieldType.char)).before args0 about1 = true := code_word (m := ⟨10, 1⟩) (meth := k10m1) (c := k10c1) (by decide +kernel) rfl rfl rfl (by decide +kernel)
set_option maxRecDepth 65536 in
theorem w_c17 : (Jvm.Cond.code ({ cls := "java/lang/String", name := "checkIndex", desc := "(II)V" } : Jvm.MethodName) jdk_42_method_155_code (2 : Nat) (Option.none : Option Jvm.ClassFile.FieldType)).before args0 about1 = true := code_word (m := ⟨7, 9⟩) (meth := k7m9) (c := k7c9) (by decide +kernel) rfl rfl rfl (by decide +kernel)
set_option maxRecDepth 65536 in
theorem w_c18 : (Jvm.Cond.code ({ cls := "jdk/internal/util/Preconditions", name := "checkIndex", desc := "(IILjava/util/function/BiFunction;)I" } : Jvm.MethodName) jdk_41_method_11_code (3 : Nat) (Option.some Jvm.ClassFile.FieldType.int)).before args0 about1 = true := code_word (m := ⟨11, 1⟩) (meth := k11m1) (c := k11c1) (by decide +kernel) rfl rfl rfl (by decide +kernel)
set_option maxRecDepth 65536 in
theorem w_c19 : (Jvm.Cond.code ({ cls := "java/lang/Character", name := "isHighSurrogate", desc := "(C)Z" } : Jvm.MethodName) jdk_89_method_14_code (1 : Nat) (Option.some Jvm.ClassFile.FieldType.boolean)).before args0 about1 = true := code_word (m := ⟨12, 0⟩) (meth := k12m0) (c := k12c0) (by decide +kernel) rfl rfl rfl (by decide +kernel)
set_option maxRecDepth 65536 in
theorem w_c20 : (Jvm.Cond.code ({ cls := "java/lang/Character", name := "isSurrogate", desc := "(C)Z" } : Jvm.MethodName) jdk_89_method_16_code (1 : Nat) (Option.some Jvm.ClassFile.FieldType.boolean)).before args0 about1 = true := code_word (m := ⟨12, 2⟩) (meth := k12m2) (c := k12c2) (by decide +kernel) rfl rfl rfl (by decide +kernel)
set_option maxRecDepth 65536 in
theorem w_c21 : (Jvm.Cond.code ({ cls := "com/example/dozor/dozor/Names", name := "utf8Length", desc := "(C)I" } : Jvm.MethodName) prog_13_method_8_code (2 : Nat) (Option.some Jvm.ClassFile.FieldType.int)).before args0 about1 = true := code_word (m := ⟨9, 3⟩) (meth := k9m3) (c := k9c3) (by decide +kernel) rfl rfl rfl (by decide +kernel)
set_option maxRecDepth 65536 in
theorem w_c22 : (Jvm.Cond.code ({ cls := "java/lang/String", name := "codePointCount", desc := "(II)I" } : Jvm.MethodName) jdk_42_method_59_code (3 : Nat) (Option.some Jvm.ClassFile.FieldType.int)).before args0 about1 = true := code_word (m := ⟨7, 5⟩) (meth := k7m5) (c := k7c5) (by decide +kernel) rfl rfl rfl (by decide +kernel)
set_option maxRecDepth 65536 in
theorem w_c23 : (Jvm.Cond.code ({ cls := "java/util/Objects", name := "checkFromToIndex", desc := "(III)I" } : Jvm.MethodName) jdk_31_method_18_code (3 : Nat) (Option.some Jvm.ClassFile.FieldType.int)).before args0 about1 = true := code_word (m := ⟨13, 1⟩) (meth := k13m1) (c := k13c1) (by decide +kernel) rfl rfl rfl (by decide +kernel)
set_option maxRecDepth 65536 in
theorem w_c24 : (Jvm.Cond.code ({ cls := "jdk/internal/util/Preconditions", name := "checkFromToIndex", desc := "(IIILjava/util/function/BiFunction;)I" } : Jvm.MethodName) jdk_41_method_12_code (4 : Nat) (Option.some Jvm.ClassFile.FieldType.int)).before args0 about1 = true := code_word (m := ⟨11, 2⟩) (meth := k11m2) (c := k11c2) (by decide +kernel) rfl rfl rfl (by decide +kernel)
set_option maxRecDepth 65536 in
theorem w_c25 : (Jvm.Cond.code ({ cls := "java/lang/StringUTF16", name := "toBytes", desc := "([CII)[B" } : Jvm.MethodName) jdk_52_method_14_code (5 : Nat) (Option.some (Jvm.ClassFile.FieldType.array Jvm.ClassFile.FieldType.byte))).before args0 about1 = true := code_word (m := ⟨8, 8⟩) (meth := k8m8) (c := k8c8) (by decide +kernel) rfl rfl rfl (by decide +kernel)
set_option maxRecDepth 65536 in
theorem w_c26 : (Jvm.Cond.code ({ cls := "java/lang/StringUTF16", name := "newBytesFor", desc := "(I)[B" } : Jvm.MethodName) jdk_52_method_2_code (1 : Nat) (Option.some (Jvm.ClassFile.FieldType.array Jvm.ClassFile.FieldType.byte))).before args0 about1 = true := code_word (m := ⟨8, 1⟩) (meth := k8m1) (c := k8c1) (by decide +kernel) rfl rfl rfl (by decide +kernel)
set_option maxRecDepth 65536 in
theorem w_c27 : (Jvm.Cond.code ({ cls := "java/lang/StringUTF16", name := "newBytesLength", desc := "(I)I" } : Jvm.MethodName) jdk_52_method_3_code (1 : Nat) (Option.some Jvm.ClassFile.FieldType.int)).before args0 about1 = true := code_word (m := ⟨8, 2⟩) (meth := k8m2) (c := k8c2) (by decide +kernel) rfl rfl rfl (by decide +kernel)
set_option maxRecDepth 65536 in
theorem w_c28 : (Jvm.Cond.code ({ cls := "java/lang/StringUTF16", name := "putChar", desc := "([BII)V" } : Jvm.MethodName) jdk_52_method_4_code (3 : Nat) (Option.none : Option Jvm.ClassFile.FieldType)).before args0 about1 = true := code_word (m := ⟨8, 3⟩) (meth := k8m3) (c := k8c3) (by decide +kernel) rfl rfl rfl (by decide +kernel)
set_option maxRecDepth 65536 in
theorem w_c29 : (Jvm.Cond.code ({ cls := "java/lang/StringUTF16", name := "getChar", desc := "([BI)C" } : Jvm.MethodName) jdk_52_method_5_code (2 : Nat) (Option.some Jvm.ClassFile.FieldType.char)).before args0 about1 = true := code_word (m := ⟨8, 4⟩) (meth := k8m4) (c := k8c4) (by decide +kernel) rfl rfl rfl (by decide +kernel)
set_option maxRecDepth 65536 in
theorem w_c30 : (Jvm.Cond.code ({ cls := "java/lang/StringUTF16", name := "charAt", desc := "([BI)C" } : Jvm.MethodName) jdk_52_method_83_code (2 : Nat) (Option.some Jvm.ClassFile.FieldType.char)).before args0 about1 = true := code_word (m := ⟨8, 12⟩) (meth := k8m12) (c := k8c12) (by decide +kernel) rfl rfl rfl (by decide +kernel)
set_option maxRecDepth 65536 in
theorem w_c31 : (Jvm.Cond.code ({ cls := "java/lang/StringUTF16", name := "checkIndex", desc := "(I[B)V" } : Jvm.MethodName) jdk_52_method_91_code (2 : Nat) (Option.none : Option Jvm.ClassFile.FieldType)).before args0 about1 = true := code_word (m := ⟨8, 13⟩) (meth := k8m13) (c := k8c13) (by decide +kernel) rfl rfl rfl (by decide +kernel)
set_option maxRecDepth 65536 in
theorem w_c32 : (Jvm.Cond.code ({ cls := "java/lang/StringUTF16", name := "length", desc := "([B)I" } : Jvm.MethodName) jdk_52_method_6_code (1 : Nat) (Option.some Jvm.ClassFile.FieldType.int)).before args0 about1 = true := code_word (m := ⟨8, 5⟩) (meth := k8m5) (c := k8c5) (by decide +kernel) rfl rfl rfl (by decide +kernel)
set_option maxRecDepth 65536 in
theorem w_c33 : (Jvm.Cond.code ({ cls := "java/lang/Character", name := "isLowSurrogate", desc := "(C)Z" } : Jvm.MethodName) jdk_89_method_15_code (1 : Nat) (Option.some Jvm.ClassFile.FieldType.boolean)).before args0 about1 = true := code_word (m := ⟨12, 1⟩) (meth := k12m1) (c := k12c1) (by decide +kernel) rfl rfl rfl (by decide +kernel)
set_option maxRecDepth 65536 in
theorem w_c34 : (Jvm.Cond.code ({ cls := "java/lang/StringUTF16", name := "codePointCount", desc := "([BII)I" } : Jvm.MethodName) jdk_52_method_12_code (3 : Nat) (Option.some Jvm.ClassFile.FieldType.int)).before args0 about1 = true := code_word (m := ⟨8, 7⟩) (meth := k8m7) (c := k8c7) (by decide +kernel) rfl rfl rfl (by decide +kernel)
set_option maxRecDepth 65536 in
theorem w_c35 : (Jvm.Cond.code ({ cls := "java/lang/StringUTF16", name := "codePointCount", desc := "([BIIZ)I" } : Jvm.MethodName) jdk_52_method_11_code (6 : Nat) (Option.some Jvm.ClassFile.FieldType.int)).before args0 about1 = true := code_word (m := ⟨8, 6⟩) (meth := k8m6) (c := k8c6) (by decide +kernel) rfl rfl rfl (by decide +kernel)
def codes1 : List Jvm.Cond := [Jvm.Cond.code x code maxLocals ret, Jvm.Cond.code ({ cls := "com/example/dozor/dozor/NamesRequireLockOwnerPinLaw", name := "put", desc := "([CIIZ)I" } : Jvm.MethodName) method_3_code (4 : Nat) (Option.some Jvm.ClassFile.FieldType.int), Jvm.Cond.code ({ cls := "com/example/dozor/dozor/NamesRequireLockOwnerPinLaw", name := "bmp", desc := "(I)C" } : Jvm.MethodName) method_2_code (2 : Nat) (Option.some Jvm.ClassFile.FieldType.char), Jvm.Cond.code ({ cls := "java/lang/String", name := "<init>", desc := "([C)V" } : Jvm.MethodName) jdk_42_method_3_code (2 : Nat) (Option.none : Option Jvm.ClassFile.FieldType), Jvm.Cond.code ({ cls := "java/lang/String", name := "<init>", desc := "([CIILjava/lang/Void;)V" } : Jvm.MethodName) jdk_42_method_149_code (6 : Nat) (Option.none : Option Jvm.ClassFile.FieldType), Jvm.Cond.code ({ cls := "java/lang/Object", name := "<init>", desc := "()V" } : Jvm.MethodName) object_method_1_code (1 : Nat) (Option.none : Option Jvm.ClassFile.FieldType), Jvm.Cond.code ({ cls := "java/lang/StringUTF16", name := "compress", desc := "([CII)[B" } : Jvm.MethodName) jdk_52_method_16_code (6 : Nat) (Option.some (Jvm.ClassFile.FieldType.array Jvm.ClassFile.FieldType.byte)), Jvm.Cond.code ({ cls := "java/lang/StringUTF16", name := "compress", desc := "([CI[BII)I" } : Jvm.MethodName) jdk_52_method_21_code (7 : Nat) (Option.some Jvm.ClassFile.FieldType.int), Jvm.Cond.code ({ cls := "java/lang/StringUTF16", name := "coderFromArrayLen", desc := "([BI)B" } : Jvm.MethodName) jdk_52_method_15_code (2 : Nat) (Option.some Jvm.ClassFile.FieldType.byte), Jvm.Cond.code ({ cls := "com/example/dozor/dozor/Names", name := "requireLockOwner", desc := "(Ljava/lang/String;)Ljava/lang/String;" } : Jvm.MethodName) prog_13_method_4_code (1 : Nat) (Option.some (Jvm.ClassFile.FieldType.object "java/lang/String")), Jvm.Cond.code ({ cls := "java/lang/String", name := "isEmpty", desc := "()Z" } : Jvm.MethodName) jdk_42_method_55_code (1 : Nat) (Option.some Jvm.ClassFile.FieldType.boolean), Jvm.Cond.code ({ cls := "java/lang/String", name := "length", desc := "()I" } : Jvm.MethodName) jdk_42_method_54_code (1 : Nat) (Option.some Jvm.ClassFile.FieldType.int), Jvm.Cond.code ({ cls := "java/lang/String", name := "coder", desc := "()B" } : Jvm.MethodName) jdk_42_method_152_code (1 : Nat) (Option.some Jvm.ClassFile.FieldType.byte), Jvm.Cond.code ({ cls := "com/example/dozor/dozor/Names", name := "requireText", desc := "(Ljava/lang/String;Ljava/lang/String;I)I" } : Jvm.MethodName) prog_13_method_6_code (6 : Nat) (Option.some Jvm.ClassFile.FieldType.int), Jvm.Cond.code ({ cls := "java/lang/String", name := "charAt", desc := "(I)C" } : Jvm.MethodName) jdk_42_method_56_code (2 : Nat) (Option.some Jvm.ClassFile.FieldType.char), Jvm.Cond.code ({ cls := "java/lang/String", name := "isLatin1", desc := "()Z" } : Jvm.MethodName) jdk_42_method_154_code (1 : Nat) (Option.some Jvm.ClassFile.FieldType.boolean), Jvm.Cond.code ({ cls := "java/lang/StringLatin1", name := "charAt", desc := "([BI)C" } : Jvm.MethodName) jdk_43_method_2_code (2 : Nat) (Option.some Jvm.ClassFile.FieldType.char), Jvm.Cond.code ({ cls := "java/lang/String", name := "checkIndex", desc := "(II)V" } : Jvm.MethodName) jdk_42_method_155_code (2 : Nat) (Option.none : Option Jvm.ClassFile.FieldType), Jvm.Cond.code ({ cls := "jdk/internal/util/Preconditions", name := "checkIndex", desc := "(IILjava/util/function/BiFunction;)I" } : Jvm.MethodName) jdk_41_method_11_code (3 : Nat) (Option.some Jvm.ClassFile.FieldType.int), Jvm.Cond.code ({ cls := "java/lang/Character", name := "isHighSurrogate", desc := "(C)Z" } : Jvm.MethodName) jdk_89_method_14_code (1 : Nat) (Option.some Jvm.ClassFile.FieldType.boolean), Jvm.Cond.code ({ cls := "java/lang/Character", name := "isSurrogate", desc := "(C)Z" } : Jvm.MethodName) jdk_89_method_16_code (1 : Nat) (Option.some Jvm.ClassFile.FieldType.boolean), Jvm.Cond.code ({ cls := "com/example/dozor/dozor/Names", name := "utf8Length", desc := "(C)I" } : Jvm.MethodName) prog_13_method_8_code (2 : Nat) (Option.some Jvm.ClassFile.FieldType.int), Jvm.Cond.code ({ cls := "java/lang/String", name := "codePointCount", desc := "(II)I" } : Jvm.MethodName) jdk_42_method_59_code (3 : Nat) (Option.some Jvm.ClassFile.FieldType.int), Jvm.Cond.code ({ cls := "java/util/Objects", name := "checkFromToIndex", desc := "(III)I" } : Jvm.MethodName) jdk_31_method_18_code (3 : Nat) (Option.some Jvm.ClassFile.FieldType.int), Jvm.Cond.code ({ cls := "jdk/internal/util/Preconditions", name := "checkFromToIndex", desc := "(IIILjava/util/function/BiFunction;)I" } : Jvm.MethodName) jdk_41_method_12_code (4 : Nat) (Option.some Jvm.ClassFile.FieldType.int), Jvm.Cond.code ({ cls := "java/lang/StringUTF16", name := "toBytes", desc := "([CII)[B" } : Jvm.MethodName) jdk_52_method_14_code (5 : Nat) (Option.some (Jvm.ClassFile.FieldType.array Jvm.ClassFile.FieldType.byte)), Jvm.Cond.code ({ cls := "java/lang/StringUTF16", name := "newBytesFor", desc := "(I)[B" } : Jvm.MethodName) jdk_52_method_2_code (1 : Nat) (Option.some (Jvm.ClassFile.FieldType.array Jvm.ClassFile.FieldType.byte)), Jvm.Cond.code ({ cls := "java/lang/StringUTF16", name := "newBytesLength", desc := "(I)I" } : Jvm.MethodName) jdk_52_method_3_code (1 : Nat) (Option.some Jvm.ClassFile.FieldType.int), Jvm.Cond.code ({ cls := "java/lang/StringUTF16", name := "putChar", desc := "([BII)V" } : Jvm.MethodName) jdk_52_method_4_code (3 : Nat) (Option.none : Option Jvm.ClassFile.FieldType), Jvm.Cond.code ({ cls := "java/lang/StringUTF16", name := "getChar", desc := "([BI)C" } : Jvm.MethodName) jdk_52_method_5_code (2 : Nat) (Option.some Jvm.ClassFile.FieldType.char), Jvm.Cond.code ({ cls := "java/lang/StringUTF16", name := "charAt", desc := "([BI)C" } : Jvm.MethodName) jdk_52_method_83_code (2 : Nat) (Option.some Jvm.ClassFile.FieldType.char), Jvm.Cond.code ({ cls := "java/lang/StringUTF16", name := "checkIndex", desc := "(I[B)V" } : Jvm.MethodName) jdk_52_method_91_code (2 : Nat) (Option.none : Option Jvm.ClassFile.FieldType), Jvm.Cond.code ({ cls := "java/lang/StringUTF16", name := "length", desc := "([B)I" } : Jvm.MethodName) jdk_52_method_6_code (1 : Nat) (Option.some Jvm.ClassFile.FieldType.int), Jvm.Cond.code ({ cls := "java/lang/Character", name := "isLowSurrogate", desc := "(C)Z" } : Jvm.MethodName) jdk_89_method_15_code (1 : Nat) (Option.some Jvm.ClassFile.FieldType.boolean), Jvm.Cond.code ({ cls := "java/lang/StringUTF16", name := "codePointCount", desc := "([BII)I" } : Jvm.MethodName) jdk_52_method_12_code (3 : Nat) (Option.some Jvm.ClassFile.FieldType.int), Jvm.Cond.code ({ cls := "java/lang/StringUTF16", name := "codePointCount", desc := "([BIIZ)I" } : Jvm.MethodName) jdk_52_method_11_code (6 : Nat) (Option.some Jvm.ClassFile.FieldType.int)]
set_option maxRecDepth 65536 in
theorem codes_eq : words1.filter isCode = codes1 := rfl
theorem w_codes : ∀ c ∈ words1.filter isCode, c.before args0 about1 = true := by
  rw [codes_eq]
  intro c hc
  simp only [codes1, List.mem_cons, List.not_mem_nil, or_false] at hc
  rcases hc with rfl | rfl | rfl | rfl | rfl | rfl | rfl | rfl | rfl | rfl | rfl | rfl | rfl | rfl | rfl | rfl | rfl | rfl | rfl | rfl | rfl | rfl | rfl | rfl | rfl | rfl | rfl | rfl | rfl | rfl | rfl | rfl | rfl | rfl | rfl | rfl
  · exact w_c0
  · exact w_c1
  · exact w_c2
  · exact w_c3
  · exact w_c4
  · exact w_c5
  · exact w_c6
  · exact w_c7
  · exact w_c8
  · exact w_c9
  · exact w_c10
  · exact w_c11
  · exact w_c12
  · exact w_c13
  · exact w_c14
  · exact w_c15
  · exact w_c16
  · exact w_c17
  · exact w_c18
  · exact w_c19
  · exact w_c20
  · exact w_c21
  · exact w_c22
  · exact w_c23
  · exact w_c24
  · exact w_c25
  · exact w_c26
  · exact w_c27
  · exact w_c28
  · exact w_c29
  · exact w_c30
  · exact w_c31
  · exact w_c32
  · exact w_c33
  · exact w_c34
  · exact w_c35
set_option maxRecDepth 65536 in
theorem w_t1 : (words1.take 24).all (fun c => isCode c || c.before args0 about1) = true := by decide +kernel
set_option maxRecDepth 65536 in
theorem w_t2 : ((words1.drop 24).take 24).all (fun c => isCode c || c.before args0 about1) = true := by decide +kernel
set_option maxRecDepth 65536 in
theorem w_t3 : (((words1.drop 24).drop 24).take 24).all (fun c => isCode c || c.before args0 about1) = true := by decide +kernel
set_option maxRecDepth 65536 in
theorem w_t4 : ((((words1.drop 24).drop 24).drop 24).take 24).all (fun c => isCode c || c.before args0 about1) = true := by decide +kernel
set_option maxRecDepth 65536 in
theorem w_t5 : (((((words1.drop 24).drop 24).drop 24).drop 24).take 24).all (fun c => isCode c || c.before args0 about1) = true := by decide +kernel
set_option maxRecDepth 65536 in
theorem w_t6 : ((((((words1.drop 24).drop 24).drop 24).drop 24).drop 24).take 24).all (fun c => isCode c || c.before args0 about1) = true := by decide +kernel
set_option maxRecDepth 65536 in
theorem w_t7 : ((((((words1.drop 24).drop 24).drop 24).drop 24).drop 24).drop 24).all (fun c => isCode c || c.before args0 about1) = true := by decide +kernel
theorem w_tables : (allAtoms (Jvm.Cond.code x code maxLocals ret :: tables_1)).before args0 about1 = true := by
  rw [allAtoms_all]
  show words1.all (fun c => c.before args0 about1) = true
  refine all_split ?_ w_codes
  rw [← List.take_append_drop 24 words1, List.all_append, w_t1, ← List.take_append_drop 24 (words1.drop 24), List.all_append, w_t2, ← List.take_append_drop 24 ((words1.drop 24).drop 24), List.all_append, w_t3, ← List.take_append_drop 24 (((words1.drop 24).drop 24).drop 24), List.all_append, w_t4, ← List.take_append_drop 24 ((((words1.drop 24).drop 24).drop 24).drop 24), List.all_append, w_t5, ← List.take_append_drop 24 (((((words1.drop 24).drop 24).drop 24).drop 24).drop 24), List.all_append, w_t6, w_t7]
  rfl
set_option maxRecDepth 65536 in
theorem w_rest : rest_1_c.before args0 about1 = true := by decide +kernel
set_option maxRecDepth 65536 in
theorem w_case : (Jvm.Cond.and given_1 narrow_1).before args0 about1 = true := by decide +kernel
theorem w_applies : (headSpec (Jvm.Cond.code x code maxLocals ret :: tables_1) room_1).applies x e0.platform about1 = true :=
  (Spec.applies_iff w_frames).mpr ⟨w_running, w_runnable, w_alone, w_named, w_hears, w_ripe, w_room, w_tables⟩
theorem atStart : AtStart classFile x code maxLocals ret World_1 tables_1 room_1 Calls_1 rest_1 Pre_1 launch0 p0 e0 about1 theMethod args0 below0 :=
  ⟨lists_1, trivial, launch0.admits_env _ _ _, launch0.least_env, fairChoices_fair.cas, fairChoices_fair.clock, w_frames, w_args, w_heap, w_applies, trivial, w_rest, w_case⟩
end start1
theorem witness_1 : WitnessClaimed_1 := ⟨start1.p0, start1.e0, start1.about1, start1.theMethod, start1.args0, start1.below0, start1.atStart⟩
end Jvm.Pilot.@@N@@
