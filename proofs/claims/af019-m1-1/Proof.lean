import JvmDerived
import JvmDerived.Pilot.@@N@@Statement
import JvmDerived.Pilot.@@N@@Code
set_option linter.unusedVariables false
set_option linter.unusedSimpArgs false
/- laws to paste: Road.backArv, Road.codOf, Road.eqW (cut by pick.py; bodies as the Statement names them) -/
namespace Jvm.Pilot.@@N@@
namespace StrChars
open Jvm Sem ClassFile Op Lib Jvm.Stand Jvm.Free.XT Jvm.Free.ALB Jvm.Free.JM Jvm.Free
open Jvm.Lib.Cold (StaticIs)
/-- a char array whose places are chars -/
def Ch (a : Addr) (A : Cell) (U : State) : Prop := Arr .char a A U ∧ Typed .char A
theorem Ch.mv {a : Addr} {A : Cell} {U U' : State} (h : Ch a A U) (hal : U.vm.Alike U'.vm) (hh : U'.heap = U.heap) : Ch a A U' := ⟨h.1.mv hal hh, h.2⟩
theorem Ch.keep {a : Addr} {A : Cell} {U U' : State} (h : Ch a A U) (hal : U.vm.Alike U'.vm) (hk : U'.heap[a]? = some A) : Ch a A U' := ⟨h.1.keep hal hk, h.2⟩
/-- what place i of a char[]'s cell holds -/
def cv (A : Cell) (i : Nat) : Int32 := match A.slots[i]? with | some (.int x) => x | _ => 0
theorem Ch.get {a : Addr} {A : Cell} {U : State} (h : Ch a A U) {i : Nat} (hi : i < A.slots.size) : A.slots[i]? = some (.int (cv A i)) := by
  have e := Array.getElem?_eq_getElem hi
  have f := h.2 i _ e
  unfold cv; rw [e]
  generalize A.slots[i] = v at f
  cases v <;> simp [fits] at f ⊢
/-- the byte that i2b leaves of a char -/
def lo8 (x : Int32) : Int32 := x.toInt8.toInt32
theorem fits_lo8 (y : Int32) : fits .byte (.int (lo8 y)) = true := by
  have h1 := y.toInt8.le_toInt
  have h2 := y.toInt8.toInt_lt
  simp only [lo8, fits, Bool.and_eq_true, decide_eq_true_eq, Int32.le_iff_toInt_le, Int8.toInt_toInt32, show (-128 : Int32).toInt = -128 from by decide, show (127 : Int32).toInt = 127 from by decide]
  omega
/-- A' is A but that each place j of lo .. hi - 1 holds f j -/
def Laid (A A' : Cell) (lo hi : Nat) (f : Nat → Value) : Prop := A'.cls = A.cls ∧ A'.vm = A.vm ∧ A'.slots.size = A.slots.size ∧ ∀ i, A'.slots[i]? = if lo ≤ i ∧ i < hi then some (f i) else A.slots[i]?
theorem Laid.zero (A : Cell) (lo : Nat) (f : Nat → Value) : Laid A A lo (lo + 0) f := ⟨rfl, rfl, rfl, fun i => by rw [if_neg (by omega)]⟩
theorem Laid.step {A Ak : Cell} {lo k : Nat} {f : Nat → Value} {v : Value} (h : Laid A Ak lo k f) (hlo : lo ≤ k) (hk : k < Ak.slots.size) (hv : v = f k) : Laid A (Ak.setSlot k v) lo (k + 1) f := by
  refine ⟨h.1, h.2.1, by simpa [Cell.setSlot] using h.2.2.1, fun i => ?_⟩
  by_cases e : k = i
  · subst e; rw [Cell.slots_setSlot_self v hk, if_pos (by omega), hv]
  · rw [Cell.slots_setSlot_ne v e, h.2.2.2 i]
    by_cases q : lo ≤ i ∧ i < k
    · rw [if_pos q, if_pos (by omega)]
    · rw [if_neg q, if_neg (by omega)]
def U16 : String := "java/lang/StringUTF16"
namespace Cmp5
def yN : MethodName := ⟨"java/lang/StringUTF16", "compress", "([CI[BII)I"⟩
abbrev yB : ByteArray := jdk_52_method_21_code
theorem d0 : decode yB 0 = .ok (.iconst 0, 1) := by decide +kernel
theorem d1 : decode yB 1 = .ok (.istore 5, 2) := by decide +kernel
theorem d3 : decode yB 3 = .ok (.iload 5, 2) := by decide +kernel
theorem d5 : decode yB 5 = .ok (.iload 4, 2) := by decide +kernel
theorem d7 : decode yB 7 = .ok (.if_icmp (.ge) 37, 3) := by decide +kernel
theorem d10 : decode yB 10 = .ok (.aload_n 0, 1) := by decide +kernel
theorem d11 : decode yB 11 = .ok (.iload_n 1, 1) := by decide +kernel
theorem d12 : decode yB 12 = .ok (.caload, 1) := by decide +kernel
theorem d13 : decode yB 13 = .ok (.istore 6, 2) := by decide +kernel
theorem d15 : decode yB 15 = .ok (.iload 6, 2) := by decide +kernel
theorem d17 : decode yB 17 = .ok (.sipush 255, 3) := by decide +kernel
theorem d20 : decode yB 20 = .ok (.if_icmp (.le) 6, 3) := by decide +kernel
theorem d26 : decode yB 26 = .ok (.aload_n 2, 1) := by decide +kernel
theorem d27 : decode yB 27 = .ok (.iload_n 3, 1) := by decide +kernel
theorem d28 : decode yB 28 = .ok (.iload 6, 2) := by decide +kernel
theorem d30 : decode yB 30 = .ok (.i2b, 1) := by decide +kernel
theorem d31 : decode yB 31 = .ok (.bastore, 1) := by decide +kernel
theorem d32 : decode yB 32 = .ok (.iinc 1 1, 3) := by decide +kernel
theorem d35 : decode yB 35 = .ok (.iinc 3 1, 3) := by decide +kernel
theorem d38 : decode yB 38 = .ok (.iinc 5 1, 3) := by decide +kernel
theorem d41 : decode yB 41 = .ok (.goto (-38), 3) := by decide +kernel
theorem d44 : decode yB 44 = .ok (.iload 4, 2) := by decide +kernel
theorem d46 : decode yB 46 = .ok (.ireturn, 1) := by decide +kernel
def site : List Cond := []
def tab : Cond := tabOf yN yB 7 (some .int) site
def P (b : Addr) (A : Cell) (d : Addr) (B : Cell) (o q len : Nat) (args : Array Value) (s : State) : Prop := args = #[.ref b, .int (Int32.ofNat o), .ref d, .int (Int32.ofNat q), .int (Int32.ofNat len)] ∧ Ch b A s ∧ Arr .byte d B s ∧ b ≠ d ∧ o + len ≤ A.slots.size ∧ q + len ≤ B.slots.size ∧ ∀ i, i < len → ¬ 255 < cv A (o + i)
def E (b : Addr) (A : Cell) (d : Addr) (B : Cell) (o q len : Nat) (r : Option Value) (s u : State) : Prop := r = some (.int (Int32.ofNat len)) ∧ ∃ B', Put d B' s u ∧ Laid B B' q (q + len) (fun j => Value.int (lo8 (cv A (o + (j - q)))))
/-- no char of the range above 255: len; the places written hold each char's low byte -/
theorem law (l : Launch) (b : Addr) (A : Cell) (d : Addr) (B : Cell) (o q len : Nat) : Law l yN 5 5 0 0 yB 7 (some .int) site (P b A d B o q len) (E b A d B o q len) (copyLocs d q len) 0 0 := by
  refine Law.of_walk (plainFor_of_name (by decide +kernel)) (by decide +kernel) (by decide +kernel) (by decide) (fun _ _ h => by rw [h.1]; rfl) (fun _ U U' hal hh h => ⟨h.1, h.2.1.mv hal hh, h.2.2.1.mv hal hh, h.2.2.2⟩) (fun r U U' V V' h1 hal h2 h => ⟨h.1, h.2.elim fun B' q => ⟨B', q.1.mv h1 h2, q.2⟩⟩) ?_
  intro p e s m args below meth c s₁ X0 hexec hbytes hml hret hlk hnm hown hh0 W hP
  obtain ⟨rfl, hA, hB, hne, l1, l2, hp⟩ := hP
  have c1 : Steps p.tables e below (s₁.setTop (entryFrame m #[.ref b, .int (Int32.ofNat o), .ref d, .int (Int32.ofNat q), .int (Int32.ofNat len)] 7)) (s₁.setTop (mkF m 0 #[.val (.ref b), .val (.int (Int32.ofNat o)), .val (.ref d), .val (.int (Int32.ofNat q)), .val (.int (Int32.ofNat len)), .unset, .unset] [])) := entry rfl
  have hA0 := hA.1.mv X0.warmed.alike hh0
  have hB0 := hB.mv X0.warmed.alike hh0
  have a31 := hA.1.2.2.2
  have c2 : Steps p.tables e below (s₁.setTop (entryFrame m #[.ref b, .int (Int32.ofNat o), .ref d, .int (Int32.ofNat q), .int (Int32.ofNat len)] 7)) (s₁.setTop (mkF m 3 #[.val (.ref b), .val (.int (Int32.ofNat o)), .val (.ref d), .val (.int (Int32.ofNat q)), .val (.int (Int32.ofNat len)), .val (.int 0), .unset] [])) := c1.trans (by
    refine iconstV X0.here hexec rfl 0 (hb hbytes d0) (by decide) ?_
    refine XS.istore X0.here hexec rfl (hb hbytes d1) rfl rfl ?_
    exact Steps.refl _)
  have loop : ∀ (r i : Nat), i + r = len → ∀ (z : Slot), (z = .unset ∨ ∃ w, z = .val w ∧ w.category = 1) → ∀ (Tl : State) (Bk : Cell), Stand p l e { frames := 0, locals := 0, cells := 0, slots := 0 } s m #[.ref b, .int (Int32.ofNat o), .ref d, .int (Int32.ofNat q), .int (Int32.ofNat len)] below meth c Tl ([] ++ copyLocs d q i) 0 0 → Put d Bk s₁ Tl → Laid B Bk q (q + i) (fun j => Value.int (lo8 (cv A (o + (j - q))))) →
      Steps p.tables e below (s₁.setTop (entryFrame m #[.ref b, .int (Int32.ofNat o), .ref d, .int (Int32.ofNat q), .int (Int32.ofNat len)] 7)) (Tl.setTop (mkF m 3 #[.val (.ref b), .val (.int (Int32.ofNat (o + i))), .val (.ref d), .val (.int (Int32.ofNat (q + i))), .val (.int (Int32.ofNat len)), .val (.int (Int32.ofNat i)), z] [])) → ∃ (T' : State) (B' : Cell) (z' : Slot), Stand p l e { frames := 0, locals := 0, cells := 0, slots := 0 } s m #[.ref b, .int (Int32.ofNat o), .ref d, .int (Int32.ofNat q), .int (Int32.ofNat len)] below meth c T' ([] ++ copyLocs d q len) 0 0 ∧ Put d B' s₁ T' ∧ Laid B B' q (q + len) (fun j => Value.int (lo8 (cv A (o + (j - q))))) ∧
      Steps p.tables e below (s₁.setTop (entryFrame m #[.ref b, .int (Int32.ofNat o), .ref d, .int (Int32.ofNat q), .int (Int32.ofNat len)] 7)) (T'.setTop (mkF m 3 #[.val (.ref b), .val (.int (Int32.ofNat (o + len))), .val (.ref d), .val (.int (Int32.ofNat (q + len))), .val (.int (Int32.ofNat len)), .val (.int (Int32.ofNat len)), z'] [])) := by
    intro r
    induction r with
    | zero =>
      intro i hi z hz Tl Bk Xl pl fl cl
      have hil : i = len := by omega
      rw [hil] at Xl fl cl
      exact ⟨Tl, Bk, z, Xl, pl, fl, cl⟩
    | succ r ih =>
      intro i hi z hz Tl Bk Xl pl fl cl
      have all := X0.warmed.alike.symm.trans Xl.warmed.alike
      have hAl := hA0.keep all (pl.other hne hA0.1)
      have hBk := hB0.like all pl.1 fl.1 fl.2.1 fl.2.2.1
      have hlt : q + i < Bk.slots.size := by rw [fl.2.2.1]; omega
      have c3 : Steps p.tables e below (s₁.setTop (entryFrame m #[.ref b, .int (Int32.ofNat o), .ref d, .int (Int32.ofNat q), .int (Int32.ofNat len)] 7)) (Tl.setTop (mkF m 12 #[.val (.ref b), .val (.int (Int32.ofNat (o + i))), .val (.ref d), .val (.int (Int32.ofNat (q + i))), .val (.int (Int32.ofNat len)), .val (.int (Int32.ofNat i)), z] [.int (Int32.ofNat (o + i)), .ref b])) := cl.trans (by
        refine XS.iload Xl.here hexec rfl (hb hbytes d3) rfl ?_
        refine XS.iload Xl.here hexec rfl (hb hbytes d5) rfl ?_
        refine XS.icmpNo Xl.here hexec rfl (hb hbytes d7) rfl (ii_ge_f (lt32 (by omega) (by omega))) ?_
        refine XS.aloadN Xl.here hexec rfl (hb hbytes d10) rfl rfl ?_
        refine XS.iloadN Xl.here hexec rfl (hb hbytes d11) rfl ?_
        exact Steps.refl _)
      have c4 : Steps p.tables e below (s₁.setTop (entryFrame m #[.ref b, .int (Int32.ofNat o), .ref d, .int (Int32.ofNat q), .int (Int32.ofNat len)] 7)) (Tl.setTop (mkF m 13 #[.val (.ref b), .val (.int (Int32.ofNat (o + i))), .val (.ref d), .val (.int (Int32.ofNat (q + i))), .val (.int (Int32.ofNat len)), .val (.int (Int32.ofNat i)), z] [.int (cv A (o + i))])) := c3.trans (by
        refine Xl.aget hexec hAl rfl (hA.get (i := o + i) (by omega)) rfl rfl (hb hbytes d12) ?_
        exact Steps.refl _)
      have c5 : Steps p.tables e below (s₁.setTop (entryFrame m #[.ref b, .int (Int32.ofNat o), .ref d, .int (Int32.ofNat q), .int (Int32.ofNat len)] 7)) (Tl.setTop (mkF m 15 #[.val (.ref b), .val (.int (Int32.ofNat (o + i))), .val (.ref d), .val (.int (Int32.ofNat (q + i))), .val (.int (Int32.ofNat len)), .val (.int (Int32.ofNat i)), .val (.int (cv A (o + i)))] [])) := c4.trans (by
        refine XS.istoreS Xl.here hexec rfl (hb hbytes d13) rfl rfl hz ?_
        exact Steps.refl _)
      have c6 : Steps p.tables e below (s₁.setTop (entryFrame m #[.ref b, .int (Int32.ofNat o), .ref d, .int (Int32.ofNat q), .int (Int32.ofNat len)] 7)) (Tl.setTop (mkF m 31 #[.val (.ref b), .val (.int (Int32.ofNat (o + i))), .val (.ref d), .val (.int (Int32.ofNat (q + i))), .val (.int (Int32.ofNat len)), .val (.int (Int32.ofNat i)), .val (.int (cv A (o + i)))] [.int (lo8 (cv A (o + i))), .int (Int32.ofNat (q + i)), .ref d])) := c5.trans (by
        refine XS.iload Xl.here hexec rfl (hb hbytes d15) rfl ?_
        refine sipushV Xl.here hexec rfl 255 (hb hbytes d17) (by decide) ?_
        refine XS.icmpYes Xl.here hexec rfl (pc0 := 20) rfl (hb hbytes d20) rfl (ii_le_t (hp i (by omega))) (by decide) rfl ?_
        refine XS.aloadN Xl.here hexec rfl (hb hbytes d26) rfl rfl ?_
        refine XS.iloadN Xl.here hexec rfl (hb hbytes d27) rfl ?_
        refine XS.iload Xl.here hexec rfl (hb hbytes d28) rfl ?_
        refine i2b Xl.here hexec rfl (hb hbytes d30) rfl ?_
        exact Steps.refl _)
      obtain ⟨T7, X7, p7, st7⟩ := Xl.aput hexec hBk rfl hlt rfl (fits_lo8 (cv A (o + i))) (g := (mkF m 31 #[.val (.ref b), .val (.int (Int32.ofNat (o + i))), .val (.ref d), .val (.int (Int32.ofNat (q + i))), .val (.int (Int32.ofNat len)), .val (.int (Int32.ofNat i)), .val (.int (cv A (o + i)))] [.int (lo8 (cv A (o + i))), .int (Int32.ofNat (q + i)), .ref d])) rfl (rest := []) rfl (hb hbytes d31)
      have c8 : Steps p.tables e below (s₁.setTop (entryFrame m #[.ref b, .int (Int32.ofNat o), .ref d, .int (Int32.ofNat q), .int (Int32.ofNat len)] 7)) (T7.setTop (mkF m 32 #[.val (.ref b), .val (.int (Int32.ofNat (o + i))), .val (.ref d), .val (.int (Int32.ofNat (q + i))), .val (.int (Int32.ofNat len)), .val (.int (Int32.ofNat i)), .val (.int (cv A (o + i)))] [])) := c6.trans (st7 _ (Steps.refl _))
      have c9 : Steps p.tables e below (s₁.setTop (entryFrame m #[.ref b, .int (Int32.ofNat o), .ref d, .int (Int32.ofNat q), .int (Int32.ofNat len)] 7)) (T7.setTop (mkF m 3 #[.val (.ref b), .val (.int (Int32.ofNat (o + i) + 1)), .val (.ref d), .val (.int (Int32.ofNat (q + i) + 1)), .val (.int (Int32.ofNat len)), .val (.int (Int32.ofNat i + 1)), .val (.int (cv A (o + i)))] [])) := c8.trans (by
        refine iincV X7.here hexec rfl 1 (hb hbytes d32) (by decide) rfl rfl ?_
        refine iincV X7.here hexec rfl 1 (hb hbytes d35) (by decide) rfl rfl ?_
        refine iincV X7.here hexec rfl 1 (hb hbytes d38) (by decide) rfl rfl ?_
        refine XS.goto X7.here hexec rfl (pc0 := 41) rfl (hb hbytes d41) (by decide) rfl ?_
        exact Steps.refl _)
      have c10 : Steps p.tables e below (s₁.setTop (entryFrame m #[.ref b, .int (Int32.ofNat o), .ref d, .int (Int32.ofNat q), .int (Int32.ofNat len)] 7)) (T7.setTop (mkF m 3 #[.val (.ref b), .val (.int (Int32.ofNat (o + (i + 1)))), .val (.ref d), .val (.int (Int32.ofNat (q + (i + 1)))), .val (.int (Int32.ofNat len)), .val (.int (Int32.ofNat (i + 1))), .val (.int (cv A (o + i)))] [])) := by
        have := c9
        rw [succ32, succ32, succ32] at this
        exact this
      exact ih (i + 1) (by omega) _ (Or.inr ⟨_, rfl, rfl⟩) T7 _ (by rw [copyLocs_step, ← List.append_assoc]; exact X7) (pl.trans p7) (fl.step (by omega) hlt (by simp)) c10
  obtain ⟨T9, B9, z9, X9, p9, f9, g9⟩ := loop len 0 (by omega) .unset (Or.inl rfl) s₁ B (by simpa [copyLocs] using X0) ⟨hB0.1, fun _ _ => rfl, rfl⟩ (Laid.zero _ _ _) c2
  have c11 : Steps p.tables e below (s₁.setTop (entryFrame m #[.ref b, .int (Int32.ofNat o), .ref d, .int (Int32.ofNat q), .int (Int32.ofNat len)] 7)) (T9.setTop (mkF m 46 #[.val (.ref b), .val (.int (Int32.ofNat (o + len))), .val (.ref d), .val (.int (Int32.ofNat (q + len))), .val (.int (Int32.ofNat len)), .val (.int (Int32.ofNat len)), z9] [.int (Int32.ofNat len)])) := g9.trans (by
    refine XS.iload X9.here hexec rfl (hb hbytes d3) rfl ?_
    refine XS.iload X9.here hexec rfl (hb hbytes d5) rfl ?_
    refine XS.icmpYes X9.here hexec rfl (pc0 := 7) rfl (hb hbytes d7) rfl (ii_ge_t (nlt32 (by omega) (Nat.le_refl _))) (by decide) rfl ?_
    refine XS.iload X9.here hexec rfl (hb hbytes d44) rfl ?_
    exact Steps.refl _)
  exact ⟨T9, some (.int (Int32.ofNat len)), _, _, _, X9, by simp, rfl, rfl, (fun h => by cases h), ⟨rfl, B9, p9.from hh0, f9⟩, fun fs hl => c11.trans (X9.ireturnOut hexec hret rfl (Or.inl rfl) (hb hbytes d46) hl)⟩
end Cmp5
namespace Cmp3
def yN : MethodName := ⟨"java/lang/StringUTF16", "compress", "([CII)[B"⟩
abbrev yB : ByteArray := jdk_52_method_16_code
theorem d0 : decode yB 0 = .ok (.iload_n 2, 1) := by decide +kernel
theorem d1 : decode yB 1 = .ok (.newarray .byte, 2) := by decide +kernel
theorem d3 : decode yB 3 = .ok (.astore_n 3, 1) := by decide +kernel
theorem d4 : decode yB 4 = .ok (.aload_n 0, 1) := by decide +kernel
theorem d5 : decode yB 5 = .ok (.iload_n 1, 1) := by decide +kernel
theorem d6 : decode yB 6 = .ok (.aload_n 3, 1) := by decide +kernel
theorem d7 : decode yB 7 = .ok (.iconst 0, 1) := by decide +kernel
theorem d8 : decode yB 8 = .ok (.iload_n 2, 1) := by decide +kernel
theorem d9 : decode yB 9 = .ok (.invokestatic 115, 3) := by decide +kernel
theorem d12 : decode yB 12 = .ok (.istore 4, 2) := by decide +kernel
theorem d14 : decode yB 14 = .ok (.iload 4, 2) := by decide +kernel
theorem d16 : decode yB 16 = .ok (.iload_n 2, 1) := by decide +kernel
theorem d17 : decode yB 17 = .ok (.if_icmp (.eq) 40, 3) := by decide +kernel
theorem d57 : decode yB 57 = .ok (.aload_n 3, 1) := by decide +kernel
theorem d58 : decode yB 58 = .ok (.areturn, 1) := by decide +kernel
def site : List Cond := [.arrayClass .byte, Cmp5.tab] ++ staticW U16 115 Cmp5.yN
def tab : Cond := tabOf yN yB 6 (some (.array .byte)) site
def P (b : Addr) (A : Cell) (o len : Nat) (args : Array Value) (s : State) : Prop := args = #[.ref b, .int (Int32.ofNat o), .int (Int32.ofNat len)] ∧ Ch b A s ∧ o + len ≤ A.slots.size ∧ len ≤ 536870912 ∧ ∀ i, i < len → ¬ 255 < cv A (o + i)
def E (b : Addr) (A : Cell) (o len : Nat) (r : Option Value) (s u : State) : Prop := NewArr .byte "[B" len (fun j => .int (lo8 (cv A (o + j)))) r s u ∧ u.heap.size = s.heap.size + 1
/-- no char of the range above 255: a new byte[] of their low bytes -/
theorem law (l : Launch) (b : Addr) (A : Cell) (o len : Nat) : Law l yN 3 3 1 18 yB 6 (some (.array .byte)) site (P b A o len) (E b A o len) [] 1 len := by
  refine Law.of_walk (plainFor_of_name (by decide +kernel)) (by decide +kernel) (by decide +kernel) (by decide) (fun _ _ h => by rw [h.1]; rfl) (fun _ U U' hal hh h => ⟨h.1, h.2.1.mv hal hh, h.2.2⟩) (fun r U U' V V' h1 hal h2 h => ⟨NewArr.mv r U U' V V' h1 hal h2 h.1, by rw [h1, h2]; exact h.2⟩) ?_
  intro p e s m args below meth c s₁ X0 hexec hbytes hml hret hlk hnm hown hh0 W hP
  obtain ⟨rfl, hA, l1, l2, hp⟩ := hP
  have a31 := hA.1.2.2.2
  have c1 : Steps p.tables e below (s₁.setTop (entryFrame m #[.ref b, .int (Int32.ofNat o), .int (Int32.ofNat len)] 6)) (s₁.setTop (mkF m 0 #[.val (.ref b), .val (.int (Int32.ofNat o)), .val (.int (Int32.ofNat len)), .unset, .unset, .unset] [])) := entry rfl
  have c2 : Steps p.tables e below (s₁.setTop (entryFrame m #[.ref b, .int (Int32.ofNat o), .int (Int32.ofNat len)] 6)) (s₁.setTop (mkF m 1 #[.val (.ref b), .val (.int (Int32.ofNat o)), .val (.int (Int32.ofNat len)), .unset, .unset, .unset] [.int (Int32.ofNat len)])) := c1.trans (by
    refine XS.iloadN X0.here hexec rfl (hb hbytes d0) rfl ?_
    exact Steps.refl _)
  obtain ⟨T3, B3, X3, ba3, bs3, bv3, bh3, bf3, st3⟩ := X0.anew hexec (atype := .byte) (wk W (.arrayClass .byte)) rfl (by show len * 1 ≤ _; omega) (by omega) (g := (mkF m 1 #[.val (.ref b), .val (.int (Int32.ofNat o)), .val (.int (Int32.ofNat len)), .unset, .unset, .unset] [.int (Int32.ofNat len)])) rfl (hb hbytes d1) (rest := []) rfl (Nat.le_refl _) (by show 0 + len ≤ len; omega)
  rw [hh0] at ba3 st3
  have kp3 : XT.Kept s T3 := (XT.Kept.of_eq hh0).push bh3
  have hA3 := hA.keep X3.warmed.alike (kp3 _ _ hA.1.1)
  have hne : b ≠ s.heap.size := hA.1.ne
  have c4 : Steps p.tables e below (s₁.setTop (entryFrame m #[.ref b, .int (Int32.ofNat o), .int (Int32.ofNat len)] 6)) (T3.setTop (mkF m 3 #[.val (.ref b), .val (.int (Int32.ofNat o)), .val (.int (Int32.ofNat len)), .unset, .unset, .unset] [.ref s.heap.size])) := c2.trans (st3 _ (Steps.refl _))
  have c5 : Steps p.tables e below (s₁.setTop (entryFrame m #[.ref b, .int (Int32.ofNat o), .int (Int32.ofNat len)] 6)) (T3.setTop (mkF m 9 #[.val (.ref b), .val (.int (Int32.ofNat o)), .val (.int (Int32.ofNat len)), .val (.ref s.heap.size), .unset, .unset] [.int (Int32.ofNat len), .int 0, .ref s.heap.size, .int (Int32.ofNat o), .ref b])) := c4.trans (by
    refine XS.astoreN X3.here hexec rfl (hb hbytes d3) rfl rfl rfl ?_
    refine XS.aloadN X3.here hexec rfl (hb hbytes d4) rfl rfl ?_
    refine XS.iloadN X3.here hexec rfl (hb hbytes d5) rfl ?_
    refine XS.aloadN X3.here hexec rfl (hb hbytes d6) rfl rfl ?_
    refine iconstV X3.here hexec rfl 0 (hb hbytes d7) (by decide) ?_
    refine XS.iloadN X3.here hexec rfl (hb hbytes d8) rfl ?_
    exact Steps.refl _)
  obtain ⟨v6, T6, X6, E6, g6⟩ := X3.callS hexec (Cmp5.law l b A s.heap.size B3 o 0 len) hown (wks W (staticW U16 115 Cmp5.yN)) (wk W Cmp5.tab) (W := 0) (Nat.le_of_ble_eq_true rfl) (Nat.le_of_ble_eq_true rfl) (Nat.le_refl _) (by show 0 + len + 0 ≤ len; omega) (g := (mkF m 9 #[.val (.ref b), .val (.int (Int32.ofNat o)), .val (.int (Int32.ofNat len)), .val (.ref s.heap.size), .unset, .unset] [.int (Int32.ofNat len), .int (Int32.ofNat 0), .ref s.heap.size, .int (Int32.ofNat o), .ref b])) rfl (by rw [hml]; rfl) c5 (argsL := [.ref b, .int (Int32.ofNat o), .ref s.heap.size, .int (Int32.ofNat 0), .int (Int32.ofNat len)]) (rest := []) rfl rfl (by show 2 * 0 + 0 ≤ _; decide) (hb hbytes d9) (⟨rfl, hA3, ba3, hne, l1, by rw [bs3]; simp, hp⟩)
  obtain ⟨rfl, B6, p6, f6⟩ := E6
  have c7 : Steps p.tables e below (s₁.setTop (entryFrame m #[.ref b, .int (Int32.ofNat o), .int (Int32.ofNat len)] 6)) (T6.setTop (mkF m 12 #[.val (.ref b), .val (.int (Int32.ofNat o)), .val (.int (Int32.ofNat len)), .val (.ref s.heap.size), .unset, .unset] [.int (Int32.ofNat len)])) := g6
  have c8 : Steps p.tables e below (s₁.setTop (entryFrame m #[.ref b, .int (Int32.ofNat o), .int (Int32.ofNat len)] 6)) (T6.setTop (mkF m 58 #[.val (.ref b), .val (.int (Int32.ofNat o)), .val (.int (Int32.ofNat len)), .val (.ref s.heap.size), .val (.int (Int32.ofNat len)), .unset] [.ref s.heap.size])) := c7.trans (by
    refine XS.istore X6.here hexec rfl (hb hbytes d12) rfl rfl ?_
    refine XS.iload X6.here hexec rfl (hb hbytes d14) rfl ?_
    refine XS.iloadN X6.here hexec rfl (hb hbytes d16) rfl ?_
    refine XS.icmpYes X6.here hexec rfl (pc0 := 17) rfl (hb hbytes d17) rfl (ii_eq_t rfl) (by decide) rfl ?_
    refine XS.aloadN X6.here hexec rfl (hb hbytes d57) rfl rfl ?_
    exact Steps.refl _)
  have X8 := X6.wide (L' := []) (cells' := 1) (slots' := len) (fun x hx hlt => by
    simp only [List.nil_append, copyLocs, List.mem_map, List.mem_range] at hx
    obtain ⟨i, -, rfl⟩ := hx
    exact absurd hlt (Nat.lt_irrefl _)) (Nat.le_refl _) (by omega)
  exact ⟨T6, some (.ref s.heap.size), _, _, _, X8, rfl, rfl, rfl, (fun h => by cases h), ⟨⟨rfl, B6, ba3.like (X3.warmed.alike.symm.trans X6.warmed.alike) p6.1 f6.1 f6.2.1 f6.2.2.1, f6.2.1.trans bv3, by rw [X6.warmed.alike.findClass, f6.1]; exact bf3, by rw [f6.2.2.1, bs3]; simp, fun j hj => by rw [f6.2.2.2 j, if_pos (by omega)]; rfl, kp3.put p6 (Nat.le_refl _)⟩, by rw [p6.2.2, bh3, hh0]; simp⟩, fun fs hl => c8.trans (X8.areturnOut hexec rfl hret rfl (hb hbytes d58) hl)⟩
end Cmp3
namespace CodL
def yN : MethodName := ⟨"java/lang/StringUTF16", "coderFromArrayLen", "([BI)B"⟩
abbrev yB : ByteArray := jdk_52_method_15_code
theorem d0 : decode yB 0 = .ok (.iload_n 1, 1) := by decide +kernel
theorem d1 : decode yB 1 = .ok (.aload_n 0, 1) := by decide +kernel
theorem d2 : decode yB 2 = .ok (.arraylength, 1) := by decide +kernel
theorem d3 : decode yB 3 = .ok (.isub, 1) := by decide +kernel
theorem d4 : decode yB 4 = .ok (.bipush 31, 2) := by decide +kernel
theorem d6 : decode yB 6 = .ok (.iushr, 1) := by decide +kernel
theorem d7 : decode yB 7 = .ok (.i2b, 1) := by decide +kernel
theorem d8 : decode yB 8 = .ok (.ireturn, 1) := by decide +kernel
def site : List Cond := []
def tab : Cond := tabOf yN yB 2 (some .byte) site
def P (d : Addr) (B : Cell) (args : Array Value) (s : State) : Prop := args = #[.ref d, .int (Int32.ofNat B.slots.size)] ∧ Arr .byte d B s
def E (r : Option Value) (s u : State) : Prop := XT.PureE (some (.int 0)) r s u
/-- an array as long as the number of chars: LATIN1 -/
theorem law (l : Launch) (d : Addr) (B : Cell) : Law l yN 2 2 0 0 yB 2 (some .byte) site (P d B) E [] 0 0 := by
  refine Law.of_walk (plainFor_of_name (by decide +kernel)) (by decide +kernel) (by decide +kernel) (by decide) (fun _ _ h => by rw [h.1]; rfl) (fun _ U U' hal hh h => ⟨h.1, h.2.mv hal hh⟩) (fun r U U' V V' h1 hal h2 h => XT.PureE.mv r U U' V V' h1 hal h2 h) ?_
  intro p e s m args below meth c s₁ X0 hexec hbytes hml hret hlk hnm hown hh0 W hP
  obtain ⟨rfl, hB⟩ := hP
  have hB0 := hB.mv X0.warmed.alike hh0
  have c1 : Steps p.tables e below (s₁.setTop (entryFrame m #[.ref d, .int (Int32.ofNat B.slots.size)] 2)) (s₁.setTop (mkF m 0 #[.val (.ref d), .val (.int (Int32.ofNat B.slots.size))] [])) := entry rfl
  have c2 : Steps p.tables e below (s₁.setTop (entryFrame m #[.ref d, .int (Int32.ofNat B.slots.size)] 2)) (s₁.setTop (mkF m 2 #[.val (.ref d), .val (.int (Int32.ofNat B.slots.size))] [.ref d, .int (Int32.ofNat B.slots.size)])) := c1.trans (by
    refine XS.iloadN X0.here hexec rfl (hb hbytes d0) rfl ?_
    refine XS.aloadN X0.here hexec rfl (hb hbytes d1) rfl rfl ?_
    exact Steps.refl _)
  have c3 : Steps p.tables e below (s₁.setTop (entryFrame m #[.ref d, .int (Int32.ofNat B.slots.size)] 2)) (s₁.setTop (mkF m 8 #[.val (.ref d), .val (.int (Int32.ofNat B.slots.size))] [.int (lo8 (ushr (Int32.ofNat B.slots.size - Int32.ofNat B.slots.size) 31))])) := c2.trans (by
    refine X0.alen hexec hB0 rfl rfl (hb hbytes d2) ?_
    refine XS.isub X0.here hexec rfl (hb hbytes d3) rfl ?_
    refine bipushV X0.here hexec rfl 31 (hb hbytes d4) (by decide) ?_
    refine iushr X0.here hexec rfl (hb hbytes d6) rfl ?_
    refine i2b X0.here hexec rfl (hb hbytes d7) rfl ?_
    exact Steps.refl _)
  have e0 : lo8 (ushr (Int32.ofNat B.slots.size - Int32.ofNat B.slots.size) 31) = 0 := by rw [Int32.sub_self]; decide
  rw [e0] at c3
  exact ⟨s₁, some (.int 0), _, _, _, X0, rfl, rfl, rfl, (fun h => by cases h), ⟨rfl, hh0⟩, fun fs hl => c3.trans (X0.ireturnOut hexec hret rfl (Or.inr (Or.inr (Or.inl rfl))) (hb hbytes d8) hl)⟩
end CodL
/-- the String at a is Latin-1 over a new byte[] (the heap's one new cell): the low bytes of the len chars of A from o on; every cell but a is kept -/
def Got (a : Addr) (D : Cell) (fV fC : Field) (A : Cell) (o len : Nat) (r : Option Value) (s u : State) : Prop := r = none ∧ ∃ D' V : Cell, Blank "java/lang/String" a D' u ∧ Same D D' [fV.slot, fC.slot] ∧ D'.slots[fV.slot]? = some (.ref s.heap.size) ∧ D'.slots[fC.slot]? = some (.int 0) ∧ Arr .byte s.heap.size V u ∧ V.vm = .none ∧ u.vm.findClass "[B" = some V.cls ∧ V.slots.size = len ∧ (∀ j, j < len → V.slots[j]? = some (.int (lo8 (cv A (o + j))))) ∧ (∀ (y : Addr) (c : Cell), y ≠ a → s.heap[y]? = some c → u.heap[y]? = some c) ∧ u.heap.size = s.heap.size + 1
theorem Got.mv {a : Addr} {D A : Cell} {fV fC : Field} {o len : Nat} : ∀ r (U U' V V' : State), U'.heap = U.heap → V.vm.Alike V'.vm → V'.heap = V.heap → Got a D fV fC A o len r U V → Got a D fV fC A o len r U' V' :=
  fun r U U' V V' h1 hal h2 ⟨e0, D', X, a1, a2, a3, a4, a5, a6, a7, a8, a9, a10, a11⟩ => ⟨e0, D', X, a1.mv hal h2, a2, by rw [h1]; exact a3, a4, by rw [h1]; exact a5.mv hal h2, a6, by rw [hal.findClass]; exact a7, a8, a9, by rw [h1, h2]; exact a10, by rw [h1, h2]; exact a11⟩
namespace New4
def yN : MethodName := ⟨"java/lang/String", "<init>", "([CIILjava/lang/Void;)V"⟩
abbrev yB : ByteArray := jdk_42_method_149_code
theorem d0 : decode yB 0 = .ok (.aload_n 0, 1) := by decide +kernel
theorem d1 : decode yB 1 = .ok (.invokespecial 1, 3) := by decide +kernel
theorem d4 : decode yB 4 = .ok (.iload_n 3, 1) := by decide +kernel
theorem d5 : decode yB 5 = .ok (.ifCond (.ne) 22, 3) := by decide +kernel
theorem d27 : decode yB 27 = .ok (.getstatic 38, 3) := by decide +kernel
theorem d30 : decode yB 30 = .ok (.ifCond (.eq) 28, 3) := by decide +kernel
theorem d33 : decode yB 33 = .ok (.aload_n 1, 1) := by decide +kernel
theorem d34 : decode yB 34 = .ok (.iload_n 2, 1) := by decide +kernel
theorem d35 : decode yB 35 = .ok (.iload_n 3, 1) := by decide +kernel
theorem d36 : decode yB 36 = .ok (.invokestatic 177, 3) := by decide +kernel
theorem d39 : decode yB 39 = .ok (.astore 5, 2) := by decide +kernel
theorem d41 : decode yB 41 = .ok (.aload_n 0, 1) := by decide +kernel
theorem d42 : decode yB 42 = .ok (.aload 5, 2) := by decide +kernel
theorem d44 : decode yB 44 = .ok (.iload_n 3, 1) := by decide +kernel
theorem d45 : decode yB 45 = .ok (.invokestatic 47, 3) := by decide +kernel
theorem d48 : decode yB 48 = .ok (.putfield 15, 3) := by decide +kernel
theorem d51 : decode yB 51 = .ok (.aload_n 0, 1) := by decide +kernel
theorem d52 : decode yB 52 = .ok (.aload 5, 2) := by decide +kernel
theorem d54 : decode yB 54 = .ok (.putfield 9, 3) := by decide +kernel
theorem d57 : decode yB 57 = .ok (.return_, 1) := by decide +kernel
def site : List Cond := [.fieldLink "java/lang/String" 38 "java/lang/String" "COMPACT_STRINGS" "Z", Cmp3.tab, CodL.tab, .laysFinal "java/lang/String" "java/lang/String" "value" "[B", .fieldLink "java/lang/String" 9 "java/lang/String" "value" "[B", .laysFinal "java/lang/String" "java/lang/String" "coder" "B", .fieldLink "java/lang/String" 15 "java/lang/String" "coder" "B"] ++ objW "java/lang/String" 1 ++ staticW "java/lang/String" 177 Cmp3.yN ++ staticW "java/lang/String" 47 CodL.yN
def tab : Cond := tabOf yN yB 6 none site
def P (a : Addr) (D : Cell) (fV fC : Field) (b : Addr) (A : Cell) (z : Int32) (o len : Nat) (args : Array Value) (s : State) : Prop := args = #[.ref a, .ref b, .int (Int32.ofNat o), .int (Int32.ofNat len), .null] ∧ Blank "java/lang/String" a D s ∧ Found "java/lang/String" "value" "[B" fV s ∧ Found "java/lang/String" "coder" "B" fC s ∧ Ch b A s ∧ StaticIs s "java/lang/String" "COMPACT_STRINGS" "Z" (.int z) ∧ ¬ z = 0 ∧ 0 < len ∧ o + len ≤ A.slots.size ∧ len ≤ 536870912 ∧ ∀ i, i < len → ¬ 255 < cv A (o + i)
def E (a : Addr) (D : Cell) (fV fC : Field) (A : Cell) (o len : Nat) (r : Option Value) (s u : State) : Prop := Got a D fV fC A o len r s u
/-- len > 0, no char of the range above 255: a Latin-1 String of their low bytes -/
theorem law (l : Launch) (a : Addr) (D : Cell) (fV fC : Field) (b : Addr) (A : Cell) (z : Int32) (o len : Nat) : Law l yN 5 4 2 35 yB 6 none site (P a D fV fC b A z o len) (E a D fV fC A o len) [⟨a, fC.slot⟩, ⟨a, fV.slot⟩] 1 len := by
  refine Law.of_walk (plainFor_of_name (by decide +kernel)) (by decide +kernel) (by decide +kernel) (by decide) (fun _ _ h => by rw [h.1]; rfl) (fun _ U U' hal hh h => ⟨h.1, h.2.1.mv hal hh, h.2.2.1.al hal, h.2.2.2.1.al hal, h.2.2.2.2.1.mv hal hh, h.2.2.2.2.2.1.there hal hh, h.2.2.2.2.2.2⟩) (fun r U U' V V' h1 hal h2 h => Got.mv r U U' V V' h1 hal h2 h) ?_
  intro p e s m args below meth c s₁ X0 hexec hbytes hml hret hlk hnm hown hh0 W hP
  obtain ⟨rfl, hB, f1, f2, hA, s1, hz, l0, l1, l2, hp⟩ := hP
  have a31 := hA.1.2.2.2
  have c1 : Steps p.tables e below (s₁.setTop (entryFrame m #[.ref a, .ref b, .int (Int32.ofNat o), .int (Int32.ofNat len), .null] 6)) (s₁.setTop (mkF m 0 #[.val (.ref a), .val (.ref b), .val (.int (Int32.ofNat o)), .val (.int (Int32.ofNat len)), .val .null, .unset] [])) := entry rfl
  have c2 : Steps p.tables e below (s₁.setTop (entryFrame m #[.ref a, .ref b, .int (Int32.ofNat o), .int (Int32.ofNat len), .null] 6)) (s₁.setTop (mkF m 1 #[.val (.ref a), .val (.ref b), .val (.int (Int32.ofNat o)), .val (.int (Int32.ofNat len)), .val .null, .unset] [.ref a])) := c1.trans (by
    refine XS.aloadN X0.here hexec rfl (hb hbytes d0) rfl rfl ?_
    exact Steps.refl _)
  obtain ⟨T3, X3, q3, st3⟩ := X0.oinit hexec hown (wks W (objW "java/lang/String" 1)) (g := (mkF m 1 #[.val (.ref a), .val (.ref b), .val (.int (Int32.ofNat o)), .val (.int (Int32.ofNat len)), .val .null, .unset] [.ref a])) rfl (by rw [hml]; rfl) (rest := []) rfl (hb hbytes d1) (W := 0) (by show 2 * 0 + 0 ≤ _; decide) (Nat.le_of_ble_eq_true rfl) (Nat.le_of_ble_eq_true rfl)
  have hh3 := q3.trans hh0
  have c4 : Steps p.tables e below (s₁.setTop (entryFrame m #[.ref a, .ref b, .int (Int32.ofNat o), .int (Int32.ofNat len), .null] 6)) (T3.setTop (mkF m 27 #[.val (.ref a), .val (.ref b), .val (.int (Int32.ofNat o)), .val (.int (Int32.ofNat len)), .val .null, .unset] [])) := (c2.trans (st3 _ (Steps.refl _))).trans (by
    refine XS.iloadN X3.here hexec rfl (hb hbytes d4) rfl ?_
    refine XS.ifYes X3.here hexec rfl (pc0 := 5) rfl (hb hbytes d5) rfl (i0_ne_t (nz32 (by omega) l0)) (by decide) rfl ?_
    exact Steps.refl _)
  obtain ⟨T5, X5, q5, st5⟩ := X3.sget hexec hown (wk W (.fieldLink "java/lang/String" 38 "java/lang/String" "COMPACT_STRINGS" "Z")) s1 (fun _ _ h => by rw [hh3]; exact h) (g := (mkF m 27 #[.val (.ref a), .val (.ref b), .val (.int (Int32.ofNat o)), .val (.int (Int32.ofNat len)), .val .null, .unset] [])) rfl (hb hbytes d27)
  have hh5 := q5.trans hh3
  have c6 : Steps p.tables e below (s₁.setTop (entryFrame m #[.ref a, .ref b, .int (Int32.ofNat o), .int (Int32.ofNat len), .null] 6)) (T5.setTop (mkF m 30 #[.val (.ref a), .val (.ref b), .val (.int (Int32.ofNat o)), .val (.int (Int32.ofNat len)), .val .null, .unset] [.int z])) := c4.trans (st5 _ (Steps.refl _))
  have c7 : Steps p.tables e below (s₁.setTop (entryFrame m #[.ref a, .ref b, .int (Int32.ofNat o), .int (Int32.ofNat len), .null] 6)) (T5.setTop (mkF m 36 #[.val (.ref a), .val (.ref b), .val (.int (Int32.ofNat o)), .val (.int (Int32.ofNat len)), .val .null, .unset] [.int (Int32.ofNat len), .int (Int32.ofNat o), .ref b])) := c6.trans (by
    refine XS.ifNo X5.here hexec rfl (hb hbytes d30) rfl (i0_eq_f hz) ?_
    refine XS.aloadN X5.here hexec rfl (hb hbytes d33) rfl rfl ?_
    refine XS.iloadN X5.here hexec rfl (hb hbytes d34) rfl ?_
    refine XS.iloadN X5.here hexec rfl (hb hbytes d35) rfl ?_
    exact Steps.refl _)
  obtain ⟨v8, T8, X8, E8, g8⟩ := X5.callS hexec (Cmp3.law l b A o len) hown (wks W (staticW "java/lang/String" 177 Cmp3.yN)) (wk W Cmp3.tab) (W := 0) (Nat.le_of_ble_eq_true rfl) (Nat.le_of_ble_eq_true rfl) (Nat.le_refl _) (by show 0 + len ≤ len; omega) (g := (mkF m 36 #[.val (.ref a), .val (.ref b), .val (.int (Int32.ofNat o)), .val (.int (Int32.ofNat len)), .val .null, .unset] [.int (Int32.ofNat len), .int (Int32.ofNat o), .ref b])) rfl (by rw [hml]; rfl) c7 (argsL := [.ref b, .int (Int32.ofNat o), .int (Int32.ofNat len)]) (rest := []) rfl rfl (by show 2 * 0 + 0 ≤ _; decide) (hb hbytes d36) (⟨rfl, hA.mv X5.warmed.alike hh5, l1, l2, hp⟩)
  obtain ⟨e8, z8⟩ := E8
  obtain ⟨rfl, N, n1, n2, n3, n4, n5, n6⟩ := NewArr.mv _ T5 s _ _ hh5.symm (Vm.Alike.refl _) rfl e8
  rw [hh5] at z8
  have hB1 := hB.keep X8.warmed.alike (n6 _ _ hB.1)
  have hne : s.heap.size ≠ a := (Nat.ne_of_lt (Array.getElem?_eq_some_iff.mp hB.1).1).symm
  have c9 : Steps p.tables e below (s₁.setTop (entryFrame m #[.ref a, .ref b, .int (Int32.ofNat o), .int (Int32.ofNat len), .null] 6)) (T8.setTop (mkF m 39 #[.val (.ref a), .val (.ref b), .val (.int (Int32.ofNat o)), .val (.int (Int32.ofNat len)), .val .null, .unset] [.ref s.heap.size])) := g8
  have c10 : Steps p.tables e below (s₁.setTop (entryFrame m #[.ref a, .ref b, .int (Int32.ofNat o), .int (Int32.ofNat len), .null] 6)) (T8.setTop (mkF m 45 #[.val (.ref a), .val (.ref b), .val (.int (Int32.ofNat o)), .val (.int (Int32.ofNat len)), .val .null, .val (.ref s.heap.size)] [.int (Int32.ofNat N.slots.size), .ref s.heap.size, .ref a])) := by
    have hc : Steps p.tables e below (s₁.setTop (entryFrame m #[.ref a, .ref b, .int (Int32.ofNat o), .int (Int32.ofNat len), .null] 6)) (T8.setTop (mkF m 45 #[.val (.ref a), .val (.ref b), .val (.int (Int32.ofNat o)), .val (.int (Int32.ofNat len)), .val .null, .val (.ref s.heap.size)] [.int (Int32.ofNat len), .ref s.heap.size, .ref a])) := c9.trans (by
      refine XS.astore X8.here hexec rfl (hb hbytes d39) rfl rfl rfl ?_
      refine XS.aloadN X8.here hexec rfl (hb hbytes d41) rfl rfl ?_
      refine XS.aload X8.here hexec rfl (hb hbytes d42) rfl rfl ?_
      refine XS.iloadN X8.here hexec rfl (hb hbytes d44) rfl ?_
      exact Steps.refl _)
    rw [n4]; exact hc
  obtain ⟨v11, T11, X11, E11, g11⟩ := X8.callS hexec (CodL.law l s.heap.size N) hown (wks W (staticW "java/lang/String" 47 CodL.yN)) (wk W CodL.tab) (W := 1) (Nat.le_of_ble_eq_true rfl) (Nat.le_of_ble_eq_true rfl) (Nat.le_refl _) (by show 0 + len + 0 ≤ len; omega) (g := (mkF m 45 #[.val (.ref a), .val (.ref b), .val (.int (Int32.ofNat o)), .val (.int (Int32.ofNat len)), .val .null, .val (.ref s.heap.size)] [.int (Int32.ofNat N.slots.size), .ref s.heap.size, .ref a])) rfl (by rw [hml]; rfl) c10 (argsL := [.ref s.heap.size, .int (Int32.ofNat N.slots.size)]) (rest := [.ref a]) rfl rfl (by show 2 * 0 + (1 + 0) ≤ _; decide) (hb hbytes d45) (⟨rfl, n1⟩)
  obtain ⟨rfl, q11⟩ := E11
  have hB11 := hB1.mv (X8.warmed.alike.symm.trans X11.warmed.alike) q11
  have c12 : Steps p.tables e below (s₁.setTop (entryFrame m #[.ref a, .ref b, .int (Int32.ofNat o), .int (Int32.ofNat len), .null] 6)) (T11.setTop (mkF m 48 #[.val (.ref a), .val (.ref b), .val (.int (Int32.ofNat o)), .val (.int (Int32.ofNat len)), .val .null, .val (.ref s.heap.size)] [.int 0, .ref a])) := g11
  obtain ⟨T13, X13, p13, bl13, sl13, st13⟩ := X11.finit hexec hown (wk W (.fieldLink "java/lang/String" 15 "java/lang/String" "coder" "B")) (Or.inr ⟨_, (wk W (.laysFinal "java/lang/String" "java/lang/String" "coder" "B"))⟩) (Or.inl ⟨rfl, hnm⟩) f2 (Or.inl rfl) hB11 (t := .byte) (by decide +kernel) rfl (g := (mkF m 48 #[.val (.ref a), .val (.ref b), .val (.int (Int32.ofNat o)), .val (.int (Int32.ofNat len)), .val .null, .val (.ref s.heap.size)] [.int 0, .ref a])) rfl (rest := []) rfl (hb hbytes d48)
  have c14 : Steps p.tables e below (s₁.setTop (entryFrame m #[.ref a, .ref b, .int (Int32.ofNat o), .int (Int32.ofNat len), .null] 6)) (T13.setTop (mkF m 54 #[.val (.ref a), .val (.ref b), .val (.int (Int32.ofNat o)), .val (.int (Int32.ofNat len)), .val .null, .val (.ref s.heap.size)] [.ref s.heap.size, .ref a])) := (c12.trans (st13 _ (Steps.refl _))).trans (by
    refine XS.aloadN X13.here hexec rfl (hb hbytes d51) rfl rfl ?_
    refine XS.aload X13.here hexec rfl (hb hbytes d52) rfl rfl ?_
    exact Steps.refl _)
  obtain ⟨T15, X15, p15, bl15, sl15, st15⟩ := X13.finit hexec hown (wk W (.fieldLink "java/lang/String" 9 "java/lang/String" "value" "[B")) (Or.inr ⟨_, (wk W (.laysFinal "java/lang/String" "java/lang/String" "value" "[B"))⟩) (Or.inl ⟨rfl, hnm⟩) f1 (Or.inl rfl) bl13 (t := (.array .byte)) (by decide +kernel) rfl (g := (mkF m 54 #[.val (.ref a), .val (.ref b), .val (.int (Int32.ofNat o)), .val (.int (Int32.ofNat len)), .val .null, .val (.ref s.heap.size)] [.ref s.heap.size, .ref a])) rfl (rest := []) rfl (hb hbytes d54)
  have c16 : Steps p.tables e below (s₁.setTop (entryFrame m #[.ref a, .ref b, .int (Int32.ofNat o), .int (Int32.ofNat len), .null] 6)) (T15.setTop (mkF m 57 #[.val (.ref a), .val (.ref b), .val (.int (Int32.ofNat o)), .val (.int (Int32.ofNat len)), .val .null, .val (.ref s.heap.size)] [])) := c14.trans (st15 _ (Steps.refl _))
  have ap := apart (Or.inr ⟨_, (wk W (.laysFinal "java/lang/String" "java/lang/String" "value" "[B"))⟩) (Or.inr ⟨_, (wk W (.laysFinal "java/lang/String" "java/lang/String" "coder" "B"))⟩) f1 f2 (t₁ := .array .byte) (t₂ := .byte) (by decide +kernel) (by decide +kernel) (by decide)
  have al := X8.warmed.alike.symm.trans X15.warmed.alike
  have n7 : T11.heap[s.heap.size]? = some N := by rw [q11]; exact n1.1
  exact ⟨T15, none, _, _, _, X15, by simp, rfl, by omega, (fun _ => rfl), ⟨rfl, _, N, bl15, ((Same.refl D _).set _ (by simp)).set _ (by simp), sl15, (Cell.slots_setSlot_ne _ ap).trans sl13, n1.keep al (p15.other hne (p13.other hne n7)), n2, by rw [al.findClass]; exact n3, n4, n5, fun y c h1 h2 => p15.other h1 (p13.other h1 (by rw [q11]; exact n6 y c h2)), by rw [p15.2.2, p13.2.2, q11]; exact z8⟩, fun fs hl => c16.trans (X15.returnOut hexec hret (hb hbytes d57) hl)⟩
end New4
namespace New1
def yN : MethodName := ⟨"java/lang/String", "<init>", "([C)V"⟩
abbrev yB : ByteArray := jdk_42_method_3_code
theorem d0 : decode yB 0 = .ok (.aload_n 0, 1) := by decide +kernel
theorem d1 : decode yB 1 = .ok (.aload_n 1, 1) := by decide +kernel
theorem d2 : decode yB 2 = .ok (.iconst 0, 1) := by decide +kernel
theorem d3 : decode yB 3 = .ok (.aload_n 1, 1) := by decide +kernel
theorem d4 : decode yB 4 = .ok (.arraylength, 1) := by decide +kernel
theorem d5 : decode yB 5 = .ok (.aconst_null, 1) := by decide +kernel
theorem d6 : decode yB 6 = .ok (.invokespecial 27, 3) := by decide +kernel
theorem d9 : decode yB 9 = .ok (.return_, 1) := by decide +kernel
def site : List Cond := [New4.tab] ++ initW "java/lang/String" 27 New4.yN
def tab : Cond := tabOf yN yB 2 none site
def P (a : Addr) (D : Cell) (fV fC : Field) (b : Addr) (A : Cell) (z : Int32) (args : Array Value) (s : State) : Prop := args = #[.ref a, .ref b] ∧ Blank "java/lang/String" a D s ∧ Found "java/lang/String" "value" "[B" fV s ∧ Found "java/lang/String" "coder" "B" fC s ∧ Ch b A s ∧ StaticIs s "java/lang/String" "COMPACT_STRINGS" "Z" (.int z) ∧ ¬ z = 0 ∧ 0 < A.slots.size ∧ A.slots.size ≤ 536870912 ∧ ∀ i, i < A.slots.size → ¬ 255 < cv A i
def E (a : Addr) (D : Cell) (fV fC : Field) (A : Cell) (r : Option Value) (s u : State) : Prop := Got a D fV fC A 0 A.slots.size r s u
/-- new String(chars), not empty, no char above 255: a Latin-1 String of their low bytes -/
theorem law (l : Launch) (a : Addr) (D : Cell) (fV fC : Field) (b : Addr) (A : Cell) (z : Int32) : Law l yN 2 1 3 52 yB 2 none site (P a D fV fC b A z) (E a D fV fC A) [⟨a, fC.slot⟩, ⟨a, fV.slot⟩] 1 A.slots.size := by
  refine Law.of_walk (plainFor_of_name (by decide +kernel)) (by decide +kernel) (by decide +kernel) (by decide) (fun _ _ h => by rw [h.1]; rfl) (fun _ U U' hal hh h => ⟨h.1, h.2.1.mv hal hh, h.2.2.1.al hal, h.2.2.2.1.al hal, h.2.2.2.2.1.mv hal hh, h.2.2.2.2.2.1.there hal hh, h.2.2.2.2.2.2⟩) (fun r U U' V V' h1 hal h2 h => Got.mv r U U' V V' h1 hal h2 h) ?_
  intro p e s m args below meth c s₁ X0 hexec hbytes hml hret hlk hnm hown hh0 W hP
  obtain ⟨rfl, hB, f1, f2, hA, s1, hz, l0, l2, hp⟩ := hP
  have c1 : Steps p.tables e below (s₁.setTop (entryFrame m #[.ref a, .ref b] 2)) (s₁.setTop (mkF m 0 #[.val (.ref a), .val (.ref b)] [])) := entry rfl
  have c2 : Steps p.tables e below (s₁.setTop (entryFrame m #[.ref a, .ref b] 2)) (s₁.setTop (mkF m 6 #[.val (.ref a), .val (.ref b)] [.null, .int (Int32.ofNat A.slots.size), .int 0, .ref b, .ref a])) := c1.trans (by
    refine XS.aloadN X0.here hexec rfl (hb hbytes d0) rfl rfl ?_
    refine XS.aloadN X0.here hexec rfl (hb hbytes d1) rfl rfl ?_
    refine iconstV X0.here hexec rfl 0 (hb hbytes d2) (by decide) ?_
    refine XS.aloadN X0.here hexec rfl (hb hbytes d3) rfl rfl ?_
    refine X0.alen hexec (hA.1.mv X0.warmed.alike hh0) rfl rfl (hb hbytes d4) ?_
    refine XS.aconstNull X0.here hexec rfl (hb hbytes d5) ?_
    exact Steps.refl _)
  obtain ⟨v3, T3, X3, E3, g3⟩ := X0.callN hexec (New4.law l a D fV fC b A z 0 A.slots.size) rfl hown (wks W (initW "java/lang/String" 27 New4.yN)) (W New4.tab (by simp only [site, List.mem_cons, List.mem_append, true_or, or_true])) (W := 0) (Nat.le_of_ble_eq_true rfl) (Nat.le_of_ble_eq_true rfl) (Nat.le_refl _) (by show 0 + A.slots.size ≤ A.slots.size; omega) (g := (mkF m 6 #[.val (.ref a), .val (.ref b)] [.null, .int (Int32.ofNat A.slots.size), .int (Int32.ofNat 0), .ref b, .ref a])) rfl (by rw [hml]; rfl) c2 (argsL := [.ref b, .int (Int32.ofNat 0), .int (Int32.ofNat A.slots.size), .null]) (rest := []) rfl rfl (by show 2 * 0 + 0 ≤ _; decide) (hb hbytes d6) (⟨rfl, hB.mv X0.warmed.alike hh0, f1.al X0.warmed.alike, f2.al X0.warmed.alike, hA.mv X0.warmed.alike hh0, s1.there X0.warmed.alike hh0, hz, l0, by omega, l2, fun i hi => by rw [Nat.zero_add]; exact hp i hi⟩)
  have e0 := Got.mv _ s₁ s _ _ hh0.symm (Vm.Alike.refl _) rfl E3
  obtain rfl := e0.1
  have c4 : Steps p.tables e below (s₁.setTop (entryFrame m #[.ref a, .ref b] 2)) (T3.setTop (mkF m 9 #[.val (.ref a), .val (.ref b)] [])) := g3
  exact ⟨T3, none, _, _, _, X3, by simp, rfl, by omega, (fun _ => rfl), e0, fun fs hl => c4.trans (X3.returnOut hexec hret (hb hbytes d9) hl)⟩
theorem pays {l : Launch} {R : Room} {p : Program} {e : Env} {below : List Frame} {s : State} {sargs : Array Value} {len W : Nat} (a : Addr) (D : Cell) (fV fC : Field) (b : Addr) (A : Cell) (z : Int32) (htab : tab.before sargs s = true) (hfr : 4 ≤ R.frames) (hlo : W + 65 ≤ R.locals) :
    Back l R p e below s sargs yN len W (fun A₁ a₁ => A₁.cells + 1 ≤ R.cells ∧ A₁.slots + A.slots.size ≤ R.slots ∧ P a D fV fC b A z a₁ A₁.U) (fun A₁ _ v₁ B₁ => E a D fV fC A v₁ A₁.U B₁.U ∧ B₁.locs = A₁.locs ++ [⟨a, fC.slot⟩, ⟨a, fV.slot⟩] ∧ B₁.cells = A₁.cells + 1 ∧ B₁.slots = A₁.slots + A.slots.size) :=
  (law l a D fV fC b A z).pays htab hfr (by omega)
end New1
/-- the byte, read back as charAt reads it, is the char -/
theorem lo8_mask {x : Int32} (h0 : ¬ x < 0) (h1 : ¬ 255 < x) : lo8 x &&& 255 = x := by
  have t : ∀ k : Fin 256, lo8 (Int32.ofNat k.val) &&& 255 = Int32.ofNat k.val := by decide +kernel
  rw [Int32.lt_iff_toInt_lt] at h0 h1
  have e0 : (0 : Int32).toInt = 0 := rfl
  have e1 : (255 : Int32).toInt = 255 := rfl
  obtain ⟨k, hk⟩ : ∃ k : Nat, x.toInt = k := ⟨x.toInt.toNat, by omega⟩
  have hx : x = Int32.ofNat k := Int32.toInt_inj.mp (by rw [hk, Int32.toInt_ofNat_small (by omega)])
  rw [hx]
  exact t ⟨k, by omega⟩
end StrChars
namespace StrChars.Road
open Jvm Sem ClassFile Op Lib Jvm.Stand Jvm.Free Jvm.Free.XT
open Jvm.Lib.Cold (StaticIs)
abbrev ST : String := "java/lang/String"
/-- every table word that New1's law asks, flat -/
abbrev words : List Jvm.Cond := [.code New1.yN New1.yB 2 none, .initialized ST, .methodLink ST 27 New4.yN, .instanceMethod New4.yN,
  .code New4.yN New4.yB 6 none, .fieldLink ST 38 ST "COMPACT_STRINGS" "Z", .laysFinal ST ST "value" "[B", .fieldLink ST 9 ST "value" "[B", .laysFinal ST ST "coder" "B", .fieldLink ST 15 ST "coder" "B",
  .methodLink ST 1 Lib.objectInit, .instanceMethod Lib.objectInit, .code Lib.objectInit ⟨#[0xb1]⟩ 1 none, .methodLink ST 177 Cmp3.yN, .static Cmp3.yN, .methodLink ST 47 CodL.yN, .static CodL.yN,
  .code Cmp3.yN Cmp3.yB 6 (some (.array .byte)), .initialized U16, .arrayClass .byte, .methodLink U16 115 Cmp5.yN, .static Cmp5.yN, .code Cmp5.yN Cmp5.yB 7 (some .int), .code CodL.yN CodL.yB 2 (some .byte)]
theorem tab_of {a : Array Value} {s : State} (h : ∀ w ∈ words, w.before a s = true) : New1.tab.before a s = true := by
  have h5 : Cmp5.tab.before a s = true := unparts (wk h (.code Cmp5.yN Cmp5.yB 7 (some .int))) (wks h (.initialized Cmp5.yN.cls :: Cmp5.site))
  have hc : CodL.tab.before a s = true := unparts (wk h (.code CodL.yN CodL.yB 2 (some .byte))) (wks h (.initialized CodL.yN.cls :: CodL.site))
  have q5 : ∀ w ∈ Cmp5.tab :: words, w.before a s = true := fun w hw => (List.mem_cons.mp hw).elim (fun e => e ▸ h5) (h w)
  have h3 : Cmp3.tab.before a s = true := unparts (wk q5 (.code Cmp3.yN Cmp3.yB 6 (some (.array .byte)))) (wks q5 (.initialized Cmp3.yN.cls :: Cmp3.site))
  have q3 : ∀ w ∈ Cmp3.tab :: CodL.tab :: words, w.before a s = true := fun w hw => (List.mem_cons.mp hw).elim (fun e => e ▸ h3) fun hw => (List.mem_cons.mp hw).elim (fun e => e ▸ hc) (h w)
  have h4 : New4.tab.before a s = true := unparts (wk q3 (.code New4.yN New4.yB 6 none)) (wks q3 (.initialized New4.yN.cls :: New4.site))
  have q4 : ∀ w ∈ New4.tab :: words, w.before a s = true := fun w hw => (List.mem_cons.mp hw).elim (fun e => e ▸ h4) (h w)
  exact unparts (wk q4 (.code New1.yN New1.yB 2 none)) (wks q4 (.initialized New1.yN.cls :: New1.site))
/-- the words ride from the start Z to the walk's own state -/
theorem moved {Z s : State} {a0 args : Array Value} (hZ : Z.Warmed39 s.vm) (hw : ∀ d ∈ words, d.before a0 Z = true) : ∀ d ∈ words, d.before args s = true := fun d hd => by
  have q := hw d hd
  have t : ∀ d ∈ words, d = .arrayClass .byte ∨ (d.onTables && d.keepsFace) = true := by decide +kernel
  rcases t d hd with rfl | t
  · exact RoadKit.mvA hZ q
  · exact RoadKit.mv hZ q t
/-- WHAT COMES BACK, over the tables of the start Z: h the heap at the call, h' behind it -/
def Q (Z : State) (x : Addr) (A : Cell) (h : Heap) (v : Option Value) (h' : Heap) (L : List Loc) : Prop := v = none ∧ (∀ y ∈ L, y.base = x) ∧ RoadKit.Keep h h' [x] ∧ h'.size = h.size + 1 ∧ RoadKit.Exa Z h' x ST ∧ RoadKit.Fld Z h' x ST "value" "[B" (.ref h.size) ∧ RoadKit.Fld Z h' x ST "coder" "B" (.int 0) ∧
  (∃ V : Cell, RoadKit.Arr Z h' h.size V .byte ∧ V.vm = .none ∧ Z.vm.findClass "[B" = some V.cls ∧ V.slots.size = A.slots.size ∧ ∀ j, j < A.slots.size → V.slots[j]? = some (.int (lo8 (cv A j)))) ∧
  ∀ (O n d : String) (w : Value), RoadKit.Fld Z h x O n d w → RoadKit.slotOf Z O n d ≠ RoadKit.slotOf Z ST "value" "[B" → RoadKit.slotOf Z O n d ≠ RoadKit.slotOf Z ST "coder" "B" → RoadKit.Fld Z h' x O n d w
/-- **new String(chars) AT A CALL, IN THE ROAD'S FORM**: for specialBack behind newO: x the fresh String, b the char[] with the cell A -/
theorem back {p : Program} {l : Launch} {e : Env} {R : Room} {s : State} {args : Array Value} {below : List Frame} {len W : Nat} {Z : State} {a0 : Array Value} {h : Heap} (hZ : Z.Warmed39 s.vm) (hw : ∀ d ∈ words, d.before a0 Z = true) {kI : Nat} (wi : (Jvm.Cond.instantiable ST kI).before a0 Z = true)
    {x b : Addr} {A : Cell} {z : Int32} {v0 c0 : Value} (E : RoadKit.Exa Z h x ST) (V : RoadKit.Fld Z h x ST "value" "[B" v0) (C : RoadKit.Fld Z h x ST "coder" "B" c0) (K : RoadKit.Arr Z h b A .char) (hty : Typed .char A) (S : RoadKit.Sta Z h ST "COMPACT_STRINGS" "Z" (.int z)) (hz : ¬ z = 0)
    (l0 : 0 < A.slots.size) (l2 : A.slots.size ≤ 536870912) (hp : ∀ i, i < A.slots.size → ¬ 255 < cv A i) (hfr : 4 ≤ R.frames) (hlo : W + 65 ≤ R.locals) :
    Back l R p e below s args New1.yN len W (fun P a => a = #[.ref x, .ref b] ∧ P.U.heap = h ∧ P.cells + 1 ≤ R.cells ∧ P.slots + A.slots.size ≤ R.slots)
      (fun P _ v B => ∃ L, Q Z x A h v B.U.heap L ∧ B.locs = P.locs ++ L ∧ B.cells = P.cells + 1 ∧ B.slots = P.slots + A.slots.size) := by
  intro m meth c P g ig mk a X hg hsize hdg hW hn hp'
  obtain ⟨rfl, rfl, r1, r2⟩ := hp'
  have al : Z.vm.Alike P.U.vm := hZ.alike.trans X.warmed.alike
  obtain ⟨D, cfV, kV, iV, fV, hD, gV, stV, knV, obV, asV, slV⟩ := id V
  obtain ⟨D', cfC, kC, iC, fC, hD', gC, stC, -, -, asC, slC⟩ := id C
  cases hD.symm.trans hD'
  obtain ⟨D2, kD, e1, e2, e3, e4, e5⟩ := id E
  cases hD.symm.trans e1
  obtain ⟨c2, k2, i1, i2, i3, -⟩ := Cond.instantiable_spec wi
  cases e2.symm.trans i1
  cases e3.symm.trans i2
  obtain ⟨kU, u1, u2⟩ := al.2.2 _ _ e3
  have hB : Blank ST x D P.U := ⟨hD, ⟨knV, fun q hq => by rw [hq] at obV; cases obV⟩, by rw [al.findClass]; exact e2, kU, u1, by rw [u2]; exact i3, by rw [u2]; exact e5 i3⟩
  have F1 : Found ST "value" "[B" fV P.U := ⟨SBG.found_only al ⟨cfV, kV, iV, gV⟩, stV⟩
  have F2 : Found ST "coder" "B" fC P.U := ⟨SBG.found_only al ⟨cfC, kC, iC, gC⟩, stC⟩
  have hA : Ch b A P.U := ⟨⟨K.1, State.isArrayOf_alike al K.2.1, K.2.2, by omega⟩, hty⟩
  have hS : StaticIs P.U ST "COMPACT_STRINGS" "Z" (.int z) := by
    obtain ⟨cfS, iS, kS, fS, st, cS, t1, t2, t3, t4, t5, t6, t7⟩ := S
    exact StaticIs.there (s := { Z with heap := P.U.heap }) ⟨cfS, iS, kS, fS, st, cS, t1, t2, t3, t4, t5, (fun q => by rw [q] at t6; cases t6), t7⟩ al rfl
  obtain ⟨v, B, X', ⟨⟨hv, E', V', q1, q2, q3, q4, q5, q6, q7, q8, q9, q10, q11⟩, hl, hc, hs⟩, st⟩ := New1.pays x D fV fC b A z (tab_of (moved hZ hw)) hfr hlo m meth c P g ig mk _ X hg hsize hdg hW hn ⟨r1, r2, rfl, hB, F1, F2, hA, hS, hz, l0, l2, hp⟩
  have al' : Z.vm.Alike B.U.vm := hZ.alike.trans X'.warmed.alike
  have hsz : E'.slots.size = D.slots.size := by
    obtain ⟨-, -, -, kB, w1, w2, w3⟩ := q1
    obtain ⟨kB', y1, y2⟩ := al'.2.2 _ _ e3
    rw [q2.2.1] at w1
    cases w1.symm.trans y1
    rw [w3, e5 i3, y2]
  refine ⟨v, B, X', ⟨_, ⟨hv, ?_, ⟨by omega, fun y cy hy hn' => q10 y cy (by simpa using hn') hy, fun y cy hy => ?_⟩, q11, ⟨E', _, q1.1, by rw [q2.2.1]; exact e2, by rw [q2.2.1]; exact e3, by rw [q2.1]; exact obV, fun _ => by rw [hsz]; exact e5 i3⟩,
    ⟨E', cfV, kV, iV, fV, q1.1, gV, stV, by rw [q2.1]; exact knV, by rw [q2.1]; exact obV, by rw [q2.2.1]; exact asV, q3⟩, ⟨E', cfC, kC, iC, fC, q1.1, gC, stC, by rw [q2.1]; exact knV, by rw [q2.1]; exact obV, by rw [q2.2.1]; exact asC, q4⟩,
    ⟨V', ⟨q5.1, State.isArrayOf_alike al'.symm q5.2.1, q5.2.2.1⟩, q6, by rw [← al'.findClass]; exact q7, q8, fun j hj => by have := q9 j hj; rwa [Nat.zero_add] at this⟩, fun O n d w F n1 n2 => ?_⟩, hl, hc, hs⟩, st⟩
  · intro y hy
    simp only [List.mem_cons, List.not_mem_nil, or_false] at hy
    rcases hy with rfl | rfl <;> rfl
  · by_cases q : y = x
    · subst q
      cases hD.symm.trans hy
      exact ⟨E', q1.1, q2.2.1, q2.1, hsz⟩
    · exact ⟨cy, q10 y cy q hy, rfl, rfl, rfl⟩
  · obtain ⟨D3, cf, k, i, f, g1, g2, g3, g4, g5, g6, g7⟩ := F
    cases hD.symm.trans g1
    simp only [RoadKit.slotOf, g2, gV, gC, Option.map_some, Option.getD_some] at n1 n2
    exact ⟨E', cf, k, i, f, q1.1, g2, g3, by rw [q2.1]; exact g4, by rw [q2.1]; exact g5, by rw [q2.2.1]; exact g6, by rw [q2.2.2 f.slot (by simp [n1, n2])]; exact g7⟩
end StrChars.Road
namespace StrChars.Road
open Jvm Sem ClassFile Op Lib Jvm.Stand Jvm.Free Jvm.Free.XT
/-- WHAT COMES BACK, the byte[] as a list of values -/
def QA (Z : State) (x : Addr) (zn : Int32) (cs : List Int32) (h : Heap) (v : Option Value) (h' : Heap) (L : List Loc) : Prop := v = none ∧ (∀ y ∈ L, y.base = x) ∧ RoadKit.Keep h h' [x] ∧ h'.size = h.size + 1 ∧ RoadKit.Exa Z h' x ST ∧ RoadKit.Fld Z h' x ST "value" "[B" (.ref h.size) ∧ RoadKit.Fld Z h' x ST "coder" "B" (.int 0) ∧
  (∃ kb, Z.vm.findClass "[B" = some kb ∧ RoadKit.Arv Z h' h.size kb .byte zn (cs.map fun c => .int (lo8 c)) (.int 0)) ∧
  ∀ (O n d : String) (w : Value), RoadKit.Fld Z h x O n d w → RoadKit.slotOf Z O n d ≠ RoadKit.slotOf Z ST "value" "[B" → RoadKit.slotOf Z O n d ≠ RoadKit.slotOf Z ST "coder" "B" → RoadKit.Fld Z h' x O n d w
/-- **new String(chars) AT A CALL, THE ARRAYS AS LISTS**: the char[] at b holds cs, not empty, no char above 255 -/
theorem backArv {p : Program} {l : Launch} {e : Env} {R : Room} {s : State} {args : Array Value} {below : List Frame} {len W : Nat} {Z : State} {a0 : Array Value} {h : Heap} (hZ : Z.Warmed39 s.vm) (hw : ∀ d ∈ words, d.before a0 Z = true) {kI : Nat} (wi : (Jvm.Cond.instantiable ST kI).before a0 Z = true)
    {x b : Addr} {k : ClassId} {zn z : Int32} {cs : List Int32} {dv v0 c0 : Value} (E : RoadKit.Exa Z h x ST) (V : RoadKit.Fld Z h x ST "value" "[B" v0) (C : RoadKit.Fld Z h x ST "coder" "B" c0) (K : RoadKit.Arv Z h b k .char zn (cs.map Value.int) dv) (S : RoadKit.Sta Z h ST "COMPACT_STRINGS" "Z" (.int z)) (hz : ¬ z = 0)
    (hlen : zn.toNatClampNeg = cs.length) (h0 : 0 < cs.length) (hbig : cs.length ≤ 536870912) (hall : ∀ c ∈ cs, ¬ 255 < c) (hfr : 4 ≤ R.frames) (hlo : W + 65 ≤ R.locals) :
    Back l R p e below s args New1.yN len W (fun P a => a = #[.ref x, .ref b] ∧ P.U.heap = h ∧ P.cells + 1 ≤ R.cells ∧ P.slots + cs.length ≤ R.slots)
      (fun P _ v B => ∃ L, QA Z x zn cs h v B.U.heap L ∧ B.locs = P.locs ++ L ∧ B.cells = P.cells + 1 ∧ B.slots = P.slots + cs.length) := by
  obtain ⟨A, K1, K2, K3, K4, K5, K6⟩ := K
  have e : A.slots.size = cs.length := K3.trans hlen
  have hat : ∀ (i : Nat) (hi : i < cs.length), A.slots[i]? = some (.int cs[i]) := fun i hi => by rw [K5 i (by omega)]; simp [List.getD_eq_getElem?_getD, hi]
  have hcv : ∀ (i : Nat) (hi : i < cs.length), cv A i = cs[i] := fun i hi => by unfold cv; rw [hat i hi]
  have hty : Typed .char A := fun i v hv => by
    have hi : i < A.slots.size := (Array.getElem?_eq_some_iff.mp hv).1
    have q := K5 i hi
    rw [hv] at q
    rw [Option.some.inj q]
    exact K6 i hi
  refine Back.mono (back hZ hw wi E V C K1 hty S hz (by omega) (by omega) (fun i hi => by rw [hcv i (by omega)]; exact hall _ (List.getElem_mem _)) hfr hlo) (fun P a hp => ⟨hp.1, hp.2.1, hp.2.2.1, by rw [e]; exact hp.2.2.2⟩) (fun P a v B hp hq => ?_)
  obtain ⟨L, ⟨q1, q2, q3, q4, q5, q6, q7, ⟨V', v1, v2, v3, v4, v5⟩, q9⟩, hl, hc, hs⟩ := hq
  refine ⟨L, ⟨q1, q2, q3, q4, q5, q6, q7, ⟨V'.cls, v3, V', v1, rfl, by rw [v4, e, hlen], K4, fun i hi => ?_, fun i hi => ?_⟩, q9⟩, hl, hc, by rw [hs, e]⟩
  · have hi' : i < cs.length := by omega
    rw [v5 i (by omega), hcv i hi']; simp [List.getD_eq_getElem?_getD, hi']
  · have hi' : i < cs.length := by omega
    simp only [List.getD_eq_getElem?_getD, List.getElem?_map, List.getElem?_eq_getElem hi', Option.map_some, Option.getD_some]
    exact fits_lo8 _
end StrChars.Road
namespace StrChars.Road
open Jvm Sem ClassFile Op Lib Jvm.Stand Jvm.Free Jvm.Free.XT
/-- WHAT COMES BACK, in the writer's own shape -/
def QV (Z : State) (x : Addr) (N : Int32) (bs : List Int32) (h : Heap) (n0 : Nat) (v : Option Value) (h' : Heap) (L : List Loc) : Prop := v = none ∧ RoadKit.Fr n0 L ∧ RoadKit.Keep h h' [x] ∧ RoadKit.Exa Z h' x ST ∧ RoadKit.Fld Z h' x ST "coder" "B" (.int 0) ∧
  ∃ (t : Addr) (kb : ClassId), n0 ≤ t ∧ h.size ≤ t ∧ ¬ t = x ∧ RoadKit.Fld Z h' x ST "value" "[B" (.ref t) ∧ RoadKit.Arv Z h' t kb .byte N (bs.map Value.int) (.int 0)
/-- **new String(chars) AT A CALL, FOR THE WRITER**: a char[] of n known ints, each 0 to 255 -/
theorem backV {p : Program} {l : Launch} {e : Env} {R : Room} {s : State} {args : Array Value} {below : List Frame} {len W : Nat} {Z : State} {a0 : Array Value} {h : Heap} (hZ : Z.Warmed39 s.vm) (hw : ∀ d ∈ words, d.before a0 Z = true) {kI : Nat} (wi : (Jvm.Cond.instantiable ST kI).before a0 Z = true)
    {x b : Addr} {kC : ClassId} {cs bs : List Int32} {d v0 c0 : Value} {z N : Int32} {n n0 : Nat} (hx0 : n0 ≤ x) (hh0 : n0 ≤ h.size) (E : RoadKit.Exa Z h x ST) (V : RoadKit.Fld Z h x ST "value" "[B" v0) (C : RoadKit.Fld Z h x ST "coder" "B" c0) (K : RoadKit.Arv Z h b kC .char N (cs.map Value.int) d) (S : RoadKit.Sta Z h ST "COMPACT_STRINGS" "Z" (.int z)) (hz : ¬ z = 0)
    (hn : cs.length = n) (hN : N = Int32.ofNat n) (l0 : 0 < n) (l2 : n ≤ 4000) (hp : ∀ c ∈ cs, ¬ c < 0 ∧ ¬ (255 : Int32) < c) (hb : bs = cs.map (fun c => c.toInt8.toInt32)) (hfr : 4 ≤ R.frames) (hlo : W + 65 ≤ R.locals) :
    Back l R p e below s args (⟨"java/lang/String", "<init>", "([C)V"⟩ : MethodName) len W (fun P a => a = #[.ref x, .ref b] ∧ P.U.heap = h ∧ P.cells + 1 ≤ R.cells ∧ P.slots + n ≤ R.slots)
      (fun P _ v B => ∃ L, QV Z x N bs h n0 v B.U.heap L ∧ B.locs = P.locs ++ L ∧ B.cells = P.cells + 1 ∧ B.slots = P.slots + n) := by
  subst hn hN hb
  refine Back.mono (backArv hZ hw wi E V C K S hz (n32 (by omega)) l0 (by omega) (fun c hc => (hp c hc).2) hfr hlo) (fun P a hp => hp) (fun P a v B hp hq => ?_)
  obtain ⟨L, ⟨q1, q2, q3, q4, q5, q6, q7, ⟨kb, v1, v2⟩, q9⟩, hl, hc, hs⟩ := hq
  exact ⟨L, ⟨q1, fun y hy => by rw [q2 y hy]; exact hx0, q3, q5, q7, h.size, kb, hh0, Nat.le_refl _, Nat.ne_of_gt E.lt, q6, by rw [List.map_map]; exact v2⟩, hl, hc, hs⟩
end StrChars.Road
namespace StrChars
open Jvm Sem ClassFile Op Lib Jvm.Stand Jvm.Free.XT Jvm.Free.ALB Jvm.Free.JM Jvm.Free
open Jvm.Lib.Cold (StaticIs)
def hi8 (x : Int32) : Int32 := lo8 (x >>> ((8 : Int32) &&& 31))
/-- what StringUTF16.getChar makes of two bytes -/
def pairCh (u v : Int32) : Int32 := (((u &&& 255) <<< ((0 : Int32) &&& 31)) ||| ((v &&& 255) <<< ((8 : Int32) &&& 31))).toUInt32.toUInt16.toUInt32.toInt32
theorem lo8_and (x : Int32) : (lo8 x &&& 255).toBitVec.toNat = x.toBitVec.toNat % 256 := by
  have h : (lo8 x).toBitVec = (x.toBitVec.signExtend 8).signExtend 32 := by rw [lo8, Int8.toBitVec_toInt32, Int32.toBitVec_toInt8]
  rw [Int32.toBitVec_and, BitVec.toNat_and, h]
  have e : ((x.toBitVec.signExtend 8).signExtend 32).toNat % 256 = x.toBitVec.toNat % 256 := by
    rw [BitVec.toNat_signExtend]
    have hlt := x.toBitVec.isLt
    simp only [BitVec.toNat_setWidth, BitVec.toNat_signExtend]
    split <;> split <;> omega
  rw [← e]
  exact Nat.and_two_pow_sub_one_eq_mod _ 8
theorem pair_says {c : Int32} (h0 : ¬ c < 0) (h1 : ¬ 65535 < c) : pairCh (lo8 c) (hi8 c) = c := by
  rw [Int32.lt_iff_toInt_lt] at h0 h1
  have e0 : (0 : Int32).toInt = 0 := rfl
  have e1 : (65535 : Int32).toInt = 65535 := rfl
  have hc : c.toInt = c.toBitVec.toNat := by
    have := c.toBitVec.isLt
    have e : c.toInt = c.toBitVec.toInt := rfl
    rw [e] at h0 h1
    rw [e]
    rw [BitVec.toInt_eq_toNat_cond] at h0 h1 ⊢
    split at h0 <;> split <;> omega
  have hn : c.toBitVec.toNat < 65536 := by omega
  have a1 := lo8_and c
  have a2 : (hi8 c &&& 255).toBitVec.toNat = c.toBitVec.toNat / 256 := by
    rw [hi8, lo8_and]
    have e : ((8 : Int32) &&& 31) = 8 := by decide
    rw [e, Int32.toBitVec_shiftRight]
    have e2 : ((8 : Int32).toBitVec.smod 32) = 8#32 := by decide
    rw [e2, BitVec.sshiftRight_eq', BitVec.toNat_sshiftRight_of_msb_false (by rw [BitVec.msb_eq_false_iff_two_mul_lt]; omega)]
    show c.toBitVec.toNat >>> 8 % 256 = _
    rw [Nat.shiftRight_eq_div_pow]
    omega
  unfold pairCh
  apply Int32.toBitVec_inj.mp
  apply BitVec.eq_of_toNat_eq
  have f0 : ((0 : Int32) &&& 31) = 0 := by decide
  have f8 : ((8 : Int32) &&& 31) = 8 := by decide
  rw [f0, f8]
  have g : (((lo8 c &&& 255) <<< (0 : Int32)) ||| ((hi8 c &&& 255) <<< (8 : Int32))).toBitVec.toNat = c.toBitVec.toNat := by
    rw [Int32.toBitVec_or, Int32.toBitVec_shiftLeft, Int32.toBitVec_shiftLeft]
    have s0 : ((0 : Int32).toBitVec.smod 32) = 0#32 := by decide
    have s8 : ((8 : Int32).toBitVec.smod 32) = 8#32 := by decide
    rw [s0, s8, BitVec.toNat_or]
    simp only [BitVec.shiftLeft_eq', BitVec.toNat_shiftLeft, a1, a2]
    show (c.toBitVec.toNat % 256) <<< 0 % 2 ^ 32 ||| (c.toBitVec.toNat / 256) <<< 8 % 2 ^ 32 = _
    rw [Nat.shiftLeft_zero, Nat.mod_eq_of_lt (show c.toBitVec.toNat % 256 < 2 ^ 32 by omega), Nat.mod_eq_of_lt (show (c.toBitVec.toNat / 256) <<< 8 < 2 ^ 32 by rw [Nat.shiftLeft_eq]; omega), Nat.or_comm, ← Nat.shiftLeft_add_eq_or_of_lt (by omega), Nat.shiftLeft_eq]
    omega
  show BitVec.toNat (((((lo8 c &&& 255) <<< (0 : Int32)) ||| ((hi8 c &&& 255) <<< (8 : Int32))).toBitVec.setWidth 16).setWidth 32) = _
  rw [BitVec.toNat_setWidth, BitVec.toNat_setWidth, g]
  omega
end StrChars
namespace StrChars
open Jvm Sem ClassFile Op Lib Jvm.Stand Jvm.Free.XT Jvm.Free.ALB Jvm.Free.JM Jvm.Free
open Jvm.Lib.Cold (StaticIs)
/-- the array's cell V codes the n chars f 0 .. f (n - 1) by the coder cd, as the JDK does: coder 1 just where some char is above 255 -/
def Cod (cd : Int32) (n : Nat) (f : Nat → Int32) (V : Cell) : Prop := (cd = 0 ∧ V.slots.size = n ∧ ∀ j, j < n → V.slots[j]? = some (.int (lo8 (f j))) ∧ ¬ 255 < f j) ∨ (cd = 1 ∧ V.slots.size = 2 * n ∧ (∀ j, j < n → V.slots[2 * j]? = some (.int (lo8 (f j))) ∧ V.slots[2 * j + 1]? = some (.int (hi8 (f j)))) ∧ ∃ j, j < n ∧ 255 < f j)
/-- **x is a String of the n chars f 0 .. f (n - 1)**, Latin-1 or UTF-16; its array at t has the cell V -/
def Txt (x t : Addr) (V : Cell) (cd : Int32) (n : Nat) (f : Nat → Int32) (U : State) : Prop := Exact "java/lang/String" x U ∧ Has x "java/lang/String" "value" "[B" (.ref t) U ∧ Has x "java/lang/String" "coder" "B" (.int cd) U ∧ XT.Arr .byte t V U ∧ Cod cd n f V ∧ ∀ j, j < n → ¬ f j < 0 ∧ ¬ 65535 < f j
theorem Txt.mv {x t : Addr} {V : Cell} {cd : Int32} {n : Nat} {f : Nat → Int32} {U U' : State} (h : Txt x t V cd n f U) (hal : U.vm.Alike U'.vm) (hh : U'.heap = U.heap) : Txt x t V cd n f U' := ⟨h.1.mv hal hh, h.2.1.mv hal hh, h.2.2.1.mv hal hh, h.2.2.2.1.mv hal hh, h.2.2.2.2⟩
end StrChars
namespace StrChars.Road
open Jvm Sem ClassFile Op Lib Jvm.Stand Jvm.Free Jvm.Free.XT
open Jvm.Lib.Cold (StaticIs)
theorem consq {a : Array Value} {s : State} {c : Jvm.Cond} {L : List Jvm.Cond} (h0 : c.before a s = true) (h : ∀ w ∈ L, w.before a s = true) : ∀ w ∈ c :: L, w.before a s = true := fun w hw => (List.mem_cons.mp hw).elim (fun e => e ▸ h0) (h w)
/-- the bytes of the chars cs, low before high -/
def wideBytes : List Int32 → List Value
  | [] => []
  | c :: cs => .int (lo8 c) :: .int (hi8 c) :: wideBytes cs
theorem wide_lo (d : Value) : ∀ (cs : List Int32) (j : Nat), j < cs.length → (wideBytes cs).getD (2 * j) d = .int (lo8 (cs.getD j 0))
  | [], j, h => absurd h (Nat.not_lt_zero j)
  | c :: cs, 0, _ => rfl
  | c :: cs, j + 1, h => by
    have q := wide_lo d cs j (by simpa using h)
    rw [show 2 * (j + 1) = 2 * j + 1 + 1 from by omega]
    simpa [wideBytes] using q
theorem wide_hi (d : Value) : ∀ (cs : List Int32) (j : Nat), j < cs.length → (wideBytes cs).getD (2 * j + 1) d = .int (hi8 (cs.getD j 0))
  | [], j, h => absurd h (Nat.not_lt_zero j)
  | c :: cs, 0, _ => rfl
  | c :: cs, j + 1, h => by
    have q := wide_hi d cs j (by simpa using h)
    rw [show 2 * (j + 1) + 1 = 2 * j + 1 + 1 + 1 from by omega]
    simpa [wideBytes] using q
theorem low_at (d : Value) (cs : List Int32) (j : Nat) (h : j < cs.length) : (cs.map fun c => Value.int (lo8 c)).getD j d = .int (lo8 (cs.getD j 0)) := by
  simp [List.getD_eq_getElem?_getD, h]
/-- an array of N2 bytes vs codes the chars cs by the coder cd -/
def CodA (cs : List Int32) (cd N2 : Int32) (vs : List Value) : Prop := (cd = 0 ∧ N2 = Int32.ofNat cs.length ∧ vs = (cs.map fun c => Value.int (lo8 c)) ∧ ∀ c ∈ cs, ¬ 255 < c) ∨ (cd = 1 ∧ N2 = Int32.ofNat (2 * cs.length) ∧ vs = wideBytes cs ∧ ∃ c ∈ cs, 255 < c)
theorem CodA.cod {cs : List Int32} {cd N2 : Int32} {vs : List Value} {V : Cell} (h : CodA cs cd N2 vs) (hn : 2 * cs.length < 2 ^ 31) (hs : V.slots.size = N2.toNatClampNeg) (hv : RoadKit.Has V vs (.int 0)) : Cod cd cs.length (fun j => cs.getD j 0) V := by
  rcases h with ⟨rfl, rfl, rfl, h⟩ | ⟨rfl, rfl, rfl, c, hc, hw⟩
  · rw [n32 (by omega)] at hs
    exact Or.inl ⟨rfl, hs, fun j hj => ⟨by rw [hv j (by omega), low_at _ _ _ hj], by
      have e : cs.getD j 0 = cs[j] := by simp [List.getD_eq_getElem?_getD, hj]
      show ¬ 255 < cs.getD j 0
      rw [e]; exact h _ (List.getElem_mem _)⟩⟩
  · rw [n32 (by omega)] at hs
    obtain ⟨j, hj, rfl⟩ := List.getElem_of_mem hc
    exact Or.inr ⟨rfl, hs, fun j hj => ⟨by rw [hv _ (by omega), wide_lo _ _ _ hj], by rw [hv _ (by omega), wide_hi _ _ _ hj]⟩, j, hj, by
      have e : cs.getD j 0 = cs[j] := by simp [List.getD_eq_getElem?_getD, hj]
      show 255 < cs.getD j 0
      rw [e]; exact hw⟩
/-- an object of exactly java/lang/String, its two fields found: as the laws ask it -/
theorem strObj {Z U : State} {a0 : Array Value} {kI : Nat} (wi : (Jvm.Cond.instantiable ST kI).before a0 Z = true) (al : Z.vm.Alike U.vm) {x : Addr} {v0 c0 : Value} (E : RoadKit.Exa Z U.heap x ST) (V : RoadKit.Fld Z U.heap x ST "value" "[B" v0) (C : RoadKit.Fld Z U.heap x ST "coder" "B" c0) :
    ∃ (D : Cell) (fV fC : Field), Blank ST x D U ∧ Found ST "value" "[B" fV U ∧ Found ST "coder" "B" fC U ∧ D.slots[fV.slot]? = some v0 ∧ D.slots[fC.slot]? = some c0 ∧ RoadKit.slotOf Z ST "value" "[B" = fV.slot ∧ RoadKit.slotOf Z ST "coder" "B" = fC.slot := by
  obtain ⟨D, cfV, kV, iV, fV, hD, gV, stV, knV, obV, asV, slV⟩ := V
  obtain ⟨D', cfC, kC, iC, fC, hD', gC, stC, -, -, asC, slC⟩ := C
  cases hD.symm.trans hD'
  obtain ⟨D2, kD, e1, e2, e3, e4, e5⟩ := E
  cases hD.symm.trans e1
  obtain ⟨c2, k2, i1, i2, i3, -⟩ := Cond.instantiable_spec wi
  cases e2.symm.trans i1
  cases e3.symm.trans i2
  obtain ⟨kU, u1, u2⟩ := al.2.2 _ _ e3
  exact ⟨D, fV, fC, ⟨hD, ⟨knV, fun q hq => by rw [hq] at obV; cases obV⟩, by rw [al.findClass]; exact e2, kU, u1, by rw [u2]; exact i3, by rw [u2]; exact e5 i3⟩, ⟨SBG.found_only al ⟨cfV, kV, iV, gV⟩, stV⟩, ⟨SBG.found_only al ⟨cfC, kC, iC, gC⟩, stC⟩, slV, slC, by simp [RoadKit.slotOf, gV], by simp [RoadKit.slotOf, gC]⟩
theorem sta_is {Z U : State} (al : Z.vm.Alike U.vm) {C n d : String} {v : Value} (S : RoadKit.Sta Z U.heap C n d v) : StaticIs U C n d v := by
  obtain ⟨cfS, iS, kS, fS, st, cS, t1, t2, t3, t4, t5, t6, t7⟩ := S
  exact StaticIs.there (s := { Z with heap := U.heap }) ⟨cfS, iS, kS, fS, st, cS, t1, t2, t3, t4, t5, (fun q => by rw [q] at t6; cases t6), t7⟩ al rfl
end StrChars.Road
namespace StrChars
open Jvm Sem ClassFile Op Lib Jvm.Stand Jvm.Free.XT Jvm.Free.ALB Jvm.Free.JM Jvm.Free
open Jvm.Lib.Cold (StaticIs)
/-- what place i of a byte[]'s cell holds -/
def yv (A : Cell) (i : Nat) : Int32 := match A.slots[i]? with | some (.int x) => x | _ => 0
theorem yv_get {a : Addr} {A : Cell} {U : State} (h : XT.Arr .byte a A U) (ht : Typed .byte A) {i : Nat} (hi : i < A.slots.size) : A.slots[i]? = some (.int (yv A i)) := by
  have e := Array.getElem?_eq_getElem hi
  have f := ht i _ e
  unfold yv; rw [e]
  generalize A.slots[i] = v at f
  cases v <;> simp [fits] at f ⊢
/-- the two arrays are equal, place for place -/
def EqC (A B : Cell) : Prop := A.slots.size = B.slots.size ∧ ∀ i, i < A.slots.size → yv A i = yv B i
/-- a boolean that says whether p -/
def Says01 (q : Prop) (r : Option Value) (s u : State) : Prop := ∃ v : Int32, r = some (.int v) ∧ u.heap = s.heap ∧ ((v = 1 ∧ q) ∨ (v = 0 ∧ ¬ q))
theorem Says01.mv {q : Prop} : ∀ r (U U' V V' : State), U'.heap = U.heap → V.vm.Alike V'.vm → V'.heap = V.heap → Says01 q r U V → Says01 q r U' V' :=
  fun r U U' V V' h1 _ h2 ⟨v, a, b, c⟩ => ⟨v, a, by rw [h1, h2]; exact b, c⟩
namespace LEq
def yN : MethodName := ⟨"java/lang/StringLatin1", "equals", "([B[B)Z"⟩
abbrev yB : ByteArray := jdk_43_method_13_code
theorem d0 : decode yB 0 = .ok (.aload_n 0, 1) := by decide +kernel
theorem d1 : decode yB 1 = .ok (.arraylength, 1) := by decide +kernel
theorem d2 : decode yB 2 = .ok (.aload_n 1, 1) := by decide +kernel
theorem d3 : decode yB 3 = .ok (.arraylength, 1) := by decide +kernel
theorem d4 : decode yB 4 = .ok (.if_icmp (.ne) 30, 3) := by decide +kernel
theorem d7 : decode yB 7 = .ok (.iconst 0, 1) := by decide +kernel
theorem d8 : decode yB 8 = .ok (.istore_n 2, 1) := by decide +kernel
theorem d9 : decode yB 9 = .ok (.iload_n 2, 1) := by decide +kernel
theorem d10 : decode yB 10 = .ok (.aload_n 0, 1) := by decide +kernel
theorem d11 : decode yB 11 = .ok (.arraylength, 1) := by decide +kernel
theorem d12 : decode yB 12 = .ok (.if_icmp (.ge) 20, 3) := by decide +kernel
theorem d15 : decode yB 15 = .ok (.aload_n 0, 1) := by decide +kernel
theorem d16 : decode yB 16 = .ok (.iload_n 2, 1) := by decide +kernel
theorem d17 : decode yB 17 = .ok (.baload, 1) := by decide +kernel
theorem d18 : decode yB 18 = .ok (.aload_n 1, 1) := by decide +kernel
theorem d19 : decode yB 19 = .ok (.iload_n 2, 1) := by decide +kernel
theorem d20 : decode yB 20 = .ok (.baload, 1) := by decide +kernel
theorem d21 : decode yB 21 = .ok (.if_icmp (.eq) 5, 3) := by decide +kernel
theorem d24 : decode yB 24 = .ok (.iconst 0, 1) := by decide +kernel
theorem d25 : decode yB 25 = .ok (.ireturn, 1) := by decide +kernel
theorem d26 : decode yB 26 = .ok (.iinc 2 1, 3) := by decide +kernel
theorem d29 : decode yB 29 = .ok (.goto (-20), 3) := by decide +kernel
theorem d32 : decode yB 32 = .ok (.iconst 1, 1) := by decide +kernel
theorem d33 : decode yB 33 = .ok (.ireturn, 1) := by decide +kernel
theorem d34 : decode yB 34 = .ok (.iconst 0, 1) := by decide +kernel
theorem d35 : decode yB 35 = .ok (.ireturn, 1) := by decide +kernel
def site : List Cond := []
def tab : Cond := tabOf yN yB 3 (some .boolean) site
def P (a : Addr) (A : Cell) (b : Addr) (B : Cell) (args : Array Value) (s : State) : Prop := args = #[.ref a, .ref b] ∧ XT.Arr .byte a A s ∧ Typed .byte A ∧ XT.Arr .byte b B s ∧ Typed .byte B
/-- whether two byte[] are equal, place for place -/
theorem law (l : Launch) (a : Addr) (A : Cell) (b : Addr) (B : Cell) : Law l yN 2 2 0 0 yB 3 (some .boolean) site (P a A b B) (Says01 (EqC A B)) [] 0 0 := by
  refine Law.of_walk (plainFor_of_name (by decide +kernel)) (by decide +kernel) (by decide +kernel) (by decide) (fun _ _ h => by rw [h.1]; rfl) (fun _ U U' hal hh h => ⟨h.1, h.2.1.mv hal hh, h.2.2.1, h.2.2.2.1.mv hal hh, h.2.2.2.2⟩) (fun r U U' V V' h1 hal h2 h => Says01.mv r U U' V V' h1 hal h2 h) ?_
  intro p e s m args below meth c s₁ X0 hexec hbytes hml hret hlk hnm hown hh0 W hP
  obtain ⟨rfl, hA, tA, hB, tB⟩ := hP
  have a31 := hA.2.2.2
  have b31 := hB.2.2.2
  have hA0 := hA.mv X0.warmed.alike hh0
  have hB0 := hB.mv X0.warmed.alike hh0
  have c1 : Steps p.tables e below (s₁.setTop (entryFrame m #[.ref a, .ref b] 3)) (s₁.setTop (mkF m 0 #[.val (.ref a), .val (.ref b), .unset] [])) := entry rfl
  have c2 : Steps p.tables e below (s₁.setTop (entryFrame m #[.ref a, .ref b] 3)) (s₁.setTop (mkF m 4 #[.val (.ref a), .val (.ref b), .unset] [.int (Int32.ofNat B.slots.size), .int (Int32.ofNat A.slots.size)])) := c1.trans (by
    refine XS.aloadN X0.here hexec rfl (hb hbytes d0) rfl rfl ?_
    refine X0.alen hexec hA0 rfl rfl (hb hbytes d1) ?_
    refine XS.aloadN X0.here hexec rfl (hb hbytes d2) rfl rfl ?_
    refine X0.alen hexec hB0 rfl rfl (hb hbytes d3) ?_
    exact Steps.refl _)
  by_cases hs : A.slots.size = B.slots.size
  · have c3 : Steps p.tables e below (s₁.setTop (entryFrame m #[.ref a, .ref b] 3)) (s₁.setTop (mkF m 9 #[.val (.ref a), .val (.ref b), .val (.int 0)] [])) := c2.trans (by
      refine XS.icmpNo X0.here hexec rfl (hb hbytes d4) rfl (ii_ne_f (by rw [hs])) ?_
      refine iconstV X0.here hexec rfl 0 (hb hbytes d7) (by decide) ?_
      refine XS.istoreN X0.here hexec rfl (hb hbytes d8) rfl rfl ?_
      exact Steps.refl _)
    have loop : ∀ (r i : Nat), i + r = A.slots.size → (∀ j, j < i → yv A j = yv B j) → Steps p.tables e below (s₁.setTop (entryFrame m #[.ref a, .ref b] 3)) (s₁.setTop (mkF m 9 #[.val (.ref a), .val (.ref b), .val (.int (Int32.ofNat i))] [])) → ∃ (pc : Nat) (Ls : Array Slot) (v : Int32), (pc = 25 ∨ pc = 33) ∧ ((v = 1 ∧ EqC A B) ∨ (v = 0 ∧ ¬ EqC A B)) ∧ Steps p.tables e below (s₁.setTop (entryFrame m #[.ref a, .ref b] 3)) (s₁.setTop (mkF m pc Ls [.int v])) := by
      intro r
      induction r with
      | zero =>
        intro i hi he cl
        exact ⟨33, _, 1, Or.inr rfl, Or.inl ⟨rfl, hs, fun j hj => he j (by omega)⟩, cl.trans (by
          refine XS.iloadN X0.here hexec rfl (hb hbytes d9) rfl ?_
          refine XS.aloadN X0.here hexec rfl (hb hbytes d10) rfl rfl ?_
          refine X0.alen hexec hA0 rfl rfl (hb hbytes d11) ?_
          refine XS.icmpYes X0.here hexec rfl (pc0 := 12) rfl (hb hbytes d12) rfl (ii_ge_t (nlt32 (by omega) (by omega))) (by decide) rfl ?_
          refine iconstV X0.here hexec rfl 1 (hb hbytes d32) (by decide) ?_
          exact Steps.refl _)⟩
      | succ r ih =>
        intro i hi he cl
        have c4 : Steps p.tables e below (s₁.setTop (entryFrame m #[.ref a, .ref b] 3)) (s₁.setTop (mkF m 21 #[.val (.ref a), .val (.ref b), .val (.int (Int32.ofNat i))] [.int (yv B i), .int (yv A i)])) := cl.trans (by
          refine XS.iloadN X0.here hexec rfl (hb hbytes d9) rfl ?_
          refine XS.aloadN X0.here hexec rfl (hb hbytes d10) rfl rfl ?_
          refine X0.alen hexec hA0 rfl rfl (hb hbytes d11) ?_
          refine XS.icmpNo X0.here hexec rfl (hb hbytes d12) rfl (ii_ge_f (lt32 (by omega) (by omega))) ?_
          refine XS.aloadN X0.here hexec rfl (hb hbytes d15) rfl rfl ?_
          refine XS.iloadN X0.here hexec rfl (hb hbytes d16) rfl ?_
          refine X0.aget hexec hA0 rfl (yv_get hA tA (i := i) (by omega)) rfl rfl (hb hbytes d17) ?_
          refine XS.aloadN X0.here hexec rfl (hb hbytes d18) rfl rfl ?_
          refine XS.iloadN X0.here hexec rfl (hb hbytes d19) rfl ?_
          refine X0.aget hexec hB0 rfl (yv_get hB tB (i := i) (by omega)) rfl rfl (hb hbytes d20) ?_
          exact Steps.refl _)
        by_cases hv : yv A i = yv B i
        · have c5 : Steps p.tables e below (s₁.setTop (entryFrame m #[.ref a, .ref b] 3)) (s₁.setTop (mkF m 9 #[.val (.ref a), .val (.ref b), .val (.int (Int32.ofNat i + 1))] [])) := c4.trans (by
            refine XS.icmpYes X0.here hexec rfl (pc0 := 21) rfl (hb hbytes d21) rfl (ii_eq_t hv) (by decide) rfl ?_
            refine iincV X0.here hexec rfl 1 (hb hbytes d26) (by decide) rfl rfl ?_
            refine XS.goto X0.here hexec rfl (pc0 := 29) rfl (hb hbytes d29) (by decide) rfl ?_
            exact Steps.refl _)
          rw [succ32] at c5
          exact ih (i + 1) (by omega) (fun j hj => by
            by_cases e : j = i
            · rw [e]; exact hv
            · exact he j (by omega)) c5
        · exact ⟨25, _, 0, Or.inl rfl, Or.inr ⟨rfl, fun q => hv (q.2 i (by omega))⟩, c4.trans (by
            refine XS.icmpNo X0.here hexec rfl (hb hbytes d21) rfl (ii_eq_f hv) ?_
            refine iconstV X0.here hexec rfl 0 (hb hbytes d24) (by decide) ?_
            exact Steps.refl _)⟩
    obtain ⟨pc, Ls, v, hpc, hv, cz⟩ := loop A.slots.size 0 (by omega) (fun j hj => absurd hj (Nat.not_lt_zero j)) c3
    have nv : narrow .boolean (.int v) = .int v := by rcases hv with ⟨rfl, -⟩ | ⟨rfl, -⟩ <;> rfl
    rcases hpc with rfl | rfl
    · exact ⟨s₁, some (.int v), _, _, _, X0, rfl, rfl, rfl, (fun h => by cases h), ⟨v, rfl, hh0, hv⟩, fun fs hl => cz.trans (X0.ireturnOut hexec hret nv (Or.inr (Or.inl rfl)) (hb hbytes d25) hl)⟩
    · exact ⟨s₁, some (.int v), _, _, _, X0, rfl, rfl, rfl, (fun h => by cases h), ⟨v, rfl, hh0, hv⟩, fun fs hl => cz.trans (X0.ireturnOut hexec hret nv (Or.inr (Or.inl rfl)) (hb hbytes d33) hl)⟩
  · have c3 : Steps p.tables e below (s₁.setTop (entryFrame m #[.ref a, .ref b] 3)) (s₁.setTop (mkF m 35 #[.val (.ref a), .val (.ref b), .unset] [.int 0])) := c2.trans (by
      refine XS.icmpYes X0.here hexec rfl (pc0 := 4) rfl (hb hbytes d4) rfl (ii_ne_t (ne32 a31 b31 hs)) (by decide) rfl ?_
      refine iconstV X0.here hexec rfl 0 (hb hbytes d34) (by decide) ?_
      exact Steps.refl _)
    exact ⟨s₁, some (.int 0), _, _, _, X0, rfl, rfl, rfl, (fun h => by cases h), ⟨0, rfl, hh0, Or.inr ⟨rfl, fun q => hs q.1⟩⟩, fun fs hl => c3.trans (X0.ireturnOut hexec hret rfl (Or.inr (Or.inl rfl)) (hb hbytes d35) hl)⟩
end LEq
theorem Cod.ty {cd : Int32} {n : Nat} {f : Nat → Int32} {V : Cell} (h : Cod cd n f V) : Typed .byte V := fun i v hv => by
  have hi : i < V.slots.size := (Array.getElem?_eq_some_iff.mp hv).1
  rcases h with ⟨-, k1, k2⟩ | ⟨-, k1, k2, -⟩
  · rw [(k2 i (by omega)).1] at hv; cases hv; exact fits_lo8 _
  · rcases Nat.mod_two_eq_zero_or_one i with e | e
    · obtain ⟨j, rfl⟩ : ∃ j, i = 2 * j := ⟨i / 2, by omega⟩
      rw [(k2 j (by omega)).1] at hv; cases hv; exact fits_lo8 _
    · obtain ⟨j, rfl⟩ : ∃ j, i = 2 * j + 1 := ⟨i / 2, by omega⟩
      rw [(k2 j (by omega)).2] at hv; cases hv; exact fits_lo8 _
/-- the same text -/
def SameT (n : Nat) (f : Nat → Int32) (k : Nat) (g : Nat → Int32) : Prop := n = k ∧ ∀ j, j < n → f j = g j
theorem lo8_inj {x y : Int32} (h0 : ¬ x < 0) (h1 : ¬ 255 < x) (k0 : ¬ y < 0) (k1 : ¬ 255 < y) (h : lo8 x = lo8 y) : x = y := by
  rw [← lo8_mask h0 h1, ← lo8_mask k0 k1, h]
/-- arrays coded by one coder are equal just where the texts are -/
theorem Cod.eqv {cd : Int32} {n k : Nat} {f g : Nat → Int32} {V V' : Cell} (h : Cod cd n f V) (h' : Cod cd k g V') (hf : ∀ j, j < n → ¬ f j < 0 ∧ ¬ 65535 < f j) (hg : ∀ j, j < k → ¬ g j < 0 ∧ ¬ 65535 < g j) : EqC V V' ↔ SameT n f k g := by
  have yvv : ∀ {W : Cell} {i : Nat} {x : Int32}, W.slots[i]? = some (.int x) → yv W i = x := fun q => by unfold yv; rw [q]
  rcases h with ⟨rfl, k1, k2⟩ | ⟨rfl, k1, k2, -⟩
  · rcases h' with ⟨-, m1, m2⟩ | ⟨e, -⟩
    · constructor
      · rintro ⟨e1, e2⟩
        refine ⟨by omega, fun j hj => ?_⟩
        have q := e2 j (by omega)
        rw [yvv (k2 j hj).1, yvv (m2 j (by omega)).1] at q
        exact lo8_inj (hf j hj).1 (k2 j hj).2 (hg j (by omega)).1 (m2 j (by omega)).2 q
      · rintro ⟨rfl, e2⟩
        refine ⟨by omega, fun j hj => ?_⟩
        rw [yvv (k2 j (by omega)).1, yvv (m2 j (by omega)).1, e2 j (by omega)]
    · exact absurd e (by decide)
  · rcases h' with ⟨e, -⟩ | ⟨-, m1, m2, -⟩
    · exact absurd e (by decide)
    · constructor
      · rintro ⟨e1, e2⟩
        refine ⟨by omega, fun j hj => ?_⟩
        have q1 := e2 (2 * j) (by omega)
        have q2 := e2 (2 * j + 1) (by omega)
        rw [yvv (k2 j hj).1, yvv (m2 j (by omega)).1] at q1
        rw [yvv (k2 j hj).2, yvv (m2 j (by omega)).2] at q2
        rw [← pair_says (hf j hj).1 (hf j hj).2, ← pair_says (hg j (by omega)).1 (hg j (by omega)).2, q1, q2]
      · rintro ⟨rfl, e2⟩
        refine ⟨by omega, fun i hi => ?_⟩
        rcases Nat.mod_two_eq_zero_or_one i with e | e
        · obtain ⟨j, rfl⟩ : ∃ j, i = 2 * j := ⟨i / 2, by omega⟩
          rw [yvv (k2 j (by omega)).1, yvv (m2 j (by omega)).1, e2 j (by omega)]
        · obtain ⟨j, rfl⟩ : ∃ j, i = 2 * j + 1 := ⟨i / 2, by omega⟩
          rw [yvv (k2 j (by omega)).2, yvv (m2 j (by omega)).2, e2 j (by omega)]
/-- two codings differ: so do the texts -/
theorem Cod.dif {cd cd' : Int32} {n k : Nat} {f g : Nat → Int32} {V V' : Cell} (h : Cod cd n f V) (h' : Cod cd' k g V') (hne : ¬ cd = cd') : ¬ SameT n f k g := by
  rintro ⟨rfl, e⟩
  rcases h with ⟨rfl, -, k2⟩ | ⟨rfl, -, -, j, hj, hw⟩
  · rcases h' with ⟨rfl, -⟩ | ⟨-, -, -, j, hj, hw⟩
    · exact hne rfl
    · exact (k2 j hj).2 (by rw [e j hj]; exact hw)
  · rcases h' with ⟨-, -, m2⟩ | ⟨rfl, -⟩
    · exact (m2 j hj).2 (by rw [← e j hj]; exact hw)
    · exact hne rfl
/-- an object of exactly C is an instance of C -/
theorem cinst {p : Program} {l : Launch} {e : Env} {R : Room} {s : State} {m : MethodId} {args : Array Value} {below : List Frame} {meth : Method} {c : Code} {T : State} {locs : List Loc} {cells slots : Nat} (X : Stand p l e R s m args below meth c T locs cells slots) (hexec : p.tables.exec = Jvm.exec) {own C : String} {index : Nat} (hown : s.vm.findClass own = some m.cls) (hlink : (Cond.classLink own index C).before args s = true) {a : Addr} (hE : Exact C a T)
    {g : JFrame} (hg : g.method = m) {rest : List Value} (hstack : g.stack = .ref a :: rest) (hdg : decode c.code g.pc = .ok (.instanceof index, 3)) :
    ∃ T', Stand p l e R s m args below meth c T' locs cells slots ∧ T'.heap = T.heap ∧ ∀ target, Steps p.tables e below (T'.setTop { g with pc := g.pc + 3, stack := .int 1 :: rest }) target → Steps p.tables e below (T.setTop g) target := by
  obtain ⟨cB, h1, D, h2, h3, h4⟩ := hE
  have h1' : s.vm.findClass C = some cB := by rw [← X.warmed.alike.findClass]; exact h1
  obtain ⟨vm', X', st⟩ := X.instanceofYes hexec hown hlink h2 h4 h1' (by rw [h3]; exact Jvm.Free.SB.assignable_self _ _) hg hstack hdg
  exact ⟨_, X', rfl, st⟩
theorem cself {p : Program} {l : Launch} {e : Env} {R : Room} {s : State} {m : MethodId} {args : Array Value} {below : List Frame} {meth : Method} {c : Code} {T : State} {locs : List Loc} {cells slots : Nat} (X : Stand p l e R s m args below meth c T locs cells slots) (hexec : p.tables.exec = Jvm.exec) {own C : String} {index : Nat} (hown : s.vm.findClass own = some m.cls) (hlink : (Cond.classLink own index C).before args s = true) {a : Addr} (hE : Exact C a T)
    {g : JFrame} (hg : g.method = m) {rest : List Value} (hstack : g.stack = .ref a :: rest) (hdg : decode c.code g.pc = .ok (.checkcast index, 3)) :
    ∃ T', Stand p l e R s m args below meth c T' locs cells slots ∧ T'.heap = T.heap ∧ ∀ target, Steps p.tables e below (T'.setTop { g with pc := g.pc + 3, stack := .ref a :: rest }) target → Steps p.tables e below (T.setTop g) target := by
  obtain ⟨cB, h1, D, h2, h3, h4⟩ := hE
  have h1' : s.vm.findClass C = some cB := by rw [← X.warmed.alike.findClass]; exact h1
  obtain ⟨vm', X', st⟩ := X.checkcastYes hexec hown hlink h2 h4 h1' (by rw [h3]; exact Jvm.Free.SB.assignable_self _ _) hg hstack hdg
  exact ⟨_, X', rfl, fun t h => st t (by rw [← hstack] at h; exact h)⟩
namespace SEq
def yN : MethodName := ⟨"java/lang/String", "equals", "(Ljava/lang/Object;)Z"⟩
abbrev yB : ByteArray := jdk_42_method_66_code
theorem d0 : decode yB 0 = .ok (.aload_n 0, 1) := by decide +kernel
theorem d1 : decode yB 1 = .ok (.aload_n 1, 1) := by decide +kernel
theorem d2 : decode yB 2 = .ok (.if_acmp (.ne) 5, 3) := by decide +kernel
theorem d5 : decode yB 5 = .ok (.iconst 1, 1) := by decide +kernel
theorem d6 : decode yB 6 = .ok (.ireturn, 1) := by decide +kernel
theorem d7 : decode yB 7 = .ok (.aload_n 1, 1) := by decide +kernel
theorem d8 : decode yB 8 = .ok (.instanceof 10, 3) := by decide +kernel
theorem d11 : decode yB 11 = .ok (.ifCond (.eq) 43, 3) := by decide +kernel
theorem d14 : decode yB 14 = .ok (.aload_n 1, 1) := by decide +kernel
theorem d15 : decode yB 15 = .ok (.checkcast 10, 3) := by decide +kernel
theorem d18 : decode yB 18 = .ok (.astore_n 2, 1) := by decide +kernel
theorem d19 : decode yB 19 = .ok (.getstatic 38, 3) := by decide +kernel
theorem d22 : decode yB 22 = .ok (.ifCond (.eq) 14, 3) := by decide +kernel
theorem d25 : decode yB 25 = .ok (.aload_n 0, 1) := by decide +kernel
theorem d26 : decode yB 26 = .ok (.getfield 15, 3) := by decide +kernel
theorem d29 : decode yB 29 = .ok (.aload_n 2, 1) := by decide +kernel
theorem d30 : decode yB 30 = .ok (.getfield 15, 3) := by decide +kernel
theorem d33 : decode yB 33 = .ok (.if_icmp (.ne) 21, 3) := by decide +kernel
theorem d36 : decode yB 36 = .ok (.aload_n 0, 1) := by decide +kernel
theorem d37 : decode yB 37 = .ok (.getfield 9, 3) := by decide +kernel
theorem d40 : decode yB 40 = .ok (.aload_n 2, 1) := by decide +kernel
theorem d41 : decode yB 41 = .ok (.getfield 9, 3) := by decide +kernel
theorem d44 : decode yB 44 = .ok (.invokestatic 541, 3) := by decide +kernel
theorem d47 : decode yB 47 = .ok (.ifCond (.eq) 7, 3) := by decide +kernel
theorem d50 : decode yB 50 = .ok (.iconst 1, 1) := by decide +kernel
theorem d51 : decode yB 51 = .ok (.goto 4, 3) := by decide +kernel
theorem d54 : decode yB 54 = .ok (.iconst 0, 1) := by decide +kernel
theorem d55 : decode yB 55 = .ok (.ireturn, 1) := by decide +kernel
def site : List Cond := [.classLink "java/lang/String" 10 "java/lang/String", .fieldLink "java/lang/String" 38 "java/lang/String" "COMPACT_STRINGS" "Z", .fieldLink "java/lang/String" 15 "java/lang/String" "coder" "B", .fieldLink "java/lang/String" 9 "java/lang/String" "value" "[B", LEq.tab] ++ staticW "java/lang/String" 541 LEq.yN
def tab : Cond := tabOf yN yB 3 (some .boolean) site
def P (x t : Addr) (V : Cell) (cd : Int32) (n : Nat) (f : Nat → Int32) (y t' : Addr) (V' : Cell) (cd' : Int32) (k : Nat) (g : Nat → Int32) (z : Int32) (args : Array Value) (s : State) : Prop := args = #[.ref x, .ref y] ∧ Txt x t V cd n f s ∧ Txt y t' V' cd' k g s ∧ StaticIs s "java/lang/String" "COMPACT_STRINGS" "Z" (.int z) ∧ ¬ z = 0
/-- equals(Object) of two Strings: whether the texts are the same -/
theorem law (l : Launch) (x t : Addr) (V : Cell) (cd : Int32) (n : Nat) (f : Nat → Int32) (y t' : Addr) (V' : Cell) (cd' : Int32) (k : Nat) (g : Nat → Int32) (z : Int32) : Law l yN 2 1 1 14 yB 3 (some .boolean) site (P x t V cd n f y t' V' cd' k g z) (Says01 (SameT n f k g)) [] 0 0 := by
  refine Law.of_walk (plainFor_of_name (by decide +kernel)) (by decide +kernel) (by decide +kernel) (by decide) (fun _ _ h => by rw [h.1]; rfl) (fun _ U U' hal hh h => ⟨h.1, h.2.1.mv hal hh, h.2.2.1.mv hal hh, h.2.2.2.1.there hal hh, h.2.2.2.2⟩) (fun r U U' V V' h1 hal h2 h => Says01.mv r U U' V V' h1 hal h2 h) ?_
  intro p e s m args below meth c s₁ X0 hexec hbytes hml hret hlk hnm hown hh0 W hP
  obtain ⟨rfl, hx, hy, s1, hz⟩ := hP
  have c1 : Steps p.tables e below (s₁.setTop (entryFrame m #[.ref x, .ref y] 3)) (s₁.setTop (mkF m 2 #[.val (.ref x), .val (.ref y), .unset] [.ref y, .ref x])) := Steps.trans (entry rfl) (by
    show Steps p.tables e below (s₁.setTop (mkF m 0 #[.val (.ref x), .val (.ref y), .unset] [])) _
    refine XS.aloadN X0.here hexec rfl (hb hbytes d0) rfl rfl ?_
    refine XS.aloadN X0.here hexec rfl (hb hbytes d1) rfl rfl ?_
    exact Steps.refl _)
  by_cases hxy : x = y
  · have c2 : Steps p.tables e below (s₁.setTop (entryFrame m #[.ref x, .ref y] 3)) (s₁.setTop (mkF m 6 #[.val (.ref x), .val (.ref y), .unset] [.int 1])) := c1.trans (by
      refine acmpNo X0.here hexec rfl (hb hbytes d2) rfl rfl rfl (by simp [acmp, hxy]) ?_
      refine iconstV X0.here hexec rfl 1 (hb hbytes d5) (by decide) ?_
      exact Steps.refl _)
    subst hxy
    have ec : cd = cd' := by
      obtain ⟨D, fd, a1, a2, a3⟩ := hx.2.2.1
      obtain ⟨D', fd', b1, b2, b3⟩ := hy.2.2.1
      cases a1.symm.trans b1
      obtain ⟨q1, q2, q3, q4⟩ := a2.1
      obtain ⟨r1, r2, r3, r4⟩ := b2.1
      cases q4.symm.trans r4
      cases a3.symm.trans b3; rfl
    have et : t = t' := by
      obtain ⟨D, fd, a1, a2, a3⟩ := hx.2.1
      obtain ⟨D', fd', b1, b2, b3⟩ := hy.2.1
      cases a1.symm.trans b1
      obtain ⟨q1, q2, q3, q4⟩ := a2.1
      obtain ⟨r1, r2, r3, r4⟩ := b2.1
      cases q4.symm.trans r4
      cases a3.symm.trans b3; rfl
    subst ec et
    have ev : V = V' := by cases hx.2.2.2.1.1.symm.trans hy.2.2.2.1.1; rfl
    subst ev
    have hs : SameT n f k g := (Cod.eqv hx.2.2.2.2.1 hy.2.2.2.2.1 hx.2.2.2.2.2 hy.2.2.2.2.2).mp ⟨rfl, fun _ _ => rfl⟩
    exact ⟨s₁, some (.int 1), _, _, _, X0, rfl, rfl, rfl, (fun h => by cases h), ⟨1, rfl, hh0, Or.inl ⟨rfl, hs⟩⟩, fun fs hl => c2.trans (X0.ireturnOut hexec hret rfl (Or.inr (Or.inl rfl)) (hb hbytes d6) hl)⟩
  · have c2 : Steps p.tables e below (s₁.setTop (entryFrame m #[.ref x, .ref y] 3)) (s₁.setTop (mkF m 8 #[.val (.ref x), .val (.ref y), .unset] [.ref y])) := c1.trans (by
      refine acmpYes X0.here hexec rfl (pc0 := 2) rfl (hb hbytes d2) rfl rfl rfl (by simp [acmp, hxy]) (by decide) rfl ?_
      refine XS.aloadN X0.here hexec rfl (hb hbytes d7) rfl rfl ?_
      exact Steps.refl _)
    obtain ⟨T3, X3, q3, st3⟩ := cinst X0 hexec hown (wk W (.classLink "java/lang/String" 10 "java/lang/String")) (hy.mv X0.warmed.alike hh0).1 (g := (mkF m 8 #[.val (.ref x), .val (.ref y), .unset] [.ref y])) rfl (rest := []) rfl (hb hbytes d8)
    have hh3 := q3.trans hh0
    have c4 : Steps p.tables e below (s₁.setTop (entryFrame m #[.ref x, .ref y] 3)) (T3.setTop (mkF m 15 #[.val (.ref x), .val (.ref y), .unset] [.ref y])) := (c2.trans (st3 _ (Steps.refl _))).trans (by
      refine XS.ifNo X3.here hexec rfl (hb hbytes d11) rfl (i0_eq_f (by decide)) ?_
      refine XS.aloadN X3.here hexec rfl (hb hbytes d14) rfl rfl ?_
      exact Steps.refl _)
    obtain ⟨T5, X5, q5, st5⟩ := cself X3 hexec hown (wk W (.classLink "java/lang/String" 10 "java/lang/String")) (hy.mv X3.warmed.alike hh3).1 (g := (mkF m 15 #[.val (.ref x), .val (.ref y), .unset] [.ref y])) rfl (rest := []) rfl (hb hbytes d15)
    have hh5 := q5.trans hh3
    have c6 : Steps p.tables e below (s₁.setTop (entryFrame m #[.ref x, .ref y] 3)) (T5.setTop (mkF m 19 #[.val (.ref x), .val (.ref y), .val (.ref y)] [])) := (c4.trans (st5 _ (Steps.refl _))).trans (by
      refine XS.astoreN X5.here hexec rfl (hb hbytes d18) rfl rfl rfl ?_
      exact Steps.refl _)
    obtain ⟨T7, X7, q7, st7⟩ := X5.sget hexec hown (wk W (.fieldLink "java/lang/String" 38 "java/lang/String" "COMPACT_STRINGS" "Z")) s1 (fun _ _ h => by rw [hh5]; exact h) (g := (mkF m 19 #[.val (.ref x), .val (.ref y), .val (.ref y)] [])) rfl (hb hbytes d19)
    have hh7 := q7.trans hh5
    have c8 : Steps p.tables e below (s₁.setTop (entryFrame m #[.ref x, .ref y] 3)) (T7.setTop (mkF m 26 #[.val (.ref x), .val (.ref y), .val (.ref y)] [.ref x])) := (c6.trans (st7 _ (Steps.refl _))).trans (by
      refine XS.ifNo X7.here hexec rfl (hb hbytes d22) rfl (i0_eq_f hz) ?_
      refine XS.aloadN X7.here hexec rfl (hb hbytes d25) rfl rfl ?_
      exact Steps.refl _)
    obtain ⟨T9, X9, q9, st9⟩ := X7.hget hexec hown (wk W (.fieldLink "java/lang/String" 15 "java/lang/String" "coder" "B")) (hx.mv X7.warmed.alike hh7).2.2.1 (g := (mkF m 26 #[.val (.ref x), .val (.ref y), .val (.ref y)] [.ref x])) rfl (rest := []) rfl (hb hbytes d26)
    have hh9 := q9.trans hh7
    have c10 : Steps p.tables e below (s₁.setTop (entryFrame m #[.ref x, .ref y] 3)) (T9.setTop (mkF m 30 #[.val (.ref x), .val (.ref y), .val (.ref y)] [.ref y, .int cd])) := (c8.trans (st9 _ (Steps.refl _))).trans (by
      refine XS.aloadN X9.here hexec rfl (hb hbytes d29) rfl rfl ?_
      exact Steps.refl _)
    obtain ⟨T11, X11, q11, st11⟩ := X9.hget hexec hown (wk W (.fieldLink "java/lang/String" 15 "java/lang/String" "coder" "B")) (hy.mv X9.warmed.alike hh9).2.2.1 (g := (mkF m 30 #[.val (.ref x), .val (.ref y), .val (.ref y)] [.ref y, .int cd])) rfl (rest := [.int cd]) rfl (hb hbytes d30)
    have hh11 := q11.trans hh9
    have c12 : Steps p.tables e below (s₁.setTop (entryFrame m #[.ref x, .ref y] 3)) (T11.setTop (mkF m 33 #[.val (.ref x), .val (.ref y), .val (.ref y)] [.int cd', .int cd])) := c10.trans (st11 _ (Steps.refl _))
    by_cases hcd : cd = cd'
    · subst hcd
      have c13 : Steps p.tables e below (s₁.setTop (entryFrame m #[.ref x, .ref y] 3)) (T11.setTop (mkF m 37 #[.val (.ref x), .val (.ref y), .val (.ref y)] [.ref x])) := c12.trans (by
        refine XS.icmpNo X11.here hexec rfl (hb hbytes d33) rfl (ii_ne_f rfl) ?_
        refine XS.aloadN X11.here hexec rfl (hb hbytes d36) rfl rfl ?_
        exact Steps.refl _)
      obtain ⟨T14, X14, q14, st14⟩ := X11.hget hexec hown (wk W (.fieldLink "java/lang/String" 9 "java/lang/String" "value" "[B")) (hx.mv X11.warmed.alike hh11).2.1 (g := (mkF m 37 #[.val (.ref x), .val (.ref y), .val (.ref y)] [.ref x])) rfl (rest := []) rfl (hb hbytes d37)
      have hh14 := q14.trans hh11
      have c15 : Steps p.tables e below (s₁.setTop (entryFrame m #[.ref x, .ref y] 3)) (T14.setTop (mkF m 41 #[.val (.ref x), .val (.ref y), .val (.ref y)] [.ref y, .ref t])) := (c13.trans (st14 _ (Steps.refl _))).trans (by
        refine XS.aloadN X14.here hexec rfl (hb hbytes d40) rfl rfl ?_
        exact Steps.refl _)
      obtain ⟨T16, X16, q16, st16⟩ := X14.hget hexec hown (wk W (.fieldLink "java/lang/String" 9 "java/lang/String" "value" "[B")) (hy.mv X14.warmed.alike hh14).2.1 (g := (mkF m 41 #[.val (.ref x), .val (.ref y), .val (.ref y)] [.ref y, .ref t])) rfl (rest := [.ref t]) rfl (hb hbytes d41)
      have hh16 := q16.trans hh14
      have c17 : Steps p.tables e below (s₁.setTop (entryFrame m #[.ref x, .ref y] 3)) (T16.setTop (mkF m 44 #[.val (.ref x), .val (.ref y), .val (.ref y)] [.ref t', .ref t])) := c15.trans (st16 _ (Steps.refl _))
      obtain ⟨v18, T18, X18, E18, g18⟩ := X16.callS hexec (LEq.law l t V t' V') hown (wks W (staticW "java/lang/String" 541 LEq.yN)) (wk W LEq.tab) (W := 0) (Nat.le_of_ble_eq_true rfl) (Nat.le_of_ble_eq_true rfl) (Nat.le_refl _) (Nat.le_refl _) (g := (mkF m 44 #[.val (.ref x), .val (.ref y), .val (.ref y)] [.ref t', .ref t])) rfl (by rw [hml]; rfl) c17 (argsL := [.ref t, .ref t']) (rest := []) rfl rfl (by show 2 * 0 + 0 ≤ _; decide) (hb hbytes d44) (⟨rfl, hx.2.2.2.1.mv X16.warmed.alike hh16, hx.2.2.2.2.1.ty, hy.2.2.2.1.mv X16.warmed.alike hh16, hy.2.2.2.2.1.ty⟩)
      obtain ⟨v, rfl, q18, hv⟩ := E18
      have iff := Cod.eqv hx.2.2.2.2.1 hy.2.2.2.2.1 hx.2.2.2.2.2 hy.2.2.2.2.2
      rcases hv with ⟨rfl, he⟩ | ⟨rfl, he⟩
      · have c19 : Steps p.tables e below (s₁.setTop (entryFrame m #[.ref x, .ref y] 3)) (T18.setTop (mkF m 55 #[.val (.ref x), .val (.ref y), .val (.ref y)] [.int 1])) := Steps.trans g18 (by
          refine XS.ifNo X18.here hexec rfl (hb hbytes d47) rfl (i0_eq_f (by decide)) ?_
          refine iconstV X18.here hexec rfl 1 (hb hbytes d50) (by decide) ?_
          refine XS.goto X18.here hexec rfl (pc0 := 51) rfl (hb hbytes d51) (by decide) rfl ?_
          exact Steps.refl _)
        exact ⟨T18, some (.int 1), _, _, _, X18, rfl, rfl, rfl, (fun h => by cases h), ⟨1, rfl, q18.trans hh16, Or.inl ⟨rfl, iff.mp he⟩⟩, fun fs hl => c19.trans (X18.ireturnOut hexec hret rfl (Or.inr (Or.inl rfl)) (hb hbytes d55) hl)⟩
      · have c19 : Steps p.tables e below (s₁.setTop (entryFrame m #[.ref x, .ref y] 3)) (T18.setTop (mkF m 55 #[.val (.ref x), .val (.ref y), .val (.ref y)] [.int 0])) := Steps.trans g18 (by
          refine XS.ifYes X18.here hexec rfl (pc0 := 47) rfl (hb hbytes d47) rfl (i0_eq_t rfl) (by decide) rfl ?_
          refine iconstV X18.here hexec rfl 0 (hb hbytes d54) (by decide) ?_
          exact Steps.refl _)
        exact ⟨T18, some (.int 0), _, _, _, X18, rfl, rfl, rfl, (fun h => by cases h), ⟨0, rfl, q18.trans hh16, Or.inr ⟨rfl, fun q => he (iff.mpr q)⟩⟩, fun fs hl => c19.trans (X18.ireturnOut hexec hret rfl (Or.inr (Or.inl rfl)) (hb hbytes d55) hl)⟩
    · have c13 : Steps p.tables e below (s₁.setTop (entryFrame m #[.ref x, .ref y] 3)) (T11.setTop (mkF m 55 #[.val (.ref x), .val (.ref y), .val (.ref y)] [.int 0])) := c12.trans (by
        refine XS.icmpYes X11.here hexec rfl (pc0 := 33) rfl (hb hbytes d33) rfl (ii_ne_t hcd) (by decide) rfl ?_
        refine iconstV X11.here hexec rfl 0 (hb hbytes d54) (by decide) ?_
        exact Steps.refl _)
      exact ⟨T11, some (.int 0), _, _, _, X11, rfl, rfl, rfl, (fun h => by cases h), ⟨0, rfl, hh11, Or.inr ⟨rfl, Cod.dif hx.2.2.2.2.1 hy.2.2.2.2.1 hcd⟩⟩, fun fs hl => c13.trans (X11.ireturnOut hexec hret rfl (Or.inr (Or.inl rfl)) (hb hbytes d55) hl)⟩
theorem pays {l : Launch} {R : Room} {p : Program} {e : Env} {below : List Frame} {s : State} {sargs : Array Value} {len W : Nat} (x t : Addr) (V : Cell) (cd : Int32) (n : Nat) (f : Nat → Int32) (y t' : Addr) (V' : Cell) (cd' : Int32) (k : Nat) (g : Nat → Int32) (z : Int32) (htab : tab.before sargs s = true) (hfr : 2 ≤ R.frames) (hlo : W + 28 ≤ R.locals) :
    Back l R p e below s sargs yN len W (fun A₁ a₁ => A₁.cells + 0 ≤ R.cells ∧ A₁.slots + 0 ≤ R.slots ∧ P x t V cd n f y t' V' cd' k g z a₁ A₁.U) (fun A₁ _ v₁ B₁ => Says01 (SameT n f k g) v₁ A₁.U B₁.U ∧ B₁.locs = A₁.locs ++ [] ∧ B₁.cells = A₁.cells + 0 ∧ B₁.slots = A₁.slots + 0) :=
  (law l x t V cd n f y t' V' cd' k g z).pays htab hfr (by omega)
end SEq
end StrChars
namespace StrChars.Road
open Jvm Sem ClassFile Op Lib Jvm.Stand Jvm.Free Jvm.Free.XT
open Jvm.Lib.Cold (StaticIs)
/-- the words of String.equals(Object) -/
abbrev wordsEq : List Jvm.Cond := [.code SEq.yN SEq.yB 3 (some .boolean), .initialized ST, .classLink ST 10 ST, .fieldLink ST 38 ST "COMPACT_STRINGS" "Z", .fieldLink ST 15 ST "coder" "B", .fieldLink ST 9 ST "value" "[B", .methodLink ST 541 LEq.yN, .static LEq.yN, .code LEq.yN LEq.yB 3 (some .boolean), .initialized "java/lang/StringLatin1"]
theorem tabEq_of {a : Array Value} {s : State} (h : ∀ w ∈ wordsEq, w.before a s = true) : SEq.tab.before a s = true := by
  have hl : LEq.tab.before a s = true := unparts (wk h (.code LEq.yN LEq.yB 3 (some .boolean))) (wks h (.initialized LEq.yN.cls :: LEq.site))
  have q := consq hl h
  exact unparts (wk q (.code SEq.yN SEq.yB 3 (some .boolean))) (wks q (.initialized SEq.yN.cls :: SEq.site))
theorem movedEq {Z s : State} {a0 args : Array Value} (hZ : Z.Warmed39 s.vm) (hw : ∀ d ∈ wordsEq, d.before a0 Z = true) : ∀ d ∈ wordsEq, d.before args s = true := fun d hd => by
  have t : ∀ d ∈ wordsEq, (d.onTables && d.keepsFace) = true := by decide +kernel
  exact RoadKit.mv hZ (hw d hd) (t d hd)
/-- the road's facts of a String, as the laws ask it -/
theorem txt_of {Z U : State} {a0 : Array Value} {kI : Nat} (wi : (Jvm.Cond.instantiable ST kI).before a0 Z = true) (al : Z.vm.Alike U.vm) {x t : Addr} {kb : ClassId} {cs : List Int32} {cd N2 : Int32} {vs : List Value} (E : RoadKit.Exa Z U.heap x ST) (V : RoadKit.Fld Z U.heap x ST "value" "[B" (.ref t)) (C : RoadKit.Fld Z U.heap x ST "coder" "B" (.int cd)) (K : RoadKit.Arv Z U.heap t kb .byte N2 vs (.int 0)) (hc : CodA cs cd N2 vs) (hb : ∀ c ∈ cs, ¬ c < 0 ∧ ¬ (65535 : Int32) < c) (l2 : cs.length ≤ 4000) :
    ∃ A, Txt x t A cd cs.length (fun j => cs.getD j 0) U := by
  obtain ⟨A, K1, K2, K3, K4, K5, K6⟩ := K
  have hcod := hc.cod (by omega) K3 K5
  obtain ⟨D, fV, fC, hB, F1, F2, g1, g2, -, -⟩ := strObj wi al E V C
  exact ⟨A, ⟨_, hB.2.2.1, D, hB.1, rfl, by cases q : D.vm <;> first | rfl | exact absurd q (hB.2.1.2 _)⟩, Has.of hB F1 g1, Has.of hB F2 g2, ⟨K1.1, State.isArrayOf_alike al K1.2.1, K1.2.2, by rcases hcod with ⟨-, q, -⟩ | ⟨-, q, -⟩ <;> omega⟩, hcod, fun j hj => by
    have e : cs.getD j 0 = cs[j] := by simp [List.getD_eq_getElem?_getD, hj]
    show ¬ cs.getD j 0 < 0 ∧ ¬ 65535 < cs.getD j 0
    rw [e]; exact hb _ (List.getElem_mem _)⟩
theorem same_list (cs ds : List Int32) : SameT cs.length (fun j => cs.getD j 0) ds.length (fun j => ds.getD j 0) ↔ cs = ds := by
  constructor
  · rintro ⟨e, q⟩
    refine List.ext_getElem e fun j h1 h2 => ?_
    have := q j h1
    simpa [List.getD_eq_getElem?_getD, h1, h2] using this
  · rintro rfl
    exact ⟨rfl, fun _ _ => rfl⟩
/-- **equals(Object) OF TWO SUCH STRINGS**: 1 just where the chars are the same -/
theorem eqW {p : Program} {l : Launch} {e : Env} {R : Room} {s : State} {args : Array Value} {below : List Frame} {len W : Nat} {Z : State} {a0 : Array Value} {h : Heap} (hZ : Z.Warmed39 s.vm) (hw : ∀ d ∈ wordsEq, d.before a0 Z = true) {kI : Nat} (wi : (Jvm.Cond.instantiable ST kI).before a0 Z = true)
    {x t : Addr} {kb : ClassId} {cs : List Int32} {cd N2 : Int32} {vs : List Value} (E : RoadKit.Exa Z h x ST) (V : RoadKit.Fld Z h x ST "value" "[B" (.ref t)) (C : RoadKit.Fld Z h x ST "coder" "B" (.int cd)) (K : RoadKit.Arv Z h t kb .byte N2 vs (.int 0)) (hc : CodA cs cd N2 vs) (hb : ∀ c ∈ cs, ¬ c < 0 ∧ ¬ (65535 : Int32) < c) (l2 : cs.length ≤ 4000)
    {y t' : Addr} {kb' : ClassId} {ds : List Int32} {cd' N2' : Int32} {vs' : List Value} (E' : RoadKit.Exa Z h y ST) (V' : RoadKit.Fld Z h y ST "value" "[B" (.ref t')) (C' : RoadKit.Fld Z h y ST "coder" "B" (.int cd')) (K' : RoadKit.Arv Z h t' kb' .byte N2' vs' (.int 0)) (hc' : CodA ds cd' N2' vs') (hb' : ∀ c ∈ ds, ¬ c < 0 ∧ ¬ (65535 : Int32) < c) (l2' : ds.length ≤ 4000)
    {z : Int32} (S : RoadKit.Sta Z h ST "COMPACT_STRINGS" "Z" (.int z)) (hz : ¬ z = 0) (hfr : 2 ≤ R.frames) (hlo : W + 28 ≤ R.locals) :
    Back l R p e below s args (⟨"java/lang/String", "equals", "(Ljava/lang/Object;)Z"⟩ : MethodName) len W (fun P a => a = #[.ref x, .ref y] ∧ P.U.heap = h ∧ P.cells + 0 ≤ R.cells ∧ P.slots + 0 ≤ R.slots)
      (fun P _ v B => ∃ L, (((v = some (.int 1) ∧ cs = ds) ∨ (v = some (.int 0) ∧ ¬ cs = ds)) ∧ L = [] ∧ B.U.heap = h) ∧ B.locs = P.locs ++ L ∧ B.cells = P.cells + 0 ∧ B.slots = P.slots + 0) := by
  intro m meth c P g ig mk a X hg hsize hdg hW hn hp'
  obtain ⟨rfl, rfl, r1, r2⟩ := hp'
  have al : Z.vm.Alike P.U.vm := hZ.alike.trans X.warmed.alike
  obtain ⟨A, hx⟩ := txt_of wi al E V C K hc hb l2
  obtain ⟨A', hy⟩ := txt_of wi al E' V' C' K' hc' hb' l2'
  obtain ⟨v, B, X', ⟨⟨w, hv, hh, hq⟩, hl, hk, hs⟩, st⟩ := SEq.pays x t A cd cs.length (fun j => cs.getD j 0) y t' A' cd' ds.length (fun j => ds.getD j 0) z (tabEq_of (movedEq hZ hw)) hfr hlo m meth c P g ig mk _ X hg hsize hdg hW hn ⟨r1, r2, rfl, hx, hy, sta_is al S, hz⟩
  refine ⟨v, B, X', ⟨[], ⟨?_, rfl, hh⟩, hl, hk, hs⟩, st⟩
  rcases hq with ⟨rfl, q⟩ | ⟨rfl, q⟩
  · exact Or.inl ⟨hv, (same_list cs ds).mp q⟩
  · exact Or.inr ⟨hv, fun e => q ((same_list cs ds).mpr e)⟩
end StrChars.Road
namespace StrChars.Road
open Jvm Sem ClassFile Op Lib Jvm.Stand Jvm.Free Jvm.Free.XT
open Jvm.Lib.Cold (StaticIs)
/-- what backV says of its String, as the contracts of this text ask it: cs's low bytes, coder 0 -/
theorem codOf {cs : List Int32} {n : Nat} (hn : cs.length = n) (hb : ∀ c ∈ cs, ¬ 255 < c) : CodA cs 0 (Int32.ofNat n) ((cs.map lo8).map Value.int) := Or.inl ⟨rfl, by rw [hn], by simp [List.map_map, Function.comp_def], hb⟩
end StrChars.Road
end Jvm.Pilot.@@N@@
namespace Jvm.Pilot.@@N@@
namespace W
open Jvm Jvm.ClassFile Sem Op Lib Jvm.Free Jvm.Stand Jvm.LawKit Jvm.RoadKit Bundle
/-! the run goes on from here and ends as P says -/
def Go (p : Program) (e : Env) (below : List Frame) (P : Outcome → State → Prop) (T : State) (f : JFrame) : Prop :=
  ∃ t o, Steps p.tables e below (T.setTop f) t ∧ t.status = .running ∧ Ended t below o ∧ P o t
theorem Go.of {p : Program} {e : Env} {below : List Frame} {P : Outcome → State → Prop} {T T' : State} {f f' : JFrame}
    (h : ∀ target, Steps p.tables e below (T'.setTop f') target → Steps p.tables e below (T.setTop f) target) (k : Go p e below P T' f') : Go p e below P T f := by
  obtain ⟨t, o, h1, h2⟩ := k
  exact ⟨t, o, h t h1, h2⟩
theorem Go.cast {p : Program} {e : Env} {below : List Frame} {P : Outcome → State → Prop} {T : State} {f f' : JFrame} (q : f = f') (k : Go p e below P T f') : Go p e below P T f := q ▸ k
/-! what has moved since h0: the old objects ws at the most, and new ones -/
def Mv (h0 h : Heap) (ws : List Addr) (L : List Loc) : Prop := Keep h0 h ws ∧ ∀ y ∈ L, y.base ∈ ws ∨ h0.size ≤ y.base
section Mvs
variable {h0 h h' : Heap} {ws ws' : List Addr} {L L' : List Loc} {a : Addr} {sl : Nat} {v : Value}
theorem Mv.refl (h : Heap) (ws : List Addr) : Mv h h ws [] := ⟨Keep.refl h ws, fun _ q => nomatch q⟩
theorem Mv.le (M : Mv h0 h ws L) : h0.size ≤ h.size := M.1.1
theorem Mv.ext (M : Mv h0 h ws L) (E : Ext h h') : Mv h0 h' ws L := ⟨M.1.ext E, M.2⟩
theorem Mv.wr (M : Mv h0 h ws L) (W : Wr h h' a sl v) (q : a ∈ ws ∨ h0.size ≤ a) : Mv h0 h' ws (L ++ [⟨a, sl⟩]) :=
  ⟨M.1.wr W q, fun y hy => (List.mem_append.mp hy).elim (M.2 y) fun z => by cases List.mem_singleton.mp z; exact q⟩
theorem Mv.app (M : Mv h0 h ws L) (M' : Mv h h' ws' L') (q : ∀ x ∈ ws', x ∈ ws ∨ h0.size ≤ x) : Mv h0 h' ws (L ++ L') :=
  ⟨M.1.trans M'.1 q, fun y hy => (List.mem_append.mp hy).elim (M.2 y) fun z => (M'.2 y z).elim (q _) fun r => Or.inr (Nat.le_trans M.1.1 r)⟩
theorem Mv.app0 (M : Mv h0 h ws L) (M' : Mv h h' [] L') : Mv h0 h' ws (L ++ L') := M.app M' fun _ q => nomatch q
theorem keepE (E : Ext h h') : Keep h h' [] := (Keep.refl h []).ext E
theorem Mv.fr (M : Mv h0 h [] L) : Fr h0.size L := fun y hy => (M.2 y hy).elim (fun q => nomatch q) id
theorem Mv.ofFr {n0 : Nat} (K : Keep h0 h ws) (F : ∀ y ∈ L, y.base ∈ ws) : Mv h0 h ws L := ⟨K, fun y hy => Or.inl (F y hy)⟩
end Mvs
theorem StaKeep {Z : State} {h h' : Heap} {C n d : String} {v : Value} {ws : List Addr} (F : Sta Z h C n d v) (K : Keep h h' ws) (q : ∀ x ∈ ws, ∀ c : Cell, h[x]? = some c → c.vm.isStatics = false) : Sta Z h' C n d v := by
  obtain ⟨cf, i, k, f, st, cell, h1, h2, h3, h4, h5, h6, h7⟩ := F
  refine ⟨cf, i, k, f, st, cell, h1, h2, h3, h4, K.2.1 _ _ h5 (fun z => ?_), h6, h7⟩
  rw [q st z cell h5] at h6; cases h6
theorem staExa {Z : State} {h : Heap} {a : Addr} {C : String} (F : Exa Z h a C) : ∀ c : Cell, h[a]? = some c → c.vm.isStatics = false := fun c hc => by
  obtain ⟨c', _, h1, -, -, h4, -⟩ := F; cases h1.symm.trans hc; exact h4
theorem staArv {Z : State} {h : Heap} {a : Addr} {k : ClassId} {ty : FieldType} {n : Int32} {vs : List Value} {d : Value} (F : Arv Z h a k ty n vs d) : ∀ c : Cell, h[a]? = some c → c.vm.isStatics = false := fun c hc => by
  obtain ⟨c', A, -⟩ := F; cases A.1.symm.trans hc; exact A.plain
/-! a contract -/
def MeetsW (l : Launch) (Z : State) (y : MethodName) (bytes : ByteArray) (maxL : Nat) (ret : Option FieldType) (rm : Room) (as : Array Value) (h0 : Heap) (Q : Option Value → Heap → List Loc → Prop) : Prop :=
  ∀ ws : List Jvm.Cond, MetFree l y (head1 (Jvm.Cond.code y bytes maxL ret :: ws) rm) (fun a U => a = as ∧ Z.Warmed39 U.vm ∧ U.heap = h0) (fun _ _ _ _ _ => True)
    (fun _ U o U' => ∃ v L, o = .returned v ∧ Q v U'.heap L ∧ FrameEnd U o U' L rm.cells rm.slots)
def Pu (h : Heap) (S : Option Value → Prop) (v : Option Value) (h' : Heap) (L : List Loc) : Prop := L = [] ∧ h' = h ∧ S v
theorem MeetsW.of {l : Launch} {Z : State} {y : MethodName} {bytes : ByteArray} {maxL : Nat} {ret : Option FieldType} {rm : Room} {as : Array Value} {h0 : Heap} {Q : Option Value → Heap → List Loc → Prop} (hpl : plainFor y = true)
    (body : ∀ (p : Program) (e : Env) (s : State) (m : MethodId) (below : List Frame) (meth : Method) (c : Code) (s₁ : State) (P : Outcome → State → Prop), p.tables.exec = Jvm.exec → c.code = bytes → c.maxLocals = maxL → Z.Warmed39 s.vm → s.vm.findClass y.cls = some m.cls → meth.name = y.name → meth.sig.returnType = ret → meth.locks = false →
      Stand p l e rm s m as below meth c s₁ [] 0 0 → s₁.heap = h0 → (∀ v t L, Q v t.heap L → FrameEnd s (.returned v) t L rm.cells rm.slots → P (.returned v) t) → Go p e below P s₁ (entryFrame m as maxL)) : MeetsW l Z y bytes maxL ret rm as h0 Q := by
  intro ws
  refine MetFree.of_bodySF hpl hisR ?_
  intro p e s m args below meth c s₁ Bd hml0 hP hK
  obtain ⟨rfl, hZ, hh⟩ := hP
  exact body p e s m below meth c s₁ _ Bd.exec Bd.bytes hml0 hZ (findClass_of_methodNamed Bd.named) (name_of_methodNamed Bd.named Bd.method).1 Bd.returns (BodyLoose.notSynchronized Bd) (Stand.of_body Bd) (by rw [← hh, Bd.state]; rfl) (fun v t L hq hf => ⟨v, L, rfl, hq, hf⟩)
def MeetsI (l : Launch) (Z : State) (y : MethodName) (bytes : ByteArray) (maxL : Nat) (ret : Option FieldType) (rm : Room) (as : Array Value) (h0 : Heap) (Q : Option Value → Heap → List Loc → Prop) : Prop :=
  ∀ ws : List Jvm.Cond, MetFree l y (head1 (Jvm.Cond.code y bytes maxL ret :: ws) rm) (fun a U => a = as ∧ Z.Warmed39 U.vm ∧ U.heap = h0) (fun _ _ _ _ _ => True)
    (fun _ U o U' => ∃ v L, o = .returned v ∧ Q v U'.heap L ∧ ReturnedEndW U o U' L rm.cells rm.slots)
theorem MeetsI.of {l : Launch} {Z : State} {y : MethodName} {bytes : ByteArray} {maxL : Nat} {ret : Option FieldType} {rm : Room} {as : Array Value} {h0 : Heap} {Q : Option Value → Heap → List Loc → Prop} (hpl : plainFor y = true)
    (body : ∀ (p : Program) (e : Env) (s : State) (m : MethodId) (below : List Frame) (meth : Method) (c : Code) (s₁ : State) (P : Outcome → State → Prop), p.tables.exec = Jvm.exec → c.code = bytes → c.maxLocals = maxL → Z.Warmed39 s.vm → s.vm.findClass y.cls = some m.cls → meth.name = y.name → meth.sig.returnType = ret → meth.locks = false →
      Stand p l e rm (s.setVm s.vm) m as below meth c s₁ [] 0 0 → s₁.heap = h0 → s.Since s.vm h0.size → (∀ v t L, Q v t.heap L → ReturnedEndW s (.returned v) t L rm.cells rm.slots → P (.returned v) t) → Go p e below P s₁ (entryFrame m as maxL)) : MeetsI l Z y bytes maxL ret rm as h0 Q := by
  intro ws
  refine MetFree.of_bodySF hpl hisR ?_
  intro p e s m args below meth c s₁ Bd hml0 hP hK
  obtain ⟨rfl, hZ, hh⟩ := hP
  exact body p e s m below meth c s₁ _ Bd.exec Bd.bytes hml0 hZ (findClass_of_methodNamed Bd.named) (name_of_methodNamed Bd.named Bd.method).1 Bd.returns (BodyLoose.notSynchronized Bd) (Stand.of_body Bd) (by rw [← hh, Bd.state]; rfl) ((State.WarmedH.refl s).since _) (fun v t L hq hf => ⟨v, L, rfl, hq, hf⟩)
/-! a call that comes back -/
def BK (l : Launch) (R : Room) (p : Program) (e : Env) (below : List Frame) (s : State) (args : Array Value) (y : MethodName) (W : Nat) (as : Array Value) (h : Heap) (C S : Nat) (Q : Option Value → Heap → List Loc → Prop) : Prop :=
  Back l R p e below s args y 3 W (fun A a => a = as ∧ A.U.heap = h ∧ A.cells + C ≤ R.cells ∧ A.slots + S ≤ R.slots)
    (fun A _ v B => ∃ L, Q v B.U.heap L ∧ B.locs = A.locs ++ L ∧ B.cells = A.cells + C ∧ B.slots = A.slots + S)
section Calls
variable {p : Program} {l : Launch} {e : Env} {R : Room} {s : State} {m : MethodId} {args : Array Value} {below : List Frame} {meth : Method} {c : Code} {T : State} {locs : List Loc} {cells slots : Nat} {Z : State} {a0 : Array Value} {h : Heap} {P : Outcome → State → Prop}
theorem standUp {C S : Nat} (X : Stand p l e R s m args below meth c T locs cells slots) (hc : cells ≤ C) (hs : slots ≤ S) : Stand p l e R s m args below meth c T locs C S :=
  ⟨X.admits, X.cas, X.clock, X.frames, X.room, X.hears, X.method, X.code, X.here, X.tail, X.warmed, X.limits, X.bytes, X.same.mono hc hs⟩
theorem MeetsW.bk {y : MethodName} {bytes : ByteArray} {maxL : Nat} {ret : Option FieldType} {rm : Room} {as : Array Value} {Q : Option Value → Heap → List Loc → Prop} {W : Nat} (M : MeetsW l Z y bytes maxL ret rm as h Q) (hZ : Z.Warmed39 s.vm)
    (wc : (Jvm.Cond.code y bytes maxL ret).before a0 Z = true) (wz : (Jvm.Cond.initialized y.cls).before a0 Z = true) (hf : rm.frames + 1 ≤ R.frames) (hl : W + (maxL + 11) + rm.locals ≤ R.locals) : BK l R p e below s args y W as h rm.cells rm.slots Q :=
  backOf (M []) hZ wc wz hf hl
theorem BK.mono {y : MethodName} {W : Nat} {as : Array Value} {C S : Nat} {Q Q' : Option Value → Heap → List Loc → Prop} (B : BK l R p e below s args y W as h C S Q) (q : ∀ v h' L, Q v h' L → Q' v h' L) : BK l R p e below s args y W as h C S Q' :=
  Back.mono B (fun _ _ z => z) (fun _ _ _ _ _ ⟨L, z, r⟩ => ⟨L, q _ _ _ z, r⟩)
theorem goS (X : Stand p l e R s m args below meth c T locs cells slots) (hx : p.tables.exec = Jvm.exec) (hZ : Z.Warmed39 s.vm) {own : String} {index : Nat} {y : MethodName} {bytes : ByteArray} {maxL : Nat} {ret : Option FieldType} (hown : s.vm.findClass own = some m.cls)
    (w1 : (Jvm.Cond.methodLink own index y).before a0 Z = true) (w2 : (Jvm.Cond.static y).before a0 Z = true) (w3 : (Jvm.Cond.initialized y.cls).before a0 Z = true) (w4 : (Jvm.Cond.code y bytes maxL ret).before a0 Z = true) (hy : y.cls ≠ "java/lang/invoke/MethodHandle" ∧ y.cls ≠ "java/lang/invoke/VarHandle")
    {W C S : Nat} {as : Array Value} {Q : Option Value → Heap → List Loc → Prop} (B : BK l R p e below s args y W as h C S Q) (eT : T.heap = h) {pc : Nat} {Ls : Array Slot} {st argsL rest : List Value} (hml : Ls.size = c.maxLocals)
    (hlen : ∀ sig, parseMethodDescriptor y.desc = some sig → argsL.length = sig.parameters.length) (hst : st = argsL.reverse ++ rest) (has : argsL.toArray = as) (hd : decode c.code pc = .ok (.invokestatic index, 3)) (hW : (rest.map fun v => v.category).sum ≤ W) (hc : cells + C ≤ R.cells) (hs : slots + S ≤ R.slots)
    (k : ∀ v T' L, Stand p l e R s m args below meth c T' (locs ++ L) (cells + C) (slots + S) → Q v T'.heap L → Go p e below P T' (mkF m (pc + 3) Ls (v.toList ++ rest))) : Go p e below P T (mkF m pc Ls st) := by
  obtain ⟨v, _, ⟨T', L', k', n'⟩, -, X', ⟨Lc, hQ, l1, l2, l3⟩, stp⟩ := Jvm.LawKit.callS X hx hown (mvT hZ w1) (mvT hZ w2) (mvT hZ w3) (mvT hZ w4) hy B (g := mkF m pc Ls st) rfl hml hlen hst (by show 2 * 0 + _ ≤ _; simpa using hW) hd (fun _ _ => ⟨has, eT, hc, hs⟩)
  dsimp only [Pt.U, Pt.locs, Pt.cells, Pt.slots] at X' l1 l2 l3 stp hQ
  subst l1 l2 l3
  exact Go.of stp (k v T' Lc X' hQ)
theorem goI (X : Stand p l e R s m args below meth c T locs cells slots) (hx : p.tables.exec = Jvm.exec) (hZ : Z.Warmed39 s.vm) {own : String} {index : Nat} {y : MethodName} {bytes : ByteArray} {maxL : Nat} (hn : y.name = "<init>") (hown : s.vm.findClass own = some m.cls)
    (w1 : (Jvm.Cond.methodLink own index y).before a0 Z = true) (w2 : (Jvm.Cond.instanceMethod y).before a0 Z = true) (w4 : (Jvm.Cond.code y bytes maxL none).before a0 Z = true) (hy : y.cls ≠ "java/lang/invoke/MethodHandle" ∧ y.cls ≠ "java/lang/invoke/VarHandle")
    {W C S : Nat} {as : Array Value} {Q : Option Value → Heap → List Loc → Prop} (B : BK l R p e below s args y W as h C S Q) (eT : T.heap = h) {pc : Nat} {Ls : Array Slot} {a : Addr} {st argsL rest : List Value} (hml : Ls.size = c.maxLocals)
    (hlen : ∀ sig, parseMethodDescriptor y.desc = some sig → argsL.length = sig.parameters.length) (hst : st = argsL.reverse ++ .ref a :: rest) (has : (.ref a :: argsL).toArray = as) (hd : decode c.code pc = .ok (.invokespecial index, 3)) (hW : (rest.map fun v => v.category).sum ≤ W) (hc : cells + C ≤ R.cells) (hs : slots + S ≤ R.slots)
    (k : ∀ v T' L, Stand p l e R s m args below meth c T' (locs ++ L) (cells + C) (slots + S) → Q v T'.heap L → Go p e below P T' (mkF m (pc + 3) Ls (v.toList ++ rest))) : Go p e below P T (mkF m pc Ls st) := by
  obtain ⟨v, _, ⟨T', L', k', n'⟩, -, X', ⟨Lc, hQ, l1, l2, l3⟩, stp⟩ := X.specialBack hx hn hown (mvT hZ w1) (mvT hZ w2) (mvT hZ w4) hy B (g := mkF m pc Ls st) rfl hml (Steps.refl _) hlen hst (by show 2 * 0 + _ ≤ _; simpa using hW) hd (fun _ _ => ⟨has, eT, hc, hs⟩)
  dsimp only [Pt.U, Pt.locs, Pt.cells, Pt.slots] at X' l1 l2 l3 stp hQ
  subst l1 l2 l3
  exact Go.of (fun _ z => stp.trans z) (k v T' Lc X' hQ)
theorem goV (X : Stand p l e R s m args below meth c T locs cells slots) (hx : p.tables.exec = Jvm.exec) (hZ : Z.Warmed39 s.vm) {own K : String} {index : Nat} {y z : MethodName} (hown : s.vm.findClass own = some m.cls)
    (w1 : (Jvm.Cond.methodLink own index y).before a0 Z = true) (w2 : (Jvm.Cond.declares y).before a0 Z = true) (hnf : NotFace s y) (w3 : (Jvm.Cond.selects K y z).before a0 Z = true) (w4 : (Jvm.Cond.instanceMethod z).before a0 Z = true) (hy : y.cls ≠ "java/lang/invoke/MethodHandle" ∧ y.cls ≠ "java/lang/invoke/VarHandle")
    {W C S : Nat} {as : Array Value} {Q : Option Value → Heap → List Loc → Prop} (B : BK l R p e below s args z W as h C S Q) (eT : T.heap = h) {b : Addr} (E : Exa Z h b K) {pc : Nat} {Ls : Array Slot} {st argsL rest : List Value} (hml : Ls.size = c.maxLocals)
    (hlen : ∀ sig, parseMethodDescriptor y.desc = some sig → argsL.length = sig.parameters.length) (hst : st = argsL.reverse ++ .ref b :: rest) (has : (.ref b :: argsL).toArray = as) (hd : decode c.code pc = .ok (.invokevirtual index, 3)) (hW : (rest.map fun v => v.category).sum ≤ W) (hc : cells + C ≤ R.cells) (hs : slots + S ≤ R.slots)
    (k : ∀ v T' L, Stand p l e R s m args below meth c T' (locs ++ L) (cells + C) (slots + S) → Q v T'.heap L → Go p e below P T' (mkF m (pc + 3) Ls (v.toList ++ rest))) : Go p e below P T (mkF m pc Ls st) := by
  obtain ⟨cq, kq, qa, -, qc⟩ := isOf hZ eT E
  obtain ⟨v, _, ⟨T', L', k', n'⟩, -, X', ⟨Lc, hQ, l1, l2, l3⟩, stp⟩ := X.virtualBack hx hown (mvT hZ w1) (mvT hZ w2) hnf (mvT hZ w3) (mvT hZ w4) hy B qa qc (g := mkF m pc Ls st) rfl hml (Steps.refl _) hlen hst (by show 2 * 0 + _ ≤ _; simpa using hW) hd (fun _ _ => ⟨has, eT, hc, hs⟩)
  dsimp only [Pt.U, Pt.locs, Pt.cells, Pt.slots] at X' l1 l2 l3 stp hQ
  subst l1 l2 l3
  exact Go.of (fun _ z => stp.trans z) (k v T' Lc X' hQ)
theorem goP (X : Stand p l e R s m args below meth c T locs cells slots) (hx : p.tables.exec = Jvm.exec) (hZ : Z.Warmed39 s.vm) {own : String} {index n : Nat} {y : MethodName} {bytes : ByteArray} {maxL : Nat} {ret : Option FieldType} (hown : s.vm.findClass own = some m.cls)
    (w1 : (Jvm.Cond.methodLink own index y).before a0 Z = true) (w2 : (Jvm.Cond.instanceMethod y).before a0 Z = true) (w3 : (Jvm.Cond.privateMethod y).before a0 Z = true) (w4 : (Jvm.Cond.code y bytes maxL ret).before a0 Z = true) (wi : (Jvm.Cond.instantiable y.cls n).before a0 Z = true) (hy : y.cls ≠ "java/lang/invoke/MethodHandle" ∧ y.cls ≠ "java/lang/invoke/VarHandle")
    {W C S : Nat} {as : Array Value} {Q : Option Value → Heap → List Loc → Prop} (B : BK l R p e below s args y W as h C S Q) (eT : T.heap = h) {b : Addr} {K : String} (E : Exa Z h b K) {pc : Nat} {Ls : Array Slot} {st argsL rest : List Value} (hml : Ls.size = c.maxLocals)
    (hlen : ∀ sig, parseMethodDescriptor y.desc = some sig → argsL.length = sig.parameters.length) (hst : st = argsL.reverse ++ .ref b :: rest) (has : (.ref b :: argsL).toArray = as) (hd : decode c.code pc = .ok (.invokevirtual index, 3)) (hW : (rest.map fun v => v.category).sum ≤ W) (hc : cells + C ≤ R.cells) (hs : slots + S ≤ R.slots)
    (k : ∀ v T' L, Stand p l e R s m args below meth c T' (locs ++ L) (cells + C) (slots + S) → Q v T'.heap L → Go p e below P T' (mkF m (pc + 3) Ls (v.toList ++ rest))) : Go p e below P T (mkF m pc Ls st) := by
  have hp := Cond.privateMethod_at (mvP hZ w3 (args := args))
  obtain ⟨ci, ki, i1, i2, i3, i4, i5, -⟩ := Cond.instantiable_spec (mvT hZ wi (args := args))
  have hsel : (Jvm.Cond.selects y.cls y y).before args s = true := Jvm.Stand.selects_self_of_private i1 i2 (Bool.or_eq_false_iff.mp i4).1 hp (mvT hZ w2) hy
  obtain ⟨cq, q1, q2⟩ := E.cell
  obtain ⟨v, _, ⟨T', L', k', n'⟩, -, X', ⟨Lc, hQ, l1, l2, l3⟩, stp⟩ := X.privateBack hx hown (mvT hZ w1) (mvT hZ w2) hsel hp (mvT hZ w4) hy B (g := mkF m pc Ls st) rfl hml (Steps.refl _) (by rw [eT]; exact q1) q2 hlen hst (by show 2 * 0 + _ ≤ _; simpa using hW) hd (fun _ _ => ⟨has, eT, hc, hs⟩)
  dsimp only [Pt.U, Pt.locs, Pt.cells, Pt.slots] at X' l1 l2 l3 stp hQ
  subst l1 l2 l3
  exact Go.of (fun _ z => stp.trans z) (k v T' Lc X' hQ)
/-! pure: what a contract 'Pu' gives -/
theorem standNil {L : List Loc} (X : Stand p l e R s m args below meth c T (locs ++ L) (cells + 0) (slots + 0)) (q : L = []) : Stand p l e R s m args below meth c T locs cells slots := by
  subst q; rw [List.append_nil] at X; exact X
/-! the end -/
theorem goRet0 (X : Stand p l e R s m args below meth c T locs cells slots) (hx : p.tables.exec = Jvm.exec) (hret : meth.sig.returnType = none) (hlk : meth.locks = false) {pc : Nat} {Ls : Array Slot} {C S : Nat} {Q : Option Value → Heap → List Loc → Prop}
    (hd : decode c.code pc = .ok (.return_, 1)) (K : ∀ v t L, Q v t.heap L → FrameEnd s (.returned v) t L C S → P (.returned v) t) (hc : cells ≤ C) (hs : slots ≤ S) (eT : T.heap = h) (hq : Q none h locs) : Go p e below P T (mkF m pc Ls []) := by
  obtain ⟨fs, hr, hrun, hended, hW, hsame⟩ := X.leave (v := none) (fun _ => rfl) hlk
  exact ⟨_, _, X.returnOut hx hret hd hr, hrun, hended, K _ _ _ (by rw [← eT] at hq; exact hq) ⟨⟨_, rfl⟩, hW, hsame.mono hc hs⟩⟩
theorem goRet (X : Stand p l e R s m args below meth c T locs cells slots) (hx : p.tables.exec = Jvm.exec) {t : FieldType} (hret : meth.sig.returnType = some t) (hlk : meth.locks = false) {pc : Nat} {Ls : Array Slot} {C S : Nat} {w : Value} {rest : List Value} {i : Instr} {Q : Option Value → Heap → List Loc → Prop}
    (hn : narrow t w = w) (hi : (i = .ireturn ∧ (t = .int ∨ t = .boolean ∨ t = .byte ∨ t = .char ∨ t = .short) ∧ ∃ z, w = .int z) ∨ (i = .lreturn ∧ t = .long ∧ ∃ z, w = .long z) ∨ (i = .dreturn ∧ t = .double ∧ ∃ z, w = .double z) ∨ (i = .freturn ∧ t = .float ∧ ∃ z, w = .float z) ∨ (i = .areturn ∧ t.isReference = true ∧ w.isRef = true))
    (hd : decode c.code pc = .ok (i, 1)) (K : ∀ v t L, Q v t.heap L → FrameEnd s (.returned v) t L C S → P (.returned v) t) (hc : cells ≤ C) (hs : slots ≤ S) (eT : T.heap = h) (hq : Q (some w) h locs) : Go p e below P T (mkF m pc Ls (w :: rest)) := by
  obtain ⟨fs, hr, hrun, hended, hW, hsame⟩ := X.leave (v := some w) (fun q => by rw [hret] at q; cases q) hlk
  exact ⟨_, _, retOut X hx hret hn hi hd hr, hrun, hended, K _ _ _ (by rw [← eT] at hq; exact hq) ⟨⟨_, rfl⟩, hW, hsame.mono hc hs⟩⟩
theorem goRetI (X : Stand p l e R s m args below meth c T locs cells slots) (hx : p.tables.exec = Jvm.exec) {t : FieldType} (hret : meth.sig.returnType = some t) (hlk : meth.locks = false) {pc : Nat} {Ls : Array Slot} {C S : Nat} {z : Int32} {rest : List Value} {Q : Option Value → Heap → List Loc → Prop}
    (hn : narrow t (.int z) = .int z) (ht : t = .int ∨ t = .boolean ∨ t = .byte ∨ t = .char ∨ t = .short) (hd : decode c.code pc = .ok (.ireturn, 1)) (K : ∀ v t L, Q v t.heap L → FrameEnd s (.returned v) t L C S → P (.returned v) t) (hc : cells ≤ C) (hs : slots ≤ S) (eT : T.heap = h) (hq : Q (some (.int z)) h locs) : Go p e below P T (mkF m pc Ls (.int z :: rest)) :=
  goRet X hx hret hlk hn (Or.inl ⟨rfl, ht, z, rfl⟩) hd K hc hs eT hq
theorem goRetJ (X : Stand p l e R s m args below meth c T locs cells slots) (hx : p.tables.exec = Jvm.exec) (hret : meth.sig.returnType = some .long) (hlk : meth.locks = false) {pc : Nat} {Ls : Array Slot} {C S : Nat} {z : Int64} {rest : List Value} {Q : Option Value → Heap → List Loc → Prop}
    (hd : decode c.code pc = .ok (.lreturn, 1)) (K : ∀ v t L, Q v t.heap L → FrameEnd s (.returned v) t L C S → P (.returned v) t) (hc : cells ≤ C) (hs : slots ≤ S) (eT : T.heap = h) (hq : Q (some (.long z)) h locs) : Go p e below P T (mkF m pc Ls (.long z :: rest)) :=
  goRet X hx hret hlk rfl (Or.inr (Or.inl ⟨rfl, rfl, z, rfl⟩)) hd K hc hs eT hq
theorem goRetR (X : Stand p l e R s m args below meth c T locs cells slots) (hx : p.tables.exec = Jvm.exec) {t : FieldType} (hret : meth.sig.returnType = some t) (ht : t.isReference = true) (hlk : meth.locks = false) {pc : Nat} {Ls : Array Slot} {C S : Nat} {w : Value} {rest : List Value} {Q : Option Value → Heap → List Loc → Prop}
    (hw : w.isRef = true) (hn : narrow t w = w) (hd : decode c.code pc = .ok (.areturn, 1)) (K : ∀ v t L, Q v t.heap L → FrameEnd s (.returned v) t L C S → P (.returned v) t) (hc : cells ≤ C) (hs : slots ≤ S) (eT : T.heap = h) (hq : Q (some w) h locs) : Go p e below P T (mkF m pc Ls (w :: rest)) :=
  goRet X hx hret hlk hn (Or.inr (Or.inr (Or.inr (Or.inr ⟨rfl, ht, hw⟩)))) hd K hc hs eT hq
/-! the wide end: where a String constant may have been interned -/
theorem goRetW {vm1 : Vm} {k1 : Nat} (X : Stand p l e R (s.setVm vm1) m args below meth c T locs cells slots) (hx : p.tables.exec = Jvm.exec) (hS : s.Since vm1 k1) (hk : k1 ≤ h.size) {t : FieldType} (hret : meth.sig.returnType = some t) (hlk : meth.locks = false) {pc : Nat} {Ls : Array Slot} {C S : Nat} {w : Value} {rest : List Value} {i : Instr} {Q : Option Value → Heap → List Loc → Prop}
    (hn : narrow t w = w) (hi : (i = .ireturn ∧ (t = .int ∨ t = .boolean ∨ t = .byte ∨ t = .char ∨ t = .short) ∧ ∃ z, w = .int z) ∨ (i = .lreturn ∧ t = .long ∧ ∃ z, w = .long z) ∨ (i = .dreturn ∧ t = .double ∧ ∃ z, w = .double z) ∨ (i = .freturn ∧ t = .float ∧ ∃ z, w = .float z) ∨ (i = .areturn ∧ t.isReference = true ∧ w.isRef = true))
    (hd : decode c.code pc = .ok (i, 1)) (K : ∀ v t L, Q v t.heap L → ReturnedEndW s (.returned v) t L C S → P (.returned v) t) (hc : cells ≤ C) (hs : slots ≤ S) (eT : T.heap = h) (hq : Q (some w) h locs) : Go p e below P T (mkF m pc Ls (w :: rest)) := by
  obtain ⟨fs, hr, hrun, hended, h1, h2, h3, h4⟩ := X.leaveW hS (by rw [eT]; exact hk) (v := some w) (fun q => by rw [hret] at q; cases q) hlk
  exact ⟨_, _, retOut X hx hret hn hi hd hr, hrun, hended, K _ _ _ (by rw [← eT] at hq; exact hq) ⟨h1, h2, h3, h4.mono hc hs⟩⟩
theorem goRetIW {vm1 : Vm} {k1 : Nat} (X : Stand p l e R (s.setVm vm1) m args below meth c T locs cells slots) (hx : p.tables.exec = Jvm.exec) (hS : s.Since vm1 k1) (hk : k1 ≤ h.size) {t : FieldType} (hret : meth.sig.returnType = some t) (hlk : meth.locks = false) {pc : Nat} {Ls : Array Slot} {C S : Nat} {z : Int32} {rest : List Value} {Q : Option Value → Heap → List Loc → Prop}
    (hn : narrow t (.int z) = .int z) (ht : t = .int ∨ t = .boolean ∨ t = .byte ∨ t = .char ∨ t = .short) (hd : decode c.code pc = .ok (.ireturn, 1)) (K : ∀ v t L, Q v t.heap L → ReturnedEndW s (.returned v) t L C S → P (.returned v) t) (hc : cells ≤ C) (hs : slots ≤ S) (eT : T.heap = h) (hq : Q (some (.int z)) h locs) : Go p e below P T (mkF m pc Ls (.int z :: rest)) :=
  goRetW X hx hS hk hret hlk hn (Or.inl ⟨rfl, ht, z, rfl⟩) hd K hc hs eT hq
theorem goRetRW {vm1 : Vm} {k1 : Nat} (X : Stand p l e R (s.setVm vm1) m args below meth c T locs cells slots) (hx : p.tables.exec = Jvm.exec) (hS : s.Since vm1 k1) (hk : k1 ≤ h.size) {t : FieldType} (hret : meth.sig.returnType = some t) (ht : t.isReference = true) (hlk : meth.locks = false) {pc : Nat} {Ls : Array Slot} {C S : Nat} {w : Value} {rest : List Value} {Q : Option Value → Heap → List Loc → Prop}
    (hw : w.isRef = true) (hn : narrow t w = w) (hd : decode c.code pc = .ok (.areturn, 1)) (K : ∀ v t L, Q v t.heap L → ReturnedEndW s (.returned v) t L C S → P (.returned v) t) (hc : cells ≤ C) (hs : slots ≤ S) (eT : T.heap = h) (hq : Q (some w) h locs) : Go p e below P T (mkF m pc Ls (w :: rest)) :=
  goRetW X hx hS hk hret hlk hn (Or.inr (Or.inr (Or.inr (Or.inr ⟨rfl, ht, hw⟩)))) hd K hc hs eT hq
theorem goRet0W {vm1 : Vm} {k1 : Nat} (X : Stand p l e R (s.setVm vm1) m args below meth c T locs cells slots) (hx : p.tables.exec = Jvm.exec) (hS : s.Since vm1 k1) (hk : k1 ≤ h.size) (hret : meth.sig.returnType = none) (hlk : meth.locks = false) {pc : Nat} {Ls : Array Slot} {C S : Nat} {Q : Option Value → Heap → List Loc → Prop}
    (hd : decode c.code pc = .ok (.return_, 1)) (K : ∀ v t L, Q v t.heap L → ReturnedEndW s (.returned v) t L C S → P (.returned v) t) (hc : cells ≤ C) (hs : slots ≤ S) (eT : T.heap = h) (hq : Q none h locs) : Go p e below P T (mkF m pc Ls []) := by
  obtain ⟨fs, hr, hrun, hended, h1, h2, h3, h4⟩ := X.leaveW hS (by rw [eT]; exact hk) (v := none) (fun _ => rfl) hlk
  exact ⟨_, _, X.returnOut hx hret hd hr, hrun, hended, K _ _ _ (by rw [← eT] at hq; exact hq) ⟨h1, h2, h3, h4.mono hc hs⟩⟩
theorem lremM {g : JFrame} {target : State} (X : Stand p l e R s m args below meth c T locs cells slots) (hx : p.tables.exec = Jvm.exec) (hg : g.method = m) {x y : Int64} {rest : List Value} (hd : decode c.code g.pc = .ok (.lrem, 1)) (hs : g.stack = .long y :: .long x :: rest) (hy : y ≠ 0)
    (hr : Steps p.tables e below (T.setTop { g with pc := g.pc + 1, stack := .long (x % y) :: rest }) target) : Steps p.tables e below (T.setTop g) target := by
  have q : x - x / y * y = x % y := lrem_mod x y
  exact XS.lrem X.here hx hg hd hs hy (by rw [q]; exact hr)
end Calls
theorem refcat {v : Value} (h : v.isRef = true) : v.category = 1 := by rcases ref_cases h with rfl | ⟨a, rfl⟩ <;> rfl
theorem narref {t : FieldType} {v : Value} (h : v.isRef = true) : narrow t v = v := by rcases ref_cases h with rfl | ⟨a, rfl⟩ <;> cases t <;> rfl
theorem fitrefO {C : String} {v : Value} (h : v.isRef = true) : fits (.object C) v = true := by rcases ref_cases h with rfl | ⟨a, rfl⟩ <;> rfl
theorem fitrefA {t : FieldType} {v : Value} (h : v.isRef = true) : fits (.array t) v = true := by rcases ref_cases h with rfl | ⟨a, rfl⟩ <;> rfl
/-! booleans -/
def bi (φ : Prop) [Decidable φ] : Int32 := if φ then 1 else 0
theorem bi_t {φ : Prop} [Decidable φ] (h : φ) : bi φ = 1 := if_pos h
theorem bi_f {φ : Prop} [Decidable φ] (h : ¬ φ) : bi φ = 0 := if_neg h
theorem bi_ne {φ : Prop} [Decidable φ] (h : φ) : ¬ bi φ = 0 := by rw [bi_t h]; decide
theorem narrow_bi {φ : Prop} [Decidable φ] : narrow .boolean (.int (bi φ)) = .int (bi φ) := by unfold bi; split <;> rfl
end W
end Jvm.Pilot.@@N@@
namespace Jvm.Pilot.@@N@@
namespace W
open Jvm Jvm.ClassFile Sem Op Lib Jvm.Free Jvm.Stand Jvm.LawKit Jvm.RoadKit Bundle
/-! a String by its chars -/
def Str (Z : State) (h : Heap) (a t : Addr) (cs : List Int32) : Prop := ∃ (kb : ClassId) (cd N : Int32) (vs : List Value), Exa Z h a "java/lang/String" ∧ Fld Z h a "java/lang/String" "value" "[B" (.ref t) ∧ Fld Z h a "java/lang/String" "coder" "B" (.int cd) ∧ Arv Z h t kb .byte N vs (.int 0) ∧ StrChars.Road.CodA cs cd N vs ∧ (∀ c ∈ cs, ¬ c < 0 ∧ ¬ (65535 : Int32) < c) ∧ cs.length ≤ 4000
section Strs
variable {Z : State} {h h' : Heap} {a t : Addr} {cs : List Int32} {ws : List Addr}
theorem Str.keep (F : Str Z h a t cs) (K : Keep h h' ws) (q : a ∉ ws) (r : t ∉ ws) : Str Z h' a t cs := by
  obtain ⟨kb, cd, N, vs, E, V, C, A, g⟩ := F
  exact ⟨kb, cd, N, vs, E.keep K, V.keep K q, C.keep K q, A.keep K r, g⟩
theorem Str.exa (F : Str Z h a t cs) : Exa Z h a "java/lang/String" := by obtain ⟨kb, cd, N, vs, E, -⟩ := F; exact E
theorem Str.lt1 (F : Str Z h a t cs) : a < h.size := F.exa.lt
theorem Str.lt2 (F : Str Z h a t cs) : t < h.size := by obtain ⟨kb, cd, N, vs, E, V, C, A, g⟩ := F; exact A.lt
end Strs
theorem up255 {cs : List Int32} (h : ∀ c ∈ cs, ¬ c < 0 ∧ ¬ (255 : Int32) < c) : ∀ c ∈ cs, ¬ c < 0 ∧ ¬ (65535 : Int32) < c := fun c hc => ⟨(h c hc).1, fun q => (h c hc).2 (by rw [Int32.lt_iff_toInt_lt] at q ⊢; have e1 : (65535 : Int32).toInt = 65535 := rfl; have e2 : (255 : Int32).toInt = 255 := rfl; omega)⟩
theorem nat32 {n : Nat} (h : n < 2 ^ 31) : (Int32.ofNat n).toNatClampNeg = n := by
  show (Int32.ofNat n).toInt.toNat = n
  rw [Int32.toInt_ofNat_of_lt h]; rfl
theorem str1 {Z : State} {h : Heap} {a t : Addr} {k : ClassId} {c : Int32} (hp : ¬ c < 0 ∧ ¬ (255 : Int32) < c) (E : Exa Z h a "java/lang/String") (V : Fld Z h a "java/lang/String" "value" "[B" (.ref t)) (C : Fld Z h a "java/lang/String" "coder" "B" (.int (0 : Int32))) (A : Arv Z h t k .byte (1 : Int32) [.int (c.toInt8.toInt32)] (.int (0 : Int32))) : Str Z h a t [c] := by
  have hq : ∀ d ∈ [c], ¬ d < 0 ∧ ¬ (255 : Int32) < d := fun d hd => by cases List.mem_singleton.mp hd; exact hp
  exact ⟨k, 0, 1, _, E, V, C, A, Or.inl ⟨rfl, rfl, rfl, fun d hd => (hq d hd).2⟩, up255 hq, by simp⟩
theorem nar_b (x : Int32) : nar .byte (x.toInt8.toInt32) = x.toInt8.toInt32 := by
  show x.toInt8.toInt32.toInt8.toInt32 = _
  simp
section StrCalls
variable {p : Program} {l : Launch} {e : Env} {R : Room} {s : State} {args : Array Value} {below : List Frame} {W : Nat} {Z : State} {a0 : Array Value} {h : Heap}
theorem newStr (hZ : Z.Warmed39 s.vm) (hw : ∀ d ∈ StrChars.Road.words, d.before a0 Z = true) {kI : Nat} (wi : (Jvm.Cond.instantiable "java/lang/String" kI).before a0 Z = true) {x b : Addr} {k : ClassId} {zn z : Int32} {cs : List Int32} {dv v0 c0 : Value} (E : Exa Z h x "java/lang/String") (V : Fld Z h x "java/lang/String" "value" "[B" v0) (C : Fld Z h x "java/lang/String" "coder" "B" c0)
    {vs : List Value} (A : Arv Z h b k .char zn vs dv) (hvs : vs = cs.map Value.int) (S : Sta Z h "java/lang/String" "COMPACT_STRINGS" "Z" (.int z)) (hz : ¬ z = 0) {n : Nat} (hn : cs.length = n) (hN : zn = Int32.ofNat n) (l0 : 0 < n) (l2 : n ≤ 4000) (hp : ∀ c ∈ cs, ¬ c < 0 ∧ ¬ (255 : Int32) < c) (hfr : 4 ≤ R.frames) (hlo : W + 65 ≤ R.locals) :
    BK l R p e below s args (⟨"java/lang/String", "<init>", "([C)V"⟩ : MethodName) W #[.ref x, .ref b] h 1 n (fun v h' L => v = none ∧ Mv h h' [x] L ∧ ∃ t, h.size ≤ t ∧ Str Z h' x t cs) := by
  subst hn hN hvs
  have hlen : (Int32.ofNat cs.length).toNatClampNeg = cs.length := nat32 (by omega)
  refine BK.mono (Q := StrChars.Road.QA Z x (Int32.ofNat cs.length) cs h) (StrChars.Road.backArv hZ hw wi E V C A S hz hlen l0 (by omega) (fun c hc => (hp c hc).2) hfr hlo) ?_
  intro v h' L hq
  obtain ⟨q1, q2, q3, q4, q5, q6, q7, ⟨kb, v1, v2⟩, q9⟩ := hq
  refine ⟨q1, ⟨q3, fun y hy => Or.inl (by rw [q2 y hy]; exact List.mem_singleton.mpr rfl)⟩, h.size, Nat.le_refl _, kb, 0, _, _, q5, q6, q7, v2, ?_, up255 hp, l2⟩
  have := StrChars.Road.codOf (cs := cs) rfl (fun c hc => (hp c hc).2)
  rw [List.map_map] at this
  exact this
theorem eqStr (hZ : Z.Warmed39 s.vm) (hw : ∀ d ∈ StrChars.Road.wordsEq, d.before a0 Z = true) {kI : Nat} (wi : (Jvm.Cond.instantiable "java/lang/String" kI).before a0 Z = true) {x t y u : Addr} {cs ds : List Int32} {z : Int32} (F : Str Z h x t cs) (G : Str Z h y u ds) (S : Sta Z h "java/lang/String" "COMPACT_STRINGS" "Z" (.int z)) (hz : ¬ z = 0) (hfr : 2 ≤ R.frames) (hlo : W + 28 ≤ R.locals) :
    BK l R p e below s args (⟨"java/lang/String", "equals", "(Ljava/lang/Object;)Z"⟩ : MethodName) W #[.ref x, .ref y] h 0 0 (Pu h (fun v => v = some (.int (bi (cs = ds))))) := by
  obtain ⟨kb, cd, N, vs, E, V, C, A, g1, g2, g3⟩ := F
  obtain ⟨kb', cd', N', vs', E', V', C', A', g1', g2', g3'⟩ := G
  refine BK.mono (Q := fun v h' L => ((v = some (.int 1) ∧ cs = ds) ∨ (v = some (.int 0) ∧ ¬ cs = ds)) ∧ L = [] ∧ h' = h) (StrChars.Road.eqW hZ hw wi E V C A g1 g2 g3 E' V' C' A' g1' g2' g3' S hz hfr hlo) fun v h' L hq => ⟨hq.2.1, hq.2.2, ?_⟩
  rcases hq.1 with ⟨q, r⟩ | ⟨q, r⟩
  · rw [q, bi_t r]
  · rw [q, bi_f r]
end StrCalls
end W
end Jvm.Pilot.@@N@@
namespace Jvm.Pilot.@@N@@
namespace W
open Jvm Jvm.ClassFile Sem Op Lib Jvm.Free Jvm.Stand Jvm.LawKit Jvm.RoadKit Bundle
/-! contracts under the invariant on held String constants -/
def MeetsH (l : Launch) (Z : State) (EL : List (String × Nat)) (y : MethodName) (bytes : ByteArray) (maxL : Nat) (ret : Option FieldType) (rm : Room) (as : Array Value) (h0 : Heap) (Q : Option Value → Heap → List Loc → Prop) : Prop :=
  ∀ ws : List Jvm.Cond, MetFree l y (head1 (Jvm.Cond.code y bytes maxL ret :: ws) rm) (fun a U => a = as ∧ Z.Warmed39 U.vm ∧ U.heap = h0 ∧ CHv Z EL U.vm h0) (fun _ _ _ _ _ => True)
    (fun _ U o U' => ∃ v L, o = .returned v ∧ Q v U'.heap L ∧ CHr Z EL U.vm U.heap U'.vm U'.heap ∧ ReturnedEndW U o U' L rm.cells rm.slots)
theorem MeetsH.of {l : Launch} {Z : State} {EL : List (String × Nat)} {y : MethodName} {bytes : ByteArray} {maxL : Nat} {ret : Option FieldType} {rm : Room} {as : Array Value} {h0 : Heap} {Q : Option Value → Heap → List Loc → Prop} (hpl : plainFor y = true)
    (body : ∀ (p : Program) (e : Env) (s : State) (m : MethodId) (below : List Frame) (meth : Method) (c : Code) (s₁ : State) (P : Outcome → State → Prop), p.tables.exec = Jvm.exec → c.code = bytes → c.maxLocals = maxL → Z.Warmed39 s.vm → s.vm.findClass y.cls = some m.cls → meth.name = y.name → meth.sig.returnType = ret → meth.locks = false →
      Stand p l e rm (s.setVm s.vm) m as below meth c s₁ [] 0 0 → s₁.heap = h0 → s.Since s.vm h0.size → CHr Z EL s.vm h0 s.vm h0 → (∀ v t L, Q v t.heap L → CHr Z EL s.vm h0 t.vm t.heap → ReturnedEndW s (.returned v) t L rm.cells rm.slots → P (.returned v) t) → Go p e below P s₁ (entryFrame m as maxL)) : MeetsH l Z EL y bytes maxL ret rm as h0 Q := by
  intro ws
  refine MetFree.of_bodySF hpl hisR ?_
  intro p e s m args below meth c s₁ Bd hml0 hP hK
  obtain ⟨rfl, hZ, hh, hH⟩ := hP
  exact body p e s m below meth c s₁ _ Bd.exec Bd.bytes hml0 hZ (findClass_of_methodNamed Bd.named) (name_of_methodNamed Bd.named Bd.method).1 Bd.returns (BodyLoose.notSynchronized Bd) (Stand.of_body Bd) (by rw [← hh, Bd.state]; rfl) ((State.WarmedH.refl s).since _) (CHr.refl hH) (fun v t L hq hc hf => ⟨v, L, rfl, hq, by rw [hh]; exact hc, hf⟩)
section HeldCalls
variable {p : Program} {l : Launch} {e : Env} {R : Room} {s : State} {m : MethodId} {args : Array Value} {below : List Frame} {meth : Method} {c : Code} {T : State} {locs : List Loc} {cells slots : Nat} {Z : State} {a0 : Array Value} {h h0 : Heap} {P : Outcome → State → Prop} {EL : List (String × Nat)} {vm0 : Vm} {k0 : Nat}
theorem goSH (X : Stand p l e R (s.setVm vm0) m args below meth c T locs cells slots) (hx : p.tables.exec = Jvm.exec) (hZ : Z.Warmed39 vm0) {own : String} {index : Nat} {y : MethodName} {bytes : ByteArray} {maxL : Nat} {ret : Option FieldType} (hown : vm0.findClass own = some m.cls)
    (w1 : (Jvm.Cond.methodLink own index y).before a0 Z = true) (w2 : (Jvm.Cond.static y).before a0 Z = true) (w3 : (Jvm.Cond.initialized y.cls).before a0 Z = true) (w4 : (Jvm.Cond.code y bytes maxL ret).before a0 Z = true) (hy : y.cls ≠ "java/lang/invoke/MethodHandle" ∧ y.cls ≠ "java/lang/invoke/VarHandle")
    {W C S : Nat} {rm : Room} {as : Array Value} {Q : Option Value → Heap → List Loc → Prop} (M : MeetsH l Z EL y bytes maxL ret rm as h Q) (hC : rm.cells = C) (hSl : rm.slots = S) (hf : rm.frames + 1 ≤ R.frames) (hl : W + (maxL + 11) + rm.locals ≤ R.locals) (hS : s.Since vm0 k0) (hk : k0 ≤ h.size) (hEL : EW Z a0 EL) (H : CHv Z EL vm0 h) (eT : T.heap = h) {pc : Nat} {Ls : Array Slot} {st argsL rest : List Value} (hml : Ls.size = c.maxLocals)
    (hlen : ∀ sig, parseMethodDescriptor y.desc = some sig → argsL.length = sig.parameters.length) (hst : st = argsL.reverse ++ rest) (has : argsL.toArray = as) (hd : decode c.code pc = .ok (.invokestatic index, 3)) (hW : (rest.map fun v => v.category).sum ≤ W) (hc : cells + C ≤ R.cells) (hs : slots + S ≤ R.slots)
    (k : ∀ v T' L, Stand p l e R (s.setVm T'.vm) m args below meth c T' (locs ++ L) (cells + C) (slots + S) → Q v T'.heap L → s.Since T'.vm T'.heap.size → Z.Warmed39 (s.setVm T'.vm).vm → (s.setVm T'.vm).vm.findClass own = some m.cls → CHr Z EL vm0 h T'.vm T'.heap → Go p e below P T' (mkF m (pc + 3) Ls (v.toList ++ rest))) : Go p e below P T (mkF m pc Ls st) := by
  subst hC hSl
  have mvs : ∀ {d : Jvm.Cond}, d.before a0 Z = true → (d.onTables && d.keepsFace) = true → d.before args (s.setVm vm0) = true := fun q r => mvT (s := s.setVm vm0) hZ q r
  obtain ⟨v, _, ⟨T', L', k', n'⟩, hW1, X', hS', hg', ⟨Lc, hQ, l1, l2, l3, hR⟩, stp⟩ := callSS X hx (own := own) hown (mvs w1 (by first | rfl | simp [Cond.onTables, Cond.keepsFace, Cond.keeps, Cond.steady])) (mvs w2 (by first | rfl | simp [Cond.onTables, Cond.keepsFace, Cond.keeps, Cond.steady])) (mvs w3 (by first | rfl | simp [Cond.onTables, Cond.keepsFace, Cond.keeps, Cond.steady])) (mvs w4 (by first | rfl | simp [Cond.onTables, Cond.keepsFace, Cond.keeps, Cond.steady])) hy (backOfSH (W := W) (M []) hZ w4 w3 hf hl hEL H) (g := mkF m pc Ls st) rfl hml hlen hst (by show 2 * 0 + _ ≤ _; simpa using hW) hd (fun _ _ => ⟨has, eT, hc, hs⟩)
  dsimp only [Pt.U, Pt.locs, Pt.cells, Pt.slots] at X' l1 l2 l3 stp hQ hR hS' hg'
  subst l1 l2 l3
  have hS2 : s.Since T'.vm T'.heap.size := hS.trans hS' (Nat.le_trans hk (by rw [← eT]; exact hg'))
  exact Go.of (fun _ z => stp.trans z) (k v T' Lc X' hQ hS2 (State.Warmed39.trans (t := s.setVm vm0) hZ hS'.1) (by rw [show (s.setVm T'.vm).vm = T'.vm from rfl, hS'.1.alike.findClass]; exact hown) hR)
theorem goIH (X : Stand p l e R (s.setVm vm0) m args below meth c T locs cells slots) (hx : p.tables.exec = Jvm.exec) (hZ : Z.Warmed39 vm0) {own : String} {index : Nat} {y : MethodName} {bytes : ByteArray} {maxL : Nat} (hn : y.name = "<init>") (hown : vm0.findClass own = some m.cls)
    (w1 : (Jvm.Cond.methodLink own index y).before a0 Z = true) (w2 : (Jvm.Cond.instanceMethod y).before a0 Z = true) (w3 : (Jvm.Cond.initialized y.cls).before a0 Z = true) (w4 : (Jvm.Cond.code y bytes maxL none).before a0 Z = true) (hy : y.cls ≠ "java/lang/invoke/MethodHandle" ∧ y.cls ≠ "java/lang/invoke/VarHandle")
    {W C S : Nat} {rm : Room} {as : Array Value} {Q : Option Value → Heap → List Loc → Prop} (M : MeetsH l Z EL y bytes maxL none rm as h Q) (hC : rm.cells = C) (hSl : rm.slots = S) (hf : rm.frames + 1 ≤ R.frames) (hl : W + (maxL + 11) + rm.locals ≤ R.locals) (hS : s.Since vm0 k0) (hk : k0 ≤ h.size) (hEL : EW Z a0 EL) (H : CHv Z EL vm0 h) (eT : T.heap = h) {pc : Nat} {Ls : Array Slot} {a : Addr} {st argsL rest : List Value} (hml : Ls.size = c.maxLocals)
    (hlen : ∀ sig, parseMethodDescriptor y.desc = some sig → argsL.length = sig.parameters.length) (hst : st = argsL.reverse ++ .ref a :: rest) (has : (.ref a :: argsL).toArray = as) (hd : decode c.code pc = .ok (.invokespecial index, 3)) (hW : (rest.map fun v => v.category).sum ≤ W) (hc : cells + C ≤ R.cells) (hs : slots + S ≤ R.slots)
    (k : ∀ v T' L, Stand p l e R (s.setVm T'.vm) m args below meth c T' (locs ++ L) (cells + C) (slots + S) → Q v T'.heap L → s.Since T'.vm T'.heap.size → Z.Warmed39 (s.setVm T'.vm).vm → (s.setVm T'.vm).vm.findClass own = some m.cls → CHr Z EL vm0 h T'.vm T'.heap → Go p e below P T' (mkF m (pc + 3) Ls (v.toList ++ rest))) : Go p e below P T (mkF m pc Ls st) := by
  subst hC hSl
  have mvs : ∀ {d : Jvm.Cond}, d.before a0 Z = true → (d.onTables && d.keepsFace) = true → d.before args (s.setVm vm0) = true := fun q r => mvT (s := s.setVm vm0) hZ q r
  obtain ⟨v, _, ⟨T', L', k', n'⟩, hW1, X', hS', hg', ⟨Lc, hQ, l1, l2, l3, hR⟩, stp⟩ := X.specialBackS hx (own := own) hn hown (mvs w1 (by first | rfl | simp [Cond.onTables, Cond.keepsFace, Cond.keeps, Cond.steady])) (mvs w2 (by first | rfl | simp [Cond.onTables, Cond.keepsFace, Cond.keeps, Cond.steady])) (mvs w4 (by first | rfl | simp [Cond.onTables, Cond.keepsFace, Cond.keeps, Cond.steady])) hy (backOfSH (W := W) (M []) hZ w4 w3 hf hl hEL H) (g := mkF m pc Ls st) rfl hml (Steps.refl _) hlen hst (by show 2 * 0 + _ ≤ _; simpa using hW) hd (fun _ _ => ⟨has, eT, hc, hs⟩)
  dsimp only [Pt.U, Pt.locs, Pt.cells, Pt.slots] at X' l1 l2 l3 stp hQ hR hS' hg'
  subst l1 l2 l3
  have hS2 : s.Since T'.vm T'.heap.size := hS.trans hS' (Nat.le_trans hk (by rw [← eT]; exact hg'))
  exact Go.of (fun _ z => stp.trans z) (k v T' Lc X' hQ hS2 (State.Warmed39.trans (t := s.setVm vm0) hZ hS'.1) (by rw [show (s.setVm T'.vm).vm = T'.vm from rfl, hS'.1.alike.findClass]; exact hown) hR)
theorem goRetH (X : Stand p l e R (s.setVm vm0) m args below meth c T locs cells slots) (hx : p.tables.exec = Jvm.exec) (hZ : Z.Warmed39 vm0) (hS : s.Since vm0 k0) (hk : k0 ≤ h.size) (hEL : EW Z a0 EL) (RH : CHr Z EL s.vm h0 vm0 h) {t : FieldType} (hret : meth.sig.returnType = some t) (hlk : meth.locks = false) {pc : Nat} {Ls : Array Slot} {C S : Nat} {w : Value} {rest : List Value} {i : Instr} {Q : Option Value → Heap → List Loc → Prop}
    (hn : narrow t w = w) (hi : (i = .ireturn ∧ (t = .int ∨ t = .boolean ∨ t = .byte ∨ t = .char ∨ t = .short) ∧ ∃ z, w = .int z) ∨ (i = .lreturn ∧ t = .long ∧ ∃ z, w = .long z) ∨ (i = .dreturn ∧ t = .double ∧ ∃ z, w = .double z) ∨ (i = .freturn ∧ t = .float ∧ ∃ z, w = .float z) ∨ (i = .areturn ∧ t.isReference = true ∧ w.isRef = true))
    (hd : decode c.code pc = .ok (i, 1)) (K : ∀ v t L, Q v t.heap L → CHr Z EL s.vm h0 t.vm t.heap → ReturnedEndW s (.returned v) t L C S → P (.returned v) t) (hc : cells ≤ C) (hs : slots ≤ S) (eT : T.heap = h) (hq : Q (some w) h locs) : Go p e below P T (mkF m pc Ls (w :: rest)) := by
  obtain ⟨fs, hr, hrun, hended, h1, h2, h3, h4⟩ := X.leaveW hS (by rw [eT]; exact hk) (v := some w) (fun q => by rw [hret] at q; cases q) hlk
  subst eT
  exact ⟨_, _, retOut X hx hret hn hi hd hr, hrun, hended, K _ _ _ hq (by have q := CHv.at X hZ hEL RH.1; exact RH.trans q) ⟨h1, h2, h3, h4.mono hc hs⟩⟩
theorem goRetIH (X : Stand p l e R (s.setVm vm0) m args below meth c T locs cells slots) (hx : p.tables.exec = Jvm.exec) (hZ : Z.Warmed39 vm0) (hS : s.Since vm0 k0) (hk : k0 ≤ h.size) (hEL : EW Z a0 EL) (RH : CHr Z EL s.vm h0 vm0 h) {t : FieldType} (hret : meth.sig.returnType = some t) (hlk : meth.locks = false) {pc : Nat} {Ls : Array Slot} {C S : Nat} {z : Int32} {rest : List Value} {Q : Option Value → Heap → List Loc → Prop}
    (hn : narrow t (.int z) = .int z) (ht : t = .int ∨ t = .boolean ∨ t = .byte ∨ t = .char ∨ t = .short) (hd : decode c.code pc = .ok (.ireturn, 1)) (K : ∀ v t L, Q v t.heap L → CHr Z EL s.vm h0 t.vm t.heap → ReturnedEndW s (.returned v) t L C S → P (.returned v) t) (hc : cells ≤ C) (hs : slots ≤ S) (eT : T.heap = h) (hq : Q (some (.int z)) h locs) : Go p e below P T (mkF m pc Ls (.int z :: rest)) :=
  goRetH X hx hZ hS hk hEL RH hret hlk hn (Or.inl ⟨rfl, ht, z, rfl⟩) hd K hc hs eT hq
theorem goRetRH (X : Stand p l e R (s.setVm vm0) m args below meth c T locs cells slots) (hx : p.tables.exec = Jvm.exec) (hZ : Z.Warmed39 vm0) (hS : s.Since vm0 k0) (hk : k0 ≤ h.size) (hEL : EW Z a0 EL) (RH : CHr Z EL s.vm h0 vm0 h) {t : FieldType} (hret : meth.sig.returnType = some t) (ht : t.isReference = true) (hlk : meth.locks = false) {pc : Nat} {Ls : Array Slot} {C S : Nat} {w : Value} {rest : List Value} {Q : Option Value → Heap → List Loc → Prop}
    (hw : w.isRef = true) (hn : narrow t w = w) (hd : decode c.code pc = .ok (.areturn, 1)) (K : ∀ v t L, Q v t.heap L → CHr Z EL s.vm h0 t.vm t.heap → ReturnedEndW s (.returned v) t L C S → P (.returned v) t) (hc : cells ≤ C) (hs : slots ≤ S) (eT : T.heap = h) (hq : Q (some w) h locs) : Go p e below P T (mkF m pc Ls (w :: rest)) :=
  goRetH X hx hZ hS hk hEL RH hret hlk hn (Or.inr (Or.inr (Or.inr (Or.inr ⟨rfl, ht, hw⟩)))) hd K hc hs eT hq
theorem goRet0H (X : Stand p l e R (s.setVm vm0) m args below meth c T locs cells slots) (hx : p.tables.exec = Jvm.exec) (hZ : Z.Warmed39 vm0) (hS : s.Since vm0 k0) (hk : k0 ≤ h.size) (hEL : EW Z a0 EL) (RH : CHr Z EL s.vm h0 vm0 h) (hret : meth.sig.returnType = none) (hlk : meth.locks = false) {pc : Nat} {Ls : Array Slot} {C S : Nat} {Q : Option Value → Heap → List Loc → Prop}
    (hd : decode c.code pc = .ok (.return_, 1)) (K : ∀ v t L, Q v t.heap L → CHr Z EL s.vm h0 t.vm t.heap → ReturnedEndW s (.returned v) t L C S → P (.returned v) t) (hc : cells ≤ C) (hs : slots ≤ S) (eT : T.heap = h) (hq : Q none h locs) : Go p e below P T (mkF m pc Ls []) := by
  obtain ⟨fs, hr, hrun, hended, h1, h2, h3, h4⟩ := X.leaveW hS (by rw [eT]; exact hk) (v := none) (fun _ => rfl) hlk
  subst eT
  exact ⟨_, _, X.returnOut hx hret hd hr, hrun, hended, K _ _ _ hq (by have q := CHv.at X hZ hEL RH.1; exact RH.trans q) ⟨h1, h2, h3, h4.mono hc hs⟩⟩
end HeldCalls
theorem safeArv {Z : State} {EL : List (String × Nat)} {vm : Vm} {h : Heap} {x : Addr} {k : ClassId} {ty : FieldType} {n : Int32} {vs : List Value} {d : Value} (hal : Z.vm.Alike vm) (A : Arv Z h x k ty n vs d) (ht : ty ≠ .byte) : Safe Z EL vm h x := by
  obtain ⟨cl, A, -⟩ := A
  exact Safe.arr hal A ht
theorem safeNull {Z : State} {EL : List (String × Nat)} {vm : Vm} {h : Heap} {x : Addr} (hal : Z.vm.Alike vm) (E : Exa Z h x "java/lang/String") (V : Fld Z h x "java/lang/String" "value" "[B" .null) : Safe Z EL vm h x := fun B => by
  obtain ⟨cell, k, e1, e2, e3, -, -⟩ := E
  obtain ⟨p, -, u, a, -, q, -, F, rfl | rfl⟩ := B
  · obtain ⟨cS, ⟨⟨s1, s2, s3, ⟨cv, kv, iv, s4, s4'⟩, ⟨cc, kc, ic, s5, s5'⟩, s6, s7, s8, s9, s10, s11⟩, hfS, hcS⟩, -⟩ := F
    obtain ⟨kv', z4⟩ := Jvm.RoadKit.ff_back (U := Wst Z vm h) hal s4
    have V2 : Fld Z h q.sa "java/lang/String" "value" "[B" (.ref q.sd) := ⟨q.sC, cv, kv', iv, q.fSV, s1, z4, s6, s2, s3, by rw [← hal.assignable]; exact s4', s8⟩
    exact Fld.ne V V2 (by simp) rfl
  · cases (show h[q.sd]? = some q.SA from F.hd).symm.trans e1
    obtain ⟨cS, -, -, f, -⟩ := F
    rw [show (Wst Z vm h).vm = vm from rfl, hal.findClass] at f
    obtain ⟨k1, q1, q2⟩ := Vm.findClass_spec f
    obtain ⟨k2, q3, q4⟩ := Vm.findClass_spec e2
    cases q1.symm.trans q3
    exact absurd (q2.symm.trans q4) (by decide)
theorem strT_ne {Z : State} {a0 : Array Value} {h : Heap} {a t x : Addr} {cs : List Int32} {C : String} {n : Nat} (F : Str Z h a t cs) (E : Exa Z h x C) (w : (Jvm.Cond.instantiable C n).before a0 Z = true) : t ≠ x := by
  obtain ⟨kb, cd, N, vs, E', V, C', A, g⟩ := F
  exact Ne.symm (Exa.neArv E A w)
theorem strA_ne {Z : State} {h : Heap} {a t x : Addr} {cs : List Int32} {C : String} (F : Str Z h a t cs) (E : Exa Z h x C) (hn : "java/lang/String" ≠ C) : a ≠ x := ne_exa F.exa E hn
theorem str0 {Z : State} {h : Heap} {a t : Addr} {k : ClassId} (E : Exa Z h a "java/lang/String") (V : Fld Z h a "java/lang/String" "value" "[B" (.ref t)) (C : Fld Z h a "java/lang/String" "coder" "B" (.int (0 : Int32))) (A : Arv Z h t k .byte (0 : Int32) [] (.int (0 : Int32))) : Str Z h a t [] :=
  ⟨k, 0, 0, [], E, V, C, A, Or.inl ⟨rfl, rfl, rfl, by simp⟩, by simp, by simp⟩
end W
end Jvm.Pilot.@@N@@
namespace Jvm.Pilot.@@N@@
open Jvm Jvm.ClassFile Sem Op Lib Jvm.Free Jvm.Stand Jvm.LawKit Jvm.RoadKit Bundle Jvm.Pilot.@@N@@.Jvm.D Jvm.Pilot.@@N@@.W
theorem m255 (x : Int32) : ¬ (x &&& (255 : Int32)).toUInt32.toUInt16.toUInt32.toInt32 < 0 ∧ ¬ (255 : Int32) < (x &&& (255 : Int32)).toUInt32.toUInt16.toUInt32.toInt32 := by
  rw [i2c_mask]
  have h := c_mask x 255 8 (by decide) (by decide)
  have e1 : (0 : Int32).toInt = 0 := by decide
  have e2 : (255 : Int32).toInt = 255 := by decide
  rw [Int32.lt_iff_toInt_lt, Int32.lt_iff_toInt_lt, h, e1, e2]; omega
theorem narC (x : Int32) : nar .char (x.toUInt32.toUInt16.toUInt32.toInt32) = x.toUInt32.toUInt16.toUInt32.toInt32 := by
  have h1 := c_i2c x
  have h2 := c_i2c (x.toUInt32.toUInt16.toUInt32.toInt32)
  show x.toUInt32.toUInt16.toUInt32.toInt32.toUInt32.toUInt16.toUInt32.toInt32 = x.toUInt32.toUInt16.toUInt32.toInt32
  apply Int32.toInt_inj.mp
  omega

theorem noAsg {Z : State} {a0 : Array Value} {C S K : String} {n : Nat} (w : (Jvm.Cond.superclass C S).before a0 Z = true) (wo : (Jvm.Cond.noSuperclass S).before a0 Z = true) (wi : (Jvm.Cond.instantiable K n).before a0 Z = true) (hn1 : C ≠ K) (hn2 : S ≠ K) : ∃ c t, Z.vm.findClass C = some c ∧ Z.vm.findClass K = some t ∧ Z.vm.assignable c t = false := by
  obtain ⟨t, k', g0, g2, g5, g7, -⟩ := Cond.instantiable_spec wi
  replace g7 := (Bool.or_eq_false_iff.mp g7).1
  obtain ⟨c, h0⟩ := found_sup w
  obtain ⟨p, k, kp, h1, h2, h3, h4, h5, -, h7⟩ := Cond.superclass_spec h0 w
  obtain ⟨o, ko, o1, o2, o3, -, -⟩ := Cond.noSuperclass_spec wo
  cases o1.symm.trans h1
  have ne := ids_ne h0 g0 hn1
  have ne2 := ids_ne h1 g0 hn2
  have n2 : ∀ fuel, Z.vm.isSubclassAux fuel p t = false := fun fuel => by
    cases fuel with
    | zero => rfl
    | succ f => simp [Vm.isSubclassAux, ne2, o2, o3]
  have n3 : ∀ fuel, Z.vm.isSubclassAux fuel c t = false := fun fuel => by
    cases fuel with
    | zero => rfl
    | succ f => simp [Vm.isSubclassAux, ne, h2, h4, n2]
  refine ⟨c, t, h0, g0, ?_⟩
  show Z.vm.assignableAux (255 + 1) c t = false
  simp [Vm.assignableAux, ne, h2, g2, h5, g5, g7, Vm.isSubclass, n3]

theorem boolNar {p : Int32} (h : p = 0 ∨ p = 1) : narrow .boolean (.int p) = .int p ∧ fits .boolean (.int p) = true := by rcases h with rfl | rfl <;> decide
theorem bi01 (φ : Prop) [Decidable φ] : bi φ = 0 ∨ bi φ = 1 := by unfold bi; split <;> simp
theorem bi_inj {φ ψ : Prop} [Decidable φ] [Decidable ψ] : bi φ = bi ψ ↔ (φ ↔ ψ) := by
  unfold bi; by_cases h : φ <;> by_cases k : ψ <;> simp [h, k]

def ln (x : Int32) : Int32 := if (((x.toUInt32 >>> ((16 : Int32) &&& 31).toUInt32).toInt32) &&& (3 : Int32)) = (3 : Int32) then (2 : Int32) else (((x.toUInt32 >>> ((16 : Int32) &&& 31).toUInt32).toInt32) &&& (3 : Int32))
def k0 (x : Int32) : Int32 := (x &&& (255 : Int32)).toUInt32.toUInt16.toUInt32.toInt32
def k1 (x : Int32) : Int32 := (((x.toUInt32 >>> ((8 : Int32) &&& 31).toUInt32).toInt32) &&& (255 : Int32)).toUInt32.toUInt16.toUInt32.toInt32
def mkCs (x : Int32) : List Int32 := if ln x = 0 then [] else if ln x = 1 then [k0 x] else [k0 x, k1 x]
theorem ln3 (x : Int32) : ln x = 0 ∨ ln x = 1 ∨ ln x = 2 := by
  unfold ln
  have h := c_mask (((x.toUInt32 >>> ((16 : Int32) &&& 31).toUInt32).toInt32)) 3 2 (by decide) (by decide)
  generalize (((x.toUInt32 >>> ((16 : Int32) &&& 31).toUInt32).toInt32) &&& (3 : Int32)) = z at h ⊢
  by_cases q : z = 3
  · rw [if_pos q]; exact Or.inr (Or.inr rfl)
  · rw [if_neg q]
    have e0 : (0 : Int32).toInt = 0 := by decide
    have e1 : (1 : Int32).toInt = 1 := by decide
    have e2 : (2 : Int32).toInt = 2 := by decide
    have e3 : (3 : Int32).toInt = 3 := by decide
    rw [← Int32.toInt_inj] at q ⊢
    rw [← Int32.toInt_inj, ← Int32.toInt_inj]
    omega
theorem same_iff (x y : Int32) : mkCs x = mkCs y ↔ ln x = ln y ∧ (ln x < (1 : Int32) ∨ k0 x = k0 y) ∧ (ln x < (2 : Int32) ∨ k1 x = k1 y) := by
  unfold mkCs
  rcases ln3 x with h | h | h <;> rcases ln3 y with g | g | g <;> simp [h, g] <;> decide

theorem pn_java_lang_String : plainName "java/lang/String" = true := by first | (simp [plainName, overriddenIn]; done) | decide +kernel
theorem hEL_1 {Z : State} {a0 : Array Value} (hw : ∀ d ∈ tables_1, d.before a0 Z = true) : EW Z a0 consts_1 := (EW.cons (hw _ (List.mem_of_getElem? (i := 24) rfl)) (by decide) EW.nil)
theorem ef_rm_initV0 (m : MethodId) (x0 : Addr) (x1 : Addr) (x2 : Int32) (x3 : Int32)  : entryFrame m #[(.ref x0), (.ref x1), (.int x2), (.int x3), .null] 6 = mkF m 0 #[.val (.ref x0), .val (.ref x1), .val (.int x2), .val (.int x3), .val .null, .unset] [] := by first | (simp [entryFrame, mkF, argsToLocals, Value.category]; done) | rfl
theorem d_jdk_42_method_149_code_0 : decode jdk_42_method_149_code 0 = .ok (.aload_n 0, 1) := by decide +kernel
theorem d_jdk_42_method_149_code_1 : decode jdk_42_method_149_code 1 = .ok (.invokespecial 1, 3) := by decide +kernel
theorem d_jdk_42_method_149_code_4 : decode jdk_42_method_149_code 4 = .ok (.iload_n 3, 1) := by decide +kernel
theorem d_jdk_42_method_149_code_5 : decode jdk_42_method_149_code 5 = .ok (.ifCond .ne 22, 3) := by decide +kernel
theorem d_jdk_42_method_149_code_8 : decode jdk_42_method_149_code 8 = .ok (.aload_n 0, 1) := by decide +kernel
theorem d_jdk_42_method_149_code_9 : decode jdk_42_method_149_code 9 = .ok (.ldc 7, 2) := by decide +kernel
theorem hw_sA {Z : State} {a0 : Array Value} (hw : ∀ d ∈ tables_1, d.before a0 Z = true) : ∀ d ∈ Bundle.stringAtoms, d.before a0 Z = true := fun d hd => hw d ((by decide +kernel : ∀ d ∈ Bundle.stringAtoms, d ∈ tables_1) d hd)
theorem d_jdk_42_method_149_code_11 : decode jdk_42_method_149_code 11 = .ok (.getfield 9, 3) := by decide +kernel
theorem d_jdk_42_method_149_code_14 : decode jdk_42_method_149_code 14 = .ok (.putfield 9, 3) := by decide +kernel
theorem d_jdk_42_method_149_code_17 : decode jdk_42_method_149_code 17 = .ok (.aload_n 0, 1) := by decide +kernel
theorem d_jdk_42_method_149_code_18 : decode jdk_42_method_149_code 18 = .ok (.ldc 7, 2) := by decide +kernel
theorem d_jdk_42_method_149_code_20 : decode jdk_42_method_149_code 20 = .ok (.getfield 15, 3) := by decide +kernel
theorem d_jdk_42_method_149_code_23 : decode jdk_42_method_149_code 23 = .ok (.putfield 15, 3) := by decide +kernel
theorem d_jdk_42_method_149_code_26 : decode jdk_42_method_149_code 26 = .ok (.return_, 1) := by decide +kernel
set_option maxRecDepth 65536 in
set_option maxHeartbeats 40000000 in
theorem rm_initV0 (l : Launch) (Z : State) (a0 : Array Value) (hw : ∀ d ∈ tables_1, d.before a0 Z = true) (a1 a2 : Addr) (h0 : Heap) (E_a1 : Exa Z h0 a1 "java/lang/String") (F_value : Fld Z h0 a1 "java/lang/String" "value" "[B" .null) (F_coder : Fld Z h0 a1 "java/lang/String" "coder" "B" (.int (0 : Int32))) :
    MeetsH l Z consts_1 (⟨"java/lang/String", "<init>", "([CIILjava/lang/Void;)V"⟩ : MethodName) jdk_42_method_149_code 6 none ({ frames := 1, cells := 4, slots := 8, locals := 12 } : Room) #[(.ref a1), (.ref a2), (.int (0 : Int32)), (.int (0 : Int32)), .null] h0 (fun v h L => v = none ∧ Mv h0 h [a1] L ∧ ∃ t, Str Z h a1 t []) := by
  refine MeetsH.of (plainFor_of_name pn_java_lang_String) ?_
  intro p e s m below meth c s₁ P hx hby hml hZ hown hnm hret hlk X0 e0 hS RH K
  have hk : h0.size ≤ h0.size := Nat.le_refl _
  replace hZ : Z.Warmed39 (s.setVm s.vm).vm := hZ
  replace hown : (s.setVm s.vm).vm.findClass "java/lang/String" = some m.cls := hown
  have M0 : Mv h0 h0 [a1] [] := Mv.refl _ _
  refine Go.cast (ef_rm_initV0 m a1 a2 (0 : Int32) (0 : Int32) ) ?_
  have Sf_a1 := safeNull (EL := consts_1) hZ.alike E_a1 F_value
  refine Go.of (T' := s₁) (f' := (mkF m 1 #[.val (.ref a1), .val (.ref a2), .val (.int (0 : Int32)), .val (.int (0 : Int32)), .val .null, .unset] [(.ref a1)])) (fun _ k => XS.aloadN X0.here hx rfl (hb hby d_jdk_42_method_149_code_0) rfl rfl k) ?_
  obtain ⟨T1, X1, e1, st1⟩ := initO X0 hx hZ hown (hw _ (List.mem_of_getElem? (i := 21) rfl)) (hw _ (List.mem_of_getElem? (i := 22) rfl)) (hw _ (List.mem_of_getElem? (i := 23) rfl)) e0 (g := (mkF m 1 #[.val (.ref a1), .val (.ref a2), .val (.int (0 : Int32)), .val (.int (0 : Int32)), .val .null, .unset] [(.ref a1)])) rfl (by rw [hml]; rfl) rfl (hb hby d_jdk_42_method_149_code_1) (by decide) (W := 0) (by show 2 * 0 + _ ≤ _; exact Nat.le_of_eq rfl) (by decide)
  refine Go.of (T' := T1) (f' := (mkF m 4 #[.val (.ref a1), .val (.ref a2), .val (.int (0 : Int32)), .val (.int (0 : Int32)), .val .null, .unset] [])) st1 ?_
  refine Go.of (T' := T1) (f' := (mkF m 5 #[.val (.ref a1), .val (.ref a2), .val (.int (0 : Int32)), .val (.int (0 : Int32)), .val .null, .unset] [(.int (0 : Int32))])) (fun _ k => XS.iloadN X1.here hx rfl (hb hby d_jdk_42_method_149_code_4) rfl k) ?_
  refine Go.of (T' := T1) (f' := (mkF m 8 #[.val (.ref a1), .val (.ref a2), .val (.int (0 : Int32)), .val (.int (0 : Int32)), .val .null, .unset] [])) (fun _ k => XS.ifNo X1.here hx rfl (hb hby d_jdk_42_method_149_code_5) rfl (by decide) k) ?_
  refine Go.of (T' := T1) (f' := (mkF m 9 #[.val (.ref a1), .val (.ref a2), .val (.int (0 : Int32)), .val (.int (0 : Int32)), .val .null, .unset] [(.ref a1)])) (fun _ k => XS.aloadN X1.here hx rfl (hb hby d_jdk_42_method_149_code_8) rfl rfl k) ?_
  obtain ⟨sa2, T2, h2, k2, sb2, kb2, X2, e2, E2, hS2, hk2, hZ2, hown2, E_sa2, F_cd2, F_vl2, V_sb2, -, -, A2, -, hne2, st2⟩ := ldcCH X1 hx hZ hown (hw _ (List.mem_of_getElem? (i := 24) rfl)) (hw_sA hw) e1 hS hk (hEL_1 hw) (by decide) RH.1 (vs := []) (z := (0 : Int32)) ⟨by decide, by decide⟩ (by decide) (by decide) (g := (mkF m 9 #[.val (.ref a1), .val (.ref a2), .val (.int (0 : Int32)), .val (.int (0 : Int32)), .val .null, .unset] [(.ref a1)])) rfl (hb hby d_jdk_42_method_149_code_9) (n := 0) (by decide) (by decide) (by decide) (by decide)
  have K2 := keepE E2
  have M2 := M0.ext E2
  clear hS hk
  replace Sf_a1 := CHr.safe A2 E_a1.lt Sf_a1
  replace RH := RH.trans A2
  replace E_a1 := E_a1.keep K2
  replace F_value := F_value.keep K2 nin0
  replace F_coder := F_coder.keep K2 nin0
  have hS := hS2
  have hk := hk2
  replace hZ := hZ2
  replace hown := hown2
  have ne_a1_sa2 := (hne2 _ Sf_a1).1
  have ne_a1_sb2 := (hne2 _ Sf_a1).2
  refine Go.of (T' := T2) (f' := (mkF m 11 #[.val (.ref a1), .val (.ref a2), .val (.int (0 : Int32)), .val (.int (0 : Int32)), .val .null, .unset] [(.ref sa2), (.ref a1)])) st2 ?_
  obtain ⟨T3, X3, e3, st3⟩ := getF X2 hx hZ hown (host := "") (Or.inl (hw _ (List.mem_of_getElem? (i := 30) rfl))) Via.refl e2 F_vl2 (g := (mkF m 11 #[.val (.ref a1), .val (.ref a2), .val (.int (0 : Int32)), .val (.int (0 : Int32)), .val .null, .unset] [(.ref sa2), (.ref a1)])) rfl rfl (hb hby d_jdk_42_method_149_code_11)
  refine Go.of (T' := T3) (f' := (mkF m 14 #[.val (.ref a1), .val (.ref a2), .val (.int (0 : Int32)), .val (.int (0 : Int32)), .val .null, .unset] [(.ref sb2), (.ref a1)])) st3 ?_
  obtain ⟨T4, h4, X4, e4, W4, st4⟩ := putF X3 hx hZ hown (host := "") (Or.inl (hw _ (List.mem_of_getElem? (i := 30) rfl))) Via.refl e3 F_value E_a1 (Or.inr ⟨(hw _ (List.mem_of_getElem? (i := 26) rfl)), rfl, hnm⟩) (hw _ (List.mem_of_getElem? (i := 11) rfl)) (ty := (.array .byte)) (by decide) rfl rfl (g := (mkF m 14 #[.val (.ref a1), .val (.ref a2), .val (.int (0 : Int32)), .val (.int (0 : Int32)), .val .null, .unset] [(.ref sb2), (.ref a1)])) rfl rfl (hb hby d_jdk_42_method_149_code_14)
  have K4 := Keep.of_wr W4
  have M4 := M2.wr W4 (Or.inl (List.mem_of_getElem? (i := 0) rfl))
  replace F_value := F_value.same W4
  replace F_coder := F_coder.other W4 (Or.inr (slot_ne (Or.inr (hw _ (List.mem_of_getElem? (i := 27) rfl))) (Or.inr (hw _ (List.mem_of_getElem? (i := 26) rfl))) (by decide) (t := .byte) (t' := (.array .byte)) (by decide) (by decide)))
  replace hk := Nat.le_trans hk (K4).1
  have hq5 : ∀ x ∈ ([a1] : List Addr), Safe Z consts_1 T2.vm h2 x := (sfS Sf_a1 sf0)
  have hs5 := CHr.keep (K4) hq5 RH.1
  replace Sf_a1 := Safe.keep (K4) hq5 RH.1 Sf_a1
  replace RH := RH.trans hs5
  replace E_a1 := E_a1.keep K4
  replace E_sa2 := E_sa2.keep K4
  replace F_cd2 := F_cd2.keep K4 (ninS (Ne.symm ne_a1_sa2) nin0)
  replace F_vl2 := F_vl2.keep K4 (ninS (Ne.symm ne_a1_sa2) nin0)
  replace V_sb2 := V_sb2.keep K4 (ninS (Ne.symm ne_a1_sb2) nin0)
  refine Go.of (T' := T4) (f' := (mkF m 17 #[.val (.ref a1), .val (.ref a2), .val (.int (0 : Int32)), .val (.int (0 : Int32)), .val .null, .unset] [])) st4 ?_
  refine Go.of (T' := T4) (f' := (mkF m 18 #[.val (.ref a1), .val (.ref a2), .val (.int (0 : Int32)), .val (.int (0 : Int32)), .val .null, .unset] [(.ref a1)])) (fun _ k => XS.aloadN X4.here hx rfl (hb hby d_jdk_42_method_149_code_17) rfl rfl k) ?_
  obtain ⟨sa6, T6, h6, k6, sb6, kb6, X6, e6, E6, hS6, hk6, hZ6, hown6, E_sa6, F_cd6, F_vl6, V_sb6, -, -, A6, -, hne6, st6⟩ := ldcCH X4 hx hZ hown (hw _ (List.mem_of_getElem? (i := 24) rfl)) (hw_sA hw) e4 hS hk (hEL_1 hw) (by decide) RH.1 (vs := []) (z := (0 : Int32)) ⟨by decide, by decide⟩ (by decide) (by decide) (g := (mkF m 18 #[.val (.ref a1), .val (.ref a2), .val (.int (0 : Int32)), .val (.int (0 : Int32)), .val .null, .unset] [(.ref a1)])) rfl (hb hby d_jdk_42_method_149_code_18) (n := 0) (by decide) (by decide) (by decide) (by decide)
  have K6 := keepE E6
  have M6 := M4.ext E6
  clear hS hk
  replace Sf_a1 := CHr.safe A6 E_a1.lt Sf_a1
  replace RH := RH.trans A6
  replace E_a1 := E_a1.keep K6
  replace F_value := F_value.keep K6 nin0
  replace F_coder := F_coder.keep K6 nin0
  replace E_sa2 := E_sa2.keep K6
  replace F_cd2 := F_cd2.keep K6 nin0
  replace F_vl2 := F_vl2.keep K6 nin0
  replace V_sb2 := V_sb2.keep K6 nin0
  have hS := hS6
  have hk := hk6
  replace hZ := hZ6
  replace hown := hown6
  have ne_a1_sa6 := (hne6 _ Sf_a1).1
  have ne_a1_sb6 := (hne6 _ Sf_a1).2
  refine Go.of (T' := T6) (f' := (mkF m 20 #[.val (.ref a1), .val (.ref a2), .val (.int (0 : Int32)), .val (.int (0 : Int32)), .val .null, .unset] [(.ref sa6), (.ref a1)])) st6 ?_
  obtain ⟨T7, X7, e7, st7⟩ := getF X6 hx hZ hown (host := "") (Or.inl (hw _ (List.mem_of_getElem? (i := 31) rfl))) Via.refl e6 F_cd6 (g := (mkF m 20 #[.val (.ref a1), .val (.ref a2), .val (.int (0 : Int32)), .val (.int (0 : Int32)), .val .null, .unset] [(.ref sa6), (.ref a1)])) rfl rfl (hb hby d_jdk_42_method_149_code_20)
  refine Go.of (T' := T7) (f' := (mkF m 23 #[.val (.ref a1), .val (.ref a2), .val (.int (0 : Int32)), .val (.int (0 : Int32)), .val .null, .unset] [(.int (0 : Int32)), (.ref a1)])) st7 ?_
  obtain ⟨T8, h8, X8, e8, W8, st8⟩ := putF X7 hx hZ hown (host := "") (Or.inl (hw _ (List.mem_of_getElem? (i := 31) rfl))) Via.refl e7 F_coder E_a1 (Or.inr ⟨(hw _ (List.mem_of_getElem? (i := 27) rfl)), rfl, hnm⟩) (hw _ (List.mem_of_getElem? (i := 11) rfl)) (ty := .byte) (by decide) rfl rfl (g := (mkF m 23 #[.val (.ref a1), .val (.ref a2), .val (.int (0 : Int32)), .val (.int (0 : Int32)), .val .null, .unset] [(.int (0 : Int32)), (.ref a1)])) rfl rfl (hb hby d_jdk_42_method_149_code_23)
  have K8 := Keep.of_wr W8
  have M8 := M6.wr W8 (Or.inl (List.mem_of_getElem? (i := 0) rfl))
  replace F_value := F_value.other W8 (Or.inr (slot_ne (Or.inr (hw _ (List.mem_of_getElem? (i := 26) rfl))) (Or.inr (hw _ (List.mem_of_getElem? (i := 27) rfl))) (by decide) (t := (.array .byte)) (t' := .byte) (by decide) (by decide)))
  replace F_coder := F_coder.same W8
  replace hk := Nat.le_trans hk (K8).1
  have hq9 : ∀ x ∈ ([a1] : List Addr), Safe Z consts_1 T6.vm h6 x := (sfS Sf_a1 sf0)
  have hs9 := CHr.keep (K8) hq9 RH.1
  replace Sf_a1 := Safe.keep (K8) hq9 RH.1 Sf_a1
  replace RH := RH.trans hs9
  replace E_a1 := E_a1.keep K8
  replace E_sa2 := E_sa2.keep K8
  replace F_cd2 := F_cd2.keep K8 (ninS (Ne.symm ne_a1_sa2) nin0)
  replace F_vl2 := F_vl2.keep K8 (ninS (Ne.symm ne_a1_sa2) nin0)
  replace V_sb2 := V_sb2.keep K8 (ninS (Ne.symm ne_a1_sb2) nin0)
  replace E_sa6 := E_sa6.keep K8
  replace F_cd6 := F_cd6.keep K8 (ninS (Ne.symm ne_a1_sa6) nin0)
  replace F_vl6 := F_vl6.keep K8 (ninS (Ne.symm ne_a1_sa6) nin0)
  replace V_sb6 := V_sb6.keep K8 (ninS (Ne.symm ne_a1_sb6) nin0)
  refine Go.of (T' := T8) (f' := (mkF m 26 #[.val (.ref a1), .val (.ref a2), .val (.int (0 : Int32)), .val (.int (0 : Int32)), .val .null, .unset] [])) st8 ?_
  exact goRet0H (Q := fun v h L => v = none ∧ Mv h0 h [a1] L ∧ ∃ t, Str Z h a1 t []) X8 hx hZ hS hk (hEL_1 hw) RH hret hlk (hb hby d_jdk_42_method_149_code_26) K (by decide) (by decide) e8 (⟨rfl, M8, sb2, str0 E_a1 F_value F_coder V_sb2⟩)
theorem ef_rm_init0 (m : MethodId) (x0 : Addr) (x1 : Addr)  : entryFrame m #[(.ref x0), (.ref x1)] 2 = mkF m 0 #[.val (.ref x0), .val (.ref x1)] [] := by first | (simp [entryFrame, mkF, argsToLocals, Value.category]; done) | rfl
theorem d_jdk_42_method_3_code_0 : decode jdk_42_method_3_code 0 = .ok (.aload_n 0, 1) := by decide +kernel
theorem d_jdk_42_method_3_code_1 : decode jdk_42_method_3_code 1 = .ok (.aload_n 1, 1) := by decide +kernel
theorem d_jdk_42_method_3_code_2 : decode jdk_42_method_3_code 2 = .ok (.iconst 0, 1) := by decide +kernel
theorem d_jdk_42_method_3_code_3 : decode jdk_42_method_3_code 3 = .ok (.aload_n 1, 1) := by decide +kernel
theorem d_jdk_42_method_3_code_4 : decode jdk_42_method_3_code 4 = .ok (.arraylength, 1) := by decide +kernel
theorem d_jdk_42_method_3_code_5 : decode jdk_42_method_3_code 5 = .ok (.aconst_null, 1) := by decide +kernel
theorem d_jdk_42_method_3_code_6 : decode jdk_42_method_3_code 6 = .ok (.invokespecial 27, 3) := by decide +kernel
theorem pd___CIILjava_lang_Void__V : parseMethodDescriptor "([CIILjava/lang/Void;)V" = some ⟨[(.array .char), .int, .int, (.object "java/lang/Void")], none⟩ := by decide +kernel
theorem d_jdk_42_method_3_code_9 : decode jdk_42_method_3_code 9 = .ok (.return_, 1) := by decide +kernel
set_option maxRecDepth 65536 in
set_option maxHeartbeats 40000000 in
theorem rm_init0 (l : Launch) (Z : State) (a0 : Array Value) (hw : ∀ d ∈ tables_1, d.before a0 Z = true) (a1 a2 : Addr) (ka : ClassId) (h0 : Heap) (E_a1 : Exa Z h0 a1 "java/lang/String") (F_value : Fld Z h0 a1 "java/lang/String" "value" "[B" .null) (F_coder : Fld Z h0 a1 "java/lang/String" "coder" "B" (.int (0 : Int32))) (V_a2 : Arv Z h0 a2 ka .char (0 : Int32) [] (.int (0 : Int32))) :
    MeetsH l Z consts_1 (⟨"java/lang/String", "<init>", "([C)V"⟩ : MethodName) jdk_42_method_3_code 2 none ({ frames := 2, cells := 4, slots := 8, locals := 29 } : Room) #[(.ref a1), (.ref a2)] h0 (fun v h L => v = none ∧ Mv h0 h [a1] L ∧ ∃ t, Str Z h a1 t []) := by
  refine MeetsH.of (plainFor_of_name pn_java_lang_String) ?_
  intro p e s m below meth c s₁ P hx hby hml hZ hown hnm hret hlk X0 e0 hS RH K
  have hk : h0.size ≤ h0.size := Nat.le_refl _
  replace hZ : Z.Warmed39 (s.setVm s.vm).vm := hZ
  replace hown : (s.setVm s.vm).vm.findClass "java/lang/String" = some m.cls := hown
  have M0 : Mv h0 h0 [a1] [] := Mv.refl _ _
  refine Go.cast (ef_rm_init0 m a1 a2 ) ?_
  have Sf_a1 := safeNull (EL := consts_1) hZ.alike E_a1 F_value
  have ne_a2_a1 : a2 ≠ a1 := Ne.symm (Exa.neArv E_a1 V_a2 (hw _ (List.mem_of_getElem? (i := 11) rfl)))
  refine Go.of (T' := s₁) (f' := (mkF m 1 #[.val (.ref a1), .val (.ref a2)] [(.ref a1)])) (fun _ k => XS.aloadN X0.here hx rfl (hb hby d_jdk_42_method_3_code_0) rfl rfl k) ?_
  refine Go.of (T' := s₁) (f' := (mkF m 2 #[.val (.ref a1), .val (.ref a2)] [(.ref a2), (.ref a1)])) (fun _ k => XS.aloadN X0.here hx rfl (hb hby d_jdk_42_method_3_code_1) rfl rfl k) ?_
  refine Go.of (T' := s₁) (f' := (mkF m 3 #[.val (.ref a1), .val (.ref a2)] [(.int (0 : Int32)), (.ref a2), (.ref a1)])) (fun _ k => XS.iconst X0.here hx rfl (hb hby d_jdk_42_method_3_code_2) k) ?_
  refine Go.of (T' := s₁) (f' := (mkF m 4 #[.val (.ref a1), .val (.ref a2)] [(.ref a2), (.int (0 : Int32)), (.ref a2), (.ref a1)])) (fun _ k => XS.aloadN X0.here hx rfl (hb hby d_jdk_42_method_3_code_3) rfl rfl k) ?_
  obtain ⟨cl1, Ar1, -, Sz1, Nn1, -, -⟩ := id V_a2
  refine Go.of (T' := s₁) (f' := (mkF m 5 #[.val (.ref a1), .val (.ref a2)] [(.int (0 : Int32)), (.int (0 : Int32)), (.ref a2), (.ref a1)])) (fun _ k => X0.arraylength hx (by rw [e0]; exact Ar1.1) (State.isArrayOf_alike hZ.alike Ar1.2.1) (g := (mkF m 4 #[.val (.ref a1), .val (.ref a2)] [(.ref a2), (.int (0 : Int32)), (.ref a2), (.ref a1)])) rfl rfl (hb hby d_jdk_42_method_3_code_4) _ (by rw [len_of Sz1 Nn1]; exact k)) ?_
  refine Go.of (T' := s₁) (f' := (mkF m 6 #[.val (.ref a1), .val (.ref a2)] [.null, (.int (0 : Int32)), (.int (0 : Int32)), (.ref a2), (.ref a1)])) (fun _ k => XS.aconstNull X0.here hx rfl (hb hby d_jdk_42_method_3_code_5) k) ?_
  refine goIH X0 hx hZ rfl hown (hw _ (List.mem_of_getElem? (i := 17) rfl)) (hw _ (List.mem_of_getElem? (i := 18) rfl)) (hw _ (List.mem_of_getElem? (i := 12) rfl)) (hw _ (List.mem_of_getElem? (i := 20) rfl)) (by decide) (W := 0) (C := 4) (S := 8) (rm_initV0 l Z a0 hw a1 a2 h0 E_a1 F_value F_coder ) rfl rfl (by decide) (by decide) hS hk (hEL_1 hw) RH.1 e0 (argsL := [(.ref a2), (.int (0 : Int32)), (.int (0 : Int32)), .null]) (rest := []) (by rw [hml]; rfl) (lenOf pd___CIILjava_lang_Void__V rfl) rfl rfl (hb hby d_jdk_42_method_3_code_6) (Nat.le_of_eq rfl) (by decide) (by decide) ?_
  intro v2 T2 L2 X2 hQ2 hS2 hZ2 hown2 A2
  obtain ⟨h2, e2⟩ : ∃ z, T2.heap = z := ⟨_, rfl⟩
  rw [e2] at hQ2 hS2 A2
  obtain ⟨rfl, Mc2, t2, S2⟩ := hQ2
  have M2 := M0.app Mc2 (allS (Or.inl (List.mem_of_getElem? (i := 0) rfl)) all0)
  clear hS hk
  replace Sf_a1 := CHr.safe A2 E_a1.lt Sf_a1
  replace RH := RH.trans A2
  replace E_a1 := E_a1.keep Mc2.1
  replace V_a2 := V_a2.keep Mc2.1 (ninS ne_a2_a1 nin0)
  have S_a1 := S2
  have hS := hS2
  have hk : h2.size ≤ h2.size := Nat.le_refl _
  replace hZ := hZ2
  replace hown := hown2
  show Go p e below P T2 (mkF m 9 #[.val (.ref a1), .val (.ref a2)] [])
  exact goRet0H (Q := fun v h L => v = none ∧ Mv h0 h [a1] L ∧ ∃ t, Str Z h a1 t []) X2 hx hZ hS hk (hEL_1 hw) RH hret hlk (hb hby d_jdk_42_method_3_code_9) K (by decide) (by decide) e2 (⟨rfl, M2, t2, S_a1⟩)
theorem pn_com_example_sunset_grant_sunsetgrant_base_Access : plainName "com/example/sunset_grant/sunsetgrant/base/Access" = true := by first | (simp [plainName, overriddenIn]; done) | decide +kernel
theorem ef_rm_access (m : MethodId) (x0 : Addr) (x1 : Addr) (x2 : Addr) (x3 : Addr)  : entryFrame m #[(.ref x0), (.ref x1), (.ref x2), (.ref x3)] 4 = mkF m 0 #[.val (.ref x0), .val (.ref x1), .val (.ref x2), .val (.ref x3)] [] := by first | (simp [entryFrame, mkF, argsToLocals, Value.category]; done) | rfl
theorem d_prog_1_method_1_code_0 : decode prog_1_method_1_code 0 = .ok (.aload_n 0, 1) := by decide +kernel
theorem d_prog_1_method_1_code_1 : decode prog_1_method_1_code 1 = .ok (.invokespecial 1, 3) := by decide +kernel
theorem d_prog_1_method_1_code_4 : decode prog_1_method_1_code 4 = .ok (.aload_n 0, 1) := by decide +kernel
theorem d_prog_1_method_1_code_5 : decode prog_1_method_1_code 5 = .ok (.aload_n 1, 1) := by decide +kernel
theorem d_prog_1_method_1_code_6 : decode prog_1_method_1_code 6 = .ok (.putfield 7, 3) := by decide +kernel
theorem d_prog_1_method_1_code_9 : decode prog_1_method_1_code 9 = .ok (.aload_n 0, 1) := by decide +kernel
theorem d_prog_1_method_1_code_10 : decode prog_1_method_1_code 10 = .ok (.aload_n 2, 1) := by decide +kernel
theorem d_prog_1_method_1_code_11 : decode prog_1_method_1_code 11 = .ok (.putfield 13, 3) := by decide +kernel
theorem d_prog_1_method_1_code_14 : decode prog_1_method_1_code 14 = .ok (.aload_n 0, 1) := by decide +kernel
theorem d_prog_1_method_1_code_15 : decode prog_1_method_1_code 15 = .ok (.aload_n 3, 1) := by decide +kernel
theorem d_prog_1_method_1_code_16 : decode prog_1_method_1_code 16 = .ok (.putfield 16, 3) := by decide +kernel
theorem d_prog_1_method_1_code_19 : decode prog_1_method_1_code 19 = .ok (.return_, 1) := by decide +kernel
set_option maxRecDepth 65536 in
set_option maxHeartbeats 40000000 in
theorem rm_access (l : Launch) (Z : State) (a0 : Array Value) (hw : ∀ d ∈ tables_1, d.before a0 Z = true) (a1 : Addr) (a2 a3 a4 : Addr) (h0 : Heap) (E_a1 : Exa Z h0 a1 "com/example/sunset_grant/sunsetgrant/base/Access") (F_subject : Fld Z h0 a1 "com/example/sunset_grant/sunsetgrant/base/Access" "subject" "Ljava/lang/String;" .null) (F_object : Fld Z h0 a1 "com/example/sunset_grant/sunsetgrant/base/Access" "object" "Ljava/lang/String;" .null) (F_mode : Fld Z h0 a1 "com/example/sunset_grant/sunsetgrant/base/Access" "mode" "Ljava/lang/String;" .null)  :
    MeetsW l Z (⟨"com/example/sunset_grant/sunsetgrant/base/Access", "<init>", "(Ljava/lang/String;Ljava/lang/String;Ljava/lang/String;)V"⟩ : MethodName) prog_1_method_1_code 4 none ({ frames := 1, cells := 0, slots := 0, locals := 12 } : Room) #[(.ref a1), (.ref a2), (.ref a3), (.ref a4)] h0 (fun v h L => v = none ∧ Mv h0 h [a1] L ∧ Exa Z h a1 "com/example/sunset_grant/sunsetgrant/base/Access" ∧ Fld Z h a1 "com/example/sunset_grant/sunsetgrant/base/Access" "subject" "Ljava/lang/String;" (.ref a2) ∧ Fld Z h a1 "com/example/sunset_grant/sunsetgrant/base/Access" "object" "Ljava/lang/String;" (.ref a3) ∧ Fld Z h a1 "com/example/sunset_grant/sunsetgrant/base/Access" "mode" "Ljava/lang/String;" (.ref a4)) := by
  refine MeetsW.of (plainFor_of_name pn_com_example_sunset_grant_sunsetgrant_base_Access) ?_
  intro p e s m below meth c s₁ P hx hby hml hZ hown hnm hret hlk X0 e0 K
  have M0 : Mv h0 h0 [a1] [] := Mv.refl _ _
  refine Go.cast (ef_rm_access m a1 a2 a3 a4 ) ?_
  refine Go.of (T' := s₁) (f' := (mkF m 1 #[.val (.ref a1), .val (.ref a2), .val (.ref a3), .val (.ref a4)] [(.ref a1)])) (fun _ k => XS.aloadN X0.here hx rfl (hb hby d_prog_1_method_1_code_0) rfl rfl k) ?_
  obtain ⟨T1, X1, e1, st1⟩ := initO X0 hx hZ hown (hw _ (List.mem_of_getElem? (i := 35) rfl)) (hw _ (List.mem_of_getElem? (i := 22) rfl)) (hw _ (List.mem_of_getElem? (i := 23) rfl)) e0 (g := (mkF m 1 #[.val (.ref a1), .val (.ref a2), .val (.ref a3), .val (.ref a4)] [(.ref a1)])) rfl (by rw [hml]; rfl) rfl (hb hby d_prog_1_method_1_code_1) (by decide) (W := 0) (by show 2 * 0 + _ ≤ _; exact Nat.le_of_eq rfl) (by decide)
  refine Go.of (T' := T1) (f' := (mkF m 4 #[.val (.ref a1), .val (.ref a2), .val (.ref a3), .val (.ref a4)] [])) st1 ?_
  refine Go.of (T' := T1) (f' := (mkF m 5 #[.val (.ref a1), .val (.ref a2), .val (.ref a3), .val (.ref a4)] [(.ref a1)])) (fun _ k => XS.aloadN X1.here hx rfl (hb hby d_prog_1_method_1_code_4) rfl rfl k) ?_
  refine Go.of (T' := T1) (f' := (mkF m 6 #[.val (.ref a1), .val (.ref a2), .val (.ref a3), .val (.ref a4)] [(.ref a2), (.ref a1)])) (fun _ k => XS.aloadN X1.here hx rfl (hb hby d_prog_1_method_1_code_5) rfl rfl k) ?_
  obtain ⟨T2, h2, X2, e2, W2, st2⟩ := putF X1 hx hZ hown (host := "") (Or.inl (hw _ (List.mem_of_getElem? (i := 36) rfl))) Via.refl e1 F_subject E_a1 (Or.inr ⟨(hw _ (List.mem_of_getElem? (i := 37) rfl)), rfl, hnm⟩) (hw _ (List.mem_of_getElem? (i := 1) rfl)) (ty := (.object "java/lang/String")) (by decide) rfl rfl (g := (mkF m 6 #[.val (.ref a1), .val (.ref a2), .val (.ref a3), .val (.ref a4)] [(.ref a2), (.ref a1)])) rfl rfl (hb hby d_prog_1_method_1_code_6)
  have K2 := Keep.of_wr W2
  have M2 := M0.wr W2 (Or.inl (List.mem_of_getElem? (i := 0) rfl))
  replace F_subject := F_subject.same W2
  replace F_object := F_object.other W2 (Or.inr (slot_ne (Or.inr (hw _ (List.mem_of_getElem? (i := 39) rfl))) (Or.inr (hw _ (List.mem_of_getElem? (i := 37) rfl))) (by decide) (t := (.object "java/lang/String")) (t' := (.object "java/lang/String")) (by decide) (by decide)))
  replace F_mode := F_mode.other W2 (Or.inr (slot_ne (Or.inr (hw _ (List.mem_of_getElem? (i := 41) rfl))) (Or.inr (hw _ (List.mem_of_getElem? (i := 37) rfl))) (by decide) (t := (.object "java/lang/String")) (t' := (.object "java/lang/String")) (by decide) (by decide)))
  replace E_a1 := E_a1.keep K2
  refine Go.of (T' := T2) (f' := (mkF m 9 #[.val (.ref a1), .val (.ref a2), .val (.ref a3), .val (.ref a4)] [])) st2 ?_
  refine Go.of (T' := T2) (f' := (mkF m 10 #[.val (.ref a1), .val (.ref a2), .val (.ref a3), .val (.ref a4)] [(.ref a1)])) (fun _ k => XS.aloadN X2.here hx rfl (hb hby d_prog_1_method_1_code_9) rfl rfl k) ?_
  refine Go.of (T' := T2) (f' := (mkF m 11 #[.val (.ref a1), .val (.ref a2), .val (.ref a3), .val (.ref a4)] [(.ref a3), (.ref a1)])) (fun _ k => XS.aloadN X2.here hx rfl (hb hby d_prog_1_method_1_code_10) rfl rfl k) ?_
  obtain ⟨T3, h3, X3, e3, W3, st3⟩ := putF X2 hx hZ hown (host := "") (Or.inl (hw _ (List.mem_of_getElem? (i := 38) rfl))) Via.refl e2 F_object E_a1 (Or.inr ⟨(hw _ (List.mem_of_getElem? (i := 39) rfl)), rfl, hnm⟩) (hw _ (List.mem_of_getElem? (i := 1) rfl)) (ty := (.object "java/lang/String")) (by decide) rfl rfl (g := (mkF m 11 #[.val (.ref a1), .val (.ref a2), .val (.ref a3), .val (.ref a4)] [(.ref a3), (.ref a1)])) rfl rfl (hb hby d_prog_1_method_1_code_11)
  have K3 := Keep.of_wr W3
  have M3 := M2.wr W3 (Or.inl (List.mem_of_getElem? (i := 0) rfl))
  replace F_subject := F_subject.other W3 (Or.inr (slot_ne (Or.inr (hw _ (List.mem_of_getElem? (i := 37) rfl))) (Or.inr (hw _ (List.mem_of_getElem? (i := 39) rfl))) (by decide) (t := (.object "java/lang/String")) (t' := (.object "java/lang/String")) (by decide) (by decide)))
  replace F_object := F_object.same W3
  replace F_mode := F_mode.other W3 (Or.inr (slot_ne (Or.inr (hw _ (List.mem_of_getElem? (i := 41) rfl))) (Or.inr (hw _ (List.mem_of_getElem? (i := 39) rfl))) (by decide) (t := (.object "java/lang/String")) (t' := (.object "java/lang/String")) (by decide) (by decide)))
  replace E_a1 := E_a1.keep K3
  refine Go.of (T' := T3) (f' := (mkF m 14 #[.val (.ref a1), .val (.ref a2), .val (.ref a3), .val (.ref a4)] [])) st3 ?_
  refine Go.of (T' := T3) (f' := (mkF m 15 #[.val (.ref a1), .val (.ref a2), .val (.ref a3), .val (.ref a4)] [(.ref a1)])) (fun _ k => XS.aloadN X3.here hx rfl (hb hby d_prog_1_method_1_code_14) rfl rfl k) ?_
  refine Go.of (T' := T3) (f' := (mkF m 16 #[.val (.ref a1), .val (.ref a2), .val (.ref a3), .val (.ref a4)] [(.ref a4), (.ref a1)])) (fun _ k => XS.aloadN X3.here hx rfl (hb hby d_prog_1_method_1_code_15) rfl rfl k) ?_
  obtain ⟨T4, h4, X4, e4, W4, st4⟩ := putF X3 hx hZ hown (host := "") (Or.inl (hw _ (List.mem_of_getElem? (i := 40) rfl))) Via.refl e3 F_mode E_a1 (Or.inr ⟨(hw _ (List.mem_of_getElem? (i := 41) rfl)), rfl, hnm⟩) (hw _ (List.mem_of_getElem? (i := 1) rfl)) (ty := (.object "java/lang/String")) (by decide) rfl rfl (g := (mkF m 16 #[.val (.ref a1), .val (.ref a2), .val (.ref a3), .val (.ref a4)] [(.ref a4), (.ref a1)])) rfl rfl (hb hby d_prog_1_method_1_code_16)
  have K4 := Keep.of_wr W4
  have M4 := M3.wr W4 (Or.inl (List.mem_of_getElem? (i := 0) rfl))
  replace F_subject := F_subject.other W4 (Or.inr (slot_ne (Or.inr (hw _ (List.mem_of_getElem? (i := 37) rfl))) (Or.inr (hw _ (List.mem_of_getElem? (i := 41) rfl))) (by decide) (t := (.object "java/lang/String")) (t' := (.object "java/lang/String")) (by decide) (by decide)))
  replace F_object := F_object.other W4 (Or.inr (slot_ne (Or.inr (hw _ (List.mem_of_getElem? (i := 39) rfl))) (Or.inr (hw _ (List.mem_of_getElem? (i := 41) rfl))) (by decide) (t := (.object "java/lang/String")) (t' := (.object "java/lang/String")) (by decide) (by decide)))
  replace F_mode := F_mode.same W4
  replace E_a1 := E_a1.keep K4
  refine Go.of (T' := T4) (f' := (mkF m 19 #[.val (.ref a1), .val (.ref a2), .val (.ref a3), .val (.ref a4)] [])) st4 ?_
  exact goRet0 (Q := fun v h L => v = none ∧ Mv h0 h [a1] L ∧ Exa Z h a1 "com/example/sunset_grant/sunsetgrant/base/Access" ∧ Fld Z h a1 "com/example/sunset_grant/sunsetgrant/base/Access" "subject" "Ljava/lang/String;" (.ref a2) ∧ Fld Z h a1 "com/example/sunset_grant/sunsetgrant/base/Access" "object" "Ljava/lang/String;" (.ref a3) ∧ Fld Z h a1 "com/example/sunset_grant/sunsetgrant/base/Access" "mode" "Ljava/lang/String;" (.ref a4)) X4 hx hret hlk (hb hby d_prog_1_method_1_code_19) K (by decide) (by decide) e4 (⟨rfl, M4, E_a1, F_subject, F_object, F_mode⟩)
theorem ef_rm_accEq (m : MethodId) (x0 : Addr) (x1 : Addr)  : entryFrame m #[(.ref x0), (.ref x1)] 3 = mkF m 0 #[.val (.ref x0), .val (.ref x1), .unset] [] := by first | (simp [entryFrame, mkF, argsToLocals, Value.category]; done) | rfl
theorem d_prog_1_method_6_code_0 : decode prog_1_method_6_code 0 = .ok (.aload_n 1, 1) := by decide +kernel
theorem d_prog_1_method_6_code_1 : decode prog_1_method_6_code 1 = .ok (.instanceof 8, 3) := by decide +kernel
theorem d_prog_1_method_6_code_4 : decode prog_1_method_6_code 4 = .ok (.ifCond .eq 54, 3) := by decide +kernel
theorem d_prog_1_method_6_code_7 : decode prog_1_method_6_code 7 = .ok (.aload_n 1, 1) := by decide +kernel
theorem d_prog_1_method_6_code_8 : decode prog_1_method_6_code 8 = .ok (.checkcast 8, 3) := by decide +kernel
theorem d_prog_1_method_6_code_11 : decode prog_1_method_6_code 11 = .ok (.astore_n 2, 1) := by decide +kernel
theorem d_prog_1_method_6_code_12 : decode prog_1_method_6_code 12 = .ok (.aload_n 0, 1) := by decide +kernel
theorem d_prog_1_method_6_code_13 : decode prog_1_method_6_code 13 = .ok (.getfield 7, 3) := by decide +kernel
theorem d_prog_1_method_6_code_16 : decode prog_1_method_6_code 16 = .ok (.aload_n 2, 1) := by decide +kernel
theorem d_prog_1_method_6_code_17 : decode prog_1_method_6_code 17 = .ok (.getfield 7, 3) := by decide +kernel
theorem d_prog_1_method_6_code_20 : decode prog_1_method_6_code 20 = .ok (.invokevirtual 32, 3) := by decide +kernel
theorem hw_wordsEq {Z : State} {a0 : Array Value} (hw : ∀ d ∈ tables_1, d.before a0 Z = true) : ∀ d ∈ StrChars.Road.wordsEq, d.before a0 Z = true := fun d hd => hw d ((by decide +kernel : ∀ d ∈ StrChars.Road.wordsEq, d ∈ tables_1) d hd)
theorem pd__Ljava_lang_Object__Z : parseMethodDescriptor "(Ljava/lang/Object;)Z" = some ⟨[(.object "java/lang/Object")], some .boolean⟩ := by decide +kernel
theorem d_prog_1_method_6_code_23 : decode prog_1_method_6_code 23 = .ok (.ifCond .eq 35, 3) := by decide +kernel
theorem d_prog_1_method_6_code_26 : decode prog_1_method_6_code 26 = .ok (.aload_n 0, 1) := by decide +kernel
theorem d_prog_1_method_6_code_27 : decode prog_1_method_6_code 27 = .ok (.getfield 13, 3) := by decide +kernel
theorem d_prog_1_method_6_code_30 : decode prog_1_method_6_code 30 = .ok (.aload_n 2, 1) := by decide +kernel
theorem d_prog_1_method_6_code_31 : decode prog_1_method_6_code 31 = .ok (.getfield 13, 3) := by decide +kernel
theorem d_prog_1_method_6_code_34 : decode prog_1_method_6_code 34 = .ok (.invokevirtual 32, 3) := by decide +kernel
theorem d_prog_1_method_6_code_37 : decode prog_1_method_6_code 37 = .ok (.ifCond .eq 21, 3) := by decide +kernel
theorem d_prog_1_method_6_code_40 : decode prog_1_method_6_code 40 = .ok (.aload_n 0, 1) := by decide +kernel
theorem d_prog_1_method_6_code_41 : decode prog_1_method_6_code 41 = .ok (.getfield 16, 3) := by decide +kernel
theorem d_prog_1_method_6_code_44 : decode prog_1_method_6_code 44 = .ok (.aload_n 2, 1) := by decide +kernel
theorem d_prog_1_method_6_code_45 : decode prog_1_method_6_code 45 = .ok (.getfield 16, 3) := by decide +kernel
theorem d_prog_1_method_6_code_48 : decode prog_1_method_6_code 48 = .ok (.invokevirtual 32, 3) := by decide +kernel
theorem d_prog_1_method_6_code_51 : decode prog_1_method_6_code 51 = .ok (.ifCond .eq 7, 3) := by decide +kernel
theorem d_prog_1_method_6_code_54 : decode prog_1_method_6_code 54 = .ok (.iconst 1, 1) := by decide +kernel
theorem d_prog_1_method_6_code_55 : decode prog_1_method_6_code 55 = .ok (.goto 4, 3) := by decide +kernel
theorem d_prog_1_method_6_code_59 : decode prog_1_method_6_code 59 = .ok (.ireturn, 1) := by decide +kernel
theorem d_prog_1_method_6_code_58 : decode prog_1_method_6_code 58 = .ok (.iconst 0, 1) := by decide +kernel
set_option maxRecDepth 65536 in
set_option maxHeartbeats 40000000 in
theorem rm_accEq (l : Launch) (Z : State) (a0 : Array Value) (hw : ∀ d ∈ tables_1, d.before a0 Z = true) (a1 a2 s10 t10 s11 t11 s12 t12 s20 t20 s21 t21 s22 t22 : Addr) (c10 c11 c12 c20 c21 c22 : List Int32) (zc : Int32) (h0 : Heap) (E_a1 : Exa Z h0 a1 "com/example/sunset_grant/sunsetgrant/base/Access") (E_a2 : Exa Z h0 a2 "com/example/sunset_grant/sunsetgrant/base/Access") (F_subject_a1 : Fld Z h0 a1 "com/example/sunset_grant/sunsetgrant/base/Access" "subject" "Ljava/lang/String;" (.ref s10)) (S_subject_a1 : Str Z h0 s10 t10 c10) (F_object_a1 : Fld Z h0 a1 "com/example/sunset_grant/sunsetgrant/base/Access" "object" "Ljava/lang/String;" (.ref s11)) (S_object_a1 : Str Z h0 s11 t11 c11) (F_mode_a1 : Fld Z h0 a1 "com/example/sunset_grant/sunsetgrant/base/Access" "mode" "Ljava/lang/String;" (.ref s12)) (S_mode_a1 : Str Z h0 s12 t12 c12) (F_subject_a2 : Fld Z h0 a2 "com/example/sunset_grant/sunsetgrant/base/Access" "subject" "Ljava/lang/String;" (.ref s20)) (S_subject_a2 : Str Z h0 s20 t20 c20) (F_object_a2 : Fld Z h0 a2 "com/example/sunset_grant/sunsetgrant/base/Access" "object" "Ljava/lang/String;" (.ref s21)) (S_object_a2 : Str Z h0 s21 t21 c21) (F_mode_a2 : Fld Z h0 a2 "com/example/sunset_grant/sunsetgrant/base/Access" "mode" "Ljava/lang/String;" (.ref s22)) (S_mode_a2 : Str Z h0 s22 t22 c22) (Z_cs : Sta Z h0 "java/lang/String" "COMPACT_STRINGS" "Z" (.int zc)) (hz : ¬ zc = 0) :
    MeetsW l Z (⟨"com/example/sunset_grant/sunsetgrant/base/Access", "equals", "(Ljava/lang/Object;)Z"⟩ : MethodName) prog_1_method_6_code 3 (some .boolean) ({ frames := 2, cells := 0, slots := 0, locals := 28 } : Room) #[(.ref a1), (.ref a2)] h0 (Pu h0 (fun v => v = some (.int (bi (c10 = c20 ∧ c11 = c21 ∧ c12 = c22))))) := by
  refine MeetsW.of (plainFor_of_name pn_com_example_sunset_grant_sunsetgrant_base_Access) ?_
  intro p e s m below meth c s₁ P hx hby hml hZ hown hnm hret hlk X0 e0 K
  have M0 : Mv h0 h0 [] [] := Mv.refl _ _
  refine Go.cast (ef_rm_accEq m a1 a2 ) ?_
  refine Go.of (T' := s₁) (f' := (mkF m 1 #[.val (.ref a1), .val (.ref a2), .unset] [(.ref a2)])) (fun _ k => XS.aloadN X0.here hx rfl (hb hby d_prog_1_method_6_code_0) rfl rfl k) ?_
  obtain ⟨T1, X1, e1, st1⟩ := instY X0 hx hZ hown (hw _ (List.mem_of_getElem? (i := 50) rfl)) e0 (Ins.self E_a2) (g := (mkF m 1 #[.val (.ref a1), .val (.ref a2), .unset] [(.ref a2)])) rfl rfl (hb hby d_prog_1_method_6_code_1)
  refine Go.of (T' := T1) (f' := (mkF m 4 #[.val (.ref a1), .val (.ref a2), .unset] [(.int (1 : Int32))])) st1 ?_
  refine Go.of (T' := T1) (f' := (mkF m 7 #[.val (.ref a1), .val (.ref a2), .unset] [])) (fun _ k => XS.ifNo X1.here hx rfl (hb hby d_prog_1_method_6_code_4) rfl (by decide) k) ?_
  refine Go.of (T' := T1) (f' := (mkF m 8 #[.val (.ref a1), .val (.ref a2), .unset] [(.ref a2)])) (fun _ k => XS.aloadN X1.here hx rfl (hb hby d_prog_1_method_6_code_7) rfl rfl k) ?_
  obtain ⟨T2, X2, e2, st2⟩ := castY X1 hx hZ hown (hw _ (List.mem_of_getElem? (i := 50) rfl)) e1 (Ins.self E_a2) (g := (mkF m 8 #[.val (.ref a1), .val (.ref a2), .unset] [(.ref a2)])) rfl rfl (hb hby d_prog_1_method_6_code_8)
  refine Go.of (T' := T2) (f' := (mkF m 11 #[.val (.ref a1), .val (.ref a2), .unset] [(.ref a2)])) st2 ?_
  refine Go.of (T' := T2) (f' := (mkF m 12 #[.val (.ref a1), .val (.ref a2), .val (.ref a2)] [])) (fun _ k => XS.astoreN X2.here hx rfl (hb hby d_prog_1_method_6_code_11) rfl rfl (l' := #[.val (.ref a1), .val (.ref a2), .val (.ref a2)]) rfl k) ?_
  refine Go.of (T' := T2) (f' := (mkF m 13 #[.val (.ref a1), .val (.ref a2), .val (.ref a2)] [(.ref a1)])) (fun _ k => XS.aloadN X2.here hx rfl (hb hby d_prog_1_method_6_code_12) rfl rfl k) ?_
  obtain ⟨T3, X3, e3, st3⟩ := getF X2 hx hZ hown (host := "") (Or.inl (hw _ (List.mem_of_getElem? (i := 36) rfl))) Via.refl e2 F_subject_a1 (g := (mkF m 13 #[.val (.ref a1), .val (.ref a2), .val (.ref a2)] [(.ref a1)])) rfl rfl (hb hby d_prog_1_method_6_code_13)
  refine Go.of (T' := T3) (f' := (mkF m 16 #[.val (.ref a1), .val (.ref a2), .val (.ref a2)] [(.ref s10)])) st3 ?_
  refine Go.of (T' := T3) (f' := (mkF m 17 #[.val (.ref a1), .val (.ref a2), .val (.ref a2)] [(.ref a2), (.ref s10)])) (fun _ k => XS.aloadN X3.here hx rfl (hb hby d_prog_1_method_6_code_16) rfl rfl k) ?_
  obtain ⟨T4, X4, e4, st4⟩ := getF X3 hx hZ hown (host := "") (Or.inl (hw _ (List.mem_of_getElem? (i := 36) rfl))) Via.refl e3 F_subject_a2 (g := (mkF m 17 #[.val (.ref a1), .val (.ref a2), .val (.ref a2)] [(.ref a2), (.ref s10)])) rfl rfl (hb hby d_prog_1_method_6_code_17)
  refine Go.of (T' := T4) (f' := (mkF m 20 #[.val (.ref a1), .val (.ref a2), .val (.ref a2)] [(.ref s20), (.ref s10)])) st4 ?_
  refine goV X4 hx hZ (y := (⟨"java/lang/String", "equals", "(Ljava/lang/Object;)Z"⟩ : MethodName)) (z := (⟨"java/lang/String", "equals", "(Ljava/lang/Object;)Z"⟩ : MethodName)) hown (hw _ (List.mem_of_getElem? (i := 52) rfl)) (hw _ (List.mem_of_getElem? (i := 53) rfl)) (notFace_of_selects (args := #[]) (mvT hZ (hw _ (List.mem_of_getElem? (i := 55) rfl)))) (hw _ (List.mem_of_getElem? (i := 55) rfl)) (hw _ (List.mem_of_getElem? (i := 54) rfl)) (by decide) (C := 0) (S := 0) (eqStr (W := 0) hZ (hw_wordsEq hw) (hw _ (List.mem_of_getElem? (i := 11) rfl)) S_subject_a1 S_subject_a2 Z_cs hz (by decide) (by decide)) e4 S_subject_a1.exa (argsL := [(.ref s20)]) (rest := []) (by rw [hml]; rfl) (lenOf pd__Ljava_lang_Object__Z rfl) rfl rfl (hb hby d_prog_1_method_6_code_20) (Nat.le_of_eq rfl) (by decide) (by decide) ?_
  intro v5 T5 L5 X5 hQ5
  obtain ⟨nq5, e5, rfl⟩ := hQ5
  replace X5 := standNil X5 nq5
  show Go p e below P T5 (mkF m 23 #[.val (.ref a1), .val (.ref a2), .val (.ref a2)] [(.int (bi (c10 = c20)))])
  by_cases hc23 : c10 = c20
  ·
    refine Go.of (T' := T5) (f' := (mkF m 26 #[.val (.ref a1), .val (.ref a2), .val (.ref a2)] [])) (fun _ k => XS.ifNo X5.here hx rfl (hb hby d_prog_1_method_6_code_23) rfl ((if0 _ _).trans (feq (bi_ne hc23)).1) k) ?_
    refine Go.of (T' := T5) (f' := (mkF m 27 #[.val (.ref a1), .val (.ref a2), .val (.ref a2)] [(.ref a1)])) (fun _ k => XS.aloadN X5.here hx rfl (hb hby d_prog_1_method_6_code_26) rfl rfl k) ?_
    obtain ⟨T6, X6, e6, st6⟩ := getF X5 hx hZ hown (host := "") (Or.inl (hw _ (List.mem_of_getElem? (i := 38) rfl))) Via.refl e5 F_object_a1 (g := (mkF m 27 #[.val (.ref a1), .val (.ref a2), .val (.ref a2)] [(.ref a1)])) rfl rfl (hb hby d_prog_1_method_6_code_27)
    refine Go.of (T' := T6) (f' := (mkF m 30 #[.val (.ref a1), .val (.ref a2), .val (.ref a2)] [(.ref s11)])) st6 ?_
    refine Go.of (T' := T6) (f' := (mkF m 31 #[.val (.ref a1), .val (.ref a2), .val (.ref a2)] [(.ref a2), (.ref s11)])) (fun _ k => XS.aloadN X6.here hx rfl (hb hby d_prog_1_method_6_code_30) rfl rfl k) ?_
    obtain ⟨T7, X7, e7, st7⟩ := getF X6 hx hZ hown (host := "") (Or.inl (hw _ (List.mem_of_getElem? (i := 38) rfl))) Via.refl e6 F_object_a2 (g := (mkF m 31 #[.val (.ref a1), .val (.ref a2), .val (.ref a2)] [(.ref a2), (.ref s11)])) rfl rfl (hb hby d_prog_1_method_6_code_31)
    refine Go.of (T' := T7) (f' := (mkF m 34 #[.val (.ref a1), .val (.ref a2), .val (.ref a2)] [(.ref s21), (.ref s11)])) st7 ?_
    refine goV X7 hx hZ (y := (⟨"java/lang/String", "equals", "(Ljava/lang/Object;)Z"⟩ : MethodName)) (z := (⟨"java/lang/String", "equals", "(Ljava/lang/Object;)Z"⟩ : MethodName)) hown (hw _ (List.mem_of_getElem? (i := 52) rfl)) (hw _ (List.mem_of_getElem? (i := 53) rfl)) (notFace_of_selects (args := #[]) (mvT hZ (hw _ (List.mem_of_getElem? (i := 55) rfl)))) (hw _ (List.mem_of_getElem? (i := 55) rfl)) (hw _ (List.mem_of_getElem? (i := 54) rfl)) (by decide) (C := 0) (S := 0) (eqStr (W := 0) hZ (hw_wordsEq hw) (hw _ (List.mem_of_getElem? (i := 11) rfl)) S_object_a1 S_object_a2 Z_cs hz (by decide) (by decide)) e7 S_object_a1.exa (argsL := [(.ref s21)]) (rest := []) (by rw [hml]; rfl) (lenOf pd__Ljava_lang_Object__Z rfl) rfl rfl (hb hby d_prog_1_method_6_code_34) (Nat.le_of_eq rfl) (by decide) (by decide) ?_
    intro v8 T8 L8 X8 hQ8
    obtain ⟨nq8, e8, rfl⟩ := hQ8
    replace X8 := standNil X8 nq8
    show Go p e below P T8 (mkF m 37 #[.val (.ref a1), .val (.ref a2), .val (.ref a2)] [(.int (bi (c11 = c21)))])
    by_cases hc37 : c11 = c21
    ·
      refine Go.of (T' := T8) (f' := (mkF m 40 #[.val (.ref a1), .val (.ref a2), .val (.ref a2)] [])) (fun _ k => XS.ifNo X8.here hx rfl (hb hby d_prog_1_method_6_code_37) rfl ((if0 _ _).trans (feq (bi_ne hc37)).1) k) ?_
      refine Go.of (T' := T8) (f' := (mkF m 41 #[.val (.ref a1), .val (.ref a2), .val (.ref a2)] [(.ref a1)])) (fun _ k => XS.aloadN X8.here hx rfl (hb hby d_prog_1_method_6_code_40) rfl rfl k) ?_
      obtain ⟨T9, X9, e9, st9⟩ := getF X8 hx hZ hown (host := "") (Or.inl (hw _ (List.mem_of_getElem? (i := 40) rfl))) Via.refl e8 F_mode_a1 (g := (mkF m 41 #[.val (.ref a1), .val (.ref a2), .val (.ref a2)] [(.ref a1)])) rfl rfl (hb hby d_prog_1_method_6_code_41)
      refine Go.of (T' := T9) (f' := (mkF m 44 #[.val (.ref a1), .val (.ref a2), .val (.ref a2)] [(.ref s12)])) st9 ?_
      refine Go.of (T' := T9) (f' := (mkF m 45 #[.val (.ref a1), .val (.ref a2), .val (.ref a2)] [(.ref a2), (.ref s12)])) (fun _ k => XS.aloadN X9.here hx rfl (hb hby d_prog_1_method_6_code_44) rfl rfl k) ?_
      obtain ⟨T10, X10, e10, st10⟩ := getF X9 hx hZ hown (host := "") (Or.inl (hw _ (List.mem_of_getElem? (i := 40) rfl))) Via.refl e9 F_mode_a2 (g := (mkF m 45 #[.val (.ref a1), .val (.ref a2), .val (.ref a2)] [(.ref a2), (.ref s12)])) rfl rfl (hb hby d_prog_1_method_6_code_45)
      refine Go.of (T' := T10) (f' := (mkF m 48 #[.val (.ref a1), .val (.ref a2), .val (.ref a2)] [(.ref s22), (.ref s12)])) st10 ?_
      refine goV X10 hx hZ (y := (⟨"java/lang/String", "equals", "(Ljava/lang/Object;)Z"⟩ : MethodName)) (z := (⟨"java/lang/String", "equals", "(Ljava/lang/Object;)Z"⟩ : MethodName)) hown (hw _ (List.mem_of_getElem? (i := 52) rfl)) (hw _ (List.mem_of_getElem? (i := 53) rfl)) (notFace_of_selects (args := #[]) (mvT hZ (hw _ (List.mem_of_getElem? (i := 55) rfl)))) (hw _ (List.mem_of_getElem? (i := 55) rfl)) (hw _ (List.mem_of_getElem? (i := 54) rfl)) (by decide) (C := 0) (S := 0) (eqStr (W := 0) hZ (hw_wordsEq hw) (hw _ (List.mem_of_getElem? (i := 11) rfl)) S_mode_a1 S_mode_a2 Z_cs hz (by decide) (by decide)) e10 S_mode_a1.exa (argsL := [(.ref s22)]) (rest := []) (by rw [hml]; rfl) (lenOf pd__Ljava_lang_Object__Z rfl) rfl rfl (hb hby d_prog_1_method_6_code_48) (Nat.le_of_eq rfl) (by decide) (by decide) ?_
      intro v11 T11 L11 X11 hQ11
      obtain ⟨nq11, e11, rfl⟩ := hQ11
      replace X11 := standNil X11 nq11
      show Go p e below P T11 (mkF m 51 #[.val (.ref a1), .val (.ref a2), .val (.ref a2)] [(.int (bi (c12 = c22)))])
      by_cases hc51 : c12 = c22
      ·
        refine Go.of (T' := T11) (f' := (mkF m 54 #[.val (.ref a1), .val (.ref a2), .val (.ref a2)] [])) (fun _ k => XS.ifNo X11.here hx rfl (hb hby d_prog_1_method_6_code_51) rfl ((if0 _ _).trans (feq (bi_ne hc51)).1) k) ?_
        refine Go.of (T' := T11) (f' := (mkF m 55 #[.val (.ref a1), .val (.ref a2), .val (.ref a2)] [(.int (1 : Int32))])) (fun _ k => XS.iconst X11.here hx rfl (hb hby d_prog_1_method_6_code_54) k) ?_
        refine Go.of (T' := T11) (f' := (mkF m 59 #[.val (.ref a1), .val (.ref a2), .val (.ref a2)] [(.int (1 : Int32))])) (fun _ k => XS.goto X11.here hx rfl (pc0 := 55) (pc' := 59) rfl (hb hby d_prog_1_method_6_code_55) (by decide) (by decide) k) ?_
        exact goRetI (Q := Pu h0 (fun v => v = some (.int (bi (c10 = c20 ∧ c11 = c21 ∧ c12 = c22))))) X11 hx (t := .boolean) hret hlk rfl (by simp) (hb hby d_prog_1_method_6_code_59) K (by decide) (by decide) e11 (⟨rfl, rfl, by rw [bi_t ⟨hc23, hc37, hc51⟩]⟩)
      ·
        refine Go.of (T' := T11) (f' := (mkF m 58 #[.val (.ref a1), .val (.ref a2), .val (.ref a2)] [])) (fun _ k => XS.ifYes X11.here hx rfl (pc0 := 51) (pc' := 58) rfl (hb hby d_prog_1_method_6_code_51) rfl ((if0 _ _).trans (teq (bi_f hc51)).1) (by decide) (by decide) k) ?_
        refine Go.of (T' := T11) (f' := (mkF m 59 #[.val (.ref a1), .val (.ref a2), .val (.ref a2)] [(.int (0 : Int32))])) (fun _ k => XS.iconst X11.here hx rfl (hb hby d_prog_1_method_6_code_58) k) ?_
        exact goRetI (Q := Pu h0 (fun v => v = some (.int (bi (c10 = c20 ∧ c11 = c21 ∧ c12 = c22))))) X11 hx (t := .boolean) hret hlk rfl (by simp) (hb hby d_prog_1_method_6_code_59) K (by decide) (by decide) e11 (⟨rfl, rfl, by rw [bi_f (by rintro ⟨h1, h2, h3⟩; first | exact hc23 h1 | exact hc37 h2 | exact hc51 h3)]⟩)
    ·
      refine Go.of (T' := T8) (f' := (mkF m 58 #[.val (.ref a1), .val (.ref a2), .val (.ref a2)] [])) (fun _ k => XS.ifYes X8.here hx rfl (pc0 := 37) (pc' := 58) rfl (hb hby d_prog_1_method_6_code_37) rfl ((if0 _ _).trans (teq (bi_f hc37)).1) (by decide) (by decide) k) ?_
      refine Go.of (T' := T8) (f' := (mkF m 59 #[.val (.ref a1), .val (.ref a2), .val (.ref a2)] [(.int (0 : Int32))])) (fun _ k => XS.iconst X8.here hx rfl (hb hby d_prog_1_method_6_code_58) k) ?_
      exact goRetI (Q := Pu h0 (fun v => v = some (.int (bi (c10 = c20 ∧ c11 = c21 ∧ c12 = c22))))) X8 hx (t := .boolean) hret hlk rfl (by simp) (hb hby d_prog_1_method_6_code_59) K (by decide) (by decide) e8 (⟨rfl, rfl, by rw [bi_f (by rintro ⟨h1, h2, h3⟩; first | exact hc23 h1 | exact hc37 h2 | exact hc51 h3)]⟩)
  ·
    refine Go.of (T' := T5) (f' := (mkF m 58 #[.val (.ref a1), .val (.ref a2), .val (.ref a2)] [])) (fun _ k => XS.ifYes X5.here hx rfl (pc0 := 23) (pc' := 58) rfl (hb hby d_prog_1_method_6_code_23) rfl ((if0 _ _).trans (teq (bi_f hc23)).1) (by decide) (by decide) k) ?_
    refine Go.of (T' := T5) (f' := (mkF m 59 #[.val (.ref a1), .val (.ref a2), .val (.ref a2)] [(.int (0 : Int32))])) (fun _ k => XS.iconst X5.here hx rfl (hb hby d_prog_1_method_6_code_58) k) ?_
    exact goRetI (Q := Pu h0 (fun v => v = some (.int (bi (c10 = c20 ∧ c11 = c21 ∧ c12 = c22))))) X5 hx (t := .boolean) hret hlk rfl (by simp) (hb hby d_prog_1_method_6_code_59) K (by decide) (by decide) e5 (⟨rfl, rfl, by rw [bi_f (by rintro ⟨h1, h2, h3⟩; first | exact hc23 h1 | exact hc37 h2 | exact hc51 h3)]⟩)
theorem ef_rm_accEq0 (m : MethodId) (x0 : Addr)  : entryFrame m #[(.ref x0), .null] 3 = mkF m 0 #[.val (.ref x0), .val .null, .unset] [] := by first | (simp [entryFrame, mkF, argsToLocals, Value.category]; done) | rfl
set_option maxRecDepth 65536 in
set_option maxHeartbeats 40000000 in
theorem rm_accEq0 (l : Launch) (Z : State) (a0 : Array Value) (hw : ∀ d ∈ tables_1, d.before a0 Z = true) (a1 : Addr) (h0 : Heap)  :
    MeetsW l Z (⟨"com/example/sunset_grant/sunsetgrant/base/Access", "equals", "(Ljava/lang/Object;)Z"⟩ : MethodName) prog_1_method_6_code 3 (some .boolean) ({ frames := 0, cells := 0, slots := 0, locals := 0 } : Room) #[(.ref a1), .null] h0 (Pu h0 (fun v => v = some (.int 0))) := by
  refine MeetsW.of (plainFor_of_name pn_com_example_sunset_grant_sunsetgrant_base_Access) ?_
  intro p e s m below meth c s₁ P hx hby hml hZ hown hnm hret hlk X0 e0 K
  have M0 : Mv h0 h0 [] [] := Mv.refl _ _
  refine Go.cast (ef_rm_accEq0 m a1 ) ?_
  refine Go.of (T' := s₁) (f' := (mkF m 1 #[.val (.ref a1), .val .null, .unset] [.null])) (fun _ k => XS.aloadN X0.here hx rfl (hb hby d_prog_1_method_6_code_0) rfl rfl k) ?_
  refine Go.of (T' := s₁) (f' := (mkF m 4 #[.val (.ref a1), .val .null, .unset] [(.int (0 : Int32))])) (fun _ k => X0.instanceofNull hx (g := (mkF m 1 #[.val (.ref a1), .val .null, .unset] [.null])) rfl rfl (hb hby d_prog_1_method_6_code_1) _ k) ?_
  refine Go.of (T' := s₁) (f' := (mkF m 58 #[.val (.ref a1), .val .null, .unset] [])) (fun _ k => XS.ifYes X0.here hx rfl (pc0 := 4) (pc' := 58) rfl (hb hby d_prog_1_method_6_code_4) rfl (by decide) (by decide) (by decide) k) ?_
  refine Go.of (T' := s₁) (f' := (mkF m 59 #[.val (.ref a1), .val .null, .unset] [(.int (0 : Int32))])) (fun _ k => XS.iconst X0.here hx rfl (hb hby d_prog_1_method_6_code_58) k) ?_
  exact goRetI (Q := Pu h0 (fun v => v = some (.int 0))) X0 hx (t := .boolean) hret hlk rfl (by simp) (hb hby d_prog_1_method_6_code_59) K (by decide) (by decide) e0 (⟨rfl, rfl, rfl⟩)
theorem ef_rm_accEqO0 (m : MethodId) (x0 : Addr) (x1 : Addr)  : entryFrame m #[(.ref x0), (.ref x1)] 3 = mkF m 0 #[.val (.ref x0), .val (.ref x1), .unset] [] := by first | (simp [entryFrame, mkF, argsToLocals, Value.category]; done) | rfl
set_option maxRecDepth 65536 in
set_option maxHeartbeats 40000000 in
theorem rm_accEqO0 (l : Launch) (Z : State) (a0 : Array Value) (hw : ∀ d ∈ tables_1, d.before a0 Z = true) (a1 a2 : Addr) (h0 : Heap) (E_a2 : Exa Z h0 a2 "java/lang/String") :
    MeetsW l Z (⟨"com/example/sunset_grant/sunsetgrant/base/Access", "equals", "(Ljava/lang/Object;)Z"⟩ : MethodName) prog_1_method_6_code 3 (some .boolean) ({ frames := 0, cells := 0, slots := 0, locals := 0 } : Room) #[(.ref a1), (.ref a2)] h0 (Pu h0 (fun v => v = some (.int 0))) := by
  refine MeetsW.of (plainFor_of_name pn_com_example_sunset_grant_sunsetgrant_base_Access) ?_
  intro p e s m below meth c s₁ P hx hby hml hZ hown hnm hret hlk X0 e0 K
  have M0 : Mv h0 h0 [] [] := Mv.refl _ _
  refine Go.cast (ef_rm_accEqO0 m a1 a2 ) ?_
  refine Go.of (T' := s₁) (f' := (mkF m 1 #[.val (.ref a1), .val (.ref a2), .unset] [(.ref a2)])) (fun _ k => XS.aloadN X0.here hx rfl (hb hby d_prog_1_method_6_code_0) rfl rfl k) ?_
  obtain ⟨T1, X1, e1, st1⟩ := instNo X0 hx hZ hown (hw _ (List.mem_of_getElem? (i := 50) rfl)) e0 E_a2 (noAsg (hw _ (List.mem_of_getElem? (i := 79) rfl)) (hw _ (List.mem_of_getElem? (i := 80) rfl)) (hw _ (List.mem_of_getElem? (i := 1) rfl)) (by decide) (by decide)) (g := (mkF m 1 #[.val (.ref a1), .val (.ref a2), .unset] [(.ref a2)])) rfl rfl (hb hby d_prog_1_method_6_code_1)
  refine Go.of (T' := T1) (f' := (mkF m 4 #[.val (.ref a1), .val (.ref a2), .unset] [(.int (0 : Int32))])) st1 ?_
  refine Go.of (T' := T1) (f' := (mkF m 58 #[.val (.ref a1), .val (.ref a2), .unset] [])) (fun _ k => XS.ifYes X1.here hx rfl (pc0 := 4) (pc' := 58) rfl (hb hby d_prog_1_method_6_code_4) rfl (by decide) (by decide) (by decide) k) ?_
  refine Go.of (T' := T1) (f' := (mkF m 59 #[.val (.ref a1), .val (.ref a2), .unset] [(.int (0 : Int32))])) (fun _ k => XS.iconst X1.here hx rfl (hb hby d_prog_1_method_6_code_58) k) ?_
  exact goRetI (Q := Pu h0 (fun v => v = some (.int 0))) X1 hx (t := .boolean) hret hlk rfl (by simp) (hb hby d_prog_1_method_6_code_59) K (by decide) (by decide) e1 (⟨rfl, rfl, rfl⟩)
theorem pn_com_example_sunset_grant_sunsetgrant_base_AccessEqualsPinLaw : plainName "com/example/sunset_grant/sunsetgrant/base/AccessEqualsPinLaw" = true := by first | (simp [plainName, overriddenIn]; done) | decide +kernel
theorem ef_rm_len (m : MethodId) (x0 : Int32)  : entryFrame m #[(.int x0)] 2 = mkF m 0 #[.val (.int x0), .unset] [] := by first | (simp [entryFrame, mkF, argsToLocals, Value.category]; done) | rfl
theorem d_method_2_code_0 : decode method_2_code 0 = .ok (.iload_n 0, 1) := by decide +kernel
theorem d_method_2_code_1 : decode method_2_code 1 = .ok (.bipush 16, 2) := by decide +kernel
theorem d_method_2_code_3 : decode method_2_code 3 = .ok (.iushr, 1) := by decide +kernel
theorem d_method_2_code_4 : decode method_2_code 4 = .ok (.iconst 3, 1) := by decide +kernel
theorem d_method_2_code_5 : decode method_2_code 5 = .ok (.iand, 1) := by decide +kernel
theorem d_method_2_code_6 : decode method_2_code 6 = .ok (.istore_n 1, 1) := by decide +kernel
theorem d_method_2_code_7 : decode method_2_code 7 = .ok (.iload_n 1, 1) := by decide +kernel
theorem d_method_2_code_8 : decode method_2_code 8 = .ok (.iconst 3, 1) := by decide +kernel
theorem d_method_2_code_9 : decode method_2_code 9 = .ok (.if_icmp .ne 7, 3) := by decide +kernel
theorem d_method_2_code_12 : decode method_2_code 12 = .ok (.iconst 2, 1) := by decide +kernel
theorem d_method_2_code_13 : decode method_2_code 13 = .ok (.goto 4, 3) := by decide +kernel
theorem d_method_2_code_17 : decode method_2_code 17 = .ok (.ireturn, 1) := by decide +kernel
theorem d_method_2_code_16 : decode method_2_code 16 = .ok (.iload_n 1, 1) := by decide +kernel
set_option maxRecDepth 65536 in
set_option maxHeartbeats 40000000 in
theorem rm_len (l : Launch) (Z : State) (a0 : Array Value) (hw : ∀ d ∈ tables_1, d.before a0 Z = true) (p1 : Int32) (h0 : Heap)  :
    MeetsW l Z (⟨"com/example/sunset_grant/sunsetgrant/base/AccessEqualsPinLaw", "len", "(I)I"⟩ : MethodName) method_2_code 2 (some .int) ({ frames := 0, cells := 0, slots := 0, locals := 0 } : Room) #[(.int p1)] h0 (Pu h0 (fun v => v = some (.int (ln p1)))) := by
  refine MeetsW.of (plainFor_of_name pn_com_example_sunset_grant_sunsetgrant_base_AccessEqualsPinLaw) ?_
  intro p e s m below meth c s₁ P hx hby hml hZ hown hnm hret hlk X0 e0 K
  have M0 : Mv h0 h0 [] [] := Mv.refl _ _
  refine Go.cast (ef_rm_len m p1 ) ?_
  refine Go.of (T' := s₁) (f' := (mkF m 1 #[.val (.int p1), .unset] [(.int p1)])) (fun _ k => XS.iloadN X0.here hx rfl (hb hby d_method_2_code_0) rfl k) ?_
  refine Go.of (T' := s₁) (f' := (mkF m 3 #[.val (.int p1), .unset] [(.int (16 : Int32)), (.int p1)])) (fun _ k => XS.bipush X0.here hx rfl (hb hby d_method_2_code_1) k) ?_
  refine Go.of (T' := s₁) (f' := (mkF m 4 #[.val (.int p1), .unset] [(.int ((p1.toUInt32 >>> ((16 : Int32) &&& 31).toUInt32).toInt32))])) (fun _ k => XS.iushr X0.here hx rfl (hb hby d_method_2_code_3) rfl k) ?_
  refine Go.of (T' := s₁) (f' := (mkF m 5 #[.val (.int p1), .unset] [(.int (3 : Int32)), (.int ((p1.toUInt32 >>> ((16 : Int32) &&& 31).toUInt32).toInt32))])) (fun _ k => XS.iconst X0.here hx rfl (hb hby d_method_2_code_4) k) ?_
  refine Go.of (T' := s₁) (f' := (mkF m 6 #[.val (.int p1), .unset] [(.int (((p1.toUInt32 >>> ((16 : Int32) &&& 31).toUInt32).toInt32) &&& (3 : Int32)))])) (fun _ k => XS.iand X0.here hx rfl (hb hby d_method_2_code_5) rfl k) ?_
  refine Go.of (T' := s₁) (f' := (mkF m 7 #[.val (.int p1), .val (.int (((p1.toUInt32 >>> ((16 : Int32) &&& 31).toUInt32).toInt32) &&& (3 : Int32)))] [])) (fun _ k => XS.istoreN X0.here hx rfl (hb hby d_method_2_code_6) rfl (l' := #[.val (.int p1), .val (.int (((p1.toUInt32 >>> ((16 : Int32) &&& 31).toUInt32).toInt32) &&& (3 : Int32)))]) rfl k) ?_
  refine Go.of (T' := s₁) (f' := (mkF m 8 #[.val (.int p1), .val (.int (((p1.toUInt32 >>> ((16 : Int32) &&& 31).toUInt32).toInt32) &&& (3 : Int32)))] [(.int (((p1.toUInt32 >>> ((16 : Int32) &&& 31).toUInt32).toInt32) &&& (3 : Int32)))])) (fun _ k => XS.iloadN X0.here hx rfl (hb hby d_method_2_code_7) rfl k) ?_
  refine Go.of (T' := s₁) (f' := (mkF m 9 #[.val (.int p1), .val (.int (((p1.toUInt32 >>> ((16 : Int32) &&& 31).toUInt32).toInt32) &&& (3 : Int32)))] [(.int (3 : Int32)), (.int (((p1.toUInt32 >>> ((16 : Int32) &&& 31).toUInt32).toInt32) &&& (3 : Int32)))])) (fun _ k => XS.iconst X0.here hx rfl (hb hby d_method_2_code_8) k) ?_
  by_cases hc9 : (((p1.toUInt32 >>> ((16 : Int32) &&& 31).toUInt32).toInt32) &&& (3 : Int32)) = (3 : Int32)
  ·
    refine Go.of (T' := s₁) (f' := (mkF m 12 #[.val (.int p1), .val (.int (((p1.toUInt32 >>> ((16 : Int32) &&& 31).toUInt32).toInt32) &&& (3 : Int32)))] [])) (fun _ k => XS.icmpNo X0.here hx rfl (hb hby d_method_2_code_9) rfl (teq hc9).2 k) ?_
    refine Go.of (T' := s₁) (f' := (mkF m 13 #[.val (.int p1), .val (.int (((p1.toUInt32 >>> ((16 : Int32) &&& 31).toUInt32).toInt32) &&& (3 : Int32)))] [(.int (2 : Int32))])) (fun _ k => XS.iconst X0.here hx rfl (hb hby d_method_2_code_12) k) ?_
    refine Go.of (T' := s₁) (f' := (mkF m 17 #[.val (.int p1), .val (.int (((p1.toUInt32 >>> ((16 : Int32) &&& 31).toUInt32).toInt32) &&& (3 : Int32)))] [(.int (2 : Int32))])) (fun _ k => XS.goto X0.here hx rfl (pc0 := 13) (pc' := 17) rfl (hb hby d_method_2_code_13) (by decide) (by decide) k) ?_
    exact goRetI (Q := Pu h0 (fun v => v = some (.int (ln p1)))) X0 hx (t := .int) hret hlk rfl (by simp) (hb hby d_method_2_code_17) K (by decide) (by decide) e0 (⟨rfl, rfl, by unfold ln; rw [if_pos hc9]⟩)
  ·
    refine Go.of (T' := s₁) (f' := (mkF m 16 #[.val (.int p1), .val (.int (((p1.toUInt32 >>> ((16 : Int32) &&& 31).toUInt32).toInt32) &&& (3 : Int32)))] [])) (fun _ k => XS.icmpYes X0.here hx rfl (pc0 := 9) (pc' := 16) rfl (hb hby d_method_2_code_9) rfl (feq hc9).2 (by decide) (by decide) k) ?_
    refine Go.of (T' := s₁) (f' := (mkF m 17 #[.val (.int p1), .val (.int (((p1.toUInt32 >>> ((16 : Int32) &&& 31).toUInt32).toInt32) &&& (3 : Int32)))] [(.int (((p1.toUInt32 >>> ((16 : Int32) &&& 31).toUInt32).toInt32) &&& (3 : Int32)))])) (fun _ k => XS.iloadN X0.here hx rfl (hb hby d_method_2_code_16) rfl k) ?_
    exact goRetI (Q := Pu h0 (fun v => v = some (.int (ln p1)))) X0 hx (t := .int) hret hlk rfl (by simp) (hb hby d_method_2_code_17) K (by decide) (by decide) e0 (⟨rfl, rfl, by unfold ln; rw [if_neg hc9]⟩)
theorem ef_rm_c0 (m : MethodId) (x0 : Int32)  : entryFrame m #[(.int x0)] 1 = mkF m 0 #[.val (.int x0)] [] := by first | (simp [entryFrame, mkF, argsToLocals, Value.category]; done) | rfl
theorem d_method_3_code_0 : decode method_3_code 0 = .ok (.iload_n 0, 1) := by decide +kernel
theorem d_method_3_code_1 : decode method_3_code 1 = .ok (.sipush 255, 3) := by decide +kernel
theorem d_method_3_code_4 : decode method_3_code 4 = .ok (.iand, 1) := by decide +kernel
theorem d_method_3_code_5 : decode method_3_code 5 = .ok (.i2c, 1) := by decide +kernel
theorem d_method_3_code_6 : decode method_3_code 6 = .ok (.ireturn, 1) := by decide +kernel
set_option maxRecDepth 65536 in
set_option maxHeartbeats 40000000 in
theorem rm_c0 (l : Launch) (Z : State) (a0 : Array Value) (hw : ∀ d ∈ tables_1, d.before a0 Z = true) (p1 : Int32) (h0 : Heap)  :
    MeetsW l Z (⟨"com/example/sunset_grant/sunsetgrant/base/AccessEqualsPinLaw", "c0", "(I)C"⟩ : MethodName) method_3_code 1 (some .char) ({ frames := 0, cells := 0, slots := 0, locals := 0 } : Room) #[(.int p1)] h0 (Pu h0 (fun v => v = some (.int (k0 p1)))) := by
  refine MeetsW.of (plainFor_of_name pn_com_example_sunset_grant_sunsetgrant_base_AccessEqualsPinLaw) ?_
  intro p e s m below meth c s₁ P hx hby hml hZ hown hnm hret hlk X0 e0 K
  have M0 : Mv h0 h0 [] [] := Mv.refl _ _
  refine Go.cast (ef_rm_c0 m p1 ) ?_
  refine Go.of (T' := s₁) (f' := (mkF m 1 #[.val (.int p1)] [(.int p1)])) (fun _ k => XS.iloadN X0.here hx rfl (hb hby d_method_3_code_0) rfl k) ?_
  refine Go.of (T' := s₁) (f' := (mkF m 4 #[.val (.int p1)] [(.int (255 : Int32)), (.int p1)])) (fun _ k => XS.sipush X0.here hx rfl (hb hby d_method_3_code_1) k) ?_
  refine Go.of (T' := s₁) (f' := (mkF m 5 #[.val (.int p1)] [(.int (p1 &&& (255 : Int32)))])) (fun _ k => XS.iand X0.here hx rfl (hb hby d_method_3_code_4) rfl k) ?_
  refine Go.of (T' := s₁) (f' := (mkF m 6 #[.val (.int p1)] [(.int ((p1 &&& (255 : Int32)).toUInt32.toUInt16.toUInt32.toInt32))])) (fun _ k => XS.i2c X0.here hx rfl (hb hby d_method_3_code_5) rfl k) ?_
  exact goRetI (Q := Pu h0 (fun v => v = some (.int (k0 p1)))) X0 hx (t := .char) hret hlk (congrArg Value.int (narC _)) (by simp) (hb hby d_method_3_code_6) K (by decide) (by decide) e0 (⟨rfl, rfl, rfl⟩)
theorem ef_rm_c1 (m : MethodId) (x0 : Int32)  : entryFrame m #[(.int x0)] 1 = mkF m 0 #[.val (.int x0)] [] := by first | (simp [entryFrame, mkF, argsToLocals, Value.category]; done) | rfl
theorem d_method_4_code_0 : decode method_4_code 0 = .ok (.iload_n 0, 1) := by decide +kernel
theorem d_method_4_code_1 : decode method_4_code 1 = .ok (.bipush 8, 2) := by decide +kernel
theorem d_method_4_code_3 : decode method_4_code 3 = .ok (.iushr, 1) := by decide +kernel
theorem d_method_4_code_4 : decode method_4_code 4 = .ok (.sipush 255, 3) := by decide +kernel
theorem d_method_4_code_7 : decode method_4_code 7 = .ok (.iand, 1) := by decide +kernel
theorem d_method_4_code_8 : decode method_4_code 8 = .ok (.i2c, 1) := by decide +kernel
theorem d_method_4_code_9 : decode method_4_code 9 = .ok (.ireturn, 1) := by decide +kernel
set_option maxRecDepth 65536 in
set_option maxHeartbeats 40000000 in
theorem rm_c1 (l : Launch) (Z : State) (a0 : Array Value) (hw : ∀ d ∈ tables_1, d.before a0 Z = true) (p1 : Int32) (h0 : Heap)  :
    MeetsW l Z (⟨"com/example/sunset_grant/sunsetgrant/base/AccessEqualsPinLaw", "c1", "(I)C"⟩ : MethodName) method_4_code 1 (some .char) ({ frames := 0, cells := 0, slots := 0, locals := 0 } : Room) #[(.int p1)] h0 (Pu h0 (fun v => v = some (.int (k1 p1)))) := by
  refine MeetsW.of (plainFor_of_name pn_com_example_sunset_grant_sunsetgrant_base_AccessEqualsPinLaw) ?_
  intro p e s m below meth c s₁ P hx hby hml hZ hown hnm hret hlk X0 e0 K
  have M0 : Mv h0 h0 [] [] := Mv.refl _ _
  refine Go.cast (ef_rm_c1 m p1 ) ?_
  refine Go.of (T' := s₁) (f' := (mkF m 1 #[.val (.int p1)] [(.int p1)])) (fun _ k => XS.iloadN X0.here hx rfl (hb hby d_method_4_code_0) rfl k) ?_
  refine Go.of (T' := s₁) (f' := (mkF m 3 #[.val (.int p1)] [(.int (8 : Int32)), (.int p1)])) (fun _ k => XS.bipush X0.here hx rfl (hb hby d_method_4_code_1) k) ?_
  refine Go.of (T' := s₁) (f' := (mkF m 4 #[.val (.int p1)] [(.int ((p1.toUInt32 >>> ((8 : Int32) &&& 31).toUInt32).toInt32))])) (fun _ k => XS.iushr X0.here hx rfl (hb hby d_method_4_code_3) rfl k) ?_
  refine Go.of (T' := s₁) (f' := (mkF m 7 #[.val (.int p1)] [(.int (255 : Int32)), (.int ((p1.toUInt32 >>> ((8 : Int32) &&& 31).toUInt32).toInt32))])) (fun _ k => XS.sipush X0.here hx rfl (hb hby d_method_4_code_4) k) ?_
  refine Go.of (T' := s₁) (f' := (mkF m 8 #[.val (.int p1)] [(.int (((p1.toUInt32 >>> ((8 : Int32) &&& 31).toUInt32).toInt32) &&& (255 : Int32)))])) (fun _ k => XS.iand X0.here hx rfl (hb hby d_method_4_code_7) rfl k) ?_
  refine Go.of (T' := s₁) (f' := (mkF m 9 #[.val (.int p1)] [(.int ((((p1.toUInt32 >>> ((8 : Int32) &&& 31).toUInt32).toInt32) &&& (255 : Int32)).toUInt32.toUInt16.toUInt32.toInt32))])) (fun _ k => XS.i2c X0.here hx rfl (hb hby d_method_4_code_8) rfl k) ?_
  exact goRetI (Q := Pu h0 (fun v => v = some (.int (k1 p1)))) X0 hx (t := .char) hret hlk (congrArg Value.int (narC _)) (by simp) (hb hby d_method_4_code_9) K (by decide) (by decide) e0 (⟨rfl, rfl, rfl⟩)
theorem ef_rm_mk (m : MethodId) (x0 : Int32)  : entryFrame m #[(.int x0)] 2 = mkF m 0 #[.val (.int x0), .unset] [] := by first | (simp [entryFrame, mkF, argsToLocals, Value.category]; done) | rfl
theorem d_method_5_code_0 : decode method_5_code 0 = .ok (.iload_n 0, 1) := by decide +kernel
theorem d_method_5_code_1 : decode method_5_code 1 = .ok (.invokestatic 7, 3) := by decide +kernel
theorem pd__I_I : parseMethodDescriptor "(I)I" = some ⟨[.int], some .int⟩ := by decide +kernel
theorem d_method_5_code_4 : decode method_5_code 4 = .ok (.istore_n 1, 1) := by decide +kernel
theorem d_method_5_code_5 : decode method_5_code 5 = .ok (.iload_n 1, 1) := by decide +kernel
theorem d_method_5_code_6 : decode method_5_code 6 = .ok (.ifCond .ne 14, 3) := by decide +kernel
theorem d_method_5_code_9 : decode method_5_code 9 = .ok (.new 13, 3) := by decide +kernel
theorem d_method_5_code_12 : decode method_5_code 12 = .ok (.dup, 1) := by decide +kernel
theorem d_method_5_code_13 : decode method_5_code 13 = .ok (.iconst 0, 1) := by decide +kernel
theorem d_method_5_code_14 : decode method_5_code 14 = .ok (.newarray .char, 2) := by decide +kernel
theorem d_method_5_code_16 : decode method_5_code 16 = .ok (.invokespecial 15, 3) := by decide +kernel
theorem pd___C_V : parseMethodDescriptor "([C)V" = some ⟨[(.array .char)], none⟩ := by decide +kernel
theorem d_method_5_code_19 : decode method_5_code 19 = .ok (.areturn, 1) := by decide +kernel
theorem d_method_5_code_20 : decode method_5_code 20 = .ok (.iload_n 1, 1) := by decide +kernel
theorem d_method_5_code_21 : decode method_5_code 21 = .ok (.iconst 1, 1) := by decide +kernel
theorem d_method_5_code_22 : decode method_5_code 22 = .ok (.if_icmp .ne 21, 3) := by decide +kernel
theorem d_method_5_code_25 : decode method_5_code 25 = .ok (.new 13, 3) := by decide +kernel
theorem d_method_5_code_28 : decode method_5_code 28 = .ok (.dup, 1) := by decide +kernel
theorem d_method_5_code_29 : decode method_5_code 29 = .ok (.iconst 1, 1) := by decide +kernel
theorem d_method_5_code_30 : decode method_5_code 30 = .ok (.newarray .char, 2) := by decide +kernel
theorem d_method_5_code_32 : decode method_5_code 32 = .ok (.dup, 1) := by decide +kernel
theorem d_method_5_code_33 : decode method_5_code 33 = .ok (.iconst 0, 1) := by decide +kernel
theorem d_method_5_code_34 : decode method_5_code 34 = .ok (.iload_n 0, 1) := by decide +kernel
theorem d_method_5_code_35 : decode method_5_code 35 = .ok (.invokestatic 18, 3) := by decide +kernel
theorem pd__I_C : parseMethodDescriptor "(I)C" = some ⟨[.int], some .char⟩ := by decide +kernel
theorem d_method_5_code_38 : decode method_5_code 38 = .ok (.castore, 1) := by decide +kernel
theorem d_method_5_code_39 : decode method_5_code 39 = .ok (.invokespecial 15, 3) := by decide +kernel
theorem hw_words {Z : State} {a0 : Array Value} (hw : ∀ d ∈ tables_1, d.before a0 Z = true) : ∀ d ∈ StrChars.Road.words, d.before a0 Z = true := fun d hd => hw d ((by decide +kernel : ∀ d ∈ StrChars.Road.words, d ∈ tables_1) d hd)
theorem d_method_5_code_42 : decode method_5_code 42 = .ok (.areturn, 1) := by decide +kernel
theorem d_method_5_code_43 : decode method_5_code 43 = .ok (.new 13, 3) := by decide +kernel
theorem d_method_5_code_46 : decode method_5_code 46 = .ok (.dup, 1) := by decide +kernel
theorem d_method_5_code_47 : decode method_5_code 47 = .ok (.iconst 2, 1) := by decide +kernel
theorem d_method_5_code_48 : decode method_5_code 48 = .ok (.newarray .char, 2) := by decide +kernel
theorem d_method_5_code_50 : decode method_5_code 50 = .ok (.dup, 1) := by decide +kernel
theorem d_method_5_code_51 : decode method_5_code 51 = .ok (.iconst 0, 1) := by decide +kernel
theorem d_method_5_code_52 : decode method_5_code 52 = .ok (.iload_n 0, 1) := by decide +kernel
theorem d_method_5_code_53 : decode method_5_code 53 = .ok (.invokestatic 18, 3) := by decide +kernel
theorem d_method_5_code_56 : decode method_5_code 56 = .ok (.castore, 1) := by decide +kernel
theorem d_method_5_code_57 : decode method_5_code 57 = .ok (.dup, 1) := by decide +kernel
theorem d_method_5_code_58 : decode method_5_code 58 = .ok (.iconst 1, 1) := by decide +kernel
theorem d_method_5_code_59 : decode method_5_code 59 = .ok (.iload_n 0, 1) := by decide +kernel
theorem d_method_5_code_60 : decode method_5_code 60 = .ok (.invokestatic 22, 3) := by decide +kernel
theorem d_method_5_code_63 : decode method_5_code 63 = .ok (.castore, 1) := by decide +kernel
theorem d_method_5_code_64 : decode method_5_code 64 = .ok (.invokespecial 15, 3) := by decide +kernel
theorem d_method_5_code_67 : decode method_5_code 67 = .ok (.areturn, 1) := by decide +kernel
set_option maxRecDepth 65536 in
set_option maxHeartbeats 40000000 in
theorem rm_mk (l : Launch) (Z : State) (a0 : Array Value) (hw : ∀ d ∈ tables_1, d.before a0 Z = true) (p1 zc : Int32) (h0 : Heap) (Z_cs : Sta Z h0 "java/lang/String" "COMPACT_STRINGS" "Z" (.int zc)) (hz : ¬ zc = 0) :
    MeetsH l Z consts_1 (⟨"com/example/sunset_grant/sunsetgrant/base/AccessEqualsPinLaw", "mk", "(I)Ljava/lang/String;"⟩ : MethodName) method_5_code 2 (some (.object "java/lang/String")) ({ frames := 4, cells := 6, slots := 12, locals := 66 } : Room) #[(.int p1)] h0 (fun v h L => Mv h0 h [] L ∧ ∃ (a t : Addr), v = some (.ref a) ∧ h0.size ≤ a ∧ Str Z h a t (mkCs p1)) := by
  refine MeetsH.of (plainFor_of_name pn_com_example_sunset_grant_sunsetgrant_base_AccessEqualsPinLaw) ?_
  intro p e s m below meth c s₁ P hx hby hml hZ hown hnm hret hlk X0 e0 hS RH K
  have hk : h0.size ≤ h0.size := Nat.le_refl _
  replace hZ : Z.Warmed39 (s.setVm s.vm).vm := hZ
  replace hown : (s.setVm s.vm).vm.findClass "com/example/sunset_grant/sunsetgrant/base/AccessEqualsPinLaw" = some m.cls := hown
  have M0 : Mv h0 h0 [] [] := Mv.refl _ _
  refine Go.cast (ef_rm_mk m p1 ) ?_
  refine Go.of (T' := s₁) (f' := (mkF m 1 #[.val (.int p1), .unset] [(.int p1)])) (fun _ k => XS.iloadN X0.here hx rfl (hb hby d_method_5_code_0) rfl k) ?_
  refine goS X0 hx hZ hown (hw _ (List.mem_of_getElem? (i := 7) rfl)) (hw _ (List.mem_of_getElem? (i := 8) rfl)) (hw _ (List.mem_of_getElem? (i := 5) rfl)) (hw _ (List.mem_of_getElem? (i := 9) rfl)) (by decide) (C := 0) (S := 0) ((rm_len l Z a0 hw p1 h0 ).bk (W := 0) hZ (hw _ (List.mem_of_getElem? (i := 9) rfl)) (hw _ (List.mem_of_getElem? (i := 5) rfl)) (by decide) (by decide)) e0 (argsL := [(.int p1)]) (rest := []) (by rw [hml]; rfl) (lenOf pd__I_I rfl) rfl rfl (hb hby d_method_5_code_1) (Nat.le_of_eq rfl) (by decide) (by decide) ?_
  intro v1 T1 L1 X1 hQ1
  obtain ⟨nq1, e1, rfl⟩ := hQ1
  replace X1 := standNil X1 nq1
  show Go p e below P T1 (mkF m 4 #[.val (.int p1), .unset] [(.int (ln p1))])
  refine Go.of (T' := T1) (f' := (mkF m 5 #[.val (.int p1), .val (.int (ln p1))] [])) (fun _ k => XS.istoreN X1.here hx rfl (hb hby d_method_5_code_4) rfl (l' := #[.val (.int p1), .val (.int (ln p1))]) rfl k) ?_
  refine Go.of (T' := T1) (f' := (mkF m 6 #[.val (.int p1), .val (.int (ln p1))] [(.int (ln p1))])) (fun _ k => XS.iloadN X1.here hx rfl (hb hby d_method_5_code_5) rfl k) ?_
  by_cases hc6 : (ln p1) = (0 : Int32)
  ·
    refine Go.of (T' := T1) (f' := (mkF m 9 #[.val (.int p1), .val (.int (ln p1))] [])) (fun _ k => XS.ifNo X1.here hx rfl (hb hby d_method_5_code_6) rfl ((if0 _ _).trans (teq hc6).2) k) ?_
    obtain ⟨T2, h2, X2, e2, E2, A2, D2, -, st2⟩ := newO X1 hx hZ hown (hw _ (List.mem_of_getElem? (i := 10) rfl)) (hw _ (List.mem_of_getElem? (i := 11) rfl)) (hw _ (List.mem_of_getElem? (i := 12) rfl)) e1 (g := (mkF m 9 #[.val (.int p1), .val (.int (ln p1))] [])) rfl (hb hby d_method_5_code_9) (by decide) (by decide)
    obtain ⟨b2, g2⟩ : ∃ z, z = h0.size := ⟨_, rfl⟩
    rw [← g2] at A2 D2 st2
    have fr_b2 : h0.size ≤ b2 := Nat.le_trans M0.le (Nat.le_of_eq g2.symm)
    have Sf_b2 := Safe.new (Z := Z) (EL := consts_1) (vm := s.vm) (Nat.le_of_eq g2.symm)
    have K2 := keepE E2
    have M2 := M0.ext E2
    replace hk := Nat.le_trans hk (K2).1
    have hs3 := CHr.keep (K2) sf0 RH.1
    replace Sf_b2 := Safe.keep (K2) sf0 RH.1 Sf_b2
    replace RH := RH.trans hs3
    replace Z_cs := StaKeep Z_cs K2 all0
    have E_b2 := A2
    have F_value_b2 : Fld Z h2 b2 "java/lang/String" "value" "[B" .null := D2 (Or.inr (hw _ (List.mem_of_getElem? (i := 26) rfl))) (ty := (.array .byte)) (by decide)
    have F_coder_b2 : Fld Z h2 b2 "java/lang/String" "coder" "B" (.int (0 : Int32)) := D2 (Or.inr (hw _ (List.mem_of_getElem? (i := 27) rfl))) (ty := .byte) (by decide)
    refine Go.of (T' := T2) (f' := (mkF m 12 #[.val (.int p1), .val (.int (ln p1))] [(.ref b2)])) st2 ?_
    refine Go.of (T' := T2) (f' := (mkF m 13 #[.val (.int p1), .val (.int (ln p1))] [(.ref b2), (.ref b2)])) (fun _ k => XS.dup X2.here hx rfl (hb hby d_method_5_code_12) rfl rfl k) ?_
    refine Go.of (T' := T2) (f' := (mkF m 14 #[.val (.int p1), .val (.int (ln p1))] [(.int (0 : Int32)), (.ref b2), (.ref b2)])) (fun _ k => XS.iconst X2.here hx rfl (hb hby d_method_5_code_13) k) ?_
    obtain ⟨T4, h4, k4, X4, e4, E4, A4, st4⟩ := newP X2 hx hZ (hw _ (List.mem_of_getElem? (i := 13) rfl)) e2 (g := (mkF m 14 #[.val (.int p1), .val (.int (ln p1))] [(.int (0 : Int32)), (.ref b2), (.ref b2)])) rfl (hb hby d_method_5_code_14) rfl (by decide) (cap := 0) (by decide) (by decide) (by decide) (by decide)
    obtain ⟨b4, g4⟩ : ∃ z, z = h2.size := ⟨_, rfl⟩
    rw [← g4] at A4 st4
    have ne_b2_b4 : b2 ≠ b4 := Nat.ne_of_lt (Nat.lt_of_lt_of_le E_b2.lt (Nat.le_of_eq g4.symm))
    have fr_b4 : h0.size ≤ b4 := Nat.le_trans M2.le (Nat.le_of_eq g4.symm)
    have Sf_b4 := Safe.new (Z := Z) (EL := consts_1) (vm := s.vm) (Nat.le_of_eq g4.symm)
    have K4 := keepE E4
    have M4 := M2.ext E4
    replace hk := Nat.le_trans hk (K4).1
    have hs5 := CHr.keep (K4) sf0 RH.1
    replace Sf_b2 := Safe.keep (K4) sf0 RH.1 Sf_b2
    replace Sf_b4 := Safe.keep (K4) sf0 RH.1 Sf_b4
    replace RH := RH.trans hs5
    replace Z_cs := StaKeep Z_cs K4 all0
    replace E_b2 := E_b2.keep K4
    replace F_value_b2 := F_value_b2.keep K4 nin0
    replace F_coder_b2 := F_coder_b2.keep K4 nin0
    have V_b4 : Arv Z h4 b4 k4 .char (0 : Int32) [] (.int (0 : Int32)) := (Arv.new A4 (by decide)).pad (pad_rep [] (.int (0 : Int32)) 0)
    refine Go.of (T' := T4) (f' := (mkF m 16 #[.val (.int p1), .val (.int (ln p1))] [(.ref b4), (.ref b2), (.ref b2)])) st4 ?_
    refine goIH X4 hx hZ rfl hown (hw _ (List.mem_of_getElem? (i := 14) rfl)) (hw _ (List.mem_of_getElem? (i := 15) rfl)) (hw _ (List.mem_of_getElem? (i := 12) rfl)) (hw _ (List.mem_of_getElem? (i := 16) rfl)) (by decide) (W := 1) (C := 4) (S := 8) (rm_init0 l Z a0 hw b2 b4 _ h4 E_b2 F_value_b2 F_coder_b2 V_b4) rfl rfl (by decide) (by decide) hS hk (hEL_1 hw) RH.1 e4 (argsL := [(.ref b4)]) (rest := [(.ref b2)]) (by rw [hml]; rfl) (lenOf pd___C_V rfl) rfl rfl (hb hby d_method_5_code_16) (Nat.le_of_eq rfl) (by decide) (by decide) ?_
    intro v6 T6 L6 X6 hQ6 hS6 hZ6 hown6 A6
    obtain ⟨h6, e6⟩ : ∃ z, T6.heap = z := ⟨_, rfl⟩
    rw [e6] at hQ6 hS6 A6
    have E_b2_o := E_b2
    obtain ⟨rfl, Mc6, t6, S6⟩ := hQ6
    have M6 := M4.app Mc6 (allS (Or.inr fr_b2) all0)
    clear hS hk
    replace Sf_b2 := CHr.safe A6 E_b2.lt Sf_b2
    replace Sf_b4 := CHr.safe A6 V_b4.lt Sf_b4
    replace RH := RH.trans A6
    replace Z_cs := StaKeep Z_cs Mc6.1 (allS (staExa E_b2_o) all0)
    replace E_b2 := E_b2.keep Mc6.1
    replace V_b4 := V_b4.keep Mc6.1 (ninS (Ne.symm ne_b2_b4) nin0)
    have S_b2 := S6
    have hS := hS6
    have hk : h6.size ≤ h6.size := Nat.le_refl _
    replace hZ := hZ6
    replace hown := hown6
    show Go p e below P T6 (mkF m 19 #[.val (.int p1), .val (.int (ln p1))] [(.ref b2)])
    exact goRetRH (Q := fun v h L => Mv h0 h [] L ∧ ∃ (a t : Addr), v = some (.ref a) ∧ h0.size ≤ a ∧ Str Z h a t (mkCs p1)) X6 hx hZ hS hk (hEL_1 hw) RH hret rfl hlk rfl rfl (hb hby d_method_5_code_19) K (by decide) (by decide) e6 (⟨M6, b2, t6, rfl, fr_b2, by unfold mkCs; rw [if_pos hc6]; exact S_b2⟩)
  ·
    refine Go.of (T' := T1) (f' := (mkF m 20 #[.val (.int p1), .val (.int (ln p1))] [])) (fun _ k => XS.ifYes X1.here hx rfl (pc0 := 6) (pc' := 20) rfl (hb hby d_method_5_code_6) rfl ((if0 _ _).trans (feq hc6).2) (by decide) (by decide) k) ?_
    refine Go.of (T' := T1) (f' := (mkF m 21 #[.val (.int p1), .val (.int (ln p1))] [(.int (ln p1))])) (fun _ k => XS.iloadN X1.here hx rfl (hb hby d_method_5_code_20) rfl k) ?_
    refine Go.of (T' := T1) (f' := (mkF m 22 #[.val (.int p1), .val (.int (ln p1))] [(.int (1 : Int32)), (.int (ln p1))])) (fun _ k => XS.iconst X1.here hx rfl (hb hby d_method_5_code_21) k) ?_
    by_cases hc22 : (ln p1) = (1 : Int32)
    ·
      refine Go.of (T' := T1) (f' := (mkF m 25 #[.val (.int p1), .val (.int (ln p1))] [])) (fun _ k => XS.icmpNo X1.here hx rfl (hb hby d_method_5_code_22) rfl (teq hc22).2 k) ?_
      obtain ⟨T7, h7, X7, e7, E7, A7, D7, -, st7⟩ := newO X1 hx hZ hown (hw _ (List.mem_of_getElem? (i := 10) rfl)) (hw _ (List.mem_of_getElem? (i := 11) rfl)) (hw _ (List.mem_of_getElem? (i := 12) rfl)) e1 (g := (mkF m 25 #[.val (.int p1), .val (.int (ln p1))] [])) rfl (hb hby d_method_5_code_25) (by decide) (by decide)
      obtain ⟨b7, g7⟩ : ∃ z, z = h0.size := ⟨_, rfl⟩
      rw [← g7] at A7 D7 st7
      have fr_b7 : h0.size ≤ b7 := Nat.le_trans M0.le (Nat.le_of_eq g7.symm)
      have Sf_b7 := Safe.new (Z := Z) (EL := consts_1) (vm := s.vm) (Nat.le_of_eq g7.symm)
      have K7 := keepE E7
      have M7 := M0.ext E7
      replace hk := Nat.le_trans hk (K7).1
      have hs8 := CHr.keep (K7) sf0 RH.1
      replace Sf_b7 := Safe.keep (K7) sf0 RH.1 Sf_b7
      replace RH := RH.trans hs8
      replace Z_cs := StaKeep Z_cs K7 all0
      have E_b7 := A7
      have F_value_b7 : Fld Z h7 b7 "java/lang/String" "value" "[B" .null := D7 (Or.inr (hw _ (List.mem_of_getElem? (i := 26) rfl))) (ty := (.array .byte)) (by decide)
      have F_coder_b7 : Fld Z h7 b7 "java/lang/String" "coder" "B" (.int (0 : Int32)) := D7 (Or.inr (hw _ (List.mem_of_getElem? (i := 27) rfl))) (ty := .byte) (by decide)
      refine Go.of (T' := T7) (f' := (mkF m 28 #[.val (.int p1), .val (.int (ln p1))] [(.ref b7)])) st7 ?_
      refine Go.of (T' := T7) (f' := (mkF m 29 #[.val (.int p1), .val (.int (ln p1))] [(.ref b7), (.ref b7)])) (fun _ k => XS.dup X7.here hx rfl (hb hby d_method_5_code_28) rfl rfl k) ?_
      refine Go.of (T' := T7) (f' := (mkF m 30 #[.val (.int p1), .val (.int (ln p1))] [(.int (1 : Int32)), (.ref b7), (.ref b7)])) (fun _ k => XS.iconst X7.here hx rfl (hb hby d_method_5_code_29) k) ?_
      obtain ⟨T9, h9, k9, X9, e9, E9, A9, st9⟩ := newP X7 hx hZ (hw _ (List.mem_of_getElem? (i := 13) rfl)) e7 (g := (mkF m 30 #[.val (.int p1), .val (.int (ln p1))] [(.int (1 : Int32)), (.ref b7), (.ref b7)])) rfl (hb hby d_method_5_code_30) rfl (by decide) (cap := 1) (by decide) (by decide) (by decide) (by decide)
      obtain ⟨b9, g9⟩ : ∃ z, z = h7.size := ⟨_, rfl⟩
      rw [← g9] at A9 st9
      have ne_b7_b9 : b7 ≠ b9 := Nat.ne_of_lt (Nat.lt_of_lt_of_le E_b7.lt (Nat.le_of_eq g9.symm))
      have fr_b9 : h0.size ≤ b9 := Nat.le_trans M7.le (Nat.le_of_eq g9.symm)
      have Sf_b9 := Safe.new (Z := Z) (EL := consts_1) (vm := s.vm) (Nat.le_of_eq g9.symm)
      have K9 := keepE E9
      have M9 := M7.ext E9
      replace hk := Nat.le_trans hk (K9).1
      have hs10 := CHr.keep (K9) sf0 RH.1
      replace Sf_b7 := Safe.keep (K9) sf0 RH.1 Sf_b7
      replace Sf_b9 := Safe.keep (K9) sf0 RH.1 Sf_b9
      replace RH := RH.trans hs10
      replace Z_cs := StaKeep Z_cs K9 all0
      replace E_b7 := E_b7.keep K9
      replace F_value_b7 := F_value_b7.keep K9 nin0
      replace F_coder_b7 := F_coder_b7.keep K9 nin0
      have V_b9 : Arv Z h9 b9 k9 .char (1 : Int32) [(.int (0 : Int32))] (.int (0 : Int32)) := (Arv.new A9 (by decide)).pad (pad_rep [] (.int (0 : Int32)) 1)
      refine Go.of (T' := T9) (f' := (mkF m 32 #[.val (.int p1), .val (.int (ln p1))] [(.ref b9), (.ref b7), (.ref b7)])) st9 ?_
      refine Go.of (T' := T9) (f' := (mkF m 33 #[.val (.int p1), .val (.int (ln p1))] [(.ref b9), (.ref b9), (.ref b7), (.ref b7)])) (fun _ k => XS.dup X9.here hx rfl (hb hby d_method_5_code_32) rfl rfl k) ?_
      refine Go.of (T' := T9) (f' := (mkF m 34 #[.val (.int p1), .val (.int (ln p1))] [(.int (0 : Int32)), (.ref b9), (.ref b9), (.ref b7), (.ref b7)])) (fun _ k => XS.iconst X9.here hx rfl (hb hby d_method_5_code_33) k) ?_
      refine Go.of (T' := T9) (f' := (mkF m 35 #[.val (.int p1), .val (.int (ln p1))] [(.int p1), (.int (0 : Int32)), (.ref b9), (.ref b9), (.ref b7), (.ref b7)])) (fun _ k => XS.iloadN X9.here hx rfl (hb hby d_method_5_code_34) rfl k) ?_
      refine goS X9 hx hZ hown (hw _ (List.mem_of_getElem? (i := 63) rfl)) (hw _ (List.mem_of_getElem? (i := 64) rfl)) (hw _ (List.mem_of_getElem? (i := 5) rfl)) (hw _ (List.mem_of_getElem? (i := 65) rfl)) (by decide) (C := 0) (S := 0) ((rm_c0 l Z a0 hw p1 h9 ).bk (W := 5) hZ (hw _ (List.mem_of_getElem? (i := 65) rfl)) (hw _ (List.mem_of_getElem? (i := 5) rfl)) (by decide) (by decide)) e9 (argsL := [(.int p1)]) (rest := [(.int (0 : Int32)), (.ref b9), (.ref b9), (.ref b7), (.ref b7)]) (by rw [hml]; rfl) (lenOf pd__I_C rfl) rfl rfl (hb hby d_method_5_code_35) (Nat.le_of_eq rfl) (by decide) (by decide) ?_
      intro v11 T11 L11 X11 hQ11
      obtain ⟨nq11, e11, rfl⟩ := hQ11
      replace X11 := standNil X11 nq11
      show Go p e below P T11 (mkF m 38 #[.val (.int p1), .val (.int (ln p1))] [(.int (k0 p1)), (.int (0 : Int32)), (.ref b9), (.ref b9), (.ref b7), (.ref b7)])
      obtain ⟨cl12, Ar12, cq12, Sz12, Nn12, Hs12, Gs12⟩ := id V_b9
      have hin12 : ¬ ((0 : Int32) < 0 ∨ cl12.slots.size ≤ ((0 : Int32)).toNatClampNeg) := inb_of Sz12 ⟨by decide, by decide⟩
      obtain ⟨T12, h12, X12, e12, W12, st12⟩ := stC X11 hx hZ e11 Ar12 (j := (0 : Int32)) hin12 (g := (mkF m 38 #[.val (.int p1), .val (.int (ln p1))] [(.int (k0 p1)), (.int (0 : Int32)), (.ref b9), (.ref b9), (.ref b7), (.ref b7)])) rfl rfl (hb hby d_method_5_code_38)
      have fq12 : fits .char (.int (nar .char (k0 p1))) = true := fits_nar_char _
      rw [show nar .char (k0 p1) = (k0 p1) from narC _] at W12 fq12
      have V12 := Arv.set Ar12 cq12 Sz12 Nn12 Hs12 Gs12 fq12 W12 0 rfl (Nat.le_of_ble_eq_true rfl)
      have V_b9_o := V_b9
      have K12 := Keep.of_wr W12
      have M12 := M9.wr W12 (Or.inr fr_b9)
      replace hk := Nat.le_trans hk (K12).1
      have hq13 : ∀ x ∈ ([b9] : List Addr), Safe Z consts_1 s.vm h9 x := (sfS Sf_b9 sf0)
      have hs13 := CHr.keep (K12) hq13 RH.1
      replace Sf_b7 := Safe.keep (K12) hq13 RH.1 Sf_b7
      replace Sf_b9 := Safe.keep (K12) hq13 RH.1 Sf_b9
      replace RH := RH.trans hs13
      replace Z_cs := StaKeep Z_cs K12 (allS (staArv V_b9_o) all0)
      replace E_b7 := E_b7.keep K12
      replace F_value_b7 := F_value_b7.keep K12 (ninS ne_b7_b9 nin0)
      replace F_coder_b7 := F_coder_b7.keep K12 (ninS ne_b7_b9 nin0)
      replace V_b9 : Arv Z h12 b9 k9 .char (1 : Int32) [(.int (k0 p1))] (.int (0 : Int32)) := V12
      refine Go.of (T' := T12) (f' := (mkF m 39 #[.val (.int p1), .val (.int (ln p1))] [(.ref b9), (.ref b7), (.ref b7)])) st12 ?_
      refine goI X12 hx hZ rfl hown (hw _ (List.mem_of_getElem? (i := 14) rfl)) (hw _ (List.mem_of_getElem? (i := 15) rfl)) (hw _ (List.mem_of_getElem? (i := 16) rfl)) (by decide) (C := 1) (S := 1) (newStr (W := 1) hZ (hw_words hw) (hw _ (List.mem_of_getElem? (i := 11) rfl)) (cs := [(k0 p1)]) E_b7 F_value_b7 F_coder_b7 V_b9 rfl Z_cs hz (n := 1) rfl rfl (by decide) (by decide) (by intro c hc; simp only [List.mem_cons, List.not_mem_nil, or_false] at hc; subst hc; exact m255 _) (by decide) (by decide)) e12 (argsL := [(.ref b9)]) (rest := [(.ref b7)]) (by rw [hml]; rfl) (lenOf pd___C_V rfl) rfl rfl (hb hby d_method_5_code_39) (Nat.le_of_eq rfl) (by decide) (by decide) ?_
      intro v14 T14 L14 X14 hQ14
      obtain ⟨h14, e14⟩ : ∃ z, T14.heap = z := ⟨_, rfl⟩
      rw [e14] at hQ14
      have E_b7_o := E_b7
      obtain ⟨rfl, Mc14, t14, le14, S14⟩ := hQ14
      have ne_b7_t14 : b7 ≠ t14 := Nat.ne_of_lt (Nat.lt_of_lt_of_le E_b7.lt le14)
      have ne_b9_t14 : b9 ≠ t14 := Nat.ne_of_lt (Nat.lt_of_lt_of_le V_b9.lt le14)
      have fr_t14 : h0.size ≤ t14 := Nat.le_trans M12.le le14
      have Sf_t14 := Safe.new (Z := Z) (EL := consts_1) (vm := s.vm) le14
      have M14 := M12.app Mc14 (allS (Or.inr fr_b7) all0)
      replace hk := Nat.le_trans hk (Mc14.1).1
      have hq15 : ∀ x ∈ ([b7] : List Addr), Safe Z consts_1 s.vm h12 x := (sfS Sf_b7 sf0)
      have hs15 := CHr.keep (Mc14.1) hq15 RH.1
      replace Sf_b7 := Safe.keep (Mc14.1) hq15 RH.1 Sf_b7
      replace Sf_b9 := Safe.keep (Mc14.1) hq15 RH.1 Sf_b9
      replace Sf_t14 := Safe.keep (Mc14.1) hq15 RH.1 Sf_t14
      replace RH := RH.trans hs15
      replace Z_cs := StaKeep Z_cs Mc14.1 (allS (staExa E_b7_o) all0)
      replace E_b7 := E_b7.keep Mc14.1
      replace V_b9 := V_b9.keep Mc14.1 (ninS (Ne.symm ne_b7_b9) nin0)
      have S_b7 := S14
      show Go p e below P T14 (mkF m 42 #[.val (.int p1), .val (.int (ln p1))] [(.ref b7)])
      exact goRetRH (Q := fun v h L => Mv h0 h [] L ∧ ∃ (a t : Addr), v = some (.ref a) ∧ h0.size ≤ a ∧ Str Z h a t (mkCs p1)) X14 hx hZ hS hk (hEL_1 hw) RH hret rfl hlk rfl rfl (hb hby d_method_5_code_42) K (by decide) (by decide) e14 (⟨M14, b7, t14, rfl, fr_b7, by unfold mkCs; rw [if_neg hc6, if_pos hc22]; exact S_b7⟩)
    ·
      refine Go.of (T' := T1) (f' := (mkF m 43 #[.val (.int p1), .val (.int (ln p1))] [])) (fun _ k => XS.icmpYes X1.here hx rfl (pc0 := 22) (pc' := 43) rfl (hb hby d_method_5_code_22) rfl (feq hc22).2 (by decide) (by decide) k) ?_
      obtain ⟨T16, h16, X16, e16, E16, A16, D16, -, st16⟩ := newO X1 hx hZ hown (hw _ (List.mem_of_getElem? (i := 10) rfl)) (hw _ (List.mem_of_getElem? (i := 11) rfl)) (hw _ (List.mem_of_getElem? (i := 12) rfl)) e1 (g := (mkF m 43 #[.val (.int p1), .val (.int (ln p1))] [])) rfl (hb hby d_method_5_code_43) (by decide) (by decide)
      obtain ⟨b16, g16⟩ : ∃ z, z = h0.size := ⟨_, rfl⟩
      rw [← g16] at A16 D16 st16
      have fr_b16 : h0.size ≤ b16 := Nat.le_trans M0.le (Nat.le_of_eq g16.symm)
      have Sf_b16 := Safe.new (Z := Z) (EL := consts_1) (vm := s.vm) (Nat.le_of_eq g16.symm)
      have K16 := keepE E16
      have M16 := M0.ext E16
      replace hk := Nat.le_trans hk (K16).1
      have hs17 := CHr.keep (K16) sf0 RH.1
      replace Sf_b16 := Safe.keep (K16) sf0 RH.1 Sf_b16
      replace RH := RH.trans hs17
      replace Z_cs := StaKeep Z_cs K16 all0
      have E_b16 := A16
      have F_value_b16 : Fld Z h16 b16 "java/lang/String" "value" "[B" .null := D16 (Or.inr (hw _ (List.mem_of_getElem? (i := 26) rfl))) (ty := (.array .byte)) (by decide)
      have F_coder_b16 : Fld Z h16 b16 "java/lang/String" "coder" "B" (.int (0 : Int32)) := D16 (Or.inr (hw _ (List.mem_of_getElem? (i := 27) rfl))) (ty := .byte) (by decide)
      refine Go.of (T' := T16) (f' := (mkF m 46 #[.val (.int p1), .val (.int (ln p1))] [(.ref b16)])) st16 ?_
      refine Go.of (T' := T16) (f' := (mkF m 47 #[.val (.int p1), .val (.int (ln p1))] [(.ref b16), (.ref b16)])) (fun _ k => XS.dup X16.here hx rfl (hb hby d_method_5_code_46) rfl rfl k) ?_
      refine Go.of (T' := T16) (f' := (mkF m 48 #[.val (.int p1), .val (.int (ln p1))] [(.int (2 : Int32)), (.ref b16), (.ref b16)])) (fun _ k => XS.iconst X16.here hx rfl (hb hby d_method_5_code_47) k) ?_
      obtain ⟨T18, h18, k18, X18, e18, E18, A18, st18⟩ := newP X16 hx hZ (hw _ (List.mem_of_getElem? (i := 13) rfl)) e16 (g := (mkF m 48 #[.val (.int p1), .val (.int (ln p1))] [(.int (2 : Int32)), (.ref b16), (.ref b16)])) rfl (hb hby d_method_5_code_48) rfl (by decide) (cap := 2) (by decide) (by decide) (by decide) (by decide)
      obtain ⟨b18, g18⟩ : ∃ z, z = h16.size := ⟨_, rfl⟩
      rw [← g18] at A18 st18
      have ne_b16_b18 : b16 ≠ b18 := Nat.ne_of_lt (Nat.lt_of_lt_of_le E_b16.lt (Nat.le_of_eq g18.symm))
      have fr_b18 : h0.size ≤ b18 := Nat.le_trans M16.le (Nat.le_of_eq g18.symm)
      have Sf_b18 := Safe.new (Z := Z) (EL := consts_1) (vm := s.vm) (Nat.le_of_eq g18.symm)
      have K18 := keepE E18
      have M18 := M16.ext E18
      replace hk := Nat.le_trans hk (K18).1
      have hs19 := CHr.keep (K18) sf0 RH.1
      replace Sf_b16 := Safe.keep (K18) sf0 RH.1 Sf_b16
      replace Sf_b18 := Safe.keep (K18) sf0 RH.1 Sf_b18
      replace RH := RH.trans hs19
      replace Z_cs := StaKeep Z_cs K18 all0
      replace E_b16 := E_b16.keep K18
      replace F_value_b16 := F_value_b16.keep K18 nin0
      replace F_coder_b16 := F_coder_b16.keep K18 nin0
      have V_b18 : Arv Z h18 b18 k18 .char (2 : Int32) [(.int (0 : Int32)), (.int (0 : Int32))] (.int (0 : Int32)) := (Arv.new A18 (by decide)).pad (pad_rep [] (.int (0 : Int32)) 2)
      refine Go.of (T' := T18) (f' := (mkF m 50 #[.val (.int p1), .val (.int (ln p1))] [(.ref b18), (.ref b16), (.ref b16)])) st18 ?_
      refine Go.of (T' := T18) (f' := (mkF m 51 #[.val (.int p1), .val (.int (ln p1))] [(.ref b18), (.ref b18), (.ref b16), (.ref b16)])) (fun _ k => XS.dup X18.here hx rfl (hb hby d_method_5_code_50) rfl rfl k) ?_
      refine Go.of (T' := T18) (f' := (mkF m 52 #[.val (.int p1), .val (.int (ln p1))] [(.int (0 : Int32)), (.ref b18), (.ref b18), (.ref b16), (.ref b16)])) (fun _ k => XS.iconst X18.here hx rfl (hb hby d_method_5_code_51) k) ?_
      refine Go.of (T' := T18) (f' := (mkF m 53 #[.val (.int p1), .val (.int (ln p1))] [(.int p1), (.int (0 : Int32)), (.ref b18), (.ref b18), (.ref b16), (.ref b16)])) (fun _ k => XS.iloadN X18.here hx rfl (hb hby d_method_5_code_52) rfl k) ?_
      refine goS X18 hx hZ hown (hw _ (List.mem_of_getElem? (i := 63) rfl)) (hw _ (List.mem_of_getElem? (i := 64) rfl)) (hw _ (List.mem_of_getElem? (i := 5) rfl)) (hw _ (List.mem_of_getElem? (i := 65) rfl)) (by decide) (C := 0) (S := 0) ((rm_c0 l Z a0 hw p1 h18 ).bk (W := 5) hZ (hw _ (List.mem_of_getElem? (i := 65) rfl)) (hw _ (List.mem_of_getElem? (i := 5) rfl)) (by decide) (by decide)) e18 (argsL := [(.int p1)]) (rest := [(.int (0 : Int32)), (.ref b18), (.ref b18), (.ref b16), (.ref b16)]) (by rw [hml]; rfl) (lenOf pd__I_C rfl) rfl rfl (hb hby d_method_5_code_53) (Nat.le_of_eq rfl) (by decide) (by decide) ?_
      intro v20 T20 L20 X20 hQ20
      obtain ⟨nq20, e20, rfl⟩ := hQ20
      replace X20 := standNil X20 nq20
      show Go p e below P T20 (mkF m 56 #[.val (.int p1), .val (.int (ln p1))] [(.int (k0 p1)), (.int (0 : Int32)), (.ref b18), (.ref b18), (.ref b16), (.ref b16)])
      obtain ⟨cl21, Ar21, cq21, Sz21, Nn21, Hs21, Gs21⟩ := id V_b18
      have hin21 : ¬ ((0 : Int32) < 0 ∨ cl21.slots.size ≤ ((0 : Int32)).toNatClampNeg) := inb_of Sz21 ⟨by decide, by decide⟩
      obtain ⟨T21, h21, X21, e21, W21, st21⟩ := stC X20 hx hZ e20 Ar21 (j := (0 : Int32)) hin21 (g := (mkF m 56 #[.val (.int p1), .val (.int (ln p1))] [(.int (k0 p1)), (.int (0 : Int32)), (.ref b18), (.ref b18), (.ref b16), (.ref b16)])) rfl rfl (hb hby d_method_5_code_56)
      have fq21 : fits .char (.int (nar .char (k0 p1))) = true := fits_nar_char _
      rw [show nar .char (k0 p1) = (k0 p1) from narC _] at W21 fq21
      have V21 := Arv.set Ar21 cq21 Sz21 Nn21 Hs21 Gs21 fq21 W21 0 rfl (Nat.le_of_ble_eq_true rfl)
      have V_b18_o := V_b18
      have K21 := Keep.of_wr W21
      have M21 := M18.wr W21 (Or.inr fr_b18)
      replace hk := Nat.le_trans hk (K21).1
      have hq22 : ∀ x ∈ ([b18] : List Addr), Safe Z consts_1 s.vm h18 x := (sfS Sf_b18 sf0)
      have hs22 := CHr.keep (K21) hq22 RH.1
      replace Sf_b16 := Safe.keep (K21) hq22 RH.1 Sf_b16
      replace Sf_b18 := Safe.keep (K21) hq22 RH.1 Sf_b18
      replace RH := RH.trans hs22
      replace Z_cs := StaKeep Z_cs K21 (allS (staArv V_b18_o) all0)
      replace E_b16 := E_b16.keep K21
      replace F_value_b16 := F_value_b16.keep K21 (ninS ne_b16_b18 nin0)
      replace F_coder_b16 := F_coder_b16.keep K21 (ninS ne_b16_b18 nin0)
      replace V_b18 : Arv Z h21 b18 k18 .char (2 : Int32) [(.int (k0 p1)), (.int (0 : Int32))] (.int (0 : Int32)) := V21
      refine Go.of (T' := T21) (f' := (mkF m 57 #[.val (.int p1), .val (.int (ln p1))] [(.ref b18), (.ref b16), (.ref b16)])) st21 ?_
      refine Go.of (T' := T21) (f' := (mkF m 58 #[.val (.int p1), .val (.int (ln p1))] [(.ref b18), (.ref b18), (.ref b16), (.ref b16)])) (fun _ k => XS.dup X21.here hx rfl (hb hby d_method_5_code_57) rfl rfl k) ?_
      refine Go.of (T' := T21) (f' := (mkF m 59 #[.val (.int p1), .val (.int (ln p1))] [(.int (1 : Int32)), (.ref b18), (.ref b18), (.ref b16), (.ref b16)])) (fun _ k => XS.iconst X21.here hx rfl (hb hby d_method_5_code_58) k) ?_
      refine Go.of (T' := T21) (f' := (mkF m 60 #[.val (.int p1), .val (.int (ln p1))] [(.int p1), (.int (1 : Int32)), (.ref b18), (.ref b18), (.ref b16), (.ref b16)])) (fun _ k => XS.iloadN X21.here hx rfl (hb hby d_method_5_code_59) rfl k) ?_
      refine goS X21 hx hZ hown (hw _ (List.mem_of_getElem? (i := 66) rfl)) (hw _ (List.mem_of_getElem? (i := 67) rfl)) (hw _ (List.mem_of_getElem? (i := 5) rfl)) (hw _ (List.mem_of_getElem? (i := 68) rfl)) (by decide) (C := 0) (S := 0) ((rm_c1 l Z a0 hw p1 h21 ).bk (W := 5) hZ (hw _ (List.mem_of_getElem? (i := 68) rfl)) (hw _ (List.mem_of_getElem? (i := 5) rfl)) (by decide) (by decide)) e21 (argsL := [(.int p1)]) (rest := [(.int (1 : Int32)), (.ref b18), (.ref b18), (.ref b16), (.ref b16)]) (by rw [hml]; rfl) (lenOf pd__I_C rfl) rfl rfl (hb hby d_method_5_code_60) (Nat.le_of_eq rfl) (by decide) (by decide) ?_
      intro v23 T23 L23 X23 hQ23
      obtain ⟨nq23, e23, rfl⟩ := hQ23
      replace X23 := standNil X23 nq23
      show Go p e below P T23 (mkF m 63 #[.val (.int p1), .val (.int (ln p1))] [(.int (k1 p1)), (.int (1 : Int32)), (.ref b18), (.ref b18), (.ref b16), (.ref b16)])
      obtain ⟨cl24, Ar24, cq24, Sz24, Nn24, Hs24, Gs24⟩ := id V_b18
      have hin24 : ¬ ((1 : Int32) < 0 ∨ cl24.slots.size ≤ ((1 : Int32)).toNatClampNeg) := inb_of Sz24 ⟨by decide, by decide⟩
      obtain ⟨T24, h24, X24, e24, W24, st24⟩ := stC X23 hx hZ e23 Ar24 (j := (1 : Int32)) hin24 (g := (mkF m 63 #[.val (.int p1), .val (.int (ln p1))] [(.int (k1 p1)), (.int (1 : Int32)), (.ref b18), (.ref b18), (.ref b16), (.ref b16)])) rfl rfl (hb hby d_method_5_code_63)
      have fq24 : fits .char (.int (nar .char (k1 p1))) = true := fits_nar_char _
      rw [show nar .char (k1 p1) = (k1 p1) from narC _] at W24 fq24
      have V24 := Arv.set Ar24 cq24 Sz24 Nn24 Hs24 Gs24 fq24 W24 1 rfl (Nat.le_of_ble_eq_true rfl)
      have V_b18_o := V_b18
      have K24 := Keep.of_wr W24
      have M24 := M21.wr W24 (Or.inr fr_b18)
      replace hk := Nat.le_trans hk (K24).1
      have hq25 : ∀ x ∈ ([b18] : List Addr), Safe Z consts_1 s.vm h21 x := (sfS Sf_b18 sf0)
      have hs25 := CHr.keep (K24) hq25 RH.1
      replace Sf_b16 := Safe.keep (K24) hq25 RH.1 Sf_b16
      replace Sf_b18 := Safe.keep (K24) hq25 RH.1 Sf_b18
      replace RH := RH.trans hs25
      replace Z_cs := StaKeep Z_cs K24 (allS (staArv V_b18_o) all0)
      replace E_b16 := E_b16.keep K24
      replace F_value_b16 := F_value_b16.keep K24 (ninS ne_b16_b18 nin0)
      replace F_coder_b16 := F_coder_b16.keep K24 (ninS ne_b16_b18 nin0)
      replace V_b18 : Arv Z h24 b18 k18 .char (2 : Int32) [(.int (k0 p1)), (.int (k1 p1))] (.int (0 : Int32)) := V24
      refine Go.of (T' := T24) (f' := (mkF m 64 #[.val (.int p1), .val (.int (ln p1))] [(.ref b18), (.ref b16), (.ref b16)])) st24 ?_
      refine goI X24 hx hZ rfl hown (hw _ (List.mem_of_getElem? (i := 14) rfl)) (hw _ (List.mem_of_getElem? (i := 15) rfl)) (hw _ (List.mem_of_getElem? (i := 16) rfl)) (by decide) (C := 1) (S := 2) (newStr (W := 1) hZ (hw_words hw) (hw _ (List.mem_of_getElem? (i := 11) rfl)) (cs := [(k0 p1), (k1 p1)]) E_b16 F_value_b16 F_coder_b16 V_b18 rfl Z_cs hz (n := 2) rfl rfl (by decide) (by decide) (by intro c hc; simp only [List.mem_cons, List.not_mem_nil, or_false] at hc; rcases hc with rfl | rfl <;> exact m255 _) (by decide) (by decide)) e24 (argsL := [(.ref b18)]) (rest := [(.ref b16)]) (by rw [hml]; rfl) (lenOf pd___C_V rfl) rfl rfl (hb hby d_method_5_code_64) (Nat.le_of_eq rfl) (by decide) (by decide) ?_
      intro v26 T26 L26 X26 hQ26
      obtain ⟨h26, e26⟩ : ∃ z, T26.heap = z := ⟨_, rfl⟩
      rw [e26] at hQ26
      have E_b16_o := E_b16
      obtain ⟨rfl, Mc26, t26, le26, S26⟩ := hQ26
      have ne_b16_t26 : b16 ≠ t26 := Nat.ne_of_lt (Nat.lt_of_lt_of_le E_b16.lt le26)
      have ne_b18_t26 : b18 ≠ t26 := Nat.ne_of_lt (Nat.lt_of_lt_of_le V_b18.lt le26)
      have fr_t26 : h0.size ≤ t26 := Nat.le_trans M24.le le26
      have Sf_t26 := Safe.new (Z := Z) (EL := consts_1) (vm := s.vm) le26
      have M26 := M24.app Mc26 (allS (Or.inr fr_b16) all0)
      replace hk := Nat.le_trans hk (Mc26.1).1
      have hq27 : ∀ x ∈ ([b16] : List Addr), Safe Z consts_1 s.vm h24 x := (sfS Sf_b16 sf0)
      have hs27 := CHr.keep (Mc26.1) hq27 RH.1
      replace Sf_b16 := Safe.keep (Mc26.1) hq27 RH.1 Sf_b16
      replace Sf_b18 := Safe.keep (Mc26.1) hq27 RH.1 Sf_b18
      replace Sf_t26 := Safe.keep (Mc26.1) hq27 RH.1 Sf_t26
      replace RH := RH.trans hs27
      replace Z_cs := StaKeep Z_cs Mc26.1 (allS (staExa E_b16_o) all0)
      replace E_b16 := E_b16.keep Mc26.1
      replace V_b18 := V_b18.keep Mc26.1 (ninS (Ne.symm ne_b16_b18) nin0)
      have S_b16 := S26
      show Go p e below P T26 (mkF m 67 #[.val (.int p1), .val (.int (ln p1))] [(.ref b16)])
      exact goRetRH (Q := fun v h L => Mv h0 h [] L ∧ ∃ (a t : Addr), v = some (.ref a) ∧ h0.size ≤ a ∧ Str Z h a t (mkCs p1)) X26 hx hZ hS hk (hEL_1 hw) RH hret rfl hlk rfl rfl (hb hby d_method_5_code_67) K (by decide) (by decide) e26 (⟨M26, b16, t26, rfl, fr_b16, by unfold mkCs; rw [if_neg hc6, if_neg hc22]; exact S_b16⟩)
theorem ef_rm_same (m : MethodId) (x0 : Int32) (x1 : Int32)  : entryFrame m #[(.int x0), (.int x1)] 3 = mkF m 0 #[.val (.int x0), .val (.int x1), .unset] [] := by first | (simp [entryFrame, mkF, argsToLocals, Value.category]; done) | rfl
theorem d_method_6_code_0 : decode method_6_code 0 = .ok (.iload_n 0, 1) := by decide +kernel
theorem d_method_6_code_1 : decode method_6_code 1 = .ok (.invokestatic 7, 3) := by decide +kernel
theorem d_method_6_code_4 : decode method_6_code 4 = .ok (.istore_n 2, 1) := by decide +kernel
theorem d_method_6_code_5 : decode method_6_code 5 = .ok (.iload_n 2, 1) := by decide +kernel
theorem d_method_6_code_6 : decode method_6_code 6 = .ok (.iload_n 1, 1) := by decide +kernel
theorem d_method_6_code_7 : decode method_6_code 7 = .ok (.invokestatic 7, 3) := by decide +kernel
theorem d_method_6_code_10 : decode method_6_code 10 = .ok (.if_icmp .eq 5, 3) := by decide +kernel
theorem d_method_6_code_15 : decode method_6_code 15 = .ok (.iload_n 2, 1) := by decide +kernel
theorem d_method_6_code_16 : decode method_6_code 16 = .ok (.iconst 1, 1) := by decide +kernel
theorem d_method_6_code_17 : decode method_6_code 17 = .ok (.if_icmp .lt 16, 3) := by decide +kernel
theorem d_method_6_code_33 : decode method_6_code 33 = .ok (.iload_n 2, 1) := by decide +kernel
theorem d_method_6_code_34 : decode method_6_code 34 = .ok (.iconst 2, 1) := by decide +kernel
theorem d_method_6_code_35 : decode method_6_code 35 = .ok (.if_icmp .lt 16, 3) := by decide +kernel
theorem d_method_6_code_51 : decode method_6_code 51 = .ok (.iconst 1, 1) := by decide +kernel
theorem d_method_6_code_52 : decode method_6_code 52 = .ok (.ireturn, 1) := by decide +kernel
theorem d_method_6_code_38 : decode method_6_code 38 = .ok (.iload_n 0, 1) := by decide +kernel
theorem d_method_6_code_39 : decode method_6_code 39 = .ok (.invokestatic 22, 3) := by decide +kernel
theorem d_method_6_code_42 : decode method_6_code 42 = .ok (.iload_n 1, 1) := by decide +kernel
theorem d_method_6_code_43 : decode method_6_code 43 = .ok (.invokestatic 22, 3) := by decide +kernel
theorem d_method_6_code_46 : decode method_6_code 46 = .ok (.if_icmp .eq 5, 3) := by decide +kernel
theorem d_method_6_code_49 : decode method_6_code 49 = .ok (.iconst 0, 1) := by decide +kernel
theorem d_method_6_code_50 : decode method_6_code 50 = .ok (.ireturn, 1) := by decide +kernel
theorem d_method_6_code_20 : decode method_6_code 20 = .ok (.iload_n 0, 1) := by decide +kernel
theorem d_method_6_code_21 : decode method_6_code 21 = .ok (.invokestatic 18, 3) := by decide +kernel
theorem d_method_6_code_24 : decode method_6_code 24 = .ok (.iload_n 1, 1) := by decide +kernel
theorem d_method_6_code_25 : decode method_6_code 25 = .ok (.invokestatic 18, 3) := by decide +kernel
theorem d_method_6_code_28 : decode method_6_code 28 = .ok (.if_icmp .eq 5, 3) := by decide +kernel
theorem d_method_6_code_31 : decode method_6_code 31 = .ok (.iconst 0, 1) := by decide +kernel
theorem d_method_6_code_32 : decode method_6_code 32 = .ok (.ireturn, 1) := by decide +kernel
theorem d_method_6_code_13 : decode method_6_code 13 = .ok (.iconst 0, 1) := by decide +kernel
theorem d_method_6_code_14 : decode method_6_code 14 = .ok (.ireturn, 1) := by decide +kernel
set_option maxRecDepth 65536 in
set_option maxHeartbeats 40000000 in
theorem rm_same (l : Launch) (Z : State) (a0 : Array Value) (hw : ∀ d ∈ tables_1, d.before a0 Z = true) (p1 p2 : Int32) (h0 : Heap)  :
    MeetsW l Z (⟨"com/example/sunset_grant/sunsetgrant/base/AccessEqualsPinLaw", "same", "(II)Z"⟩ : MethodName) method_6_code 3 (some .boolean) ({ frames := 1, cells := 0, slots := 0, locals := 14 } : Room) #[(.int p1), (.int p2)] h0 (Pu h0 (fun v => v = some (.int (bi (mkCs p1 = mkCs p2))))) := by
  refine MeetsW.of (plainFor_of_name pn_com_example_sunset_grant_sunsetgrant_base_AccessEqualsPinLaw) ?_
  intro p e s m below meth c s₁ P hx hby hml hZ hown hnm hret hlk X0 e0 K
  have M0 : Mv h0 h0 [] [] := Mv.refl _ _
  refine Go.cast (ef_rm_same m p1 p2 ) ?_
  refine Go.of (T' := s₁) (f' := (mkF m 1 #[.val (.int p1), .val (.int p2), .unset] [(.int p1)])) (fun _ k => XS.iloadN X0.here hx rfl (hb hby d_method_6_code_0) rfl k) ?_
  refine goS X0 hx hZ hown (hw _ (List.mem_of_getElem? (i := 7) rfl)) (hw _ (List.mem_of_getElem? (i := 8) rfl)) (hw _ (List.mem_of_getElem? (i := 5) rfl)) (hw _ (List.mem_of_getElem? (i := 9) rfl)) (by decide) (C := 0) (S := 0) ((rm_len l Z a0 hw p1 h0 ).bk (W := 0) hZ (hw _ (List.mem_of_getElem? (i := 9) rfl)) (hw _ (List.mem_of_getElem? (i := 5) rfl)) (by decide) (by decide)) e0 (argsL := [(.int p1)]) (rest := []) (by rw [hml]; rfl) (lenOf pd__I_I rfl) rfl rfl (hb hby d_method_6_code_1) (Nat.le_of_eq rfl) (by decide) (by decide) ?_
  intro v1 T1 L1 X1 hQ1
  obtain ⟨nq1, e1, rfl⟩ := hQ1
  replace X1 := standNil X1 nq1
  show Go p e below P T1 (mkF m 4 #[.val (.int p1), .val (.int p2), .unset] [(.int (ln p1))])
  refine Go.of (T' := T1) (f' := (mkF m 5 #[.val (.int p1), .val (.int p2), .val (.int (ln p1))] [])) (fun _ k => XS.istoreN X1.here hx rfl (hb hby d_method_6_code_4) rfl (l' := #[.val (.int p1), .val (.int p2), .val (.int (ln p1))]) rfl k) ?_
  refine Go.of (T' := T1) (f' := (mkF m 6 #[.val (.int p1), .val (.int p2), .val (.int (ln p1))] [(.int (ln p1))])) (fun _ k => XS.iloadN X1.here hx rfl (hb hby d_method_6_code_5) rfl k) ?_
  refine Go.of (T' := T1) (f' := (mkF m 7 #[.val (.int p1), .val (.int p2), .val (.int (ln p1))] [(.int p2), (.int (ln p1))])) (fun _ k => XS.iloadN X1.here hx rfl (hb hby d_method_6_code_6) rfl k) ?_
  refine goS X1 hx hZ hown (hw _ (List.mem_of_getElem? (i := 7) rfl)) (hw _ (List.mem_of_getElem? (i := 8) rfl)) (hw _ (List.mem_of_getElem? (i := 5) rfl)) (hw _ (List.mem_of_getElem? (i := 9) rfl)) (by decide) (C := 0) (S := 0) ((rm_len l Z a0 hw p2 h0 ).bk (W := 1) hZ (hw _ (List.mem_of_getElem? (i := 9) rfl)) (hw _ (List.mem_of_getElem? (i := 5) rfl)) (by decide) (by decide)) e1 (argsL := [(.int p2)]) (rest := [(.int (ln p1))]) (by rw [hml]; rfl) (lenOf pd__I_I rfl) rfl rfl (hb hby d_method_6_code_7) (Nat.le_of_eq rfl) (by decide) (by decide) ?_
  intro v2 T2 L2 X2 hQ2
  obtain ⟨nq2, e2, rfl⟩ := hQ2
  replace X2 := standNil X2 nq2
  show Go p e below P T2 (mkF m 10 #[.val (.int p1), .val (.int p2), .val (.int (ln p1))] [(.int (ln p2)), (.int (ln p1))])
  by_cases hc10 : (ln p1) = (ln p2)
  ·
    refine Go.of (T' := T2) (f' := (mkF m 15 #[.val (.int p1), .val (.int p2), .val (.int (ln p1))] [])) (fun _ k => XS.icmpYes X2.here hx rfl (pc0 := 10) (pc' := 15) rfl (hb hby d_method_6_code_10) rfl (teq hc10).1 (by decide) (by decide) k) ?_
    refine Go.of (T' := T2) (f' := (mkF m 16 #[.val (.int p1), .val (.int p2), .val (.int (ln p1))] [(.int (ln p1))])) (fun _ k => XS.iloadN X2.here hx rfl (hb hby d_method_6_code_15) rfl k) ?_
    refine Go.of (T' := T2) (f' := (mkF m 17 #[.val (.int p1), .val (.int p2), .val (.int (ln p1))] [(.int (1 : Int32)), (.int (ln p1))])) (fun _ k => XS.iconst X2.here hx rfl (hb hby d_method_6_code_16) k) ?_
    by_cases hc17 : (ln p1) < (1 : Int32)
    ·
      refine Go.of (T' := T2) (f' := (mkF m 33 #[.val (.int p1), .val (.int p2), .val (.int (ln p1))] [])) (fun _ k => XS.icmpYes X2.here hx rfl (pc0 := 17) (pc' := 33) rfl (hb hby d_method_6_code_17) rfl (tlt hc17).1 (by decide) (by decide) k) ?_
      refine Go.of (T' := T2) (f' := (mkF m 34 #[.val (.int p1), .val (.int p2), .val (.int (ln p1))] [(.int (ln p1))])) (fun _ k => XS.iloadN X2.here hx rfl (hb hby d_method_6_code_33) rfl k) ?_
      refine Go.of (T' := T2) (f' := (mkF m 35 #[.val (.int p1), .val (.int p2), .val (.int (ln p1))] [(.int (2 : Int32)), (.int (ln p1))])) (fun _ k => XS.iconst X2.here hx rfl (hb hby d_method_6_code_34) k) ?_
      by_cases hc35 : (ln p1) < (2 : Int32)
      ·
        refine Go.of (T' := T2) (f' := (mkF m 51 #[.val (.int p1), .val (.int p2), .val (.int (ln p1))] [])) (fun _ k => XS.icmpYes X2.here hx rfl (pc0 := 35) (pc' := 51) rfl (hb hby d_method_6_code_35) rfl (tlt hc35).1 (by decide) (by decide) k) ?_
        refine Go.of (T' := T2) (f' := (mkF m 52 #[.val (.int p1), .val (.int p2), .val (.int (ln p1))] [(.int (1 : Int32))])) (fun _ k => XS.iconst X2.here hx rfl (hb hby d_method_6_code_51) k) ?_
        exact goRetI (Q := Pu h0 (fun v => v = some (.int (bi (mkCs p1 = mkCs p2))))) X2 hx (t := .boolean) hret hlk rfl (by simp) (hb hby d_method_6_code_52) K (by decide) (by decide) e2 (⟨rfl, rfl, by rw [bi_t ((same_iff _ _).mpr ⟨hc10, by first | exact Or.inl hc17 | exact Or.inr hc28, by first | exact Or.inl hc35 | exact Or.inr hc46⟩)]⟩)
      ·
        refine Go.of (T' := T2) (f' := (mkF m 38 #[.val (.int p1), .val (.int p2), .val (.int (ln p1))] [])) (fun _ k => XS.icmpNo X2.here hx rfl (hb hby d_method_6_code_35) rfl (flt hc35).1 k) ?_
        refine Go.of (T' := T2) (f' := (mkF m 39 #[.val (.int p1), .val (.int p2), .val (.int (ln p1))] [(.int p1)])) (fun _ k => XS.iloadN X2.here hx rfl (hb hby d_method_6_code_38) rfl k) ?_
        refine goS X2 hx hZ hown (hw _ (List.mem_of_getElem? (i := 66) rfl)) (hw _ (List.mem_of_getElem? (i := 67) rfl)) (hw _ (List.mem_of_getElem? (i := 5) rfl)) (hw _ (List.mem_of_getElem? (i := 68) rfl)) (by decide) (C := 0) (S := 0) ((rm_c1 l Z a0 hw p1 h0 ).bk (W := 0) hZ (hw _ (List.mem_of_getElem? (i := 68) rfl)) (hw _ (List.mem_of_getElem? (i := 5) rfl)) (by decide) (by decide)) e2 (argsL := [(.int p1)]) (rest := []) (by rw [hml]; rfl) (lenOf pd__I_C rfl) rfl rfl (hb hby d_method_6_code_39) (Nat.le_of_eq rfl) (by decide) (by decide) ?_
        intro v3 T3 L3 X3 hQ3
        obtain ⟨nq3, e3, rfl⟩ := hQ3
        replace X3 := standNil X3 nq3
        show Go p e below P T3 (mkF m 42 #[.val (.int p1), .val (.int p2), .val (.int (ln p1))] [(.int (k1 p1))])
        refine Go.of (T' := T3) (f' := (mkF m 43 #[.val (.int p1), .val (.int p2), .val (.int (ln p1))] [(.int p2), (.int (k1 p1))])) (fun _ k => XS.iloadN X3.here hx rfl (hb hby d_method_6_code_42) rfl k) ?_
        refine goS X3 hx hZ hown (hw _ (List.mem_of_getElem? (i := 66) rfl)) (hw _ (List.mem_of_getElem? (i := 67) rfl)) (hw _ (List.mem_of_getElem? (i := 5) rfl)) (hw _ (List.mem_of_getElem? (i := 68) rfl)) (by decide) (C := 0) (S := 0) ((rm_c1 l Z a0 hw p2 h0 ).bk (W := 1) hZ (hw _ (List.mem_of_getElem? (i := 68) rfl)) (hw _ (List.mem_of_getElem? (i := 5) rfl)) (by decide) (by decide)) e3 (argsL := [(.int p2)]) (rest := [(.int (k1 p1))]) (by rw [hml]; rfl) (lenOf pd__I_C rfl) rfl rfl (hb hby d_method_6_code_43) (Nat.le_of_eq rfl) (by decide) (by decide) ?_
        intro v4 T4 L4 X4 hQ4
        obtain ⟨nq4, e4, rfl⟩ := hQ4
        replace X4 := standNil X4 nq4
        show Go p e below P T4 (mkF m 46 #[.val (.int p1), .val (.int p2), .val (.int (ln p1))] [(.int (k1 p2)), (.int (k1 p1))])
        by_cases hc46 : (k1 p1) = (k1 p2)
        ·
          refine Go.of (T' := T4) (f' := (mkF m 51 #[.val (.int p1), .val (.int p2), .val (.int (ln p1))] [])) (fun _ k => XS.icmpYes X4.here hx rfl (pc0 := 46) (pc' := 51) rfl (hb hby d_method_6_code_46) rfl (teq hc46).1 (by decide) (by decide) k) ?_
          refine Go.of (T' := T4) (f' := (mkF m 52 #[.val (.int p1), .val (.int p2), .val (.int (ln p1))] [(.int (1 : Int32))])) (fun _ k => XS.iconst X4.here hx rfl (hb hby d_method_6_code_51) k) ?_
          exact goRetI (Q := Pu h0 (fun v => v = some (.int (bi (mkCs p1 = mkCs p2))))) X4 hx (t := .boolean) hret hlk rfl (by simp) (hb hby d_method_6_code_52) K (by decide) (by decide) e4 (⟨rfl, rfl, by rw [bi_t ((same_iff _ _).mpr ⟨hc10, by first | exact Or.inl hc17 | exact Or.inr hc28, by first | exact Or.inl hc35 | exact Or.inr hc46⟩)]⟩)
        ·
          refine Go.of (T' := T4) (f' := (mkF m 49 #[.val (.int p1), .val (.int p2), .val (.int (ln p1))] [])) (fun _ k => XS.icmpNo X4.here hx rfl (hb hby d_method_6_code_46) rfl (feq hc46).1 k) ?_
          refine Go.of (T' := T4) (f' := (mkF m 50 #[.val (.int p1), .val (.int p2), .val (.int (ln p1))] [(.int (0 : Int32))])) (fun _ k => XS.iconst X4.here hx rfl (hb hby d_method_6_code_49) k) ?_
          exact goRetI (Q := Pu h0 (fun v => v = some (.int (bi (mkCs p1 = mkCs p2))))) X4 hx (t := .boolean) hret hlk rfl (by simp) (hb hby d_method_6_code_50) K (by decide) (by decide) e4 (⟨rfl, rfl, by rw [bi_f (fun q => by obtain ⟨h1, h2, h3⟩ := (same_iff _ _).mp q; first | exact hc10 h1 | exact h2.elim hc17 hc28 | exact h3.elim hc35 hc46)]⟩)
    ·
      refine Go.of (T' := T2) (f' := (mkF m 20 #[.val (.int p1), .val (.int p2), .val (.int (ln p1))] [])) (fun _ k => XS.icmpNo X2.here hx rfl (hb hby d_method_6_code_17) rfl (flt hc17).1 k) ?_
      refine Go.of (T' := T2) (f' := (mkF m 21 #[.val (.int p1), .val (.int p2), .val (.int (ln p1))] [(.int p1)])) (fun _ k => XS.iloadN X2.here hx rfl (hb hby d_method_6_code_20) rfl k) ?_
      refine goS X2 hx hZ hown (hw _ (List.mem_of_getElem? (i := 63) rfl)) (hw _ (List.mem_of_getElem? (i := 64) rfl)) (hw _ (List.mem_of_getElem? (i := 5) rfl)) (hw _ (List.mem_of_getElem? (i := 65) rfl)) (by decide) (C := 0) (S := 0) ((rm_c0 l Z a0 hw p1 h0 ).bk (W := 0) hZ (hw _ (List.mem_of_getElem? (i := 65) rfl)) (hw _ (List.mem_of_getElem? (i := 5) rfl)) (by decide) (by decide)) e2 (argsL := [(.int p1)]) (rest := []) (by rw [hml]; rfl) (lenOf pd__I_C rfl) rfl rfl (hb hby d_method_6_code_21) (Nat.le_of_eq rfl) (by decide) (by decide) ?_
      intro v5 T5 L5 X5 hQ5
      obtain ⟨nq5, e5, rfl⟩ := hQ5
      replace X5 := standNil X5 nq5
      show Go p e below P T5 (mkF m 24 #[.val (.int p1), .val (.int p2), .val (.int (ln p1))] [(.int (k0 p1))])
      refine Go.of (T' := T5) (f' := (mkF m 25 #[.val (.int p1), .val (.int p2), .val (.int (ln p1))] [(.int p2), (.int (k0 p1))])) (fun _ k => XS.iloadN X5.here hx rfl (hb hby d_method_6_code_24) rfl k) ?_
      refine goS X5 hx hZ hown (hw _ (List.mem_of_getElem? (i := 63) rfl)) (hw _ (List.mem_of_getElem? (i := 64) rfl)) (hw _ (List.mem_of_getElem? (i := 5) rfl)) (hw _ (List.mem_of_getElem? (i := 65) rfl)) (by decide) (C := 0) (S := 0) ((rm_c0 l Z a0 hw p2 h0 ).bk (W := 1) hZ (hw _ (List.mem_of_getElem? (i := 65) rfl)) (hw _ (List.mem_of_getElem? (i := 5) rfl)) (by decide) (by decide)) e5 (argsL := [(.int p2)]) (rest := [(.int (k0 p1))]) (by rw [hml]; rfl) (lenOf pd__I_C rfl) rfl rfl (hb hby d_method_6_code_25) (Nat.le_of_eq rfl) (by decide) (by decide) ?_
      intro v6 T6 L6 X6 hQ6
      obtain ⟨nq6, e6, rfl⟩ := hQ6
      replace X6 := standNil X6 nq6
      show Go p e below P T6 (mkF m 28 #[.val (.int p1), .val (.int p2), .val (.int (ln p1))] [(.int (k0 p2)), (.int (k0 p1))])
      by_cases hc28 : (k0 p1) = (k0 p2)
      ·
        refine Go.of (T' := T6) (f' := (mkF m 33 #[.val (.int p1), .val (.int p2), .val (.int (ln p1))] [])) (fun _ k => XS.icmpYes X6.here hx rfl (pc0 := 28) (pc' := 33) rfl (hb hby d_method_6_code_28) rfl (teq hc28).1 (by decide) (by decide) k) ?_
        refine Go.of (T' := T6) (f' := (mkF m 34 #[.val (.int p1), .val (.int p2), .val (.int (ln p1))] [(.int (ln p1))])) (fun _ k => XS.iloadN X6.here hx rfl (hb hby d_method_6_code_33) rfl k) ?_
        refine Go.of (T' := T6) (f' := (mkF m 35 #[.val (.int p1), .val (.int p2), .val (.int (ln p1))] [(.int (2 : Int32)), (.int (ln p1))])) (fun _ k => XS.iconst X6.here hx rfl (hb hby d_method_6_code_34) k) ?_
        by_cases hc35 : (ln p1) < (2 : Int32)
        ·
          refine Go.of (T' := T6) (f' := (mkF m 51 #[.val (.int p1), .val (.int p2), .val (.int (ln p1))] [])) (fun _ k => XS.icmpYes X6.here hx rfl (pc0 := 35) (pc' := 51) rfl (hb hby d_method_6_code_35) rfl (tlt hc35).1 (by decide) (by decide) k) ?_
          refine Go.of (T' := T6) (f' := (mkF m 52 #[.val (.int p1), .val (.int p2), .val (.int (ln p1))] [(.int (1 : Int32))])) (fun _ k => XS.iconst X6.here hx rfl (hb hby d_method_6_code_51) k) ?_
          exact goRetI (Q := Pu h0 (fun v => v = some (.int (bi (mkCs p1 = mkCs p2))))) X6 hx (t := .boolean) hret hlk rfl (by simp) (hb hby d_method_6_code_52) K (by decide) (by decide) e6 (⟨rfl, rfl, by rw [bi_t ((same_iff _ _).mpr ⟨hc10, by first | exact Or.inl hc17 | exact Or.inr hc28, by first | exact Or.inl hc35 | exact Or.inr hc46⟩)]⟩)
        ·
          refine Go.of (T' := T6) (f' := (mkF m 38 #[.val (.int p1), .val (.int p2), .val (.int (ln p1))] [])) (fun _ k => XS.icmpNo X6.here hx rfl (hb hby d_method_6_code_35) rfl (flt hc35).1 k) ?_
          refine Go.of (T' := T6) (f' := (mkF m 39 #[.val (.int p1), .val (.int p2), .val (.int (ln p1))] [(.int p1)])) (fun _ k => XS.iloadN X6.here hx rfl (hb hby d_method_6_code_38) rfl k) ?_
          refine goS X6 hx hZ hown (hw _ (List.mem_of_getElem? (i := 66) rfl)) (hw _ (List.mem_of_getElem? (i := 67) rfl)) (hw _ (List.mem_of_getElem? (i := 5) rfl)) (hw _ (List.mem_of_getElem? (i := 68) rfl)) (by decide) (C := 0) (S := 0) ((rm_c1 l Z a0 hw p1 h0 ).bk (W := 0) hZ (hw _ (List.mem_of_getElem? (i := 68) rfl)) (hw _ (List.mem_of_getElem? (i := 5) rfl)) (by decide) (by decide)) e6 (argsL := [(.int p1)]) (rest := []) (by rw [hml]; rfl) (lenOf pd__I_C rfl) rfl rfl (hb hby d_method_6_code_39) (Nat.le_of_eq rfl) (by decide) (by decide) ?_
          intro v7 T7 L7 X7 hQ7
          obtain ⟨nq7, e7, rfl⟩ := hQ7
          replace X7 := standNil X7 nq7
          show Go p e below P T7 (mkF m 42 #[.val (.int p1), .val (.int p2), .val (.int (ln p1))] [(.int (k1 p1))])
          refine Go.of (T' := T7) (f' := (mkF m 43 #[.val (.int p1), .val (.int p2), .val (.int (ln p1))] [(.int p2), (.int (k1 p1))])) (fun _ k => XS.iloadN X7.here hx rfl (hb hby d_method_6_code_42) rfl k) ?_
          refine goS X7 hx hZ hown (hw _ (List.mem_of_getElem? (i := 66) rfl)) (hw _ (List.mem_of_getElem? (i := 67) rfl)) (hw _ (List.mem_of_getElem? (i := 5) rfl)) (hw _ (List.mem_of_getElem? (i := 68) rfl)) (by decide) (C := 0) (S := 0) ((rm_c1 l Z a0 hw p2 h0 ).bk (W := 1) hZ (hw _ (List.mem_of_getElem? (i := 68) rfl)) (hw _ (List.mem_of_getElem? (i := 5) rfl)) (by decide) (by decide)) e7 (argsL := [(.int p2)]) (rest := [(.int (k1 p1))]) (by rw [hml]; rfl) (lenOf pd__I_C rfl) rfl rfl (hb hby d_method_6_code_43) (Nat.le_of_eq rfl) (by decide) (by decide) ?_
          intro v8 T8 L8 X8 hQ8
          obtain ⟨nq8, e8, rfl⟩ := hQ8
          replace X8 := standNil X8 nq8
          show Go p e below P T8 (mkF m 46 #[.val (.int p1), .val (.int p2), .val (.int (ln p1))] [(.int (k1 p2)), (.int (k1 p1))])
          by_cases hc46 : (k1 p1) = (k1 p2)
          ·
            refine Go.of (T' := T8) (f' := (mkF m 51 #[.val (.int p1), .val (.int p2), .val (.int (ln p1))] [])) (fun _ k => XS.icmpYes X8.here hx rfl (pc0 := 46) (pc' := 51) rfl (hb hby d_method_6_code_46) rfl (teq hc46).1 (by decide) (by decide) k) ?_
            refine Go.of (T' := T8) (f' := (mkF m 52 #[.val (.int p1), .val (.int p2), .val (.int (ln p1))] [(.int (1 : Int32))])) (fun _ k => XS.iconst X8.here hx rfl (hb hby d_method_6_code_51) k) ?_
            exact goRetI (Q := Pu h0 (fun v => v = some (.int (bi (mkCs p1 = mkCs p2))))) X8 hx (t := .boolean) hret hlk rfl (by simp) (hb hby d_method_6_code_52) K (by decide) (by decide) e8 (⟨rfl, rfl, by rw [bi_t ((same_iff _ _).mpr ⟨hc10, by first | exact Or.inl hc17 | exact Or.inr hc28, by first | exact Or.inl hc35 | exact Or.inr hc46⟩)]⟩)
          ·
            refine Go.of (T' := T8) (f' := (mkF m 49 #[.val (.int p1), .val (.int p2), .val (.int (ln p1))] [])) (fun _ k => XS.icmpNo X8.here hx rfl (hb hby d_method_6_code_46) rfl (feq hc46).1 k) ?_
            refine Go.of (T' := T8) (f' := (mkF m 50 #[.val (.int p1), .val (.int p2), .val (.int (ln p1))] [(.int (0 : Int32))])) (fun _ k => XS.iconst X8.here hx rfl (hb hby d_method_6_code_49) k) ?_
            exact goRetI (Q := Pu h0 (fun v => v = some (.int (bi (mkCs p1 = mkCs p2))))) X8 hx (t := .boolean) hret hlk rfl (by simp) (hb hby d_method_6_code_50) K (by decide) (by decide) e8 (⟨rfl, rfl, by rw [bi_f (fun q => by obtain ⟨h1, h2, h3⟩ := (same_iff _ _).mp q; first | exact hc10 h1 | exact h2.elim hc17 hc28 | exact h3.elim hc35 hc46)]⟩)
      ·
        refine Go.of (T' := T6) (f' := (mkF m 31 #[.val (.int p1), .val (.int p2), .val (.int (ln p1))] [])) (fun _ k => XS.icmpNo X6.here hx rfl (hb hby d_method_6_code_28) rfl (feq hc28).1 k) ?_
        refine Go.of (T' := T6) (f' := (mkF m 32 #[.val (.int p1), .val (.int p2), .val (.int (ln p1))] [(.int (0 : Int32))])) (fun _ k => XS.iconst X6.here hx rfl (hb hby d_method_6_code_31) k) ?_
        exact goRetI (Q := Pu h0 (fun v => v = some (.int (bi (mkCs p1 = mkCs p2))))) X6 hx (t := .boolean) hret hlk rfl (by simp) (hb hby d_method_6_code_32) K (by decide) (by decide) e6 (⟨rfl, rfl, by rw [bi_f (fun q => by obtain ⟨h1, h2, h3⟩ := (same_iff _ _).mp q; first | exact hc10 h1 | exact h2.elim hc17 hc28 | exact h3.elim hc35 hc46)]⟩)
  ·
    refine Go.of (T' := T2) (f' := (mkF m 13 #[.val (.int p1), .val (.int p2), .val (.int (ln p1))] [])) (fun _ k => XS.icmpNo X2.here hx rfl (hb hby d_method_6_code_10) rfl (feq hc10).1 k) ?_
    refine Go.of (T' := T2) (f' := (mkF m 14 #[.val (.int p1), .val (.int p2), .val (.int (ln p1))] [(.int (0 : Int32))])) (fun _ k => XS.iconst X2.here hx rfl (hb hby d_method_6_code_13) k) ?_
    exact goRetI (Q := Pu h0 (fun v => v = some (.int (bi (mkCs p1 = mkCs p2))))) X2 hx (t := .boolean) hret hlk rfl (by simp) (hb hby d_method_6_code_14) K (by decide) (by decide) e2 (⟨rfl, rfl, by rw [bi_f (fun q => by obtain ⟨h1, h2, h3⟩ := (same_iff _ _).mp q; first | exact hc10 h1 | exact h2.elim hc17 hc28 | exact h3.elim hc35 hc46)]⟩)
theorem ef_rm_law (m : MethodId) (x0 : Int32) (x1 : Int32) (x2 : Int32) (x3 : Int32) (x4 : Int32) (x5 : Int32)  : entryFrame m #[(.int x0), (.int x1), (.int x2), (.int x3), (.int x4), (.int x5)] maxLocals = mkF m 0 #[.val (.int x0), .val (.int x1), .val (.int x2), .val (.int x3), .val (.int x4), .val (.int x5), .unset, .unset, .unset, .unset, .unset, .unset, .unset] [] := by first | (simp [entryFrame, mkF, argsToLocals, Value.category, maxLocals]; done) | rfl
theorem pd__I_Ljava_lang_String_ : parseMethodDescriptor "(I)Ljava/lang/String;" = some ⟨[.int], some (.object "java/lang/String")⟩ := by decide +kernel
theorem pd__Ljava_lang_String_Ljava_lang_String_Ljava_lang_String__V : parseMethodDescriptor "(Ljava/lang/String;Ljava/lang/String;Ljava/lang/String;)V" = some ⟨[(.object "java/lang/String"), (.object "java/lang/String"), (.object "java/lang/String")], none⟩ := by decide +kernel
theorem pd__II_Z : parseMethodDescriptor "(II)Z" = some ⟨[.int, .int], some .boolean⟩ := by decide +kernel
set_option maxRecDepth 65536 in
set_option maxHeartbeats 40000000 in
theorem rm_law (l : Launch) (Z : State) (a0 : Array Value) (hw : ∀ d ∈ tables_1, d.before a0 Z = true) (p1 p2 p3 p4 p5 p6 zc : Int32) (h0 : Heap) (Z_cs : Sta Z h0 "java/lang/String" "COMPACT_STRINGS" "Z" (.int zc)) (hz : ¬ zc = 0) :
    MeetsH l Z consts_1 x code maxLocals ret room_1 #[(.int p1), (.int p2), (.int p3), (.int p4), (.int p5), (.int p6)] h0 (fun v h L => v = some (.int 1) ∧ Mv h0 h [] L) := by
  refine MeetsH.of (plainFor_of_name pn_com_example_sunset_grant_sunsetgrant_base_AccessEqualsPinLaw) ?_
  intro p e s m below meth c s₁ P hx hby hml hZ hown hnm hret hlk X0 e0 hS RH K
  have hk : h0.size ≤ h0.size := Nat.le_refl _
  replace hZ : Z.Warmed39 (s.setVm s.vm).vm := hZ
  replace hown : (s.setVm s.vm).vm.findClass "com/example/sunset_grant/sunsetgrant/base/AccessEqualsPinLaw" = some m.cls := hown
  have M0 : Mv h0 h0 [] [] := Mv.refl _ _
  refine Go.cast (ef_rm_law m p1 p2 p3 p4 p5 p6 ) ?_
  refine Go.of (T' := s₁) (f' := (mkF m 2 #[.val (.int p1), .val (.int p2), .val (.int p3), .val (.int p4), .val (.int p5), .val (.int p6), .unset, .unset, .unset, .unset, .unset, .unset, .unset] [(.int p6)])) (fun _ k => XS.iload X0.here hx rfl (hb hby at_0) rfl k) ?_
  refine Go.of (T' := s₁) (f' := (mkF m 3 #[.val (.int p1), .val (.int p2), .val (.int p3), .val (.int p4), .val (.int p5), .val (.int p6), .unset, .unset, .unset, .unset, .unset, .unset, .unset] [(.int (1 : Int32)), (.int p6)])) (fun _ k => XS.iconst X0.here hx rfl (hb hby at_2) k) ?_
  refine Go.of (T' := s₁) (f' := (mkF m 4 #[.val (.int p1), .val (.int p2), .val (.int p3), .val (.int p4), .val (.int p5), .val (.int p6), .unset, .unset, .unset, .unset, .unset, .unset, .unset] [(.int (p6 &&& (1 : Int32)))])) (fun _ k => XS.iand X0.here hx rfl (hb hby at_3) rfl k) ?_
  have J1 : Go p e below P s₁ (mkF m 12 #[.val (.int p1), .val (.int p2), .val (.int p3), .val (.int p4), .val (.int p5), .val (.int p6), .unset, .unset, .unset, .unset, .unset, .unset, .unset] [(.int (if (p6 &&& (1 : Int32)) = (0 : Int32) then p4 else p1))]) := by
    refine Go.of (T' := s₁) (f' := (mkF m 14 #[.val (.int p1), .val (.int p2), .val (.int p3), .val (.int p4), .val (.int p5), .val (.int p6), .val (.int (if (p6 &&& (1 : Int32)) = (0 : Int32) then p4 else p1)), .unset, .unset, .unset, .unset, .unset, .unset] [])) (fun _ k => XS.istore X0.here hx rfl (hb hby at_12) rfl (l' := #[.val (.int p1), .val (.int p2), .val (.int p3), .val (.int p4), .val (.int p5), .val (.int p6), .val (.int (if (p6 &&& (1 : Int32)) = (0 : Int32) then p4 else p1)), .unset, .unset, .unset, .unset, .unset, .unset]) rfl k) ?_
    refine Go.of (T' := s₁) (f' := (mkF m 16 #[.val (.int p1), .val (.int p2), .val (.int p3), .val (.int p4), .val (.int p5), .val (.int p6), .val (.int (if (p6 &&& (1 : Int32)) = (0 : Int32) then p4 else p1)), .unset, .unset, .unset, .unset, .unset, .unset] [(.int p6)])) (fun _ k => XS.iload X0.here hx rfl (hb hby at_14) rfl k) ?_
    refine Go.of (T' := s₁) (f' := (mkF m 17 #[.val (.int p1), .val (.int p2), .val (.int p3), .val (.int p4), .val (.int p5), .val (.int p6), .val (.int (if (p6 &&& (1 : Int32)) = (0 : Int32) then p4 else p1)), .unset, .unset, .unset, .unset, .unset, .unset] [(.int (2 : Int32)), (.int p6)])) (fun _ k => XS.iconst X0.here hx rfl (hb hby at_16) k) ?_
    refine Go.of (T' := s₁) (f' := (mkF m 18 #[.val (.int p1), .val (.int p2), .val (.int p3), .val (.int p4), .val (.int p5), .val (.int p6), .val (.int (if (p6 &&& (1 : Int32)) = (0 : Int32) then p4 else p1)), .unset, .unset, .unset, .unset, .unset, .unset] [(.int (p6 &&& (2 : Int32)))])) (fun _ k => XS.iand X0.here hx rfl (hb hby at_17) rfl k) ?_
    have J2 : Go p e below P s₁ (mkF m 27 #[.val (.int p1), .val (.int p2), .val (.int p3), .val (.int p4), .val (.int p5), .val (.int p6), .val (.int (if (p6 &&& (1 : Int32)) = (0 : Int32) then p4 else p1)), .unset, .unset, .unset, .unset, .unset, .unset] [(.int (if (p6 &&& (2 : Int32)) = (0 : Int32) then p5 else p2))]) := by
      refine Go.of (T' := s₁) (f' := (mkF m 29 #[.val (.int p1), .val (.int p2), .val (.int p3), .val (.int p4), .val (.int p5), .val (.int p6), .val (.int (if (p6 &&& (1 : Int32)) = (0 : Int32) then p4 else p1)), .val (.int (if (p6 &&& (2 : Int32)) = (0 : Int32) then p5 else p2)), .unset, .unset, .unset, .unset, .unset] [])) (fun _ k => XS.istore X0.here hx rfl (hb hby at_27) rfl (l' := #[.val (.int p1), .val (.int p2), .val (.int p3), .val (.int p4), .val (.int p5), .val (.int p6), .val (.int (if (p6 &&& (1 : Int32)) = (0 : Int32) then p4 else p1)), .val (.int (if (p6 &&& (2 : Int32)) = (0 : Int32) then p5 else p2)), .unset, .unset, .unset, .unset, .unset]) rfl k) ?_
      refine Go.of (T' := s₁) (f' := (mkF m 31 #[.val (.int p1), .val (.int p2), .val (.int p3), .val (.int p4), .val (.int p5), .val (.int p6), .val (.int (if (p6 &&& (1 : Int32)) = (0 : Int32) then p4 else p1)), .val (.int (if (p6 &&& (2 : Int32)) = (0 : Int32) then p5 else p2)), .unset, .unset, .unset, .unset, .unset] [(.int p6)])) (fun _ k => XS.iload X0.here hx rfl (hb hby at_29) rfl k) ?_
      refine Go.of (T' := s₁) (f' := (mkF m 32 #[.val (.int p1), .val (.int p2), .val (.int p3), .val (.int p4), .val (.int p5), .val (.int p6), .val (.int (if (p6 &&& (1 : Int32)) = (0 : Int32) then p4 else p1)), .val (.int (if (p6 &&& (2 : Int32)) = (0 : Int32) then p5 else p2)), .unset, .unset, .unset, .unset, .unset] [(.int (4 : Int32)), (.int p6)])) (fun _ k => XS.iconst X0.here hx rfl (hb hby at_31) k) ?_
      refine Go.of (T' := s₁) (f' := (mkF m 33 #[.val (.int p1), .val (.int p2), .val (.int p3), .val (.int p4), .val (.int p5), .val (.int p6), .val (.int (if (p6 &&& (1 : Int32)) = (0 : Int32) then p4 else p1)), .val (.int (if (p6 &&& (2 : Int32)) = (0 : Int32) then p5 else p2)), .unset, .unset, .unset, .unset, .unset] [(.int (p6 &&& (4 : Int32)))])) (fun _ k => XS.iand X0.here hx rfl (hb hby at_32) rfl k) ?_
      have J3 : Go p e below P s₁ (mkF m 44 #[.val (.int p1), .val (.int p2), .val (.int p3), .val (.int p4), .val (.int p5), .val (.int p6), .val (.int (if (p6 &&& (1 : Int32)) = (0 : Int32) then p4 else p1)), .val (.int (if (p6 &&& (2 : Int32)) = (0 : Int32) then p5 else p2)), .unset, .unset, .unset, .unset, .unset] [(.int (if (p6 &&& (4 : Int32)) = (0 : Int32) then ((p6.toUInt32 >>> ((5 : Int32) &&& 31).toUInt32).toInt32) else p3))]) := by
        refine Go.of (T' := s₁) (f' := (mkF m 46 #[.val (.int p1), .val (.int p2), .val (.int p3), .val (.int p4), .val (.int p5), .val (.int p6), .val (.int (if (p6 &&& (1 : Int32)) = (0 : Int32) then p4 else p1)), .val (.int (if (p6 &&& (2 : Int32)) = (0 : Int32) then p5 else p2)), .val (.int (if (p6 &&& (4 : Int32)) = (0 : Int32) then ((p6.toUInt32 >>> ((5 : Int32) &&& 31).toUInt32).toInt32) else p3)), .unset, .unset, .unset, .unset] [])) (fun _ k => XS.istore X0.here hx rfl (hb hby at_44) rfl (l' := #[.val (.int p1), .val (.int p2), .val (.int p3), .val (.int p4), .val (.int p5), .val (.int p6), .val (.int (if (p6 &&& (1 : Int32)) = (0 : Int32) then p4 else p1)), .val (.int (if (p6 &&& (2 : Int32)) = (0 : Int32) then p5 else p2)), .val (.int (if (p6 &&& (4 : Int32)) = (0 : Int32) then ((p6.toUInt32 >>> ((5 : Int32) &&& 31).toUInt32).toInt32) else p3)), .unset, .unset, .unset, .unset]) rfl k) ?_
        generalize (if (p6 &&& (1 : Int32)) = (0 : Int32) then p4 else p1) = u6
        generalize (if (p6 &&& (2 : Int32)) = (0 : Int32) then p5 else p2) = u7
        generalize (if (p6 &&& (4 : Int32)) = (0 : Int32) then ((p6.toUInt32 >>> ((5 : Int32) &&& 31).toUInt32).toInt32) else p3) = u8
        obtain ⟨T4, h4, X4, e4, E4, A4, D4, -, st4⟩ := newO X0 hx hZ hown (hw _ (List.mem_of_getElem? (i := 0) rfl)) (hw _ (List.mem_of_getElem? (i := 1) rfl)) (hw _ (List.mem_of_getElem? (i := 2) rfl)) e0 (g := (mkF m 46 #[.val (.int p1), .val (.int p2), .val (.int p3), .val (.int p4), .val (.int p5), .val (.int p6), .val (.int u6), .val (.int u7), .val (.int u8), .unset, .unset, .unset, .unset] [])) rfl (hb hby at_46) (by decide) (by decide)
        obtain ⟨b4, g4⟩ : ∃ z, z = h0.size := ⟨_, rfl⟩
        rw [← g4] at A4 D4 st4
        have fr_b4 : h0.size ≤ b4 := Nat.le_trans M0.le (Nat.le_of_eq g4.symm)
        have Sf_b4 := Safe.new (Z := Z) (EL := consts_1) (vm := s.vm) (Nat.le_of_eq g4.symm)
        have K4 := keepE E4
        have M4 := M0.ext E4
        replace hk := Nat.le_trans hk (K4).1
        have hs5 := CHr.keep (K4) sf0 RH.1
        replace Sf_b4 := Safe.keep (K4) sf0 RH.1 Sf_b4
        replace RH := RH.trans hs5
        replace Z_cs := StaKeep Z_cs K4 all0
        have E_b4 := A4
        have F_subject_b4 : Fld Z h4 b4 "com/example/sunset_grant/sunsetgrant/base/Access" "subject" "Ljava/lang/String;" .null := D4 (Or.inr (hw _ (List.mem_of_getElem? (i := 37) rfl))) (ty := (.object "java/lang/String")) (by decide)
        have F_object_b4 : Fld Z h4 b4 "com/example/sunset_grant/sunsetgrant/base/Access" "object" "Ljava/lang/String;" .null := D4 (Or.inr (hw _ (List.mem_of_getElem? (i := 39) rfl))) (ty := (.object "java/lang/String")) (by decide)
        have F_mode_b4 : Fld Z h4 b4 "com/example/sunset_grant/sunsetgrant/base/Access" "mode" "Ljava/lang/String;" .null := D4 (Or.inr (hw _ (List.mem_of_getElem? (i := 41) rfl))) (ty := (.object "java/lang/String")) (by decide)
        refine Go.of (T' := T4) (f' := (mkF m 49 #[.val (.int p1), .val (.int p2), .val (.int p3), .val (.int p4), .val (.int p5), .val (.int p6), .val (.int u6), .val (.int u7), .val (.int u8), .unset, .unset, .unset, .unset] [(.ref b4)])) st4 ?_
        refine Go.of (T' := T4) (f' := (mkF m 50 #[.val (.int p1), .val (.int p2), .val (.int p3), .val (.int p4), .val (.int p5), .val (.int p6), .val (.int u6), .val (.int u7), .val (.int u8), .unset, .unset, .unset, .unset] [(.ref b4), (.ref b4)])) (fun _ k => XS.dup X4.here hx rfl (hb hby at_49) rfl rfl k) ?_
        refine Go.of (T' := T4) (f' := (mkF m 51 #[.val (.int p1), .val (.int p2), .val (.int p3), .val (.int p4), .val (.int p5), .val (.int p6), .val (.int u6), .val (.int u7), .val (.int u8), .unset, .unset, .unset, .unset] [(.int p1), (.ref b4), (.ref b4)])) (fun _ k => XS.iloadN X4.here hx rfl (hb hby at_50) rfl k) ?_
        refine goSH X4 hx hZ hown (hw _ (List.mem_of_getElem? (i := 3) rfl)) (hw _ (List.mem_of_getElem? (i := 4) rfl)) (hw _ (List.mem_of_getElem? (i := 5) rfl)) (hw _ (List.mem_of_getElem? (i := 6) rfl)) (by decide) (W := 2) (C := 6) (S := 12) (rm_mk l Z a0 hw p1 zc h4 Z_cs hz) rfl rfl (by decide) (by decide) hS hk (hEL_1 hw) RH.1 e4 (argsL := [(.int p1)]) (rest := [(.ref b4), (.ref b4)]) (by rw [hml]; rfl) (lenOf pd__I_Ljava_lang_String_ rfl) rfl rfl (hb hby at_51) (Nat.le_of_eq rfl) (by decide) (by decide) ?_
        intro v6 T6 L6 X6 hQ6 hS6 hZ6 hown6 A6
        obtain ⟨h6, e6⟩ : ∃ z, T6.heap = z := ⟨_, rfl⟩
        rw [e6] at hQ6 hS6 A6
        obtain ⟨Mc6, a6, t6, rfl, le6, S_a6⟩ := hQ6
        have ne_b4_a6 : b4 ≠ a6 := Nat.ne_of_lt (Nat.lt_of_lt_of_le E_b4.lt le6)
        have fr_a6 : h0.size ≤ a6 := Nat.le_trans M4.le le6
        have M6 := M4.app0 Mc6
        clear hS hk
        replace Sf_b4 := CHr.safe A6 E_b4.lt Sf_b4
        replace RH := RH.trans A6
        replace Z_cs := StaKeep Z_cs Mc6.1 all0
        replace E_b4 := E_b4.keep Mc6.1
        replace F_subject_b4 := F_subject_b4.keep Mc6.1 nin0
        replace F_object_b4 := F_object_b4.keep Mc6.1 nin0
        replace F_mode_b4 := F_mode_b4.keep Mc6.1 nin0
        have hS := hS6
        have hk : h6.size ≤ h6.size := Nat.le_refl _
        replace hZ := hZ6
        replace hown := hown6
        show Go p e below P T6 (mkF m 54 #[.val (.int p1), .val (.int p2), .val (.int p3), .val (.int p4), .val (.int p5), .val (.int p6), .val (.int u6), .val (.int u7), .val (.int u8), .unset, .unset, .unset, .unset] [(.ref a6), (.ref b4), (.ref b4)])
        refine Go.of (T' := T6) (f' := (mkF m 55 #[.val (.int p1), .val (.int p2), .val (.int p3), .val (.int p4), .val (.int p5), .val (.int p6), .val (.int u6), .val (.int u7), .val (.int u8), .unset, .unset, .unset, .unset] [(.int p2), (.ref a6), (.ref b4), (.ref b4)])) (fun _ k => XS.iloadN X6.here hx rfl (hb hby at_54) rfl k) ?_
        refine goSH X6 hx hZ hown (hw _ (List.mem_of_getElem? (i := 3) rfl)) (hw _ (List.mem_of_getElem? (i := 4) rfl)) (hw _ (List.mem_of_getElem? (i := 5) rfl)) (hw _ (List.mem_of_getElem? (i := 6) rfl)) (by decide) (W := 3) (C := 6) (S := 12) (rm_mk l Z a0 hw p2 zc h6 Z_cs hz) rfl rfl (by decide) (by decide) hS hk (hEL_1 hw) RH.1 e6 (argsL := [(.int p2)]) (rest := [(.ref a6), (.ref b4), (.ref b4)]) (by rw [hml]; rfl) (lenOf pd__I_Ljava_lang_String_ rfl) rfl rfl (hb hby at_55) (Nat.le_of_eq rfl) (by decide) (by decide) ?_
        intro v7 T7 L7 X7 hQ7 hS7 hZ7 hown7 A7
        obtain ⟨h7, e7⟩ : ∃ z, T7.heap = z := ⟨_, rfl⟩
        rw [e7] at hQ7 hS7 A7
        obtain ⟨Mc7, a7, t7, rfl, le7, S_a7⟩ := hQ7
        have ne_b4_a7 : b4 ≠ a7 := Nat.ne_of_lt (Nat.lt_of_lt_of_le E_b4.lt le7)
        have ne_a6_a7 : a6 ≠ a7 := Nat.ne_of_lt (Nat.lt_of_lt_of_le S_a6.lt1 le7)
        have ne_t6_a7 : t6 ≠ a7 := Nat.ne_of_lt (Nat.lt_of_lt_of_le S_a6.lt2 le7)
        have fr_a7 : h0.size ≤ a7 := Nat.le_trans M6.le le7
        have M7 := M6.app0 Mc7
        clear hS hk
        replace Sf_b4 := CHr.safe A7 E_b4.lt Sf_b4
        replace RH := RH.trans A7
        replace Z_cs := StaKeep Z_cs Mc7.1 all0
        replace E_b4 := E_b4.keep Mc7.1
        replace F_subject_b4 := F_subject_b4.keep Mc7.1 nin0
        replace F_object_b4 := F_object_b4.keep Mc7.1 nin0
        replace F_mode_b4 := F_mode_b4.keep Mc7.1 nin0
        replace S_a6 := S_a6.keep Mc7.1 nin0 nin0
        have hS := hS7
        have hk : h7.size ≤ h7.size := Nat.le_refl _
        replace hZ := hZ7
        replace hown := hown7
        show Go p e below P T7 (mkF m 58 #[.val (.int p1), .val (.int p2), .val (.int p3), .val (.int p4), .val (.int p5), .val (.int p6), .val (.int u6), .val (.int u7), .val (.int u8), .unset, .unset, .unset, .unset] [(.ref a7), (.ref a6), (.ref b4), (.ref b4)])
        refine Go.of (T' := T7) (f' := (mkF m 59 #[.val (.int p1), .val (.int p2), .val (.int p3), .val (.int p4), .val (.int p5), .val (.int p6), .val (.int u6), .val (.int u7), .val (.int u8), .unset, .unset, .unset, .unset] [(.int p3), (.ref a7), (.ref a6), (.ref b4), (.ref b4)])) (fun _ k => XS.iloadN X7.here hx rfl (hb hby at_58) rfl k) ?_
        refine goSH X7 hx hZ hown (hw _ (List.mem_of_getElem? (i := 3) rfl)) (hw _ (List.mem_of_getElem? (i := 4) rfl)) (hw _ (List.mem_of_getElem? (i := 5) rfl)) (hw _ (List.mem_of_getElem? (i := 6) rfl)) (by decide) (W := 4) (C := 6) (S := 12) (rm_mk l Z a0 hw p3 zc h7 Z_cs hz) rfl rfl (by decide) (by decide) hS hk (hEL_1 hw) RH.1 e7 (argsL := [(.int p3)]) (rest := [(.ref a7), (.ref a6), (.ref b4), (.ref b4)]) (by rw [hml]; rfl) (lenOf pd__I_Ljava_lang_String_ rfl) rfl rfl (hb hby at_59) (Nat.le_of_eq rfl) (by decide) (by decide) ?_
        intro v8 T8 L8 X8 hQ8 hS8 hZ8 hown8 A8
        obtain ⟨h8, e8⟩ : ∃ z, T8.heap = z := ⟨_, rfl⟩
        rw [e8] at hQ8 hS8 A8
        obtain ⟨Mc8, a8, t8, rfl, le8, S_a8⟩ := hQ8
        have ne_b4_a8 : b4 ≠ a8 := Nat.ne_of_lt (Nat.lt_of_lt_of_le E_b4.lt le8)
        have ne_a6_a8 : a6 ≠ a8 := Nat.ne_of_lt (Nat.lt_of_lt_of_le S_a6.lt1 le8)
        have ne_t6_a8 : t6 ≠ a8 := Nat.ne_of_lt (Nat.lt_of_lt_of_le S_a6.lt2 le8)
        have ne_a7_a8 : a7 ≠ a8 := Nat.ne_of_lt (Nat.lt_of_lt_of_le S_a7.lt1 le8)
        have ne_t7_a8 : t7 ≠ a8 := Nat.ne_of_lt (Nat.lt_of_lt_of_le S_a7.lt2 le8)
        have fr_a8 : h0.size ≤ a8 := Nat.le_trans M7.le le8
        have M8 := M7.app0 Mc8
        clear hS hk
        replace Sf_b4 := CHr.safe A8 E_b4.lt Sf_b4
        replace RH := RH.trans A8
        replace Z_cs := StaKeep Z_cs Mc8.1 all0
        replace E_b4 := E_b4.keep Mc8.1
        replace F_subject_b4 := F_subject_b4.keep Mc8.1 nin0
        replace F_object_b4 := F_object_b4.keep Mc8.1 nin0
        replace F_mode_b4 := F_mode_b4.keep Mc8.1 nin0
        replace S_a6 := S_a6.keep Mc8.1 nin0 nin0
        replace S_a7 := S_a7.keep Mc8.1 nin0 nin0
        have hS := hS8
        have hk : h8.size ≤ h8.size := Nat.le_refl _
        replace hZ := hZ8
        replace hown := hown8
        show Go p e below P T8 (mkF m 62 #[.val (.int p1), .val (.int p2), .val (.int p3), .val (.int p4), .val (.int p5), .val (.int p6), .val (.int u6), .val (.int u7), .val (.int u8), .unset, .unset, .unset, .unset] [(.ref a8), (.ref a7), (.ref a6), (.ref b4), (.ref b4)])
        refine goI X8 hx hZ rfl hown (hw _ (List.mem_of_getElem? (i := 32) rfl)) (hw _ (List.mem_of_getElem? (i := 33) rfl)) (hw _ (List.mem_of_getElem? (i := 34) rfl)) (by decide) (C := 0) (S := 0) ((rm_access l Z a0 hw b4 a6 a7 a8 h8 E_b4 F_subject_b4 F_object_b4 F_mode_b4 ).bk (W := 1) hZ (hw _ (List.mem_of_getElem? (i := 34) rfl)) (hw _ (List.mem_of_getElem? (i := 2) rfl)) (by decide) (by decide)) e8 (argsL := [(.ref a6), (.ref a7), (.ref a8)]) (rest := [(.ref b4)]) (by rw [hml]; rfl) (lenOf pd__Ljava_lang_String_Ljava_lang_String_Ljava_lang_String__V rfl) rfl rfl (hb hby at_62) (Nat.le_of_eq rfl) (by decide) (by decide) ?_
        intro v9 T9 L9 X9 hQ9
        obtain ⟨h9, e9⟩ : ∃ z, T9.heap = z := ⟨_, rfl⟩
        rw [e9] at hQ9
        have E_b4_o := E_b4
        obtain ⟨rfl, Mc9, Ec9, Fc9_0, Fc9_1, Fc9_2⟩ := hQ9
        have M9 := M8.app Mc9 (allS (Or.inr fr_b4) all0)
        replace hk := Nat.le_trans hk (Mc9.1).1
        have ne_t6_b4 : t6 ≠ b4 := strT_ne S_a6 E_b4 (hw _ (List.mem_of_getElem? (i := 1) rfl))
        have ne_t7_b4 : t7 ≠ b4 := strT_ne S_a7 E_b4 (hw _ (List.mem_of_getElem? (i := 1) rfl))
        have ne_t8_b4 : t8 ≠ b4 := strT_ne S_a8 E_b4 (hw _ (List.mem_of_getElem? (i := 1) rfl))
        have hq10 : ∀ x ∈ ([b4] : List Addr), Safe Z consts_1 T8.vm h8 x := (sfS Sf_b4 sf0)
        have hs10 := CHr.keep (Mc9.1) hq10 RH.1
        replace Sf_b4 := Safe.keep (Mc9.1) hq10 RH.1 Sf_b4
        replace RH := RH.trans hs10
        replace Z_cs := StaKeep Z_cs Mc9.1 (allS (staExa E_b4_o) all0)
        replace S_a6 := S_a6.keep Mc9.1 (ninS (Ne.symm ne_b4_a6) nin0) (ninS ne_t6_b4 nin0)
        replace S_a7 := S_a7.keep Mc9.1 (ninS (Ne.symm ne_b4_a7) nin0) (ninS ne_t7_b4 nin0)
        replace S_a8 := S_a8.keep Mc9.1 (ninS (Ne.symm ne_b4_a8) nin0) (ninS ne_t8_b4 nin0)
        replace E_b4 := Ec9
        have F_subject_b4 := Fc9_0
        have F_object_b4 := Fc9_1
        have F_mode_b4 := Fc9_2
        show Go p e below P T9 (mkF m 65 #[.val (.int p1), .val (.int p2), .val (.int p3), .val (.int p4), .val (.int p5), .val (.int p6), .val (.int u6), .val (.int u7), .val (.int u8), .unset, .unset, .unset, .unset] [(.ref b4)])
        refine Go.of (T' := T9) (f' := (mkF m 67 #[.val (.int p1), .val (.int p2), .val (.int p3), .val (.int p4), .val (.int p5), .val (.int p6), .val (.int u6), .val (.int u7), .val (.int u8), .val (.ref b4), .unset, .unset, .unset] [])) (fun _ k => XS.astore X9.here hx rfl (hb hby at_65) rfl rfl (l' := #[.val (.int p1), .val (.int p2), .val (.int p3), .val (.int p4), .val (.int p5), .val (.int p6), .val (.int u6), .val (.int u7), .val (.int u8), .val (.ref b4), .unset, .unset, .unset]) rfl k) ?_
        refine Go.of (T' := T9) (f' := (mkF m 69 #[.val (.int p1), .val (.int p2), .val (.int p3), .val (.int p4), .val (.int p5), .val (.int p6), .val (.int u6), .val (.int u7), .val (.int u8), .val (.ref b4), .unset, .unset, .unset] [(.int p6)])) (fun _ k => XS.iload X9.here hx rfl (hb hby at_67) rfl k) ?_
        refine Go.of (T' := T9) (f' := (mkF m 70 #[.val (.int p1), .val (.int p2), .val (.int p3), .val (.int p4), .val (.int p5), .val (.int p6), .val (.int u6), .val (.int u7), .val (.int u8), .val (.ref b4), .unset, .unset, .unset] [(.int (3 : Int32)), (.int p6)])) (fun _ k => XS.iconst X9.here hx rfl (hb hby at_69) k) ?_
        refine Go.of (T' := T9) (f' := (mkF m 71 #[.val (.int p1), .val (.int p2), .val (.int p3), .val (.int p4), .val (.int p5), .val (.int p6), .val (.int u6), .val (.int u7), .val (.int u8), .val (.ref b4), .unset, .unset, .unset] [(.int ((p6.toUInt32 >>> ((3 : Int32) &&& 31).toUInt32).toInt32))])) (fun _ k => XS.iushr X9.here hx rfl (hb hby at_70) rfl k) ?_
        refine Go.of (T' := T9) (f' := (mkF m 72 #[.val (.int p1), .val (.int p2), .val (.int p3), .val (.int p4), .val (.int p5), .val (.int p6), .val (.int u6), .val (.int u7), .val (.int u8), .val (.ref b4), .unset, .unset, .unset] [(.int (3 : Int32)), (.int ((p6.toUInt32 >>> ((3 : Int32) &&& 31).toUInt32).toInt32))])) (fun _ k => XS.iconst X9.here hx rfl (hb hby at_71) k) ?_
        refine Go.of (T' := T9) (f' := (mkF m 73 #[.val (.int p1), .val (.int p2), .val (.int p3), .val (.int p4), .val (.int p5), .val (.int p6), .val (.int u6), .val (.int u7), .val (.int u8), .val (.ref b4), .unset, .unset, .unset] [(.int (((p6.toUInt32 >>> ((3 : Int32) &&& 31).toUInt32).toInt32) &&& (3 : Int32)))])) (fun _ k => XS.iand X9.here hx rfl (hb hby at_72) rfl k) ?_
        refine Go.of (T' := T9) (f' := (mkF m 75 #[.val (.int p1), .val (.int p2), .val (.int p3), .val (.int p4), .val (.int p5), .val (.int p6), .val (.int u6), .val (.int u7), .val (.int u8), .val (.ref b4), .val (.int (((p6.toUInt32 >>> ((3 : Int32) &&& 31).toUInt32).toInt32) &&& (3 : Int32))), .unset, .unset] [])) (fun _ k => XS.istore X9.here hx rfl (hb hby at_73) rfl (l' := #[.val (.int p1), .val (.int p2), .val (.int p3), .val (.int p4), .val (.int p5), .val (.int p6), .val (.int u6), .val (.int u7), .val (.int u8), .val (.ref b4), .val (.int (((p6.toUInt32 >>> ((3 : Int32) &&& 31).toUInt32).toInt32) &&& (3 : Int32))), .unset, .unset]) rfl k) ?_
        refine Go.of (T' := T9) (f' := (mkF m 77 #[.val (.int p1), .val (.int p2), .val (.int p3), .val (.int p4), .val (.int p5), .val (.int p6), .val (.int u6), .val (.int u7), .val (.int u8), .val (.ref b4), .val (.int (((p6.toUInt32 >>> ((3 : Int32) &&& 31).toUInt32).toInt32) &&& (3 : Int32))), .unset, .unset] [(.int (((p6.toUInt32 >>> ((3 : Int32) &&& 31).toUInt32).toInt32) &&& (3 : Int32)))])) (fun _ k => XS.iload X9.here hx rfl (hb hby at_75) rfl k) ?_
        refine Go.of (T' := T9) (f' := (mkF m 78 #[.val (.int p1), .val (.int p2), .val (.int p3), .val (.int p4), .val (.int p5), .val (.int p6), .val (.int u6), .val (.int u7), .val (.int u8), .val (.ref b4), .val (.int (((p6.toUInt32 >>> ((3 : Int32) &&& 31).toUInt32).toInt32) &&& (3 : Int32))), .unset, .unset] [(.int (2 : Int32)), (.int (((p6.toUInt32 >>> ((3 : Int32) &&& 31).toUInt32).toInt32) &&& (3 : Int32)))])) (fun _ k => XS.iconst X9.here hx rfl (hb hby at_77) k) ?_
        by_cases hc78 : (((p6.toUInt32 >>> ((3 : Int32) &&& 31).toUInt32).toInt32) &&& (3 : Int32)) = (2 : Int32)
        ·
          refine Go.of (T' := T9) (f' := (mkF m 81 #[.val (.int p1), .val (.int p2), .val (.int p3), .val (.int p4), .val (.int p5), .val (.int p6), .val (.int u6), .val (.int u7), .val (.int u8), .val (.ref b4), .val (.int (((p6.toUInt32 >>> ((3 : Int32) &&& 31).toUInt32).toInt32) &&& (3 : Int32))), .unset, .unset] [])) (fun _ k => XS.icmpNo X9.here hx rfl (hb hby at_78) rfl (teq hc78).2 k) ?_
          refine Go.of (T' := T9) (f' := (mkF m 83 #[.val (.int p1), .val (.int p2), .val (.int p3), .val (.int p4), .val (.int p5), .val (.int p6), .val (.int u6), .val (.int u7), .val (.int u8), .val (.ref b4), .val (.int (((p6.toUInt32 >>> ((3 : Int32) &&& 31).toUInt32).toInt32) &&& (3 : Int32))), .unset, .unset] [(.ref b4)])) (fun _ k => XS.aload X9.here hx rfl (hb hby at_81) rfl rfl k) ?_
          refine Go.of (T' := T9) (f' := (mkF m 84 #[.val (.int p1), .val (.int p2), .val (.int p3), .val (.int p4), .val (.int p5), .val (.int p6), .val (.int u6), .val (.int u7), .val (.int u8), .val (.ref b4), .val (.int (((p6.toUInt32 >>> ((3 : Int32) &&& 31).toUInt32).toInt32) &&& (3 : Int32))), .unset, .unset] [(.int p1), (.ref b4)])) (fun _ k => XS.iloadN X9.here hx rfl (hb hby at_83) rfl k) ?_
          refine goSH X9 hx hZ hown (hw _ (List.mem_of_getElem? (i := 3) rfl)) (hw _ (List.mem_of_getElem? (i := 4) rfl)) (hw _ (List.mem_of_getElem? (i := 5) rfl)) (hw _ (List.mem_of_getElem? (i := 6) rfl)) (by decide) (W := 1) (C := 6) (S := 12) (rm_mk l Z a0 hw p1 zc h9 Z_cs hz) rfl rfl (by decide) (by decide) hS hk (hEL_1 hw) RH.1 e9 (argsL := [(.int p1)]) (rest := [(.ref b4)]) (by rw [hml]; rfl) (lenOf pd__I_Ljava_lang_String_ rfl) rfl rfl (hb hby at_84) (Nat.le_of_eq rfl) (by decide) (by decide) ?_
          intro v11 T11 L11 X11 hQ11 hS11 hZ11 hown11 A11
          obtain ⟨h11, e11⟩ : ∃ z, T11.heap = z := ⟨_, rfl⟩
          rw [e11] at hQ11 hS11 A11
          obtain ⟨Mc11, a11, t11, rfl, le11, S_a11⟩ := hQ11
          have ne_b4_a11 : b4 ≠ a11 := Nat.ne_of_lt (Nat.lt_of_lt_of_le E_b4.lt le11)
          have ne_a6_a11 : a6 ≠ a11 := Nat.ne_of_lt (Nat.lt_of_lt_of_le S_a6.lt1 le11)
          have ne_t6_a11 : t6 ≠ a11 := Nat.ne_of_lt (Nat.lt_of_lt_of_le S_a6.lt2 le11)
          have ne_a7_a11 : a7 ≠ a11 := Nat.ne_of_lt (Nat.lt_of_lt_of_le S_a7.lt1 le11)
          have ne_t7_a11 : t7 ≠ a11 := Nat.ne_of_lt (Nat.lt_of_lt_of_le S_a7.lt2 le11)
          have ne_a8_a11 : a8 ≠ a11 := Nat.ne_of_lt (Nat.lt_of_lt_of_le S_a8.lt1 le11)
          have ne_t8_a11 : t8 ≠ a11 := Nat.ne_of_lt (Nat.lt_of_lt_of_le S_a8.lt2 le11)
          have fr_a11 : h0.size ≤ a11 := Nat.le_trans M9.le le11
          have M11 := M9.app0 Mc11
          clear hS hk
          replace Sf_b4 := CHr.safe A11 E_b4.lt Sf_b4
          replace RH := RH.trans A11
          replace Z_cs := StaKeep Z_cs Mc11.1 all0
          replace E_b4 := E_b4.keep Mc11.1
          replace S_a6 := S_a6.keep Mc11.1 nin0 nin0
          replace S_a7 := S_a7.keep Mc11.1 nin0 nin0
          replace S_a8 := S_a8.keep Mc11.1 nin0 nin0
          replace F_subject_b4 := F_subject_b4.keep Mc11.1 nin0
          replace F_object_b4 := F_object_b4.keep Mc11.1 nin0
          replace F_mode_b4 := F_mode_b4.keep Mc11.1 nin0
          have hS := hS11
          have hk : h11.size ≤ h11.size := Nat.le_refl _
          replace hZ := hZ11
          replace hown := hown11
          show Go p e below P T11 (mkF m 87 #[.val (.int p1), .val (.int p2), .val (.int p3), .val (.int p4), .val (.int p5), .val (.int p6), .val (.int u6), .val (.int u7), .val (.int u8), .val (.ref b4), .val (.int (((p6.toUInt32 >>> ((3 : Int32) &&& 31).toUInt32).toInt32) &&& (3 : Int32))), .unset, .unset] [(.ref a11), (.ref b4)])
          refine goV X11 hx hZ (y := (⟨"com/example/sunset_grant/sunsetgrant/base/Access", "equals", "(Ljava/lang/Object;)Z"⟩ : MethodName)) (z := (⟨"com/example/sunset_grant/sunsetgrant/base/Access", "equals", "(Ljava/lang/Object;)Z"⟩ : MethodName)) hown (hw _ (List.mem_of_getElem? (i := 45) rfl)) (hw _ (List.mem_of_getElem? (i := 46) rfl)) (notFace_of_selects (args := #[]) (mvT hZ (hw _ (List.mem_of_getElem? (i := 48) rfl)))) (hw _ (List.mem_of_getElem? (i := 48) rfl)) (hw _ (List.mem_of_getElem? (i := 47) rfl)) (by decide) (C := 0) (S := 0) ((rm_accEqO0 l Z a0 hw b4 a11 h11 S_a11.exa).bk (W := 0) hZ (hw _ (List.mem_of_getElem? (i := 49) rfl)) (hw _ (List.mem_of_getElem? (i := 2) rfl)) (by decide) (by decide)) e11 E_b4 (argsL := [(.ref a11)]) (rest := []) (by rw [hml]; rfl) (lenOf pd__Ljava_lang_Object__Z rfl) rfl rfl (hb hby at_87) (Nat.le_of_eq rfl) (by decide) (by decide) ?_
          intro v12 T12 L12 X12 hQ12
          obtain ⟨nq12, e12, rfl⟩ := hQ12
          replace X12 := standNil X12 nq12
          show Go p e below P T12 (mkF m 90 #[.val (.int p1), .val (.int p2), .val (.int p3), .val (.int p4), .val (.int p5), .val (.int p6), .val (.int u6), .val (.int u7), .val (.int u8), .val (.ref b4), .val (.int (((p6.toUInt32 >>> ((3 : Int32) &&& 31).toUInt32).toInt32) &&& (3 : Int32))), .unset, .unset] [(.int (0 : Int32))])
          refine Go.of (T' := T12) (f' := (mkF m 93 #[.val (.int p1), .val (.int p2), .val (.int p3), .val (.int p4), .val (.int p5), .val (.int p6), .val (.int u6), .val (.int u7), .val (.int u8), .val (.ref b4), .val (.int (((p6.toUInt32 >>> ((3 : Int32) &&& 31).toUInt32).toInt32) &&& (3 : Int32))), .unset, .unset] [])) (fun _ k => XS.ifNo X12.here hx rfl (hb hby at_90) rfl (by decide) k) ?_
          refine Go.of (T' := T12) (f' := (mkF m 94 #[.val (.int p1), .val (.int p2), .val (.int p3), .val (.int p4), .val (.int p5), .val (.int p6), .val (.int u6), .val (.int u7), .val (.int u8), .val (.ref b4), .val (.int (((p6.toUInt32 >>> ((3 : Int32) &&& 31).toUInt32).toInt32) &&& (3 : Int32))), .unset, .unset] [(.int (1 : Int32))])) (fun _ k => XS.iconst X12.here hx rfl (hb hby at_93) k) ?_
          refine Go.of (T' := T12) (f' := (mkF m 98 #[.val (.int p1), .val (.int p2), .val (.int p3), .val (.int p4), .val (.int p5), .val (.int p6), .val (.int u6), .val (.int u7), .val (.int u8), .val (.ref b4), .val (.int (((p6.toUInt32 >>> ((3 : Int32) &&& 31).toUInt32).toInt32) &&& (3 : Int32))), .unset, .unset] [(.int (1 : Int32))])) (fun _ k => XS.goto X12.here hx rfl (pc0 := 94) (pc' := 98) rfl (hb hby at_94) (by decide) (by decide) k) ?_
          exact goRetIH (Q := fun v h L => v = some (.int 1) ∧ Mv h0 h [] L) X12 hx hZ hS hk (hEL_1 hw) RH (t := .boolean) hret hlk rfl (by simp) (hb hby at_98) K (by decide) (by decide) e12 (⟨rfl, M11⟩)
        ·
          refine Go.of (T' := T9) (f' := (mkF m 99 #[.val (.int p1), .val (.int p2), .val (.int p3), .val (.int p4), .val (.int p5), .val (.int p6), .val (.int u6), .val (.int u7), .val (.int u8), .val (.ref b4), .val (.int (((p6.toUInt32 >>> ((3 : Int32) &&& 31).toUInt32).toInt32) &&& (3 : Int32))), .unset, .unset] [])) (fun _ k => XS.icmpYes X9.here hx rfl (pc0 := 78) (pc' := 99) rfl (hb hby at_78) rfl (feq hc78).2 (by decide) (by decide) k) ?_
          refine Go.of (T' := T9) (f' := (mkF m 101 #[.val (.int p1), .val (.int p2), .val (.int p3), .val (.int p4), .val (.int p5), .val (.int p6), .val (.int u6), .val (.int u7), .val (.int u8), .val (.ref b4), .val (.int (((p6.toUInt32 >>> ((3 : Int32) &&& 31).toUInt32).toInt32) &&& (3 : Int32))), .unset, .unset] [(.int (((p6.toUInt32 >>> ((3 : Int32) &&& 31).toUInt32).toInt32) &&& (3 : Int32)))])) (fun _ k => XS.iload X9.here hx rfl (hb hby at_99) rfl k) ?_
          refine Go.of (T' := T9) (f' := (mkF m 102 #[.val (.int p1), .val (.int p2), .val (.int p3), .val (.int p4), .val (.int p5), .val (.int p6), .val (.int u6), .val (.int u7), .val (.int u8), .val (.ref b4), .val (.int (((p6.toUInt32 >>> ((3 : Int32) &&& 31).toUInt32).toInt32) &&& (3 : Int32))), .unset, .unset] [(.int (3 : Int32)), (.int (((p6.toUInt32 >>> ((3 : Int32) &&& 31).toUInt32).toInt32) &&& (3 : Int32)))])) (fun _ k => XS.iconst X9.here hx rfl (hb hby at_101) k) ?_
          by_cases hc102 : (((p6.toUInt32 >>> ((3 : Int32) &&& 31).toUInt32).toInt32) &&& (3 : Int32)) = (3 : Int32)
          ·
            refine Go.of (T' := T9) (f' := (mkF m 105 #[.val (.int p1), .val (.int p2), .val (.int p3), .val (.int p4), .val (.int p5), .val (.int p6), .val (.int u6), .val (.int u7), .val (.int u8), .val (.ref b4), .val (.int (((p6.toUInt32 >>> ((3 : Int32) &&& 31).toUInt32).toInt32) &&& (3 : Int32))), .unset, .unset] [])) (fun _ k => XS.icmpNo X9.here hx rfl (hb hby at_102) rfl (teq hc102).2 k) ?_
            refine Go.of (T' := T9) (f' := (mkF m 107 #[.val (.int p1), .val (.int p2), .val (.int p3), .val (.int p4), .val (.int p5), .val (.int p6), .val (.int u6), .val (.int u7), .val (.int u8), .val (.ref b4), .val (.int (((p6.toUInt32 >>> ((3 : Int32) &&& 31).toUInt32).toInt32) &&& (3 : Int32))), .unset, .unset] [(.ref b4)])) (fun _ k => XS.aload X9.here hx rfl (hb hby at_105) rfl rfl k) ?_
            refine Go.of (T' := T9) (f' := (mkF m 108 #[.val (.int p1), .val (.int p2), .val (.int p3), .val (.int p4), .val (.int p5), .val (.int p6), .val (.int u6), .val (.int u7), .val (.int u8), .val (.ref b4), .val (.int (((p6.toUInt32 >>> ((3 : Int32) &&& 31).toUInt32).toInt32) &&& (3 : Int32))), .unset, .unset] [.null, (.ref b4)])) (fun _ k => XS.aconstNull X9.here hx rfl (hb hby at_107) k) ?_
            refine goV X9 hx hZ (y := (⟨"com/example/sunset_grant/sunsetgrant/base/Access", "equals", "(Ljava/lang/Object;)Z"⟩ : MethodName)) (z := (⟨"com/example/sunset_grant/sunsetgrant/base/Access", "equals", "(Ljava/lang/Object;)Z"⟩ : MethodName)) hown (hw _ (List.mem_of_getElem? (i := 45) rfl)) (hw _ (List.mem_of_getElem? (i := 46) rfl)) (notFace_of_selects (args := #[]) (mvT hZ (hw _ (List.mem_of_getElem? (i := 48) rfl)))) (hw _ (List.mem_of_getElem? (i := 48) rfl)) (hw _ (List.mem_of_getElem? (i := 47) rfl)) (by decide) (C := 0) (S := 0) ((rm_accEq0 l Z a0 hw b4 h9 ).bk (W := 0) hZ (hw _ (List.mem_of_getElem? (i := 49) rfl)) (hw _ (List.mem_of_getElem? (i := 2) rfl)) (by decide) (by decide)) e9 E_b4 (argsL := [.null]) (rest := []) (by rw [hml]; rfl) (lenOf pd__Ljava_lang_Object__Z rfl) rfl rfl (hb hby at_108) (Nat.le_of_eq rfl) (by decide) (by decide) ?_
            intro v13 T13 L13 X13 hQ13
            obtain ⟨nq13, e13, rfl⟩ := hQ13
            replace X13 := standNil X13 nq13
            show Go p e below P T13 (mkF m 111 #[.val (.int p1), .val (.int p2), .val (.int p3), .val (.int p4), .val (.int p5), .val (.int p6), .val (.int u6), .val (.int u7), .val (.int u8), .val (.ref b4), .val (.int (((p6.toUInt32 >>> ((3 : Int32) &&& 31).toUInt32).toInt32) &&& (3 : Int32))), .unset, .unset] [(.int (0 : Int32))])
            refine Go.of (T' := T13) (f' := (mkF m 114 #[.val (.int p1), .val (.int p2), .val (.int p3), .val (.int p4), .val (.int p5), .val (.int p6), .val (.int u6), .val (.int u7), .val (.int u8), .val (.ref b4), .val (.int (((p6.toUInt32 >>> ((3 : Int32) &&& 31).toUInt32).toInt32) &&& (3 : Int32))), .unset, .unset] [])) (fun _ k => XS.ifNo X13.here hx rfl (hb hby at_111) rfl (by decide) k) ?_
            refine Go.of (T' := T13) (f' := (mkF m 115 #[.val (.int p1), .val (.int p2), .val (.int p3), .val (.int p4), .val (.int p5), .val (.int p6), .val (.int u6), .val (.int u7), .val (.int u8), .val (.ref b4), .val (.int (((p6.toUInt32 >>> ((3 : Int32) &&& 31).toUInt32).toInt32) &&& (3 : Int32))), .unset, .unset] [(.int (1 : Int32))])) (fun _ k => XS.iconst X13.here hx rfl (hb hby at_114) k) ?_
            refine Go.of (T' := T13) (f' := (mkF m 119 #[.val (.int p1), .val (.int p2), .val (.int p3), .val (.int p4), .val (.int p5), .val (.int p6), .val (.int u6), .val (.int u7), .val (.int u8), .val (.ref b4), .val (.int (((p6.toUInt32 >>> ((3 : Int32) &&& 31).toUInt32).toInt32) &&& (3 : Int32))), .unset, .unset] [(.int (1 : Int32))])) (fun _ k => XS.goto X13.here hx rfl (pc0 := 115) (pc' := 119) rfl (hb hby at_115) (by decide) (by decide) k) ?_
            exact goRetIH (Q := fun v h L => v = some (.int 1) ∧ Mv h0 h [] L) X13 hx hZ hS hk (hEL_1 hw) RH (t := .boolean) hret hlk rfl (by simp) (hb hby at_119) K (by decide) (by decide) e13 (⟨rfl, M9⟩)
          ·
            refine Go.of (T' := T9) (f' := (mkF m 120 #[.val (.int p1), .val (.int p2), .val (.int p3), .val (.int p4), .val (.int p5), .val (.int p6), .val (.int u6), .val (.int u7), .val (.int u8), .val (.ref b4), .val (.int (((p6.toUInt32 >>> ((3 : Int32) &&& 31).toUInt32).toInt32) &&& (3 : Int32))), .unset, .unset] [])) (fun _ k => XS.icmpYes X9.here hx rfl (pc0 := 102) (pc' := 120) rfl (hb hby at_102) rfl (feq hc102).2 (by decide) (by decide) k) ?_
            obtain ⟨T14, h14, X14, e14, E14, A14, D14, -, st14⟩ := newO X9 hx hZ hown (hw _ (List.mem_of_getElem? (i := 0) rfl)) (hw _ (List.mem_of_getElem? (i := 1) rfl)) (hw _ (List.mem_of_getElem? (i := 2) rfl)) e9 (g := (mkF m 120 #[.val (.int p1), .val (.int p2), .val (.int p3), .val (.int p4), .val (.int p5), .val (.int p6), .val (.int u6), .val (.int u7), .val (.int u8), .val (.ref b4), .val (.int (((p6.toUInt32 >>> ((3 : Int32) &&& 31).toUInt32).toInt32) &&& (3 : Int32))), .unset, .unset] [])) rfl (hb hby at_120) (by decide) (by decide)
            obtain ⟨b14, g14⟩ : ∃ z, z = h9.size := ⟨_, rfl⟩
            rw [← g14] at A14 D14 st14
            have ne_b4_b14 : b4 ≠ b14 := Nat.ne_of_lt (Nat.lt_of_lt_of_le E_b4.lt (Nat.le_of_eq g14.symm))
            have ne_a6_b14 : a6 ≠ b14 := Nat.ne_of_lt (Nat.lt_of_lt_of_le S_a6.lt1 (Nat.le_of_eq g14.symm))
            have ne_t6_b14 : t6 ≠ b14 := Nat.ne_of_lt (Nat.lt_of_lt_of_le S_a6.lt2 (Nat.le_of_eq g14.symm))
            have ne_a7_b14 : a7 ≠ b14 := Nat.ne_of_lt (Nat.lt_of_lt_of_le S_a7.lt1 (Nat.le_of_eq g14.symm))
            have ne_t7_b14 : t7 ≠ b14 := Nat.ne_of_lt (Nat.lt_of_lt_of_le S_a7.lt2 (Nat.le_of_eq g14.symm))
            have ne_a8_b14 : a8 ≠ b14 := Nat.ne_of_lt (Nat.lt_of_lt_of_le S_a8.lt1 (Nat.le_of_eq g14.symm))
            have ne_t8_b14 : t8 ≠ b14 := Nat.ne_of_lt (Nat.lt_of_lt_of_le S_a8.lt2 (Nat.le_of_eq g14.symm))
            have fr_b14 : h0.size ≤ b14 := Nat.le_trans M9.le (Nat.le_of_eq g14.symm)
            have Sf_b14 := Safe.new (Z := Z) (EL := consts_1) (vm := T8.vm) (Nat.le_of_eq g14.symm)
            have K14 := keepE E14
            have M14 := M9.ext E14
            replace hk := Nat.le_trans hk (K14).1
            have hs15 := CHr.keep (K14) sf0 RH.1
            replace Sf_b4 := Safe.keep (K14) sf0 RH.1 Sf_b4
            replace Sf_b14 := Safe.keep (K14) sf0 RH.1 Sf_b14
            replace RH := RH.trans hs15
            replace Z_cs := StaKeep Z_cs K14 all0
            replace E_b4 := E_b4.keep K14
            replace S_a6 := S_a6.keep K14 nin0 nin0
            replace S_a7 := S_a7.keep K14 nin0 nin0
            replace S_a8 := S_a8.keep K14 nin0 nin0
            replace F_subject_b4 := F_subject_b4.keep K14 nin0
            replace F_object_b4 := F_object_b4.keep K14 nin0
            replace F_mode_b4 := F_mode_b4.keep K14 nin0
            have E_b14 := A14
            have F_subject_b14 : Fld Z h14 b14 "com/example/sunset_grant/sunsetgrant/base/Access" "subject" "Ljava/lang/String;" .null := D14 (Or.inr (hw _ (List.mem_of_getElem? (i := 37) rfl))) (ty := (.object "java/lang/String")) (by decide)
            have F_object_b14 : Fld Z h14 b14 "com/example/sunset_grant/sunsetgrant/base/Access" "object" "Ljava/lang/String;" .null := D14 (Or.inr (hw _ (List.mem_of_getElem? (i := 39) rfl))) (ty := (.object "java/lang/String")) (by decide)
            have F_mode_b14 : Fld Z h14 b14 "com/example/sunset_grant/sunsetgrant/base/Access" "mode" "Ljava/lang/String;" .null := D14 (Or.inr (hw _ (List.mem_of_getElem? (i := 41) rfl))) (ty := (.object "java/lang/String")) (by decide)
            refine Go.of (T' := T14) (f' := (mkF m 123 #[.val (.int p1), .val (.int p2), .val (.int p3), .val (.int p4), .val (.int p5), .val (.int p6), .val (.int u6), .val (.int u7), .val (.int u8), .val (.ref b4), .val (.int (((p6.toUInt32 >>> ((3 : Int32) &&& 31).toUInt32).toInt32) &&& (3 : Int32))), .unset, .unset] [(.ref b14)])) st14 ?_
            refine Go.of (T' := T14) (f' := (mkF m 124 #[.val (.int p1), .val (.int p2), .val (.int p3), .val (.int p4), .val (.int p5), .val (.int p6), .val (.int u6), .val (.int u7), .val (.int u8), .val (.ref b4), .val (.int (((p6.toUInt32 >>> ((3 : Int32) &&& 31).toUInt32).toInt32) &&& (3 : Int32))), .unset, .unset] [(.ref b14), (.ref b14)])) (fun _ k => XS.dup X14.here hx rfl (hb hby at_123) rfl rfl k) ?_
            refine Go.of (T' := T14) (f' := (mkF m 126 #[.val (.int p1), .val (.int p2), .val (.int p3), .val (.int p4), .val (.int p5), .val (.int p6), .val (.int u6), .val (.int u7), .val (.int u8), .val (.ref b4), .val (.int (((p6.toUInt32 >>> ((3 : Int32) &&& 31).toUInt32).toInt32) &&& (3 : Int32))), .unset, .unset] [(.int u6), (.ref b14), (.ref b14)])) (fun _ k => XS.iload X14.here hx rfl (hb hby at_124) rfl k) ?_
            refine goSH X14 hx hZ hown (hw _ (List.mem_of_getElem? (i := 3) rfl)) (hw _ (List.mem_of_getElem? (i := 4) rfl)) (hw _ (List.mem_of_getElem? (i := 5) rfl)) (hw _ (List.mem_of_getElem? (i := 6) rfl)) (by decide) (W := 2) (C := 6) (S := 12) (rm_mk l Z a0 hw u6 zc h14 Z_cs hz) rfl rfl (by decide) (by decide) hS hk (hEL_1 hw) RH.1 e14 (argsL := [(.int u6)]) (rest := [(.ref b14), (.ref b14)]) (by rw [hml]; rfl) (lenOf pd__I_Ljava_lang_String_ rfl) rfl rfl (hb hby at_126) (Nat.le_of_eq rfl) (by decide) (by decide) ?_
            intro v16 T16 L16 X16 hQ16 hS16 hZ16 hown16 A16
            obtain ⟨h16, e16⟩ : ∃ z, T16.heap = z := ⟨_, rfl⟩
            rw [e16] at hQ16 hS16 A16
            obtain ⟨Mc16, a16, t16, rfl, le16, S_a16⟩ := hQ16
            have ne_b4_a16 : b4 ≠ a16 := Nat.ne_of_lt (Nat.lt_of_lt_of_le E_b4.lt le16)
            have ne_a6_a16 : a6 ≠ a16 := Nat.ne_of_lt (Nat.lt_of_lt_of_le S_a6.lt1 le16)
            have ne_t6_a16 : t6 ≠ a16 := Nat.ne_of_lt (Nat.lt_of_lt_of_le S_a6.lt2 le16)
            have ne_a7_a16 : a7 ≠ a16 := Nat.ne_of_lt (Nat.lt_of_lt_of_le S_a7.lt1 le16)
            have ne_t7_a16 : t7 ≠ a16 := Nat.ne_of_lt (Nat.lt_of_lt_of_le S_a7.lt2 le16)
            have ne_a8_a16 : a8 ≠ a16 := Nat.ne_of_lt (Nat.lt_of_lt_of_le S_a8.lt1 le16)
            have ne_t8_a16 : t8 ≠ a16 := Nat.ne_of_lt (Nat.lt_of_lt_of_le S_a8.lt2 le16)
            have ne_b14_a16 : b14 ≠ a16 := Nat.ne_of_lt (Nat.lt_of_lt_of_le E_b14.lt le16)
            have fr_a16 : h0.size ≤ a16 := Nat.le_trans M14.le le16
            have M16 := M14.app0 Mc16
            clear hS hk
            replace Sf_b4 := CHr.safe A16 E_b4.lt Sf_b4
            replace Sf_b14 := CHr.safe A16 E_b14.lt Sf_b14
            replace RH := RH.trans A16
            replace Z_cs := StaKeep Z_cs Mc16.1 all0
            replace E_b4 := E_b4.keep Mc16.1
            replace S_a6 := S_a6.keep Mc16.1 nin0 nin0
            replace S_a7 := S_a7.keep Mc16.1 nin0 nin0
            replace S_a8 := S_a8.keep Mc16.1 nin0 nin0
            replace F_subject_b4 := F_subject_b4.keep Mc16.1 nin0
            replace F_object_b4 := F_object_b4.keep Mc16.1 nin0
            replace F_mode_b4 := F_mode_b4.keep Mc16.1 nin0
            replace E_b14 := E_b14.keep Mc16.1
            replace F_subject_b14 := F_subject_b14.keep Mc16.1 nin0
            replace F_object_b14 := F_object_b14.keep Mc16.1 nin0
            replace F_mode_b14 := F_mode_b14.keep Mc16.1 nin0
            have hS := hS16
            have hk : h16.size ≤ h16.size := Nat.le_refl _
            replace hZ := hZ16
            replace hown := hown16
            show Go p e below P T16 (mkF m 129 #[.val (.int p1), .val (.int p2), .val (.int p3), .val (.int p4), .val (.int p5), .val (.int p6), .val (.int u6), .val (.int u7), .val (.int u8), .val (.ref b4), .val (.int (((p6.toUInt32 >>> ((3 : Int32) &&& 31).toUInt32).toInt32) &&& (3 : Int32))), .unset, .unset] [(.ref a16), (.ref b14), (.ref b14)])
            refine Go.of (T' := T16) (f' := (mkF m 131 #[.val (.int p1), .val (.int p2), .val (.int p3), .val (.int p4), .val (.int p5), .val (.int p6), .val (.int u6), .val (.int u7), .val (.int u8), .val (.ref b4), .val (.int (((p6.toUInt32 >>> ((3 : Int32) &&& 31).toUInt32).toInt32) &&& (3 : Int32))), .unset, .unset] [(.int u7), (.ref a16), (.ref b14), (.ref b14)])) (fun _ k => XS.iload X16.here hx rfl (hb hby at_129) rfl k) ?_
            refine goSH X16 hx hZ hown (hw _ (List.mem_of_getElem? (i := 3) rfl)) (hw _ (List.mem_of_getElem? (i := 4) rfl)) (hw _ (List.mem_of_getElem? (i := 5) rfl)) (hw _ (List.mem_of_getElem? (i := 6) rfl)) (by decide) (W := 3) (C := 6) (S := 12) (rm_mk l Z a0 hw u7 zc h16 Z_cs hz) rfl rfl (by decide) (by decide) hS hk (hEL_1 hw) RH.1 e16 (argsL := [(.int u7)]) (rest := [(.ref a16), (.ref b14), (.ref b14)]) (by rw [hml]; rfl) (lenOf pd__I_Ljava_lang_String_ rfl) rfl rfl (hb hby at_131) (Nat.le_of_eq rfl) (by decide) (by decide) ?_
            intro v17 T17 L17 X17 hQ17 hS17 hZ17 hown17 A17
            obtain ⟨h17, e17⟩ : ∃ z, T17.heap = z := ⟨_, rfl⟩
            rw [e17] at hQ17 hS17 A17
            obtain ⟨Mc17, a17, t17, rfl, le17, S_a17⟩ := hQ17
            have ne_b4_a17 : b4 ≠ a17 := Nat.ne_of_lt (Nat.lt_of_lt_of_le E_b4.lt le17)
            have ne_a6_a17 : a6 ≠ a17 := Nat.ne_of_lt (Nat.lt_of_lt_of_le S_a6.lt1 le17)
            have ne_t6_a17 : t6 ≠ a17 := Nat.ne_of_lt (Nat.lt_of_lt_of_le S_a6.lt2 le17)
            have ne_a7_a17 : a7 ≠ a17 := Nat.ne_of_lt (Nat.lt_of_lt_of_le S_a7.lt1 le17)
            have ne_t7_a17 : t7 ≠ a17 := Nat.ne_of_lt (Nat.lt_of_lt_of_le S_a7.lt2 le17)
            have ne_a8_a17 : a8 ≠ a17 := Nat.ne_of_lt (Nat.lt_of_lt_of_le S_a8.lt1 le17)
            have ne_t8_a17 : t8 ≠ a17 := Nat.ne_of_lt (Nat.lt_of_lt_of_le S_a8.lt2 le17)
            have ne_b14_a17 : b14 ≠ a17 := Nat.ne_of_lt (Nat.lt_of_lt_of_le E_b14.lt le17)
            have ne_a16_a17 : a16 ≠ a17 := Nat.ne_of_lt (Nat.lt_of_lt_of_le S_a16.lt1 le17)
            have ne_t16_a17 : t16 ≠ a17 := Nat.ne_of_lt (Nat.lt_of_lt_of_le S_a16.lt2 le17)
            have fr_a17 : h0.size ≤ a17 := Nat.le_trans M16.le le17
            have M17 := M16.app0 Mc17
            clear hS hk
            replace Sf_b4 := CHr.safe A17 E_b4.lt Sf_b4
            replace Sf_b14 := CHr.safe A17 E_b14.lt Sf_b14
            replace RH := RH.trans A17
            replace Z_cs := StaKeep Z_cs Mc17.1 all0
            replace E_b4 := E_b4.keep Mc17.1
            replace S_a6 := S_a6.keep Mc17.1 nin0 nin0
            replace S_a7 := S_a7.keep Mc17.1 nin0 nin0
            replace S_a8 := S_a8.keep Mc17.1 nin0 nin0
            replace F_subject_b4 := F_subject_b4.keep Mc17.1 nin0
            replace F_object_b4 := F_object_b4.keep Mc17.1 nin0
            replace F_mode_b4 := F_mode_b4.keep Mc17.1 nin0
            replace E_b14 := E_b14.keep Mc17.1
            replace F_subject_b14 := F_subject_b14.keep Mc17.1 nin0
            replace F_object_b14 := F_object_b14.keep Mc17.1 nin0
            replace F_mode_b14 := F_mode_b14.keep Mc17.1 nin0
            replace S_a16 := S_a16.keep Mc17.1 nin0 nin0
            have hS := hS17
            have hk : h17.size ≤ h17.size := Nat.le_refl _
            replace hZ := hZ17
            replace hown := hown17
            show Go p e below P T17 (mkF m 134 #[.val (.int p1), .val (.int p2), .val (.int p3), .val (.int p4), .val (.int p5), .val (.int p6), .val (.int u6), .val (.int u7), .val (.int u8), .val (.ref b4), .val (.int (((p6.toUInt32 >>> ((3 : Int32) &&& 31).toUInt32).toInt32) &&& (3 : Int32))), .unset, .unset] [(.ref a17), (.ref a16), (.ref b14), (.ref b14)])
            refine Go.of (T' := T17) (f' := (mkF m 136 #[.val (.int p1), .val (.int p2), .val (.int p3), .val (.int p4), .val (.int p5), .val (.int p6), .val (.int u6), .val (.int u7), .val (.int u8), .val (.ref b4), .val (.int (((p6.toUInt32 >>> ((3 : Int32) &&& 31).toUInt32).toInt32) &&& (3 : Int32))), .unset, .unset] [(.int u8), (.ref a17), (.ref a16), (.ref b14), (.ref b14)])) (fun _ k => XS.iload X17.here hx rfl (hb hby at_134) rfl k) ?_
            refine goSH X17 hx hZ hown (hw _ (List.mem_of_getElem? (i := 3) rfl)) (hw _ (List.mem_of_getElem? (i := 4) rfl)) (hw _ (List.mem_of_getElem? (i := 5) rfl)) (hw _ (List.mem_of_getElem? (i := 6) rfl)) (by decide) (W := 4) (C := 6) (S := 12) (rm_mk l Z a0 hw u8 zc h17 Z_cs hz) rfl rfl (by decide) (by decide) hS hk (hEL_1 hw) RH.1 e17 (argsL := [(.int u8)]) (rest := [(.ref a17), (.ref a16), (.ref b14), (.ref b14)]) (by rw [hml]; rfl) (lenOf pd__I_Ljava_lang_String_ rfl) rfl rfl (hb hby at_136) (Nat.le_of_eq rfl) (by decide) (by decide) ?_
            intro v18 T18 L18 X18 hQ18 hS18 hZ18 hown18 A18
            obtain ⟨h18, e18⟩ : ∃ z, T18.heap = z := ⟨_, rfl⟩
            rw [e18] at hQ18 hS18 A18
            obtain ⟨Mc18, a18, t18, rfl, le18, S_a18⟩ := hQ18
            have ne_b4_a18 : b4 ≠ a18 := Nat.ne_of_lt (Nat.lt_of_lt_of_le E_b4.lt le18)
            have ne_a6_a18 : a6 ≠ a18 := Nat.ne_of_lt (Nat.lt_of_lt_of_le S_a6.lt1 le18)
            have ne_t6_a18 : t6 ≠ a18 := Nat.ne_of_lt (Nat.lt_of_lt_of_le S_a6.lt2 le18)
            have ne_a7_a18 : a7 ≠ a18 := Nat.ne_of_lt (Nat.lt_of_lt_of_le S_a7.lt1 le18)
            have ne_t7_a18 : t7 ≠ a18 := Nat.ne_of_lt (Nat.lt_of_lt_of_le S_a7.lt2 le18)
            have ne_a8_a18 : a8 ≠ a18 := Nat.ne_of_lt (Nat.lt_of_lt_of_le S_a8.lt1 le18)
            have ne_t8_a18 : t8 ≠ a18 := Nat.ne_of_lt (Nat.lt_of_lt_of_le S_a8.lt2 le18)
            have ne_b14_a18 : b14 ≠ a18 := Nat.ne_of_lt (Nat.lt_of_lt_of_le E_b14.lt le18)
            have ne_a16_a18 : a16 ≠ a18 := Nat.ne_of_lt (Nat.lt_of_lt_of_le S_a16.lt1 le18)
            have ne_t16_a18 : t16 ≠ a18 := Nat.ne_of_lt (Nat.lt_of_lt_of_le S_a16.lt2 le18)
            have ne_a17_a18 : a17 ≠ a18 := Nat.ne_of_lt (Nat.lt_of_lt_of_le S_a17.lt1 le18)
            have ne_t17_a18 : t17 ≠ a18 := Nat.ne_of_lt (Nat.lt_of_lt_of_le S_a17.lt2 le18)
            have fr_a18 : h0.size ≤ a18 := Nat.le_trans M17.le le18
            have M18 := M17.app0 Mc18
            clear hS hk
            replace Sf_b4 := CHr.safe A18 E_b4.lt Sf_b4
            replace Sf_b14 := CHr.safe A18 E_b14.lt Sf_b14
            replace RH := RH.trans A18
            replace Z_cs := StaKeep Z_cs Mc18.1 all0
            replace E_b4 := E_b4.keep Mc18.1
            replace S_a6 := S_a6.keep Mc18.1 nin0 nin0
            replace S_a7 := S_a7.keep Mc18.1 nin0 nin0
            replace S_a8 := S_a8.keep Mc18.1 nin0 nin0
            replace F_subject_b4 := F_subject_b4.keep Mc18.1 nin0
            replace F_object_b4 := F_object_b4.keep Mc18.1 nin0
            replace F_mode_b4 := F_mode_b4.keep Mc18.1 nin0
            replace E_b14 := E_b14.keep Mc18.1
            replace F_subject_b14 := F_subject_b14.keep Mc18.1 nin0
            replace F_object_b14 := F_object_b14.keep Mc18.1 nin0
            replace F_mode_b14 := F_mode_b14.keep Mc18.1 nin0
            replace S_a16 := S_a16.keep Mc18.1 nin0 nin0
            replace S_a17 := S_a17.keep Mc18.1 nin0 nin0
            have hS := hS18
            have hk : h18.size ≤ h18.size := Nat.le_refl _
            replace hZ := hZ18
            replace hown := hown18
            show Go p e below P T18 (mkF m 139 #[.val (.int p1), .val (.int p2), .val (.int p3), .val (.int p4), .val (.int p5), .val (.int p6), .val (.int u6), .val (.int u7), .val (.int u8), .val (.ref b4), .val (.int (((p6.toUInt32 >>> ((3 : Int32) &&& 31).toUInt32).toInt32) &&& (3 : Int32))), .unset, .unset] [(.ref a18), (.ref a17), (.ref a16), (.ref b14), (.ref b14)])
            refine goI X18 hx hZ rfl hown (hw _ (List.mem_of_getElem? (i := 32) rfl)) (hw _ (List.mem_of_getElem? (i := 33) rfl)) (hw _ (List.mem_of_getElem? (i := 34) rfl)) (by decide) (C := 0) (S := 0) ((rm_access l Z a0 hw b14 a16 a17 a18 h18 E_b14 F_subject_b14 F_object_b14 F_mode_b14 ).bk (W := 1) hZ (hw _ (List.mem_of_getElem? (i := 34) rfl)) (hw _ (List.mem_of_getElem? (i := 2) rfl)) (by decide) (by decide)) e18 (argsL := [(.ref a16), (.ref a17), (.ref a18)]) (rest := [(.ref b14)]) (by rw [hml]; rfl) (lenOf pd__Ljava_lang_String_Ljava_lang_String_Ljava_lang_String__V rfl) rfl rfl (hb hby at_139) (Nat.le_of_eq rfl) (by decide) (by decide) ?_
            intro v19 T19 L19 X19 hQ19
            obtain ⟨h19, e19⟩ : ∃ z, T19.heap = z := ⟨_, rfl⟩
            rw [e19] at hQ19
            have E_b14_o := E_b14
            obtain ⟨rfl, Mc19, Ec19, Fc19_0, Fc19_1, Fc19_2⟩ := hQ19
            have M19 := M18.app Mc19 (allS (Or.inr fr_b14) all0)
            replace hk := Nat.le_trans hk (Mc19.1).1
            have ne_t16_b14 : t16 ≠ b14 := strT_ne S_a16 E_b14 (hw _ (List.mem_of_getElem? (i := 1) rfl))
            have ne_t17_b14 : t17 ≠ b14 := strT_ne S_a17 E_b14 (hw _ (List.mem_of_getElem? (i := 1) rfl))
            have ne_t18_b14 : t18 ≠ b14 := strT_ne S_a18 E_b14 (hw _ (List.mem_of_getElem? (i := 1) rfl))
            have hq20 : ∀ x ∈ ([b14] : List Addr), Safe Z consts_1 T18.vm h18 x := (sfS Sf_b14 sf0)
            have hs20 := CHr.keep (Mc19.1) hq20 RH.1
            replace Sf_b4 := Safe.keep (Mc19.1) hq20 RH.1 Sf_b4
            replace Sf_b14 := Safe.keep (Mc19.1) hq20 RH.1 Sf_b14
            replace RH := RH.trans hs20
            replace Z_cs := StaKeep Z_cs Mc19.1 (allS (staExa E_b14_o) all0)
            replace E_b4 := E_b4.keep Mc19.1
            replace S_a6 := S_a6.keep Mc19.1 (ninS ne_a6_b14 nin0) (ninS ne_t6_b14 nin0)
            replace S_a7 := S_a7.keep Mc19.1 (ninS ne_a7_b14 nin0) (ninS ne_t7_b14 nin0)
            replace S_a8 := S_a8.keep Mc19.1 (ninS ne_a8_b14 nin0) (ninS ne_t8_b14 nin0)
            replace F_subject_b4 := F_subject_b4.keep Mc19.1 (ninS ne_b4_b14 nin0)
            replace F_object_b4 := F_object_b4.keep Mc19.1 (ninS ne_b4_b14 nin0)
            replace F_mode_b4 := F_mode_b4.keep Mc19.1 (ninS ne_b4_b14 nin0)
            replace S_a16 := S_a16.keep Mc19.1 (ninS (Ne.symm ne_b14_a16) nin0) (ninS ne_t16_b14 nin0)
            replace S_a17 := S_a17.keep Mc19.1 (ninS (Ne.symm ne_b14_a17) nin0) (ninS ne_t17_b14 nin0)
            replace S_a18 := S_a18.keep Mc19.1 (ninS (Ne.symm ne_b14_a18) nin0) (ninS ne_t18_b14 nin0)
            replace E_b14 := Ec19
            have F_subject_b14 := Fc19_0
            have F_object_b14 := Fc19_1
            have F_mode_b14 := Fc19_2
            show Go p e below P T19 (mkF m 142 #[.val (.int p1), .val (.int p2), .val (.int p3), .val (.int p4), .val (.int p5), .val (.int p6), .val (.int u6), .val (.int u7), .val (.int u8), .val (.ref b4), .val (.int (((p6.toUInt32 >>> ((3 : Int32) &&& 31).toUInt32).toInt32) &&& (3 : Int32))), .unset, .unset] [(.ref b14)])
            refine Go.of (T' := T19) (f' := (mkF m 144 #[.val (.int p1), .val (.int p2), .val (.int p3), .val (.int p4), .val (.int p5), .val (.int p6), .val (.int u6), .val (.int u7), .val (.int u8), .val (.ref b4), .val (.int (((p6.toUInt32 >>> ((3 : Int32) &&& 31).toUInt32).toInt32) &&& (3 : Int32))), .val (.ref b14), .unset] [])) (fun _ k => XS.astore X19.here hx rfl (hb hby at_142) rfl rfl (l' := #[.val (.int p1), .val (.int p2), .val (.int p3), .val (.int p4), .val (.int p5), .val (.int p6), .val (.int u6), .val (.int u7), .val (.int u8), .val (.ref b4), .val (.int (((p6.toUInt32 >>> ((3 : Int32) &&& 31).toUInt32).toInt32) &&& (3 : Int32))), .val (.ref b14), .unset]) rfl k) ?_
            refine Go.of (T' := T19) (f' := (mkF m 145 #[.val (.int p1), .val (.int p2), .val (.int p3), .val (.int p4), .val (.int p5), .val (.int p6), .val (.int u6), .val (.int u7), .val (.int u8), .val (.ref b4), .val (.int (((p6.toUInt32 >>> ((3 : Int32) &&& 31).toUInt32).toInt32) &&& (3 : Int32))), .val (.ref b14), .unset] [(.int p1)])) (fun _ k => XS.iloadN X19.here hx rfl (hb hby at_144) rfl k) ?_
            refine Go.of (T' := T19) (f' := (mkF m 147 #[.val (.int p1), .val (.int p2), .val (.int p3), .val (.int p4), .val (.int p5), .val (.int p6), .val (.int u6), .val (.int u7), .val (.int u8), .val (.ref b4), .val (.int (((p6.toUInt32 >>> ((3 : Int32) &&& 31).toUInt32).toInt32) &&& (3 : Int32))), .val (.ref b14), .unset] [(.int u6), (.int p1)])) (fun _ k => XS.iload X19.here hx rfl (hb hby at_145) rfl k) ?_
            refine goS X19 hx hZ hown (hw _ (List.mem_of_getElem? (i := 42) rfl)) (hw _ (List.mem_of_getElem? (i := 43) rfl)) (hw _ (List.mem_of_getElem? (i := 5) rfl)) (hw _ (List.mem_of_getElem? (i := 44) rfl)) (by decide) (C := 0) (S := 0) ((rm_same l Z a0 hw p1 u6 h19 ).bk (W := 0) hZ (hw _ (List.mem_of_getElem? (i := 44) rfl)) (hw _ (List.mem_of_getElem? (i := 5) rfl)) (by decide) (by decide)) e19 (argsL := [(.int p1), (.int u6)]) (rest := []) (by rw [hml]; rfl) (lenOf pd__II_Z rfl) rfl rfl (hb hby at_147) (Nat.le_of_eq rfl) (by decide) (by decide) ?_
            intro v21 T21 L21 X21 hQ21
            obtain ⟨nq21, e21, rfl⟩ := hQ21
            replace X21 := standNil X21 nq21
            show Go p e below P T21 (mkF m 150 #[.val (.int p1), .val (.int p2), .val (.int p3), .val (.int p4), .val (.int p5), .val (.int p6), .val (.int u6), .val (.int u7), .val (.int u8), .val (.ref b4), .val (.int (((p6.toUInt32 >>> ((3 : Int32) &&& 31).toUInt32).toInt32) &&& (3 : Int32))), .val (.ref b14), .unset] [(.int (bi ((mkCs p1) = (mkCs u6))))])
            by_cases hc150 : (mkCs p1) = (mkCs u6)
            ·
              refine Go.of (T' := T21) (f' := (mkF m 153 #[.val (.int p1), .val (.int p2), .val (.int p3), .val (.int p4), .val (.int p5), .val (.int p6), .val (.int u6), .val (.int u7), .val (.int u8), .val (.ref b4), .val (.int (((p6.toUInt32 >>> ((3 : Int32) &&& 31).toUInt32).toInt32) &&& (3 : Int32))), .val (.ref b14), .unset] [])) (fun _ k => XS.ifNo X21.here hx rfl (hb hby at_150) rfl ((if0 _ _).trans (feq (bi_ne hc150)).1) k) ?_
              refine Go.of (T' := T21) (f' := (mkF m 154 #[.val (.int p1), .val (.int p2), .val (.int p3), .val (.int p4), .val (.int p5), .val (.int p6), .val (.int u6), .val (.int u7), .val (.int u8), .val (.ref b4), .val (.int (((p6.toUInt32 >>> ((3 : Int32) &&& 31).toUInt32).toInt32) &&& (3 : Int32))), .val (.ref b14), .unset] [(.int p2)])) (fun _ k => XS.iloadN X21.here hx rfl (hb hby at_153) rfl k) ?_
              refine Go.of (T' := T21) (f' := (mkF m 156 #[.val (.int p1), .val (.int p2), .val (.int p3), .val (.int p4), .val (.int p5), .val (.int p6), .val (.int u6), .val (.int u7), .val (.int u8), .val (.ref b4), .val (.int (((p6.toUInt32 >>> ((3 : Int32) &&& 31).toUInt32).toInt32) &&& (3 : Int32))), .val (.ref b14), .unset] [(.int u7), (.int p2)])) (fun _ k => XS.iload X21.here hx rfl (hb hby at_154) rfl k) ?_
              refine goS X21 hx hZ hown (hw _ (List.mem_of_getElem? (i := 42) rfl)) (hw _ (List.mem_of_getElem? (i := 43) rfl)) (hw _ (List.mem_of_getElem? (i := 5) rfl)) (hw _ (List.mem_of_getElem? (i := 44) rfl)) (by decide) (C := 0) (S := 0) ((rm_same l Z a0 hw p2 u7 h19 ).bk (W := 0) hZ (hw _ (List.mem_of_getElem? (i := 44) rfl)) (hw _ (List.mem_of_getElem? (i := 5) rfl)) (by decide) (by decide)) e21 (argsL := [(.int p2), (.int u7)]) (rest := []) (by rw [hml]; rfl) (lenOf pd__II_Z rfl) rfl rfl (hb hby at_156) (Nat.le_of_eq rfl) (by decide) (by decide) ?_
              intro v22 T22 L22 X22 hQ22
              obtain ⟨nq22, e22, rfl⟩ := hQ22
              replace X22 := standNil X22 nq22
              show Go p e below P T22 (mkF m 159 #[.val (.int p1), .val (.int p2), .val (.int p3), .val (.int p4), .val (.int p5), .val (.int p6), .val (.int u6), .val (.int u7), .val (.int u8), .val (.ref b4), .val (.int (((p6.toUInt32 >>> ((3 : Int32) &&& 31).toUInt32).toInt32) &&& (3 : Int32))), .val (.ref b14), .unset] [(.int (bi ((mkCs p2) = (mkCs u7))))])
              by_cases hc159 : (mkCs p2) = (mkCs u7)
              ·
                refine Go.of (T' := T22) (f' := (mkF m 162 #[.val (.int p1), .val (.int p2), .val (.int p3), .val (.int p4), .val (.int p5), .val (.int p6), .val (.int u6), .val (.int u7), .val (.int u8), .val (.ref b4), .val (.int (((p6.toUInt32 >>> ((3 : Int32) &&& 31).toUInt32).toInt32) &&& (3 : Int32))), .val (.ref b14), .unset] [])) (fun _ k => XS.ifNo X22.here hx rfl (hb hby at_159) rfl ((if0 _ _).trans (feq (bi_ne hc159)).1) k) ?_
                refine Go.of (T' := T22) (f' := (mkF m 163 #[.val (.int p1), .val (.int p2), .val (.int p3), .val (.int p4), .val (.int p5), .val (.int p6), .val (.int u6), .val (.int u7), .val (.int u8), .val (.ref b4), .val (.int (((p6.toUInt32 >>> ((3 : Int32) &&& 31).toUInt32).toInt32) &&& (3 : Int32))), .val (.ref b14), .unset] [(.int p3)])) (fun _ k => XS.iloadN X22.here hx rfl (hb hby at_162) rfl k) ?_
                refine Go.of (T' := T22) (f' := (mkF m 165 #[.val (.int p1), .val (.int p2), .val (.int p3), .val (.int p4), .val (.int p5), .val (.int p6), .val (.int u6), .val (.int u7), .val (.int u8), .val (.ref b4), .val (.int (((p6.toUInt32 >>> ((3 : Int32) &&& 31).toUInt32).toInt32) &&& (3 : Int32))), .val (.ref b14), .unset] [(.int u8), (.int p3)])) (fun _ k => XS.iload X22.here hx rfl (hb hby at_163) rfl k) ?_
                refine goS X22 hx hZ hown (hw _ (List.mem_of_getElem? (i := 42) rfl)) (hw _ (List.mem_of_getElem? (i := 43) rfl)) (hw _ (List.mem_of_getElem? (i := 5) rfl)) (hw _ (List.mem_of_getElem? (i := 44) rfl)) (by decide) (C := 0) (S := 0) ((rm_same l Z a0 hw p3 u8 h19 ).bk (W := 0) hZ (hw _ (List.mem_of_getElem? (i := 44) rfl)) (hw _ (List.mem_of_getElem? (i := 5) rfl)) (by decide) (by decide)) e22 (argsL := [(.int p3), (.int u8)]) (rest := []) (by rw [hml]; rfl) (lenOf pd__II_Z rfl) rfl rfl (hb hby at_165) (Nat.le_of_eq rfl) (by decide) (by decide) ?_
                intro v23 T23 L23 X23 hQ23
                obtain ⟨nq23, e23, rfl⟩ := hQ23
                replace X23 := standNil X23 nq23
                show Go p e below P T23 (mkF m 168 #[.val (.int p1), .val (.int p2), .val (.int p3), .val (.int p4), .val (.int p5), .val (.int p6), .val (.int u6), .val (.int u7), .val (.int u8), .val (.ref b4), .val (.int (((p6.toUInt32 >>> ((3 : Int32) &&& 31).toUInt32).toInt32) &&& (3 : Int32))), .val (.ref b14), .unset] [(.int (bi ((mkCs p3) = (mkCs u8))))])
                by_cases hc168 : (mkCs p3) = (mkCs u8)
                ·
                  refine Go.of (T' := T23) (f' := (mkF m 171 #[.val (.int p1), .val (.int p2), .val (.int p3), .val (.int p4), .val (.int p5), .val (.int p6), .val (.int u6), .val (.int u7), .val (.int u8), .val (.ref b4), .val (.int (((p6.toUInt32 >>> ((3 : Int32) &&& 31).toUInt32).toInt32) &&& (3 : Int32))), .val (.ref b14), .unset] [])) (fun _ k => XS.ifNo X23.here hx rfl (hb hby at_168) rfl ((if0 _ _).trans (feq (bi_ne hc168)).1) k) ?_
                  refine Go.of (T' := T23) (f' := (mkF m 172 #[.val (.int p1), .val (.int p2), .val (.int p3), .val (.int p4), .val (.int p5), .val (.int p6), .val (.int u6), .val (.int u7), .val (.int u8), .val (.ref b4), .val (.int (((p6.toUInt32 >>> ((3 : Int32) &&& 31).toUInt32).toInt32) &&& (3 : Int32))), .val (.ref b14), .unset] [(.int (1 : Int32))])) (fun _ k => XS.iconst X23.here hx rfl (hb hby at_171) k) ?_
                  refine Go.of (T' := T23) (f' := (mkF m 176 #[.val (.int p1), .val (.int p2), .val (.int p3), .val (.int p4), .val (.int p5), .val (.int p6), .val (.int u6), .val (.int u7), .val (.int u8), .val (.ref b4), .val (.int (((p6.toUInt32 >>> ((3 : Int32) &&& 31).toUInt32).toInt32) &&& (3 : Int32))), .val (.ref b14), .unset] [(.int (1 : Int32))])) (fun _ k => XS.goto X23.here hx rfl (pc0 := 172) (pc' := 176) rfl (hb hby at_172) (by decide) (by decide) k) ?_
                  refine Go.of (T' := T23) (f' := (mkF m 178 #[.val (.int p1), .val (.int p2), .val (.int p3), .val (.int p4), .val (.int p5), .val (.int p6), .val (.int u6), .val (.int u7), .val (.int u8), .val (.ref b4), .val (.int (((p6.toUInt32 >>> ((3 : Int32) &&& 31).toUInt32).toInt32) &&& (3 : Int32))), .val (.ref b14), .val (.int (1 : Int32))] [])) (fun _ k => XS.istore X23.here hx rfl (hb hby at_176) rfl (l' := #[.val (.int p1), .val (.int p2), .val (.int p3), .val (.int p4), .val (.int p5), .val (.int p6), .val (.int u6), .val (.int u7), .val (.int u8), .val (.ref b4), .val (.int (((p6.toUInt32 >>> ((3 : Int32) &&& 31).toUInt32).toInt32) &&& (3 : Int32))), .val (.ref b14), .val (.int (1 : Int32))]) rfl k) ?_
                  refine Go.of (T' := T23) (f' := (mkF m 180 #[.val (.int p1), .val (.int p2), .val (.int p3), .val (.int p4), .val (.int p5), .val (.int p6), .val (.int u6), .val (.int u7), .val (.int u8), .val (.ref b4), .val (.int (((p6.toUInt32 >>> ((3 : Int32) &&& 31).toUInt32).toInt32) &&& (3 : Int32))), .val (.ref b14), .val (.int (1 : Int32))] [(.ref b4)])) (fun _ k => XS.aload X23.here hx rfl (hb hby at_178) rfl rfl k) ?_
                  refine Go.of (T' := T23) (f' := (mkF m 182 #[.val (.int p1), .val (.int p2), .val (.int p3), .val (.int p4), .val (.int p5), .val (.int p6), .val (.int u6), .val (.int u7), .val (.int u8), .val (.ref b4), .val (.int (((p6.toUInt32 >>> ((3 : Int32) &&& 31).toUInt32).toInt32) &&& (3 : Int32))), .val (.ref b14), .val (.int (1 : Int32))] [(.ref b14), (.ref b4)])) (fun _ k => XS.aload X23.here hx rfl (hb hby at_180) rfl rfl k) ?_
                  refine goV X23 hx hZ (y := (⟨"com/example/sunset_grant/sunsetgrant/base/Access", "equals", "(Ljava/lang/Object;)Z"⟩ : MethodName)) (z := (⟨"com/example/sunset_grant/sunsetgrant/base/Access", "equals", "(Ljava/lang/Object;)Z"⟩ : MethodName)) hown (hw _ (List.mem_of_getElem? (i := 45) rfl)) (hw _ (List.mem_of_getElem? (i := 46) rfl)) (notFace_of_selects (args := #[]) (mvT hZ (hw _ (List.mem_of_getElem? (i := 48) rfl)))) (hw _ (List.mem_of_getElem? (i := 48) rfl)) (hw _ (List.mem_of_getElem? (i := 47) rfl)) (by decide) (C := 0) (S := 0) ((rm_accEq l Z a0 hw b4 b14 a6 t6 a7 t7 a8 t8 a16 t16 a17 t17 a18 t18 (mkCs p1) (mkCs p2) (mkCs p3) (mkCs u6) (mkCs u7) (mkCs u8) zc h19 E_b4 E_b14 F_subject_b4 S_a6 F_object_b4 S_a7 F_mode_b4 S_a8 F_subject_b14 S_a16 F_object_b14 S_a17 F_mode_b14 S_a18 Z_cs hz).bk (W := 0) hZ (hw _ (List.mem_of_getElem? (i := 49) rfl)) (hw _ (List.mem_of_getElem? (i := 2) rfl)) (by decide) (by decide)) e23 E_b4 (argsL := [(.ref b14)]) (rest := []) (by rw [hml]; rfl) (lenOf pd__Ljava_lang_Object__Z rfl) rfl rfl (hb hby at_182) (Nat.le_of_eq rfl) (by decide) (by decide) ?_
                  intro v24 T24 L24 X24 hQ24
                  obtain ⟨nq24, e24, rfl⟩ := hQ24
                  replace X24 := standNil X24 nq24
                  show Go p e below P T24 (mkF m 185 #[.val (.int p1), .val (.int p2), .val (.int p3), .val (.int p4), .val (.int p5), .val (.int p6), .val (.int u6), .val (.int u7), .val (.int u8), .val (.ref b4), .val (.int (((p6.toUInt32 >>> ((3 : Int32) &&& 31).toUInt32).toInt32) &&& (3 : Int32))), .val (.ref b14), .val (.int (1 : Int32))] [(.int (bi ((mkCs p1) = (mkCs u6) ∧ (mkCs p2) = (mkCs u7) ∧ (mkCs p3) = (mkCs u8))))])
                  refine Go.of (T' := T24) (f' := (mkF m 187 #[.val (.int p1), .val (.int p2), .val (.int p3), .val (.int p4), .val (.int p5), .val (.int p6), .val (.int u6), .val (.int u7), .val (.int u8), .val (.ref b4), .val (.int (((p6.toUInt32 >>> ((3 : Int32) &&& 31).toUInt32).toInt32) &&& (3 : Int32))), .val (.ref b14), .val (.int (1 : Int32))] [(.int (1 : Int32)), (.int (bi ((mkCs p1) = (mkCs u6) ∧ (mkCs p2) = (mkCs u7) ∧ (mkCs p3) = (mkCs u8))))])) (fun _ k => XS.iload X24.here hx rfl (hb hby at_185) rfl k) ?_
                  have hc187 : (bi ((mkCs p1) = (mkCs u6) ∧ (mkCs p2) = (mkCs u7) ∧ (mkCs p3) = (mkCs u8))) = (1 : Int32) := bi_t ⟨hc150, hc159, hc168⟩
                  refine Go.of (T' := T24) (f' := (mkF m 190 #[.val (.int p1), .val (.int p2), .val (.int p3), .val (.int p4), .val (.int p5), .val (.int p6), .val (.int u6), .val (.int u7), .val (.int u8), .val (.ref b4), .val (.int (((p6.toUInt32 >>> ((3 : Int32) &&& 31).toUInt32).toInt32) &&& (3 : Int32))), .val (.ref b14), .val (.int (1 : Int32))] [])) (fun _ k => XS.icmpNo X24.here hx rfl (hb hby at_187) rfl (teq hc187).2 k) ?_
                  refine Go.of (T' := T24) (f' := (mkF m 191 #[.val (.int p1), .val (.int p2), .val (.int p3), .val (.int p4), .val (.int p5), .val (.int p6), .val (.int u6), .val (.int u7), .val (.int u8), .val (.ref b4), .val (.int (((p6.toUInt32 >>> ((3 : Int32) &&& 31).toUInt32).toInt32) &&& (3 : Int32))), .val (.ref b14), .val (.int (1 : Int32))] [(.int (1 : Int32))])) (fun _ k => XS.iconst X24.here hx rfl (hb hby at_190) k) ?_
                  refine Go.of (T' := T24) (f' := (mkF m 195 #[.val (.int p1), .val (.int p2), .val (.int p3), .val (.int p4), .val (.int p5), .val (.int p6), .val (.int u6), .val (.int u7), .val (.int u8), .val (.ref b4), .val (.int (((p6.toUInt32 >>> ((3 : Int32) &&& 31).toUInt32).toInt32) &&& (3 : Int32))), .val (.ref b14), .val (.int (1 : Int32))] [(.int (1 : Int32))])) (fun _ k => XS.goto X24.here hx rfl (pc0 := 191) (pc' := 195) rfl (hb hby at_191) (by decide) (by decide) k) ?_
                  exact goRetIH (Q := fun v h L => v = some (.int 1) ∧ Mv h0 h [] L) X24 hx hZ hS hk (hEL_1 hw) RH (t := .boolean) hret hlk rfl (by simp) (hb hby at_195) K (by decide) (by decide) e24 (⟨rfl, M19⟩)
                ·
                  refine Go.of (T' := T23) (f' := (mkF m 175 #[.val (.int p1), .val (.int p2), .val (.int p3), .val (.int p4), .val (.int p5), .val (.int p6), .val (.int u6), .val (.int u7), .val (.int u8), .val (.ref b4), .val (.int (((p6.toUInt32 >>> ((3 : Int32) &&& 31).toUInt32).toInt32) &&& (3 : Int32))), .val (.ref b14), .unset] [])) (fun _ k => XS.ifYes X23.here hx rfl (pc0 := 168) (pc' := 175) rfl (hb hby at_168) rfl ((if0 _ _).trans (teq (bi_f hc168)).1) (by decide) (by decide) k) ?_
                  refine Go.of (T' := T23) (f' := (mkF m 176 #[.val (.int p1), .val (.int p2), .val (.int p3), .val (.int p4), .val (.int p5), .val (.int p6), .val (.int u6), .val (.int u7), .val (.int u8), .val (.ref b4), .val (.int (((p6.toUInt32 >>> ((3 : Int32) &&& 31).toUInt32).toInt32) &&& (3 : Int32))), .val (.ref b14), .unset] [(.int (0 : Int32))])) (fun _ k => XS.iconst X23.here hx rfl (hb hby at_175) k) ?_
                  refine Go.of (T' := T23) (f' := (mkF m 178 #[.val (.int p1), .val (.int p2), .val (.int p3), .val (.int p4), .val (.int p5), .val (.int p6), .val (.int u6), .val (.int u7), .val (.int u8), .val (.ref b4), .val (.int (((p6.toUInt32 >>> ((3 : Int32) &&& 31).toUInt32).toInt32) &&& (3 : Int32))), .val (.ref b14), .val (.int (0 : Int32))] [])) (fun _ k => XS.istore X23.here hx rfl (hb hby at_176) rfl (l' := #[.val (.int p1), .val (.int p2), .val (.int p3), .val (.int p4), .val (.int p5), .val (.int p6), .val (.int u6), .val (.int u7), .val (.int u8), .val (.ref b4), .val (.int (((p6.toUInt32 >>> ((3 : Int32) &&& 31).toUInt32).toInt32) &&& (3 : Int32))), .val (.ref b14), .val (.int (0 : Int32))]) rfl k) ?_
                  refine Go.of (T' := T23) (f' := (mkF m 180 #[.val (.int p1), .val (.int p2), .val (.int p3), .val (.int p4), .val (.int p5), .val (.int p6), .val (.int u6), .val (.int u7), .val (.int u8), .val (.ref b4), .val (.int (((p6.toUInt32 >>> ((3 : Int32) &&& 31).toUInt32).toInt32) &&& (3 : Int32))), .val (.ref b14), .val (.int (0 : Int32))] [(.ref b4)])) (fun _ k => XS.aload X23.here hx rfl (hb hby at_178) rfl rfl k) ?_
                  refine Go.of (T' := T23) (f' := (mkF m 182 #[.val (.int p1), .val (.int p2), .val (.int p3), .val (.int p4), .val (.int p5), .val (.int p6), .val (.int u6), .val (.int u7), .val (.int u8), .val (.ref b4), .val (.int (((p6.toUInt32 >>> ((3 : Int32) &&& 31).toUInt32).toInt32) &&& (3 : Int32))), .val (.ref b14), .val (.int (0 : Int32))] [(.ref b14), (.ref b4)])) (fun _ k => XS.aload X23.here hx rfl (hb hby at_180) rfl rfl k) ?_
                  refine goV X23 hx hZ (y := (⟨"com/example/sunset_grant/sunsetgrant/base/Access", "equals", "(Ljava/lang/Object;)Z"⟩ : MethodName)) (z := (⟨"com/example/sunset_grant/sunsetgrant/base/Access", "equals", "(Ljava/lang/Object;)Z"⟩ : MethodName)) hown (hw _ (List.mem_of_getElem? (i := 45) rfl)) (hw _ (List.mem_of_getElem? (i := 46) rfl)) (notFace_of_selects (args := #[]) (mvT hZ (hw _ (List.mem_of_getElem? (i := 48) rfl)))) (hw _ (List.mem_of_getElem? (i := 48) rfl)) (hw _ (List.mem_of_getElem? (i := 47) rfl)) (by decide) (C := 0) (S := 0) ((rm_accEq l Z a0 hw b4 b14 a6 t6 a7 t7 a8 t8 a16 t16 a17 t17 a18 t18 (mkCs p1) (mkCs p2) (mkCs p3) (mkCs u6) (mkCs u7) (mkCs u8) zc h19 E_b4 E_b14 F_subject_b4 S_a6 F_object_b4 S_a7 F_mode_b4 S_a8 F_subject_b14 S_a16 F_object_b14 S_a17 F_mode_b14 S_a18 Z_cs hz).bk (W := 0) hZ (hw _ (List.mem_of_getElem? (i := 49) rfl)) (hw _ (List.mem_of_getElem? (i := 2) rfl)) (by decide) (by decide)) e23 E_b4 (argsL := [(.ref b14)]) (rest := []) (by rw [hml]; rfl) (lenOf pd__Ljava_lang_Object__Z rfl) rfl rfl (hb hby at_182) (Nat.le_of_eq rfl) (by decide) (by decide) ?_
                  intro v25 T25 L25 X25 hQ25
                  obtain ⟨nq25, e25, rfl⟩ := hQ25
                  replace X25 := standNil X25 nq25
                  show Go p e below P T25 (mkF m 185 #[.val (.int p1), .val (.int p2), .val (.int p3), .val (.int p4), .val (.int p5), .val (.int p6), .val (.int u6), .val (.int u7), .val (.int u8), .val (.ref b4), .val (.int (((p6.toUInt32 >>> ((3 : Int32) &&& 31).toUInt32).toInt32) &&& (3 : Int32))), .val (.ref b14), .val (.int (0 : Int32))] [(.int (bi ((mkCs p1) = (mkCs u6) ∧ (mkCs p2) = (mkCs u7) ∧ (mkCs p3) = (mkCs u8))))])
                  refine Go.of (T' := T25) (f' := (mkF m 187 #[.val (.int p1), .val (.int p2), .val (.int p3), .val (.int p4), .val (.int p5), .val (.int p6), .val (.int u6), .val (.int u7), .val (.int u8), .val (.ref b4), .val (.int (((p6.toUInt32 >>> ((3 : Int32) &&& 31).toUInt32).toInt32) &&& (3 : Int32))), .val (.ref b14), .val (.int (0 : Int32))] [(.int (0 : Int32)), (.int (bi ((mkCs p1) = (mkCs u6) ∧ (mkCs p2) = (mkCs u7) ∧ (mkCs p3) = (mkCs u8))))])) (fun _ k => XS.iload X25.here hx rfl (hb hby at_185) rfl k) ?_
                  have hc187 : (bi ((mkCs p1) = (mkCs u6) ∧ (mkCs p2) = (mkCs u7) ∧ (mkCs p3) = (mkCs u8))) = (0 : Int32) := bi_f (by rintro ⟨h1, h2, h3⟩; first | exact hc150 h1 | exact hc159 h2 | exact hc168 h3)
                  refine Go.of (T' := T25) (f' := (mkF m 190 #[.val (.int p1), .val (.int p2), .val (.int p3), .val (.int p4), .val (.int p5), .val (.int p6), .val (.int u6), .val (.int u7), .val (.int u8), .val (.ref b4), .val (.int (((p6.toUInt32 >>> ((3 : Int32) &&& 31).toUInt32).toInt32) &&& (3 : Int32))), .val (.ref b14), .val (.int (0 : Int32))] [])) (fun _ k => XS.icmpNo X25.here hx rfl (hb hby at_187) rfl (teq hc187).2 k) ?_
                  refine Go.of (T' := T25) (f' := (mkF m 191 #[.val (.int p1), .val (.int p2), .val (.int p3), .val (.int p4), .val (.int p5), .val (.int p6), .val (.int u6), .val (.int u7), .val (.int u8), .val (.ref b4), .val (.int (((p6.toUInt32 >>> ((3 : Int32) &&& 31).toUInt32).toInt32) &&& (3 : Int32))), .val (.ref b14), .val (.int (0 : Int32))] [(.int (1 : Int32))])) (fun _ k => XS.iconst X25.here hx rfl (hb hby at_190) k) ?_
                  refine Go.of (T' := T25) (f' := (mkF m 195 #[.val (.int p1), .val (.int p2), .val (.int p3), .val (.int p4), .val (.int p5), .val (.int p6), .val (.int u6), .val (.int u7), .val (.int u8), .val (.ref b4), .val (.int (((p6.toUInt32 >>> ((3 : Int32) &&& 31).toUInt32).toInt32) &&& (3 : Int32))), .val (.ref b14), .val (.int (0 : Int32))] [(.int (1 : Int32))])) (fun _ k => XS.goto X25.here hx rfl (pc0 := 191) (pc' := 195) rfl (hb hby at_191) (by decide) (by decide) k) ?_
                  exact goRetIH (Q := fun v h L => v = some (.int 1) ∧ Mv h0 h [] L) X25 hx hZ hS hk (hEL_1 hw) RH (t := .boolean) hret hlk rfl (by simp) (hb hby at_195) K (by decide) (by decide) e25 (⟨rfl, M19⟩)
              ·
                refine Go.of (T' := T22) (f' := (mkF m 175 #[.val (.int p1), .val (.int p2), .val (.int p3), .val (.int p4), .val (.int p5), .val (.int p6), .val (.int u6), .val (.int u7), .val (.int u8), .val (.ref b4), .val (.int (((p6.toUInt32 >>> ((3 : Int32) &&& 31).toUInt32).toInt32) &&& (3 : Int32))), .val (.ref b14), .unset] [])) (fun _ k => XS.ifYes X22.here hx rfl (pc0 := 159) (pc' := 175) rfl (hb hby at_159) rfl ((if0 _ _).trans (teq (bi_f hc159)).1) (by decide) (by decide) k) ?_
                refine Go.of (T' := T22) (f' := (mkF m 176 #[.val (.int p1), .val (.int p2), .val (.int p3), .val (.int p4), .val (.int p5), .val (.int p6), .val (.int u6), .val (.int u7), .val (.int u8), .val (.ref b4), .val (.int (((p6.toUInt32 >>> ((3 : Int32) &&& 31).toUInt32).toInt32) &&& (3 : Int32))), .val (.ref b14), .unset] [(.int (0 : Int32))])) (fun _ k => XS.iconst X22.here hx rfl (hb hby at_175) k) ?_
                refine Go.of (T' := T22) (f' := (mkF m 178 #[.val (.int p1), .val (.int p2), .val (.int p3), .val (.int p4), .val (.int p5), .val (.int p6), .val (.int u6), .val (.int u7), .val (.int u8), .val (.ref b4), .val (.int (((p6.toUInt32 >>> ((3 : Int32) &&& 31).toUInt32).toInt32) &&& (3 : Int32))), .val (.ref b14), .val (.int (0 : Int32))] [])) (fun _ k => XS.istore X22.here hx rfl (hb hby at_176) rfl (l' := #[.val (.int p1), .val (.int p2), .val (.int p3), .val (.int p4), .val (.int p5), .val (.int p6), .val (.int u6), .val (.int u7), .val (.int u8), .val (.ref b4), .val (.int (((p6.toUInt32 >>> ((3 : Int32) &&& 31).toUInt32).toInt32) &&& (3 : Int32))), .val (.ref b14), .val (.int (0 : Int32))]) rfl k) ?_
                refine Go.of (T' := T22) (f' := (mkF m 180 #[.val (.int p1), .val (.int p2), .val (.int p3), .val (.int p4), .val (.int p5), .val (.int p6), .val (.int u6), .val (.int u7), .val (.int u8), .val (.ref b4), .val (.int (((p6.toUInt32 >>> ((3 : Int32) &&& 31).toUInt32).toInt32) &&& (3 : Int32))), .val (.ref b14), .val (.int (0 : Int32))] [(.ref b4)])) (fun _ k => XS.aload X22.here hx rfl (hb hby at_178) rfl rfl k) ?_
                refine Go.of (T' := T22) (f' := (mkF m 182 #[.val (.int p1), .val (.int p2), .val (.int p3), .val (.int p4), .val (.int p5), .val (.int p6), .val (.int u6), .val (.int u7), .val (.int u8), .val (.ref b4), .val (.int (((p6.toUInt32 >>> ((3 : Int32) &&& 31).toUInt32).toInt32) &&& (3 : Int32))), .val (.ref b14), .val (.int (0 : Int32))] [(.ref b14), (.ref b4)])) (fun _ k => XS.aload X22.here hx rfl (hb hby at_180) rfl rfl k) ?_
                refine goV X22 hx hZ (y := (⟨"com/example/sunset_grant/sunsetgrant/base/Access", "equals", "(Ljava/lang/Object;)Z"⟩ : MethodName)) (z := (⟨"com/example/sunset_grant/sunsetgrant/base/Access", "equals", "(Ljava/lang/Object;)Z"⟩ : MethodName)) hown (hw _ (List.mem_of_getElem? (i := 45) rfl)) (hw _ (List.mem_of_getElem? (i := 46) rfl)) (notFace_of_selects (args := #[]) (mvT hZ (hw _ (List.mem_of_getElem? (i := 48) rfl)))) (hw _ (List.mem_of_getElem? (i := 48) rfl)) (hw _ (List.mem_of_getElem? (i := 47) rfl)) (by decide) (C := 0) (S := 0) ((rm_accEq l Z a0 hw b4 b14 a6 t6 a7 t7 a8 t8 a16 t16 a17 t17 a18 t18 (mkCs p1) (mkCs p2) (mkCs p3) (mkCs u6) (mkCs u7) (mkCs u8) zc h19 E_b4 E_b14 F_subject_b4 S_a6 F_object_b4 S_a7 F_mode_b4 S_a8 F_subject_b14 S_a16 F_object_b14 S_a17 F_mode_b14 S_a18 Z_cs hz).bk (W := 0) hZ (hw _ (List.mem_of_getElem? (i := 49) rfl)) (hw _ (List.mem_of_getElem? (i := 2) rfl)) (by decide) (by decide)) e22 E_b4 (argsL := [(.ref b14)]) (rest := []) (by rw [hml]; rfl) (lenOf pd__Ljava_lang_Object__Z rfl) rfl rfl (hb hby at_182) (Nat.le_of_eq rfl) (by decide) (by decide) ?_
                intro v26 T26 L26 X26 hQ26
                obtain ⟨nq26, e26, rfl⟩ := hQ26
                replace X26 := standNil X26 nq26
                show Go p e below P T26 (mkF m 185 #[.val (.int p1), .val (.int p2), .val (.int p3), .val (.int p4), .val (.int p5), .val (.int p6), .val (.int u6), .val (.int u7), .val (.int u8), .val (.ref b4), .val (.int (((p6.toUInt32 >>> ((3 : Int32) &&& 31).toUInt32).toInt32) &&& (3 : Int32))), .val (.ref b14), .val (.int (0 : Int32))] [(.int (bi ((mkCs p1) = (mkCs u6) ∧ (mkCs p2) = (mkCs u7) ∧ (mkCs p3) = (mkCs u8))))])
                refine Go.of (T' := T26) (f' := (mkF m 187 #[.val (.int p1), .val (.int p2), .val (.int p3), .val (.int p4), .val (.int p5), .val (.int p6), .val (.int u6), .val (.int u7), .val (.int u8), .val (.ref b4), .val (.int (((p6.toUInt32 >>> ((3 : Int32) &&& 31).toUInt32).toInt32) &&& (3 : Int32))), .val (.ref b14), .val (.int (0 : Int32))] [(.int (0 : Int32)), (.int (bi ((mkCs p1) = (mkCs u6) ∧ (mkCs p2) = (mkCs u7) ∧ (mkCs p3) = (mkCs u8))))])) (fun _ k => XS.iload X26.here hx rfl (hb hby at_185) rfl k) ?_
                have hc187 : (bi ((mkCs p1) = (mkCs u6) ∧ (mkCs p2) = (mkCs u7) ∧ (mkCs p3) = (mkCs u8))) = (0 : Int32) := bi_f (by rintro ⟨h1, h2, h3⟩; first | exact hc150 h1 | exact hc159 h2 | exact hc168 h3)
                refine Go.of (T' := T26) (f' := (mkF m 190 #[.val (.int p1), .val (.int p2), .val (.int p3), .val (.int p4), .val (.int p5), .val (.int p6), .val (.int u6), .val (.int u7), .val (.int u8), .val (.ref b4), .val (.int (((p6.toUInt32 >>> ((3 : Int32) &&& 31).toUInt32).toInt32) &&& (3 : Int32))), .val (.ref b14), .val (.int (0 : Int32))] [])) (fun _ k => XS.icmpNo X26.here hx rfl (hb hby at_187) rfl (teq hc187).2 k) ?_
                refine Go.of (T' := T26) (f' := (mkF m 191 #[.val (.int p1), .val (.int p2), .val (.int p3), .val (.int p4), .val (.int p5), .val (.int p6), .val (.int u6), .val (.int u7), .val (.int u8), .val (.ref b4), .val (.int (((p6.toUInt32 >>> ((3 : Int32) &&& 31).toUInt32).toInt32) &&& (3 : Int32))), .val (.ref b14), .val (.int (0 : Int32))] [(.int (1 : Int32))])) (fun _ k => XS.iconst X26.here hx rfl (hb hby at_190) k) ?_
                refine Go.of (T' := T26) (f' := (mkF m 195 #[.val (.int p1), .val (.int p2), .val (.int p3), .val (.int p4), .val (.int p5), .val (.int p6), .val (.int u6), .val (.int u7), .val (.int u8), .val (.ref b4), .val (.int (((p6.toUInt32 >>> ((3 : Int32) &&& 31).toUInt32).toInt32) &&& (3 : Int32))), .val (.ref b14), .val (.int (0 : Int32))] [(.int (1 : Int32))])) (fun _ k => XS.goto X26.here hx rfl (pc0 := 191) (pc' := 195) rfl (hb hby at_191) (by decide) (by decide) k) ?_
                exact goRetIH (Q := fun v h L => v = some (.int 1) ∧ Mv h0 h [] L) X26 hx hZ hS hk (hEL_1 hw) RH (t := .boolean) hret hlk rfl (by simp) (hb hby at_195) K (by decide) (by decide) e26 (⟨rfl, M19⟩)
            ·
              refine Go.of (T' := T21) (f' := (mkF m 175 #[.val (.int p1), .val (.int p2), .val (.int p3), .val (.int p4), .val (.int p5), .val (.int p6), .val (.int u6), .val (.int u7), .val (.int u8), .val (.ref b4), .val (.int (((p6.toUInt32 >>> ((3 : Int32) &&& 31).toUInt32).toInt32) &&& (3 : Int32))), .val (.ref b14), .unset] [])) (fun _ k => XS.ifYes X21.here hx rfl (pc0 := 150) (pc' := 175) rfl (hb hby at_150) rfl ((if0 _ _).trans (teq (bi_f hc150)).1) (by decide) (by decide) k) ?_
              refine Go.of (T' := T21) (f' := (mkF m 176 #[.val (.int p1), .val (.int p2), .val (.int p3), .val (.int p4), .val (.int p5), .val (.int p6), .val (.int u6), .val (.int u7), .val (.int u8), .val (.ref b4), .val (.int (((p6.toUInt32 >>> ((3 : Int32) &&& 31).toUInt32).toInt32) &&& (3 : Int32))), .val (.ref b14), .unset] [(.int (0 : Int32))])) (fun _ k => XS.iconst X21.here hx rfl (hb hby at_175) k) ?_
              refine Go.of (T' := T21) (f' := (mkF m 178 #[.val (.int p1), .val (.int p2), .val (.int p3), .val (.int p4), .val (.int p5), .val (.int p6), .val (.int u6), .val (.int u7), .val (.int u8), .val (.ref b4), .val (.int (((p6.toUInt32 >>> ((3 : Int32) &&& 31).toUInt32).toInt32) &&& (3 : Int32))), .val (.ref b14), .val (.int (0 : Int32))] [])) (fun _ k => XS.istore X21.here hx rfl (hb hby at_176) rfl (l' := #[.val (.int p1), .val (.int p2), .val (.int p3), .val (.int p4), .val (.int p5), .val (.int p6), .val (.int u6), .val (.int u7), .val (.int u8), .val (.ref b4), .val (.int (((p6.toUInt32 >>> ((3 : Int32) &&& 31).toUInt32).toInt32) &&& (3 : Int32))), .val (.ref b14), .val (.int (0 : Int32))]) rfl k) ?_
              refine Go.of (T' := T21) (f' := (mkF m 180 #[.val (.int p1), .val (.int p2), .val (.int p3), .val (.int p4), .val (.int p5), .val (.int p6), .val (.int u6), .val (.int u7), .val (.int u8), .val (.ref b4), .val (.int (((p6.toUInt32 >>> ((3 : Int32) &&& 31).toUInt32).toInt32) &&& (3 : Int32))), .val (.ref b14), .val (.int (0 : Int32))] [(.ref b4)])) (fun _ k => XS.aload X21.here hx rfl (hb hby at_178) rfl rfl k) ?_
              refine Go.of (T' := T21) (f' := (mkF m 182 #[.val (.int p1), .val (.int p2), .val (.int p3), .val (.int p4), .val (.int p5), .val (.int p6), .val (.int u6), .val (.int u7), .val (.int u8), .val (.ref b4), .val (.int (((p6.toUInt32 >>> ((3 : Int32) &&& 31).toUInt32).toInt32) &&& (3 : Int32))), .val (.ref b14), .val (.int (0 : Int32))] [(.ref b14), (.ref b4)])) (fun _ k => XS.aload X21.here hx rfl (hb hby at_180) rfl rfl k) ?_
              refine goV X21 hx hZ (y := (⟨"com/example/sunset_grant/sunsetgrant/base/Access", "equals", "(Ljava/lang/Object;)Z"⟩ : MethodName)) (z := (⟨"com/example/sunset_grant/sunsetgrant/base/Access", "equals", "(Ljava/lang/Object;)Z"⟩ : MethodName)) hown (hw _ (List.mem_of_getElem? (i := 45) rfl)) (hw _ (List.mem_of_getElem? (i := 46) rfl)) (notFace_of_selects (args := #[]) (mvT hZ (hw _ (List.mem_of_getElem? (i := 48) rfl)))) (hw _ (List.mem_of_getElem? (i := 48) rfl)) (hw _ (List.mem_of_getElem? (i := 47) rfl)) (by decide) (C := 0) (S := 0) ((rm_accEq l Z a0 hw b4 b14 a6 t6 a7 t7 a8 t8 a16 t16 a17 t17 a18 t18 (mkCs p1) (mkCs p2) (mkCs p3) (mkCs u6) (mkCs u7) (mkCs u8) zc h19 E_b4 E_b14 F_subject_b4 S_a6 F_object_b4 S_a7 F_mode_b4 S_a8 F_subject_b14 S_a16 F_object_b14 S_a17 F_mode_b14 S_a18 Z_cs hz).bk (W := 0) hZ (hw _ (List.mem_of_getElem? (i := 49) rfl)) (hw _ (List.mem_of_getElem? (i := 2) rfl)) (by decide) (by decide)) e21 E_b4 (argsL := [(.ref b14)]) (rest := []) (by rw [hml]; rfl) (lenOf pd__Ljava_lang_Object__Z rfl) rfl rfl (hb hby at_182) (Nat.le_of_eq rfl) (by decide) (by decide) ?_
              intro v27 T27 L27 X27 hQ27
              obtain ⟨nq27, e27, rfl⟩ := hQ27
              replace X27 := standNil X27 nq27
              show Go p e below P T27 (mkF m 185 #[.val (.int p1), .val (.int p2), .val (.int p3), .val (.int p4), .val (.int p5), .val (.int p6), .val (.int u6), .val (.int u7), .val (.int u8), .val (.ref b4), .val (.int (((p6.toUInt32 >>> ((3 : Int32) &&& 31).toUInt32).toInt32) &&& (3 : Int32))), .val (.ref b14), .val (.int (0 : Int32))] [(.int (bi ((mkCs p1) = (mkCs u6) ∧ (mkCs p2) = (mkCs u7) ∧ (mkCs p3) = (mkCs u8))))])
              refine Go.of (T' := T27) (f' := (mkF m 187 #[.val (.int p1), .val (.int p2), .val (.int p3), .val (.int p4), .val (.int p5), .val (.int p6), .val (.int u6), .val (.int u7), .val (.int u8), .val (.ref b4), .val (.int (((p6.toUInt32 >>> ((3 : Int32) &&& 31).toUInt32).toInt32) &&& (3 : Int32))), .val (.ref b14), .val (.int (0 : Int32))] [(.int (0 : Int32)), (.int (bi ((mkCs p1) = (mkCs u6) ∧ (mkCs p2) = (mkCs u7) ∧ (mkCs p3) = (mkCs u8))))])) (fun _ k => XS.iload X27.here hx rfl (hb hby at_185) rfl k) ?_
              have hc187 : (bi ((mkCs p1) = (mkCs u6) ∧ (mkCs p2) = (mkCs u7) ∧ (mkCs p3) = (mkCs u8))) = (0 : Int32) := bi_f (by rintro ⟨h1, h2, h3⟩; first | exact hc150 h1 | exact hc159 h2 | exact hc168 h3)
              refine Go.of (T' := T27) (f' := (mkF m 190 #[.val (.int p1), .val (.int p2), .val (.int p3), .val (.int p4), .val (.int p5), .val (.int p6), .val (.int u6), .val (.int u7), .val (.int u8), .val (.ref b4), .val (.int (((p6.toUInt32 >>> ((3 : Int32) &&& 31).toUInt32).toInt32) &&& (3 : Int32))), .val (.ref b14), .val (.int (0 : Int32))] [])) (fun _ k => XS.icmpNo X27.here hx rfl (hb hby at_187) rfl (teq hc187).2 k) ?_
              refine Go.of (T' := T27) (f' := (mkF m 191 #[.val (.int p1), .val (.int p2), .val (.int p3), .val (.int p4), .val (.int p5), .val (.int p6), .val (.int u6), .val (.int u7), .val (.int u8), .val (.ref b4), .val (.int (((p6.toUInt32 >>> ((3 : Int32) &&& 31).toUInt32).toInt32) &&& (3 : Int32))), .val (.ref b14), .val (.int (0 : Int32))] [(.int (1 : Int32))])) (fun _ k => XS.iconst X27.here hx rfl (hb hby at_190) k) ?_
              refine Go.of (T' := T27) (f' := (mkF m 195 #[.val (.int p1), .val (.int p2), .val (.int p3), .val (.int p4), .val (.int p5), .val (.int p6), .val (.int u6), .val (.int u7), .val (.int u8), .val (.ref b4), .val (.int (((p6.toUInt32 >>> ((3 : Int32) &&& 31).toUInt32).toInt32) &&& (3 : Int32))), .val (.ref b14), .val (.int (0 : Int32))] [(.int (1 : Int32))])) (fun _ k => XS.goto X27.here hx rfl (pc0 := 191) (pc' := 195) rfl (hb hby at_191) (by decide) (by decide) k) ?_
              exact goRetIH (Q := fun v h L => v = some (.int 1) ∧ Mv h0 h [] L) X27 hx hZ hS hk (hEL_1 hw) RH (t := .boolean) hret hlk rfl (by simp) (hb hby at_195) K (by decide) (by decide) e27 (⟨rfl, M19⟩)
      by_cases hc33 : (p6 &&& (4 : Int32)) = (0 : Int32)
      ·
        refine Go.of (T' := s₁) (f' := (mkF m 40 #[.val (.int p1), .val (.int p2), .val (.int p3), .val (.int p4), .val (.int p5), .val (.int p6), .val (.int (if (p6 &&& (1 : Int32)) = (0 : Int32) then p4 else p1)), .val (.int (if (p6 &&& (2 : Int32)) = (0 : Int32) then p5 else p2)), .unset, .unset, .unset, .unset, .unset] [])) (fun _ k => XS.ifYes X0.here hx rfl (pc0 := 33) (pc' := 40) rfl (hb hby at_33) rfl ((if0 _ _).trans (teq hc33).1) (by decide) (by decide) k) ?_
        refine Go.of (T' := s₁) (f' := (mkF m 42 #[.val (.int p1), .val (.int p2), .val (.int p3), .val (.int p4), .val (.int p5), .val (.int p6), .val (.int (if (p6 &&& (1 : Int32)) = (0 : Int32) then p4 else p1)), .val (.int (if (p6 &&& (2 : Int32)) = (0 : Int32) then p5 else p2)), .unset, .unset, .unset, .unset, .unset] [(.int p6)])) (fun _ k => XS.iload X0.here hx rfl (hb hby at_40) rfl k) ?_
        refine Go.of (T' := s₁) (f' := (mkF m 43 #[.val (.int p1), .val (.int p2), .val (.int p3), .val (.int p4), .val (.int p5), .val (.int p6), .val (.int (if (p6 &&& (1 : Int32)) = (0 : Int32) then p4 else p1)), .val (.int (if (p6 &&& (2 : Int32)) = (0 : Int32) then p5 else p2)), .unset, .unset, .unset, .unset, .unset] [(.int (5 : Int32)), (.int p6)])) (fun _ k => XS.iconst X0.here hx rfl (hb hby at_42) k) ?_
        refine Go.of (T' := s₁) (f' := (mkF m 44 #[.val (.int p1), .val (.int p2), .val (.int p3), .val (.int p4), .val (.int p5), .val (.int p6), .val (.int (if (p6 &&& (1 : Int32)) = (0 : Int32) then p4 else p1)), .val (.int (if (p6 &&& (2 : Int32)) = (0 : Int32) then p5 else p2)), .unset, .unset, .unset, .unset, .unset] [(.int ((p6.toUInt32 >>> ((5 : Int32) &&& 31).toUInt32).toInt32))])) (fun _ k => XS.iushr X0.here hx rfl (hb hby at_43) rfl k) ?_
        rw [if_pos hc33] at J3
        exact J3
      ·
        refine Go.of (T' := s₁) (f' := (mkF m 36 #[.val (.int p1), .val (.int p2), .val (.int p3), .val (.int p4), .val (.int p5), .val (.int p6), .val (.int (if (p6 &&& (1 : Int32)) = (0 : Int32) then p4 else p1)), .val (.int (if (p6 &&& (2 : Int32)) = (0 : Int32) then p5 else p2)), .unset, .unset, .unset, .unset, .unset] [])) (fun _ k => XS.ifNo X0.here hx rfl (hb hby at_33) rfl ((if0 _ _).trans (feq hc33).1) k) ?_
        refine Go.of (T' := s₁) (f' := (mkF m 37 #[.val (.int p1), .val (.int p2), .val (.int p3), .val (.int p4), .val (.int p5), .val (.int p6), .val (.int (if (p6 &&& (1 : Int32)) = (0 : Int32) then p4 else p1)), .val (.int (if (p6 &&& (2 : Int32)) = (0 : Int32) then p5 else p2)), .unset, .unset, .unset, .unset, .unset] [(.int p3)])) (fun _ k => XS.iloadN X0.here hx rfl (hb hby at_36) rfl k) ?_
        refine Go.of (T' := s₁) (f' := (mkF m 44 #[.val (.int p1), .val (.int p2), .val (.int p3), .val (.int p4), .val (.int p5), .val (.int p6), .val (.int (if (p6 &&& (1 : Int32)) = (0 : Int32) then p4 else p1)), .val (.int (if (p6 &&& (2 : Int32)) = (0 : Int32) then p5 else p2)), .unset, .unset, .unset, .unset, .unset] [(.int p3)])) (fun _ k => XS.goto X0.here hx rfl (pc0 := 37) (pc' := 44) rfl (hb hby at_37) (by decide) (by decide) k) ?_
        rw [if_neg hc33] at J3
        exact J3
    by_cases hc18 : (p6 &&& (2 : Int32)) = (0 : Int32)
    ·
      refine Go.of (T' := s₁) (f' := (mkF m 25 #[.val (.int p1), .val (.int p2), .val (.int p3), .val (.int p4), .val (.int p5), .val (.int p6), .val (.int (if (p6 &&& (1 : Int32)) = (0 : Int32) then p4 else p1)), .unset, .unset, .unset, .unset, .unset, .unset] [])) (fun _ k => XS.ifYes X0.here hx rfl (pc0 := 18) (pc' := 25) rfl (hb hby at_18) rfl ((if0 _ _).trans (teq hc18).1) (by decide) (by decide) k) ?_
      refine Go.of (T' := s₁) (f' := (mkF m 27 #[.val (.int p1), .val (.int p2), .val (.int p3), .val (.int p4), .val (.int p5), .val (.int p6), .val (.int (if (p6 &&& (1 : Int32)) = (0 : Int32) then p4 else p1)), .unset, .unset, .unset, .unset, .unset, .unset] [(.int p5)])) (fun _ k => XS.iload X0.here hx rfl (hb hby at_25) rfl k) ?_
      rw [if_pos hc18] at J2
      exact J2
    ·
      refine Go.of (T' := s₁) (f' := (mkF m 21 #[.val (.int p1), .val (.int p2), .val (.int p3), .val (.int p4), .val (.int p5), .val (.int p6), .val (.int (if (p6 &&& (1 : Int32)) = (0 : Int32) then p4 else p1)), .unset, .unset, .unset, .unset, .unset, .unset] [])) (fun _ k => XS.ifNo X0.here hx rfl (hb hby at_18) rfl ((if0 _ _).trans (feq hc18).1) k) ?_
      refine Go.of (T' := s₁) (f' := (mkF m 22 #[.val (.int p1), .val (.int p2), .val (.int p3), .val (.int p4), .val (.int p5), .val (.int p6), .val (.int (if (p6 &&& (1 : Int32)) = (0 : Int32) then p4 else p1)), .unset, .unset, .unset, .unset, .unset, .unset] [(.int p2)])) (fun _ k => XS.iloadN X0.here hx rfl (hb hby at_21) rfl k) ?_
      refine Go.of (T' := s₁) (f' := (mkF m 27 #[.val (.int p1), .val (.int p2), .val (.int p3), .val (.int p4), .val (.int p5), .val (.int p6), .val (.int (if (p6 &&& (1 : Int32)) = (0 : Int32) then p4 else p1)), .unset, .unset, .unset, .unset, .unset, .unset] [(.int p2)])) (fun _ k => XS.goto X0.here hx rfl (pc0 := 22) (pc' := 27) rfl (hb hby at_22) (by decide) (by decide) k) ?_
      rw [if_neg hc18] at J2
      exact J2
  by_cases hc4 : (p6 &&& (1 : Int32)) = (0 : Int32)
  ·
    refine Go.of (T' := s₁) (f' := (mkF m 11 #[.val (.int p1), .val (.int p2), .val (.int p3), .val (.int p4), .val (.int p5), .val (.int p6), .unset, .unset, .unset, .unset, .unset, .unset, .unset] [])) (fun _ k => XS.ifYes X0.here hx rfl (pc0 := 4) (pc' := 11) rfl (hb hby at_4) rfl ((if0 _ _).trans (teq hc4).1) (by decide) (by decide) k) ?_
    refine Go.of (T' := s₁) (f' := (mkF m 12 #[.val (.int p1), .val (.int p2), .val (.int p3), .val (.int p4), .val (.int p5), .val (.int p6), .unset, .unset, .unset, .unset, .unset, .unset, .unset] [(.int p4)])) (fun _ k => XS.iloadN X0.here hx rfl (hb hby at_11) rfl k) ?_
    rw [if_pos hc4] at J1
    exact J1
  ·
    refine Go.of (T' := s₁) (f' := (mkF m 7 #[.val (.int p1), .val (.int p2), .val (.int p3), .val (.int p4), .val (.int p5), .val (.int p6), .unset, .unset, .unset, .unset, .unset, .unset, .unset] [])) (fun _ k => XS.ifNo X0.here hx rfl (hb hby at_4) rfl ((if0 _ _).trans (feq hc4).1) k) ?_
    refine Go.of (T' := s₁) (f' := (mkF m 8 #[.val (.int p1), .val (.int p2), .val (.int p3), .val (.int p4), .val (.int p5), .val (.int p6), .unset, .unset, .unset, .unset, .unset, .unset, .unset] [(.int p1)])) (fun _ k => XS.iloadN X0.here hx rfl (hb hby at_7) rfl k) ?_
    refine Go.of (T' := s₁) (f' := (mkF m 12 #[.val (.int p1), .val (.int p2), .val (.int p3), .val (.int p4), .val (.int p5), .val (.int p6), .unset, .unset, .unset, .unset, .unset, .unset, .unset] [(.int p1)])) (fun _ k => XS.goto X0.here hx rfl (pc0 := 8) (pc' := 12) rfl (hb hby at_8) (by decide) (by decide) k) ?_
    rw [if_neg hc4] at J1
    exact J1
set_option maxRecDepth 65536 in
set_option maxHeartbeats 40000000 in
theorem comes_1 {Post : Tables → Env → Array Value → State → Outcome → State → Prop} (hpost : ∀ tb e args s v u, (limb_1_1.after args s (.returned v) u = true ∧ limb_1_2.after args s (.returned v) u = true ∧ True) → ReturnedEndW s (.returned v) u (Jvm.fieldLocs frame_1_writes args s ++ Jvm.arrayLocs frame_1_arrays args s ++ Jvm.staticLocs frame_1_statics s) 56 1216 → Post tb e args s (.returned v) u) :
    ArmFor flags0 classFile x code maxLocals ret World_1 tables_1 room_1 Calls_1 rest_1 Pre_1 Post := by
  intro l hfl _ _ p e ha hc hk s m args below hf hA hF happ hP
  obtain ⟨hcalls, hrest, hpre⟩ := hP
  obtain ⟨-, -, -, hnamed, -, -, -, hat⟩ := (Spec.applies_iff hf).mp happ
  obtain ⟨hg, hn⟩ := and_e (Cond.before_iff.mp (show (Jvm.Cond.and given_1 narrow_1).before args s = true from hpre))
  obtain ⟨g1, g2⟩ := and_e hg
  obtain ⟨g3, g4⟩ := and_e g2
  obtain ⟨g5, g6⟩ := and_e g4
  obtain ⟨g7, g8⟩ := and_e g6
  obtain ⟨g9, g10⟩ := and_e g8
  obtain ⟨g11, g12⟩ := and_e g10
  obtain ⟨w0, w1, w2, w3, w4, w5, rfl⟩ : ∃ w0 w1 w2 w3 w4 w5 : Value, args = #[w0, w1, w2, w3, w4, w5] := by
    have hs : args.size = 6 := by simpa [Cond.value, given_1] using g1
    obtain ⟨L⟩ := args
    match L, hs with
    | [w0, w1, w2, w3, w4, w5], _ => exact ⟨w0, w1, w2, w3, w4, w5, rfl⟩
  have hw := fun d (hd : d ∈ tables_1) => atoms_spec (ws := Jvm.Cond.code x code maxLocals ret :: tables_1) hat d (List.mem_cons_of_mem _ hd)
  have hfit : Fit s := fun {y c} hc i hi => by
    obtain ⟨ha, rfl⟩ := Array.getElem?_eq_some_iff.mp hc
    have q := List.all_eq_true.mp ((Array.all_eq_true_iff_forall_mem.mp hF) _ (Array.getElem_mem ha)) i (List.mem_range.mpr hi)
    simpa [Array.getElem?_eq_getElem hi] using q
  obtain ⟨hsets, hown0⟩ := atoms_of _ (rest_1_c_eq ▸ (show rest_1_c.before _ s = true from hrest))
  have hr0 := Cond.before_iff.mp hown0
  obtain ⟨i0, ei0⟩ := is_v g3
  obtain rfl : w0 = (.int i0) := Option.some.inj ei0
  obtain ⟨i1, ei1⟩ := is_v g5
  obtain rfl : w1 = (.int i1) := Option.some.inj ei1
  obtain ⟨i2, ei2⟩ := is_v g7
  obtain rfl : w2 = (.int i2) := Option.some.inj ei2
  obtain ⟨i3, ei3⟩ := is_v g9
  obtain rfl : w3 = (.int i3) := Option.some.inj ei3
  obtain ⟨i4, ei4⟩ := is_v g11
  obtain rfl : w4 = (.int i4) := Option.some.inj ei4
  obtain ⟨i5, ei5⟩ := is_v g12
  obtain rfl : w5 = (.int i5) := Option.some.inj ei5
  have H0 : CHv s consts_1 s.vm s.heap := CHv.start (hEL_1 hw) (fun p hp => hcalls.1 p hp) (hsets _ (List.mem_of_getElem? (i := 2) rfl)) (hw _ (List.mem_of_getElem? (i := 25) rfl)) (hw _ (List.mem_of_getElem? (i := 11) rfl))
  have n3 := not_v (Cond.before_iff.mp (hsets _ (List.mem_of_getElem? (i := 2) rfl)))
  obtain ⟨zc, ezc⟩ := is_v (Cond.before_iff.mp (hsets _ (List.mem_of_getElem? (i := 1) rfl)))
  have Z_cs : Sta s s.heap "java/lang/String" "COMPACT_STRINGS" "Z" (.int zc) := Sta.start ezc (Or.inl (hsets _ (List.mem_of_getElem? (i := 0) rfl)))
  have hz : ¬ (zc = (0 : Int32)) := gotF (Cond.eq_ints ezc (Term.int_eval (0))) n3
  obtain ⟨n, o, h1, h2, h3, _, L, rfl, ⟨rfl, M⟩, _, hq⟩ := rm_law l s _ hw i0 i1 i2 i3 i4 i5 zc s.heap Z_cs hz tables_1 p e ha hc hk s m _ below hf ((Spec.applies_iff_loose hf).mp happ).1 ⟨rfl, State.Warmed39.refl s, rfl, H0⟩ trivial
  refine ⟨n, _, h1, h2, h3, hpost _ _ _ _ _ _ ⟨Cond.after_iff.mpr rfl, Cond.after_iff.mpr (eq_i res_at (Term.int_eval (1)) rfl), trivial⟩ ⟨hq.1, hq.2.1, hq.2.2.1, (hq.2.2.2.sift fun y hy => Or.inr (M.fr y hy)).mono (by decide) (by decide)⟩⟩
theorem main_1_1 : Claimed_1_1 := comes_1 fun _ _ _ _ _ _ h hF => ⟨h.1, hF⟩
theorem main_1_2 : Claimed_1_2 := comes_1 fun _ _ _ _ _ _ h hF => ⟨h.2.1, hF⟩
end Jvm.Pilot.@@N@@
namespace Jvm.Pilot.@@N@@
open Jvm Jvm.ClassFile Sem Op Lib Jvm.Free Jvm.Stand Jvm.Pilot.@@N@@.Jvm.D
/-! MADE BY PROGRAM (witnessworld.py) out of the Statement's table words and the real class files: 20 classes; the members and pool entries that the words name. The judged class is class 1, her method 6. -/
namespace start1
open Jvm.ClassFile
def u (s : String) : CpInfo := .utf8 (stringToUtf16 s)
/-- a pool by its gaps: so many unusable entries, then the entry; so many at the end -/
def gap : Nat → List CpInfo → List CpInfo
  | 0, r => r
  | n + 1, r => .unusable :: gap n r
def poolList (es : List (Nat × CpInfo)) (last : Nat) : List CpInfo := es.foldr (fun e r => gap e.1 (e.2 :: r)) (gap last [])
def pool (es : List (Nat × CpInfo)) (last : Nat) : Array CpInfo := ⟨poolList es last⟩
def fileOf (pool : Array CpInfo) (this : Nat) (attrs : Array Attribute := #[]) (ms : Array MethodInfo := #[]) (fl : Nat := 33) (sup : Nat := 0) (ifs : Array Nat := #[]) (fds : Array FieldInfo := #[]) : ClassFile where
  minorVersion := 0
  majorVersion := 65
  constantPool := pool
  accessFlags := fl
  thisClass := this
  superClass := sup
  interfaces := ifs
  fields := fds
  methods := ms
  attributes := attrs
def plain (name : String) (sup : Option ClassId) : Class where
  name := name
  kind := .ordinary
  loader := none
  accessFlags := 33
  super := sup
  interfaces := #[]
  cf := none
  fields := #[]
  methods := #[]
  instanceTypes := #[]
  staticTypes := #[]
  resolved := #[]
  callSites := []
  init := .initialized
  statics := none
  mirror := none

def pool0 : Array CpInfo := pool [(5, u "<init>"), (0, u "()V"), (1, .class_ 10), (1, u "java/lang/Object")] 113

def k0c0 : Code := { maxStack := 0, maxLocals := 1, code := object_method_1_code, exceptionTable := #[], attributes := #[] }
def k0m0 : Method := { name := "<init>", desc := "()V", sig := { parameters := [], returnType := none }, accessFlags := 1, code := some k0c0 }
/-- java/lang/Object -/
def k0 : Class := { plain "java/lang/Object" none with
  accessFlags := 33
  interfaces := #[]
  cf := some (fileOf pool0 8 #[] #[{ accessFlags := 1, nameIndex := 5, descriptorIndex := 6, attributes := #[] }] 33 0 #[] #[])
  fields := #[]
  methods := #[k0m0]
  instanceTypes := #[]
  staticTypes := #[]
  resolved := Array.replicate 124 none
  statics := none }

def pool1 : Array CpInfo := pool [(2, .class_ 4), (1, u "java/lang/Object"), (0, u "<init>"), (0, u "()V"), (0, .methodref 8 9), (0, .class_ 10), (0, .nameAndType 11 12), (0, u "com/example/sunset_grant/sunsetgrant/base/AccessEqualsPinLaw"), (0, u "len"), (0, u "(I)I"), (0, .class_ 14), (0, u "java/lang/String"), (0, .methodref 13 16), (0, .nameAndType 5 17), (0, u "([C)V"), (0, .methodref 8 19), (0, .nameAndType 20 21), (0, u "c0"), (0, u "(I)C"), (0, .methodref 8 23), (0, .nameAndType 24 21), (0, u "c1"), (0, .class_ 26), (0, u "com/example/sunset_grant/sunsetgrant/base/Access"), (0, .methodref 8 28), (0, .nameAndType 29 30), (0, u "mk"), (0, u "(I)Ljava/lang/String;"), (0, .methodref 25 32), (0, .nameAndType 5 33), (0, u "(Ljava/lang/String;Ljava/lang/String;Ljava/lang/String;)V"), (0, .methodref 25 35), (0, .nameAndType 36 37), (0, u "equals"), (0, u "(Ljava/lang/Object;)Z"), (0, .methodref 8 39), (0, .nameAndType 40 41), (0, u "same"), (0, u "(II)Z"), (3, u "law"), (0, u "(IIIIII)Z")] 2

def k1m0 : Method := { name := "<init>", desc := "()V", sig := { parameters := [], returnType := none }, accessFlags := 1, code := none }
def k1c1 : Code := { maxStack := 2, maxLocals := 2, code := method_2_code, exceptionTable := #[], attributes := #[] }
def k1m1 : Method := { name := "len", desc := "(I)I", sig := { parameters := [.int], returnType := some .int }, accessFlags := 10, code := some k1c1 }
def k1c2 : Code := { maxStack := 2, maxLocals := 1, code := method_3_code, exceptionTable := #[], attributes := #[] }
def k1m2 : Method := { name := "c0", desc := "(I)C", sig := { parameters := [.int], returnType := some .char }, accessFlags := 10, code := some k1c2 }
def k1c3 : Code := { maxStack := 2, maxLocals := 1, code := method_4_code, exceptionTable := #[], attributes := #[] }
def k1m3 : Method := { name := "c1", desc := "(I)C", sig := { parameters := [.int], returnType := some .char }, accessFlags := 10, code := some k1c3 }
def k1c4 : Code := { maxStack := 6, maxLocals := 2, code := method_5_code, exceptionTable := #[], attributes := #[] }
def k1m4 : Method := { name := "mk", desc := "(I)Ljava/lang/String;", sig := { parameters := [.int], returnType := some (.object "java/lang/String") }, accessFlags := 10, code := some k1c4 }
def k1c5 : Code := { maxStack := 2, maxLocals := 3, code := method_6_code, exceptionTable := #[], attributes := #[] }
def k1m5 : Method := { name := "same", desc := "(II)Z", sig := { parameters := [.int, .int], returnType := some .boolean }, accessFlags := 10, code := some k1c5 }
def k1c6 : Code := { maxStack := 5, maxLocals := 13, code := code, exceptionTable := #[], attributes := #[] }
def k1m6 : Method := { name := "law", desc := "(IIIIII)Z", sig := { parameters := [.int, .int, .int, .int, .int, .int], returnType := some .boolean }, accessFlags := 9, code := some k1c6 }
/-- com/example/sunset_grant/sunsetgrant/base/AccessEqualsPinLaw -/
def k1 : Class := { plain "com/example/sunset_grant/sunsetgrant/base/AccessEqualsPinLaw" (some 0) with
  accessFlags := 49
  interfaces := #[]
  cf := some (fileOf pool1 8 #[] #[{ accessFlags := 1, nameIndex := 5, descriptorIndex := 6, attributes := #[] }, { accessFlags := 10, nameIndex := 11, descriptorIndex := 12, attributes := #[] }, { accessFlags := 10, nameIndex := 20, descriptorIndex := 21, attributes := #[] }, { accessFlags := 10, nameIndex := 24, descriptorIndex := 21, attributes := #[] }, { accessFlags := 10, nameIndex := 29, descriptorIndex := 30, attributes := #[] }, { accessFlags := 10, nameIndex := 40, descriptorIndex := 41, attributes := #[] }, { accessFlags := 9, nameIndex := 45, descriptorIndex := 46, attributes := #[] }] 49 2 #[] #[])
  fields := #[]
  methods := #[k1m0, k1m1, k1m2, k1m3, k1m4, k1m5, k1m6]
  instanceTypes := #[]
  staticTypes := #[]
  resolved := Array.replicate 49 none
  statics := none }

def pool2 : Array CpInfo := pool [(1, .methodref 2 3), (0, .class_ 4), (0, .nameAndType 5 6), (0, u "java/lang/Object"), (0, u "<init>"), (0, u "()V"), (0, .fieldref 8 9), (0, .class_ 10), (0, .nameAndType 11 12), (0, u "com/example/sunset_grant/sunsetgrant/base/Access"), (0, u "subject"), (0, u "Ljava/lang/String;"), (0, .fieldref 8 14), (0, .nameAndType 15 12), (0, u "object"), (0, .fieldref 8 17), (0, .nameAndType 18 12), (0, u "mode"), (13, .methodref 33 34), (0, .class_ 35), (0, .nameAndType 36 37), (0, u "java/lang/String"), (0, u "equals"), (0, u "(Ljava/lang/Object;)Z"), (33, u "(Ljava/lang/String;Ljava/lang/String;Ljava/lang/String;)V")] 30

def k2c0 : Code := { maxStack := 2, maxLocals := 4, code := prog_1_method_1_code, exceptionTable := #[], attributes := #[] }
def k2m0 : Method := { name := "<init>", desc := "(Ljava/lang/String;Ljava/lang/String;Ljava/lang/String;)V", sig := { parameters := [(.object "java/lang/String"), (.object "java/lang/String"), (.object "java/lang/String")], returnType := none }, accessFlags := 1, code := some k2c0 }
def k2c1 : Code := { maxStack := 2, maxLocals := 3, code := prog_1_method_6_code, exceptionTable := #[], attributes := #[] }
def k2m1 : Method := { name := "equals", desc := "(Ljava/lang/Object;)Z", sig := { parameters := [(.object "java/lang/Object")], returnType := some .boolean }, accessFlags := 1, code := some k2c1 }
/-- com/example/sunset_grant/sunsetgrant/base/Access -/
def k2 : Class := { plain "com/example/sunset_grant/sunsetgrant/base/Access" (some 0) with
  accessFlags := 49
  interfaces := #[]
  cf := some (fileOf pool2 8 #[] #[{ accessFlags := 1, nameIndex := 5, descriptorIndex := 71, attributes := #[] }, { accessFlags := 1, nameIndex := 36, descriptorIndex := 37, attributes := #[] }] 49 2 #[] #[{ accessFlags := 18, nameIndex := 11, descriptorIndex := 12, attributes := #[] }, { accessFlags := 18, nameIndex := 15, descriptorIndex := 12, attributes := #[] }, { accessFlags := 18, nameIndex := 18, descriptorIndex := 12, attributes := #[] }])
  fields := #[{ name := "subject", type := (.object "java/lang/String"), accessFlags := 18, slot := 0, constantValue := 0 }, { name := "object", type := (.object "java/lang/String"), accessFlags := 18, slot := 1, constantValue := 0 }, { name := "mode", type := (.object "java/lang/String"), accessFlags := 18, slot := 2, constantValue := 0 }]
  methods := #[k2m0, k2m1]
  instanceTypes := #[(.object "java/lang/String"), (.object "java/lang/String"), (.object "java/lang/String")]
  staticTypes := #[]
  resolved := Array.replicate 102 none
  statics := none }

def pool3 : Array CpInfo := pool [(1, .class_ 2), (0, u "java/io/Serializable"), (0, .class_ 4), (0, u "java/lang/Object")] 2

/-- java/io/Serializable -/
def k3 : Class := { plain "java/io/Serializable" (some 0) with
  accessFlags := 1537
  interfaces := #[]
  cf := some (fileOf pool3 1 #[] #[] 1537 3 #[] #[])
  fields := #[]
  methods := #[]
  instanceTypes := #[]
  staticTypes := #[]
  resolved := Array.replicate 7 none
  statics := none }

def pool4 : Array CpInfo := pool [(1, .class_ 2), (0, u "java/lang/Comparable"), (0, .class_ 4), (0, u "java/lang/Object")] 7

/-- java/lang/Comparable -/
def k4 : Class := { plain "java/lang/Comparable" (some 0) with
  accessFlags := 1537
  interfaces := #[]
  cf := some (fileOf pool4 1 #[] #[] 1537 3 #[] #[])
  fields := #[]
  methods := #[]
  instanceTypes := #[]
  staticTypes := #[]
  resolved := Array.replicate 12 none
  statics := none }

def pool5 : Array CpInfo := pool [(2, .class_ 4), (1, u "java/lang/CharSequence"), (42, .class_ 48), (0, u "java/lang/CharSequence$1CodePointIterator"), (10, .class_ 60), (0, u "java/lang/CharSequence$1CharIterator"), (5, .class_ 67), (0, u "java/lang/Object")] 63

/-- java/lang/CharSequence -/
def k5 : Class := { plain "java/lang/CharSequence" (some 0) with
  accessFlags := 1537
  interfaces := #[]
  cf := some (fileOf pool5 2 #[.nestMembers #[47, 59]] #[] 1537 66 #[] #[])
  fields := #[]
  methods := #[]
  instanceTypes := #[]
  staticTypes := #[]
  resolved := Array.replicate 131 none
  statics := none }

def pool6 : Array CpInfo := pool [(1, .class_ 2), (0, u "java/lang/constant/Constable"), (0, .class_ 4), (0, u "java/lang/Object")] 6

/-- java/lang/constant/Constable -/
def k6 : Class := { plain "java/lang/constant/Constable" (some 0) with
  accessFlags := 1537
  interfaces := #[]
  cf := some (fileOf pool6 1 #[] #[] 1537 3 #[] #[])
  fields := #[]
  methods := #[]
  instanceTypes := #[]
  staticTypes := #[]
  resolved := Array.replicate 11 none
  statics := none }

def pool7 : Array CpInfo := pool [(1, .class_ 2), (0, u "java/lang/constant/ConstantDesc"), (0, .class_ 4), (0, u "java/lang/Object")] 32

/-- java/lang/constant/ConstantDesc -/
def k7 : Class := { plain "java/lang/constant/ConstantDesc" (some 0) with
  accessFlags := 1537
  interfaces := #[]
  cf := some (fileOf pool7 1 #[] #[] 1537 3 #[] #[])
  fields := #[]
  methods := #[]
  instanceTypes := #[]
  staticTypes := #[]
  resolved := Array.replicate 37 none
  statics := none }

def pool8 : Array CpInfo := pool [(1, .methodref 2 3), (0, .class_ 4), (0, .nameAndType 5 6), (0, u "java/lang/Object"), (0, u "<init>"), (0, u "()V"), (0, .string 8), (0, u ""), (0, .fieldref 10 11), (0, .class_ 12), (0, .nameAndType 13 14), (0, u "java/lang/String"), (0, u "value"), (0, u "[B"), (0, .fieldref 10 16), (0, .nameAndType 17 18), (0, u "coder"), (0, u "B"), (2, u "hash"), (0, u "I"), (2, u "hashIsZero"), (0, u "Z"), (0, .methodref 10 28), (0, .nameAndType 5 29), (0, u "([CIILjava/lang/Void;)V"), (8, .fieldref 10 39), (0, .nameAndType 40 26), (0, u "COMPACT_STRINGS"), (1, .class_ 44), (1, u "java/lang/StringUTF16"), (0, u "compress"), (1, .methodref 42 48), (0, .nameAndType 49 50), (0, u "coderFromArrayLen"), (0, u "([BI)B"), (56, .class_ 109), (1, u "java/lang/StringLatin1"), (67, .methodref 42 178), (0, .nameAndType 45 179), (0, u "([CII)[B"), (361, .methodref 107 542), (0, .nameAndType 543 544), (0, u "equals"), (0, u "([B[B)Z"), (28, u "(Ljava/lang/Object;)Z"), (1, .class_ 576), (0, u "java/lang/CharSequence"), (22, u "CASE_INSENSITIVE_ORDER"), (0, u "Ljava/util/Comparator;"), (409, u "([C)V"), (90, u "serialPersistentFields"), (0, u "[Ljava/io/ObjectStreamField;"), (0, .class_ 1104), (0, u "java/lang/String$CaseInsensitiveComparator"), (1, .class_ 1107), (0, u "java/io/Serializable"), (0, .class_ 1109), (0, u "java/lang/Comparable"), (0, .class_ 1111), (0, u "java/lang/constant/Constable"), (0, .class_ 1113), (0, u "java/lang/constant/ConstantDesc"), (2, u "serialVersionUID"), (0, u "J"), (3, u "REPL"), (0, u "C"), (2, u "LATIN1"), (1, u "UTF16")] 323

def k8m0 : Method := { name := "<init>", desc := "()V", sig := { parameters := [], returnType := none }, accessFlags := 1, code := none }
def k8c1 : Code := { maxStack := 5, maxLocals := 2, code := jdk_42_method_3_code, exceptionTable := #[], attributes := #[] }
def k8m1 : Method := { name := "<init>", desc := "([C)V", sig := { parameters := [(.array .char)], returnType := none }, accessFlags := 1, code := some k8c1 }
def k8c2 : Code := { maxStack := 2, maxLocals := 3, code := jdk_42_method_66_code, exceptionTable := #[], attributes := #[] }
def k8m2 : Method := { name := "equals", desc := "(Ljava/lang/Object;)Z", sig := { parameters := [(.object "java/lang/Object")], returnType := some .boolean }, accessFlags := 1, code := some k8c2 }
def k8c3 : Code := { maxStack := 4, maxLocals := 6, code := jdk_42_method_149_code, exceptionTable := #[], attributes := #[] }
def k8m3 : Method := { name := "<init>", desc := "([CIILjava/lang/Void;)V", sig := { parameters := [(.array .char), .int, .int, (.object "java/lang/Void")], returnType := none }, accessFlags := 2, code := some k8c3 }
/-- java/lang/String -/
def k8 : Class := { plain "java/lang/String" (some 0) with
  accessFlags := 49
  interfaces := #[3, 4, 5, 6, 7]
  cf := some (fileOf pool8 10 #[.nestMembers #[1103]] #[{ accessFlags := 1, nameIndex := 5, descriptorIndex := 6, attributes := #[] }, { accessFlags := 1, nameIndex := 5, descriptorIndex := 1010, attributes := #[] }, { accessFlags := 1, nameIndex := 543, descriptorIndex := 573, attributes := #[] }, { accessFlags := 2, nameIndex := 5, descriptorIndex := 29, attributes := #[] }] 49 2 #[1106, 1108, 575, 1110, 1112] #[{ accessFlags := 18, nameIndex := 13, descriptorIndex := 14, attributes := #[] }, { accessFlags := 18, nameIndex := 17, descriptorIndex := 18, attributes := #[] }, { accessFlags := 2, nameIndex := 21, descriptorIndex := 22, attributes := #[] }, { accessFlags := 2, nameIndex := 25, descriptorIndex := 26, attributes := #[] }, { accessFlags := 26, nameIndex := 1116, descriptorIndex := 1117, attributes := #[] }, { accessFlags := 24, nameIndex := 40, descriptorIndex := 26, attributes := #[] }, { accessFlags := 26, nameIndex := 1101, descriptorIndex := 1102, attributes := #[] }, { accessFlags := 26, nameIndex := 1121, descriptorIndex := 1122, attributes := #[] }, { accessFlags := 25, nameIndex := 599, descriptorIndex := 600, attributes := #[] }, { accessFlags := 24, nameIndex := 1125, descriptorIndex := 18, attributes := #[] }, { accessFlags := 24, nameIndex := 1127, descriptorIndex := 18, attributes := #[] }])
  fields := #[{ name := "value", type := (.array .byte), accessFlags := 18, slot := 0, constantValue := 0 }, { name := "coder", type := .byte, accessFlags := 18, slot := 1, constantValue := 0 }, { name := "hash", type := .int, accessFlags := 2, slot := 2, constantValue := 0 }, { name := "hashIsZero", type := .boolean, accessFlags := 2, slot := 3, constantValue := 0 }, { name := "serialVersionUID", type := .long, accessFlags := 26, slot := 0, constantValue := 0 }, { name := "COMPACT_STRINGS", type := .boolean, accessFlags := 24, slot := 1, constantValue := 0 }, { name := "serialPersistentFields", type := (.array (.object "java/io/ObjectStreamField")), accessFlags := 26, slot := 2, constantValue := 0 }, { name := "REPL", type := .char, accessFlags := 26, slot := 3, constantValue := 0 }, { name := "CASE_INSENSITIVE_ORDER", type := (.object "java/util/Comparator"), accessFlags := 25, slot := 4, constantValue := 0 }, { name := "LATIN1", type := .byte, accessFlags := 24, slot := 5, constantValue := 0 }, { name := "UTF16", type := .byte, accessFlags := 24, slot := 6, constantValue := 0 }]
  methods := #[k8m0, k8m1, k8m2, k8m3]
  instanceTypes := #[(.array .byte), .byte, .int, .boolean]
  staticTypes := #[.long, .boolean, (.array (.object "java/io/ObjectStreamField")), .char, (.object "java/util/Comparator"), .byte, .byte]
  resolved := Array.replicate 1451 none
  statics := some 0 }

def pool9 : Array CpInfo := pool [(4, .class_ 6), (1, u "java/lang/Object"), (0, u "<init>"), (0, u "()V"), (5, .class_ 16), (1, u "java/lang/StringLatin1"), (104, u "$assertionsDisabled"), (0, u "Z"), (98, .class_ 223), (1, u "java/lang/StringLatin1$LinesSpliterator"), (57, u "equals"), (0, u "([B[B)Z"), (107, .class_ 391), (0, u "java/lang/StringLatin1$CharsSpliterator")] 3

def k9m0 : Method := { name := "<init>", desc := "()V", sig := { parameters := [], returnType := none }, accessFlags := 0, code := none }
def k9c1 : Code := { maxStack := 3, maxLocals := 3, code := jdk_43_method_13_code, exceptionTable := #[], attributes := #[] }
def k9m1 : Method := { name := "equals", desc := "([B[B)Z", sig := { parameters := [(.array .byte), (.array .byte)], returnType := some .boolean }, accessFlags := 9, code := some k9c1 }
/-- java/lang/StringLatin1 -/
def k9 : Class := { plain "java/lang/StringLatin1" (some 0) with
  accessFlags := 48
  interfaces := #[]
  cf := some (fileOf pool9 14 #[.nestMembers #[390, 221]] #[{ accessFlags := 0, nameIndex := 7, descriptorIndex := 8, attributes := #[] }, { accessFlags := 9, nameIndex := 281, descriptorIndex := 282, attributes := #[] }] 48 4 #[] #[{ accessFlags := 4120, nameIndex := 121, descriptorIndex := 122, attributes := #[] }])
  fields := #[{ name := "$assertionsDisabled", type := .boolean, accessFlags := 4120, slot := 0, constantValue := 0 }]
  methods := #[k9m0, k9m1]
  instanceTypes := #[]
  staticTypes := #[.boolean]
  resolved := Array.replicate 395 none
  statics := none }

def pool10 : Array CpInfo := pool [(6, .class_ 8), (1, u "java/lang/Object"), (0, u "<init>"), (0, u "()V"), (1, .class_ 14), (1, u "java/lang/StringUTF16"), (31, u "$assertionsDisabled"), (0, u "Z"), (13, u "HI_BYTE_SHIFT"), (0, u "I"), (2, u "LO_BYTE_SHIFT"), (49, .methodref 12 116), (0, .nameAndType 117 118), (0, u "compress"), (0, u "([CI[BII)I"), (3, u "([CII)[B"), (138, u "coderFromArrayLen"), (0, u "([BI)B"), (106, .class_ 371), (1, u "java/lang/StringUTF16$LinesSpliterator"), (58, u "MAX_LENGTH"), (196, .class_ 628), (0, u "java/lang/StringUTF16$CodePointsSpliterator"), (0, .class_ 630), (0, u "java/lang/StringUTF16$CharsSpliterator")] 4

def k10m0 : Method := { name := "<init>", desc := "()V", sig := { parameters := [], returnType := none }, accessFlags := 0, code := none }
def k10c1 : Code := { maxStack := 2, maxLocals := 2, code := jdk_52_method_15_code, exceptionTable := #[], attributes := #[] }
def k10m1 : Method := { name := "coderFromArrayLen", desc := "([BI)B", sig := { parameters := [(.array .byte), .int], returnType := some .byte }, accessFlags := 8, code := some k10c1 }
def k10c2 : Code := { maxStack := 5, maxLocals := 6, code := jdk_52_method_16_code, exceptionTable := #[], attributes := #[] }
def k10m2 : Method := { name := "compress", desc := "([CII)[B", sig := { parameters := [(.array .char), .int, .int], returnType := some (.array .byte) }, accessFlags := 9, code := some k10c2 }
def k10c3 : Code := { maxStack := 3, maxLocals := 7, code := jdk_52_method_21_code, exceptionTable := #[], attributes := #[] }
def k10m3 : Method := { name := "compress", desc := "([CI[BII)I", sig := { parameters := [(.array .char), .int, (.array .byte), .int, .int], returnType := some .int }, accessFlags := 9, code := some k10c3 }
/-- java/lang/StringUTF16 -/
def k10 : Class := { plain "java/lang/StringUTF16" (some 0) with
  accessFlags := 48
  interfaces := #[]
  cf := some (fileOf pool10 12 #[.nestMembers #[627, 629, 369]] #[{ accessFlags := 0, nameIndex := 9, descriptorIndex := 10, attributes := #[] }, { accessFlags := 8, nameIndex := 261, descriptorIndex := 262, attributes := #[] }, { accessFlags := 9, nameIndex := 117, descriptorIndex := 122, attributes := #[] }, { accessFlags := 9, nameIndex := 117, descriptorIndex := 118, attributes := #[] }] 48 6 #[] #[{ accessFlags := 26, nameIndex := 61, descriptorIndex := 62, attributes := #[] }, { accessFlags := 26, nameIndex := 65, descriptorIndex := 62, attributes := #[] }, { accessFlags := 24, nameIndex := 430, descriptorIndex := 62, attributes := #[] }, { accessFlags := 4120, nameIndex := 46, descriptorIndex := 47, attributes := #[] }])
  fields := #[{ name := "HI_BYTE_SHIFT", type := .int, accessFlags := 26, slot := 0, constantValue := 0 }, { name := "LO_BYTE_SHIFT", type := .int, accessFlags := 26, slot := 1, constantValue := 0 }, { name := "MAX_LENGTH", type := .int, accessFlags := 24, slot := 2, constantValue := 0 }, { name := "$assertionsDisabled", type := .boolean, accessFlags := 4120, slot := 3, constantValue := 0 }]
  methods := #[k10m0, k10m1, k10m2, k10m3]
  instanceTypes := #[]
  staticTypes := #[.int, .int, .int, .boolean]
  resolved := Array.replicate 635 none
  statics := none }

def pool11 : Array CpInfo := pool [(2, .class_ 4), (1, u "java/lang/Object"), (0, u "<init>"), (0, u "()V"), (17, .class_ 26), (1, u "jdk/internal/util/Preconditions"), (28, .class_ 56), (0, u "jdk/internal/util/Preconditions$4"), (57, .class_ 115), (0, u "jdk/internal/util/Preconditions$1"), (7, u "SIOOBE_FORMATTER"), (0, u "Ljava/util/function/BiFunction;"), (0, .class_ 126), (0, u "jdk/internal/util/Preconditions$2"), (3, u "AIOOBE_FORMATTER"), (0, .class_ 132), (0, u "jdk/internal/util/Preconditions$3"), (3, u "IOOBE_FORMATTER")] 57

def k11m0 : Method := { name := "<init>", desc := "()V", sig := { parameters := [], returnType := none }, accessFlags := 1, code := none }
/-- jdk/internal/util/Preconditions -/
def k11 : Class := { plain "jdk/internal/util/Preconditions" (some 0) with
  accessFlags := 33
  interfaces := #[]
  cf := some (fileOf pool11 24 #[.nestMembers #[55, 131, 125, 114]] #[{ accessFlags := 1, nameIndex := 5, descriptorIndex := 6, attributes := #[] }] 33 2 #[] #[{ accessFlags := 25, nameIndex := 123, descriptorIndex := 124, attributes := #[] }, { accessFlags := 25, nameIndex := 130, descriptorIndex := 124, attributes := #[] }, { accessFlags := 25, nameIndex := 136, descriptorIndex := 124, attributes := #[] }])
  fields := #[{ name := "SIOOBE_FORMATTER", type := (.object "java/util/function/BiFunction"), accessFlags := 25, slot := 0, constantValue := 0 }, { name := "AIOOBE_FORMATTER", type := (.object "java/util/function/BiFunction"), accessFlags := 25, slot := 1, constantValue := 0 }, { name := "IOOBE_FORMATTER", type := (.object "java/util/function/BiFunction"), accessFlags := 25, slot := 2, constantValue := 0 }]
  methods := #[k11m0]
  instanceTypes := #[]
  staticTypes := #[(.object "java/util/function/BiFunction"), (.object "java/util/function/BiFunction"), (.object "java/util/function/BiFunction")]
  resolved := Array.replicate 194 none
  statics := some 1 }

def pool12 : Array CpInfo := pool [(9, u "<init>"), (6, .class_ 18), (1, u "java/lang/Object"), (0, u "()V"), (1, .class_ 23), (1, u "jdk/internal/util/ArraysSupport"), (0, u "LOG2_ARRAY_LONG_INDEX_SCALE"), (0, u "I"), (2, u "U"), (0, u "Ljdk/internal/misc/Unsafe;"), (8, u "BIG_ENDIAN"), (0, u "Z"), (8, u "LOG2_BYTE_BIT_SIZE"), (4, u "LOG2_ARRAY_INT_INDEX_SCALE"), (54, u "JLA"), (0, u "Ljdk/internal/access/JavaLangAccess;"), (11, u "LOG2_ARRAY_BOOLEAN_INDEX_SCALE"), (9, u "LOG2_ARRAY_BYTE_INDEX_SCALE"), (5, u "LOG2_ARRAY_CHAR_INDEX_SCALE"), (5, u "LOG2_ARRAY_SHORT_INDEX_SCALE"), (18, u "LOG2_ARRAY_FLOAT_INDEX_SCALE"), (24, u "LOG2_ARRAY_DOUBLE_INDEX_SCALE"), (89, u "T_BOOLEAN"), (2, u "T_CHAR"), (1, u "T_FLOAT"), (1, u "T_DOUBLE"), (1, u "T_BYTE"), (1, u "T_SHORT"), (1, u "T_INT"), (1, u "T_LONG"), (1, u "SOFT_MAX_ARRAY_LENGTH")] 83

def k12m0 : Method := { name := "<init>", desc := "()V", sig := { parameters := [], returnType := none }, accessFlags := 2, code := none }
/-- jdk/internal/util/ArraysSupport -/
def k12 : Class := { plain "jdk/internal/util/ArraysSupport" (some 0) with
  accessFlags := 33
  interfaces := #[]
  cf := some (fileOf pool12 21 #[] #[{ accessFlags := 2, nameIndex := 9, descriptorIndex := 19, attributes := #[] }] 33 16 #[] #[{ accessFlags := 24, nameIndex := 28, descriptorIndex := 29, attributes := #[] }, { accessFlags := 26, nameIndex := 38, descriptorIndex := 39, attributes := #[] }, { accessFlags := 25, nameIndex := 121, descriptorIndex := 25, attributes := #[] }, { accessFlags := 25, nameIndex := 131, descriptorIndex := 25, attributes := #[] }, { accessFlags := 25, nameIndex := 137, descriptorIndex := 25, attributes := #[] }, { accessFlags := 25, nameIndex := 143, descriptorIndex := 25, attributes := #[] }, { accessFlags := 25, nameIndex := 53, descriptorIndex := 25, attributes := #[] }, { accessFlags := 25, nameIndex := 24, descriptorIndex := 25, attributes := #[] }, { accessFlags := 25, nameIndex := 162, descriptorIndex := 25, attributes := #[] }, { accessFlags := 25, nameIndex := 187, descriptorIndex := 25, attributes := #[] }, { accessFlags := 26, nameIndex := 48, descriptorIndex := 25, attributes := #[] }, { accessFlags := 25, nameIndex := 277, descriptorIndex := 25, attributes := #[] }, { accessFlags := 25, nameIndex := 280, descriptorIndex := 25, attributes := #[] }, { accessFlags := 25, nameIndex := 282, descriptorIndex := 25, attributes := #[] }, { accessFlags := 25, nameIndex := 284, descriptorIndex := 25, attributes := #[] }, { accessFlags := 25, nameIndex := 286, descriptorIndex := 25, attributes := #[] }, { accessFlags := 25, nameIndex := 288, descriptorIndex := 25, attributes := #[] }, { accessFlags := 25, nameIndex := 290, descriptorIndex := 25, attributes := #[] }, { accessFlags := 25, nameIndex := 292, descriptorIndex := 25, attributes := #[] }, { accessFlags := 26, nameIndex := 108, descriptorIndex := 109, attributes := #[] }, { accessFlags := 25, nameIndex := 294, descriptorIndex := 25, attributes := #[] }])
  fields := #[{ name := "U", type := (.object "jdk/internal/misc/Unsafe"), accessFlags := 24, slot := 0, constantValue := 0 }, { name := "BIG_ENDIAN", type := .boolean, accessFlags := 26, slot := 1, constantValue := 0 }, { name := "LOG2_ARRAY_BOOLEAN_INDEX_SCALE", type := .int, accessFlags := 25, slot := 2, constantValue := 0 }, { name := "LOG2_ARRAY_BYTE_INDEX_SCALE", type := .int, accessFlags := 25, slot := 3, constantValue := 0 }, { name := "LOG2_ARRAY_CHAR_INDEX_SCALE", type := .int, accessFlags := 25, slot := 4, constantValue := 0 }, { name := "LOG2_ARRAY_SHORT_INDEX_SCALE", type := .int, accessFlags := 25, slot := 5, constantValue := 0 }, { name := "LOG2_ARRAY_INT_INDEX_SCALE", type := .int, accessFlags := 25, slot := 6, constantValue := 0 }, { name := "LOG2_ARRAY_LONG_INDEX_SCALE", type := .int, accessFlags := 25, slot := 7, constantValue := 0 }, { name := "LOG2_ARRAY_FLOAT_INDEX_SCALE", type := .int, accessFlags := 25, slot := 8, constantValue := 0 }, { name := "LOG2_ARRAY_DOUBLE_INDEX_SCALE", type := .int, accessFlags := 25, slot := 9, constantValue := 0 }, { name := "LOG2_BYTE_BIT_SIZE", type := .int, accessFlags := 26, slot := 10, constantValue := 0 }, { name := "T_BOOLEAN", type := .int, accessFlags := 25, slot := 11, constantValue := 0 }, { name := "T_CHAR", type := .int, accessFlags := 25, slot := 12, constantValue := 0 }, { name := "T_FLOAT", type := .int, accessFlags := 25, slot := 13, constantValue := 0 }, { name := "T_DOUBLE", type := .int, accessFlags := 25, slot := 14, constantValue := 0 }, { name := "T_BYTE", type := .int, accessFlags := 25, slot := 15, constantValue := 0 }, { name := "T_SHORT", type := .int, accessFlags := 25, slot := 16, constantValue := 0 }, { name := "T_INT", type := .int, accessFlags := 25, slot := 17, constantValue := 0 }, { name := "T_LONG", type := .int, accessFlags := 25, slot := 18, constantValue := 0 }, { name := "JLA", type := (.object "jdk/internal/access/JavaLangAccess"), accessFlags := 26, slot := 19, constantValue := 0 }, { name := "SOFT_MAX_ARRAY_LENGTH", type := .int, accessFlags := 25, slot := 20, constantValue := 0 }]
  methods := #[k12m0]
  instanceTypes := #[]
  staticTypes := #[(.object "jdk/internal/misc/Unsafe"), .boolean, .int, .int, .int, .int, .int, .int, .int, .int, .int, .int, .int, .int, .int, .int, .int, .int, .int, (.object "jdk/internal/access/JavaLangAccess"), .int]
  resolved := Array.replicate 378 none
  statics := none }

def pool13 : Array CpInfo := pool [(1, u "java/lang/Cloneable"), (0, .class_ 1), (0, u "java/lang/Object"), (0, .class_ 3)] 3

/-- java/lang/Cloneable -/
def k13 : Class := { plain "java/lang/Cloneable" (some 0) with
  accessFlags := 1537
  interfaces := #[]
  cf := some (fileOf pool13 2 #[] #[] 1537 4 #[] #[])
  fields := #[]
  methods := #[]
  instanceTypes := #[]
  staticTypes := #[]
  resolved := Array.replicate 8 none
  statics := none }

/-- the primitive byte -/
def k14 : Class := { plain "byte" none with kind := .primitive 'B', accessFlags := 0x411 }
/-- [B -/
def k15 : Class := { plain "[B" (some 0) with kind := .array 14 .byte, interfaces := #[13, 3], accessFlags := 1041 }

/-- the primitive char -/
def k16 : Class := { plain "char" none with kind := .primitive 'C', accessFlags := 0x411 }
/-- [C -/
def k17 : Class := { plain "[C" (some 0) with kind := .array 16 .char, interfaces := #[13, 3], accessFlags := 1041 }

/-- the primitive int -/
def k18 : Class := { plain "int" none with kind := .primitive 'I', accessFlags := 0x411 }
/-- [I -/
def k19 : Class := { plain "[I" (some 0) with kind := .array 18 .int, interfaces := #[13, 3], accessFlags := 1041 }

def heap : Heap := #[{ cls := 8, slots := #[.long 0, .int 1, .null, .int 0, .null, .int 0, .int 0], vm := .statics 8 },
  { cls := 11, slots := #[.null, .null, .null], vm := .statics 11 }]
def classes : Array Class := #[k0, k1, k2, k3, k4, k5, k6, k7, k8, k9, k10, k11, k12, k13, k14, k15, k16, k17, k18, k19]
def interned : List (Array UInt16 × Addr) := []
def slotsUsed : Nat := 10
def theMethod : MethodId := ⟨1, 6⟩
def args0 : Array Value := #[.int 5, .int 6, .int 7, .int 8, .int 9, .int 10]
def aboutOver (below : List Frame) : State where
  vm := { classes := classes, interned := interned.toArray }
  heap := heap
  slotsUsed := slotsUsed
  threads := #[{ frames := .invoking theMethod args0 :: below }]
def below0 : List Frame := [.native { method := ⟨0, 0⟩, args := #[] }]
def about1 : State := aboutOver below0
def p0 : Program := .bare "" "" ""
def e0 : Env := launch0.env 0 0 0
theorem w_frames : about1.frames = Frame.invoking theMethod args0 :: below0 := rfl
set_option maxRecDepth 65536 in
theorem w_args : argsFit about1.vm theMethod args0 = true := by decide +kernel
set_option maxRecDepth 65536 in
theorem w_heap : heapFits about1 = true := by decide +kernel
set_option maxRecDepth 65536 in
theorem w_runnable : about1.curStatus? = some .runnable := by decide +kernel
set_option maxRecDepth 65536 in
theorem w_alone : about1.alone = true := by decide +kernel
set_option maxRecDepth 65536 in
theorem w_named : about1.methodNamed? x = some theMethod := by decide +kernel
set_option maxRecDepth 65536 in
theorem w_hears : about1.hears theMethod below0 = true := by decide +kernel
set_option maxRecDepth 65536 in
theorem w_ripe : about1.ripe theMethod args0 below0 = true := by decide +kernel
theorem w_running : about1.status = .running := rfl
set_option maxRecDepth 65536 in
theorem w_room : about1.hasRoom e0.platform room_1 = true :=
  launch0.hasRoom_least _ room_1 (by decide +kernel) (by decide +kernel) (by decide +kernel) (by decide +kernel) (by decide +kernel) (by decide +kernel)
theorem allAtoms_all (ts : List Jvm.Cond) (a : Array Jvm.Value) (st : Jvm.State) : (allAtoms ts).before a st = ts.all (fun c => c.before a st) := by
  induction ts with
  | nil => rfl
  | cons c t ih =>
    show (Jvm.Cond.and c (allAtoms t)).before a st = _
    rw [Jvm.Cond.before_and, ih, List.all_cons]
def words1 : List Jvm.Cond := Jvm.Cond.code x code maxLocals ret :: tables_1
/-- a 'code' word, met by the world's own term for the bytes: nothing is compared byte by byte -/
theorem code_word {y : MethodName} {bytes : ByteArray} {mx : Nat} {rt : Option FieldType} {a : Array Value} {s : State} {m : MethodId} {meth : Method} {c : Code} (h1 : s.methodNamed? y = some m) (h2 : s.vm.method? m = some meth) (h3 : meth.code = some c) (h4 : c.code = bytes)
    (h5 : (c.maxLocals == mx && c.exceptionTable.isEmpty && decide (c.maxStack ≤ mostOperands) && decide (meth.sig.returnType = rt) && !meth.locks && decide (parseMethodDescriptor y.desc = some meth.sig)) = true) : (Jvm.Cond.code y bytes mx rt).before a s = true := by
  simp only [Bool.and_eq_true, beq_iff_eq, Bool.not_eq_true', decide_eq_true_eq] at h5
  obtain ⟨⟨⟨⟨⟨g1, g2⟩, g3⟩, g4⟩, g5⟩, g6⟩ := h5
  simp [Cond.before, Cond.holds, Cond.value, h1, h2, h3, h4, g1, g2, g3, g4, g5, g6]
def isCode : Jvm.Cond → Bool
  | .code _ _ _ _ => true
  | _ => false
theorem all_split {L : List Jvm.Cond} {P : Jvm.Cond → Bool} (h1 : L.all (fun c => isCode c || P c) = true) (h2 : ∀ c ∈ L.filter isCode, P c = true) : L.all P = true := by
  refine List.all_eq_true.mpr fun c hc => ?_
  have h := List.all_eq_true.mp h1 c hc
  rcases Bool.eq_false_or_eq_true (isCode c) with hi | hi
  · exact h2 c (List.mem_filter.mpr ⟨hc, hi⟩)
  · simpa [hi] using h
set_option maxRecDepth 65536 in
theorem w_c0 : (Jvm.Cond.code x code maxLocals ret).before args0 about1 = true := code_word (m := ⟨1, 6⟩) (meth := k1m6) (c := k1c6) (by decide +kernel) rfl rfl rfl (by decide +kernel)
set_option maxRecDepth 65536 in
theorem w_c1 : (Jvm.Cond.code ({ cls := "com/example/sunset_grant/sunsetgrant/base/AccessEqualsPinLaw", name := "mk", desc := "(I)Ljava/lang/String;" } : Jvm.MethodName) method_5_code (2 : Nat) (Option.some (Jvm.ClassFile.FieldType.object "java/lang/String"))).before args0 about1 = true := code_word (m := ⟨1, 4⟩) (meth := k1m4) (c := k1c4) (by decide +kernel) rfl rfl rfl (by decide +kernel)
set_option maxRecDepth 65536 in
theorem w_c2 : (Jvm.Cond.code ({ cls := "com/example/sunset_grant/sunsetgrant/base/AccessEqualsPinLaw", name := "len", desc := "(I)I" } : Jvm.MethodName) method_2_code (2 : Nat) (Option.some Jvm.ClassFile.FieldType.int)).before args0 about1 = true := code_word (m := ⟨1, 1⟩) (meth := k1m1) (c := k1c1) (by decide +kernel) rfl rfl rfl (by decide +kernel)
set_option maxRecDepth 65536 in
theorem w_c3 : (Jvm.Cond.code ({ cls := "java/lang/String", name := "<init>", desc := "([C)V" } : Jvm.MethodName) jdk_42_method_3_code (2 : Nat) (Option.none : Option Jvm.ClassFile.FieldType)).before args0 about1 = true := code_word (m := ⟨8, 1⟩) (meth := k8m1) (c := k8c1) (by decide +kernel) rfl rfl rfl (by decide +kernel)
set_option maxRecDepth 65536 in
theorem w_c4 : (Jvm.Cond.code ({ cls := "java/lang/String", name := "<init>", desc := "([CIILjava/lang/Void;)V" } : Jvm.MethodName) jdk_42_method_149_code (6 : Nat) (Option.none : Option Jvm.ClassFile.FieldType)).before args0 about1 = true := code_word (m := ⟨8, 3⟩) (meth := k8m3) (c := k8c3) (by decide +kernel) rfl rfl rfl (by decide +kernel)
set_option maxRecDepth 65536 in
theorem w_c5 : (Jvm.Cond.code ({ cls := "java/lang/Object", name := "<init>", desc := "()V" } : Jvm.MethodName) object_method_1_code (1 : Nat) (Option.none : Option Jvm.ClassFile.FieldType)).before args0 about1 = true := code_word (m := ⟨0, 0⟩) (meth := k0m0) (c := k0c0) (by decide +kernel) rfl rfl rfl (by decide +kernel)
set_option maxRecDepth 65536 in
theorem w_c6 : (Jvm.Cond.code ({ cls := "com/example/sunset_grant/sunsetgrant/base/Access", name := "<init>", desc := "(Ljava/lang/String;Ljava/lang/String;Ljava/lang/String;)V" } : Jvm.MethodName) prog_1_method_1_code (4 : Nat) (Option.none : Option Jvm.ClassFile.FieldType)).before args0 about1 = true := code_word (m := ⟨2, 0⟩) (meth := k2m0) (c := k2c0) (by decide +kernel) rfl rfl rfl (by decide +kernel)
set_option maxRecDepth 65536 in
theorem w_c7 : (Jvm.Cond.code ({ cls := "com/example/sunset_grant/sunsetgrant/base/AccessEqualsPinLaw", name := "same", desc := "(II)Z" } : Jvm.MethodName) method_6_code (3 : Nat) (Option.some Jvm.ClassFile.FieldType.boolean)).before args0 about1 = true := code_word (m := ⟨1, 5⟩) (meth := k1m5) (c := k1c5) (by decide +kernel) rfl rfl rfl (by decide +kernel)
set_option maxRecDepth 65536 in
theorem w_c8 : (Jvm.Cond.code ({ cls := "com/example/sunset_grant/sunsetgrant/base/Access", name := "equals", desc := "(Ljava/lang/Object;)Z" } : Jvm.MethodName) prog_1_method_6_code (3 : Nat) (Option.some Jvm.ClassFile.FieldType.boolean)).before args0 about1 = true := code_word (m := ⟨2, 1⟩) (meth := k2m1) (c := k2c1) (by decide +kernel) rfl rfl rfl (by decide +kernel)
set_option maxRecDepth 65536 in
theorem w_c9 : (Jvm.Cond.code ({ cls := "java/lang/String", name := "equals", desc := "(Ljava/lang/Object;)Z" } : Jvm.MethodName) jdk_42_method_66_code (3 : Nat) (Option.some Jvm.ClassFile.FieldType.boolean)).before args0 about1 = true := code_word (m := ⟨8, 2⟩) (meth := k8m2) (c := k8c2) (by decide +kernel) rfl rfl rfl (by decide +kernel)
set_option maxRecDepth 65536 in
theorem w_c10 : (Jvm.Cond.code ({ cls := "java/lang/StringLatin1", name := "equals", desc := "([B[B)Z" } : Jvm.MethodName) jdk_43_method_13_code (3 : Nat) (Option.some Jvm.ClassFile.FieldType.boolean)).before args0 about1 = true := code_word (m := ⟨9, 1⟩) (meth := k9m1) (c := k9c1) (by decide +kernel) rfl rfl rfl (by decide +kernel)
set_option maxRecDepth 65536 in
theorem w_c11 : (Jvm.Cond.code ({ cls := "com/example/sunset_grant/sunsetgrant/base/AccessEqualsPinLaw", name := "c0", desc := "(I)C" } : Jvm.MethodName) method_3_code (1 : Nat) (Option.some Jvm.ClassFile.FieldType.char)).before args0 about1 = true := code_word (m := ⟨1, 2⟩) (meth := k1m2) (c := k1c2) (by decide +kernel) rfl rfl rfl (by decide +kernel)
set_option maxRecDepth 65536 in
theorem w_c12 : (Jvm.Cond.code ({ cls := "com/example/sunset_grant/sunsetgrant/base/AccessEqualsPinLaw", name := "c1", desc := "(I)C" } : Jvm.MethodName) method_4_code (1 : Nat) (Option.some Jvm.ClassFile.FieldType.char)).before args0 about1 = true := code_word (m := ⟨1, 3⟩) (meth := k1m3) (c := k1c3) (by decide +kernel) rfl rfl rfl (by decide +kernel)
set_option maxRecDepth 65536 in
theorem w_c13 : (Jvm.Cond.code ({ cls := "java/lang/StringUTF16", name := "compress", desc := "([CII)[B" } : Jvm.MethodName) jdk_52_method_16_code (6 : Nat) (Option.some (Jvm.ClassFile.FieldType.array Jvm.ClassFile.FieldType.byte))).before args0 about1 = true := code_word (m := ⟨10, 2⟩) (meth := k10m2) (c := k10c2) (by decide +kernel) rfl rfl rfl (by decide +kernel)
set_option maxRecDepth 65536 in
theorem w_c14 : (Jvm.Cond.code ({ cls := "java/lang/StringUTF16", name := "compress", desc := "([CI[BII)I" } : Jvm.MethodName) jdk_52_method_21_code (7 : Nat) (Option.some Jvm.ClassFile.FieldType.int)).before args0 about1 = true := code_word (m := ⟨10, 3⟩) (meth := k10m3) (c := k10c3) (by decide +kernel) rfl rfl rfl (by decide +kernel)
set_option maxRecDepth 65536 in
theorem w_c15 : (Jvm.Cond.code ({ cls := "java/lang/StringUTF16", name := "coderFromArrayLen", desc := "([BI)B" } : Jvm.MethodName) jdk_52_method_15_code (2 : Nat) (Option.some Jvm.ClassFile.FieldType.byte)).before args0 about1 = true := code_word (m := ⟨10, 1⟩) (meth := k10m1) (c := k10c1) (by decide +kernel) rfl rfl rfl (by decide +kernel)
def codes1 : List Jvm.Cond := [Jvm.Cond.code x code maxLocals ret, Jvm.Cond.code ({ cls := "com/example/sunset_grant/sunsetgrant/base/AccessEqualsPinLaw", name := "mk", desc := "(I)Ljava/lang/String;" } : Jvm.MethodName) method_5_code (2 : Nat) (Option.some (Jvm.ClassFile.FieldType.object "java/lang/String")), Jvm.Cond.code ({ cls := "com/example/sunset_grant/sunsetgrant/base/AccessEqualsPinLaw", name := "len", desc := "(I)I" } : Jvm.MethodName) method_2_code (2 : Nat) (Option.some Jvm.ClassFile.FieldType.int), Jvm.Cond.code ({ cls := "java/lang/String", name := "<init>", desc := "([C)V" } : Jvm.MethodName) jdk_42_method_3_code (2 : Nat) (Option.none : Option Jvm.ClassFile.FieldType), Jvm.Cond.code ({ cls := "java/lang/String", name := "<init>", desc := "([CIILjava/lang/Void;)V" } : Jvm.MethodName) jdk_42_method_149_code (6 : Nat) (Option.none : Option Jvm.ClassFile.FieldType), Jvm.Cond.code ({ cls := "java/lang/Object", name := "<init>", desc := "()V" } : Jvm.MethodName) object_method_1_code (1 : Nat) (Option.none : Option Jvm.ClassFile.FieldType), Jvm.Cond.code ({ cls := "com/example/sunset_grant/sunsetgrant/base/Access", name := "<init>", desc := "(Ljava/lang/String;Ljava/lang/String;Ljava/lang/String;)V" } : Jvm.MethodName) prog_1_method_1_code (4 : Nat) (Option.none : Option Jvm.ClassFile.FieldType), Jvm.Cond.code ({ cls := "com/example/sunset_grant/sunsetgrant/base/AccessEqualsPinLaw", name := "same", desc := "(II)Z" } : Jvm.MethodName) method_6_code (3 : Nat) (Option.some Jvm.ClassFile.FieldType.boolean), Jvm.Cond.code ({ cls := "com/example/sunset_grant/sunsetgrant/base/Access", name := "equals", desc := "(Ljava/lang/Object;)Z" } : Jvm.MethodName) prog_1_method_6_code (3 : Nat) (Option.some Jvm.ClassFile.FieldType.boolean), Jvm.Cond.code ({ cls := "java/lang/String", name := "equals", desc := "(Ljava/lang/Object;)Z" } : Jvm.MethodName) jdk_42_method_66_code (3 : Nat) (Option.some Jvm.ClassFile.FieldType.boolean), Jvm.Cond.code ({ cls := "java/lang/StringLatin1", name := "equals", desc := "([B[B)Z" } : Jvm.MethodName) jdk_43_method_13_code (3 : Nat) (Option.some Jvm.ClassFile.FieldType.boolean), Jvm.Cond.code ({ cls := "com/example/sunset_grant/sunsetgrant/base/AccessEqualsPinLaw", name := "c0", desc := "(I)C" } : Jvm.MethodName) method_3_code (1 : Nat) (Option.some Jvm.ClassFile.FieldType.char), Jvm.Cond.code ({ cls := "com/example/sunset_grant/sunsetgrant/base/AccessEqualsPinLaw", name := "c1", desc := "(I)C" } : Jvm.MethodName) method_4_code (1 : Nat) (Option.some Jvm.ClassFile.FieldType.char), Jvm.Cond.code ({ cls := "java/lang/StringUTF16", name := "compress", desc := "([CII)[B" } : Jvm.MethodName) jdk_52_method_16_code (6 : Nat) (Option.some (Jvm.ClassFile.FieldType.array Jvm.ClassFile.FieldType.byte)), Jvm.Cond.code ({ cls := "java/lang/StringUTF16", name := "compress", desc := "([CI[BII)I" } : Jvm.MethodName) jdk_52_method_21_code (7 : Nat) (Option.some Jvm.ClassFile.FieldType.int), Jvm.Cond.code ({ cls := "java/lang/StringUTF16", name := "coderFromArrayLen", desc := "([BI)B" } : Jvm.MethodName) jdk_52_method_15_code (2 : Nat) (Option.some Jvm.ClassFile.FieldType.byte)]
set_option maxRecDepth 65536 in
theorem codes_eq : words1.filter isCode = codes1 := rfl
theorem w_codes : ∀ c ∈ words1.filter isCode, c.before args0 about1 = true := by
  rw [codes_eq]
  intro c hc
  simp only [codes1, List.mem_cons, List.not_mem_nil, or_false] at hc
  rcases hc with rfl | rfl | rfl | rfl | rfl | rfl | rfl | rfl | rfl | rfl | rfl | rfl | rfl | rfl | rfl | rfl
  · exact w_c0
  · exact w_c1
  · exact w_c2
  · exact w_c3
  · exact w_c4
  · exact w_c5
  · exact w_c6
  · exact w_c7
  · exact w_c8
  · exact w_c9
  · exact w_c10
  · exact w_c11
  · exact w_c12
  · exact w_c13
  · exact w_c14
  · exact w_c15
set_option maxRecDepth 65536 in
theorem w_t1 : (words1.take 24).all (fun c => isCode c || c.before args0 about1) = true := by decide +kernel
set_option maxRecDepth 65536 in
theorem w_t2 : ((words1.drop 24).take 24).all (fun c => isCode c || c.before args0 about1) = true := by decide +kernel
set_option maxRecDepth 65536 in
theorem w_t3 : (((words1.drop 24).drop 24).take 24).all (fun c => isCode c || c.before args0 about1) = true := by decide +kernel
set_option maxRecDepth 65536 in
theorem w_t4 : (((words1.drop 24).drop 24).drop 24).all (fun c => isCode c || c.before args0 about1) = true := by decide +kernel
theorem w_tables : (allAtoms (Jvm.Cond.code x code maxLocals ret :: tables_1)).before args0 about1 = true := by
  rw [allAtoms_all]
  show words1.all (fun c => c.before args0 about1) = true
  refine all_split ?_ w_codes
  rw [← List.take_append_drop 24 words1, List.all_append, w_t1, ← List.take_append_drop 24 (words1.drop 24), List.all_append, w_t2, ← List.take_append_drop 24 ((words1.drop 24).drop 24), List.all_append, w_t3, w_t4]
  rfl
set_option maxRecDepth 65536 in
theorem w_rest : rest_1_c.before args0 about1 = true := by decide +kernel
set_option maxRecDepth 65536 in
theorem w_case : (Jvm.Cond.and given_1 narrow_1).before args0 about1 = true := by decide +kernel
set_option maxRecDepth 65536 in
theorem w_consts : constsHeld consts_1 about1 := Jvm.Lit.constsHeldB_iff.mp (by decide +kernel)
theorem w_applies : (headSpec (Jvm.Cond.code x code maxLocals ret :: tables_1) room_1).applies x e0.platform about1 = true :=
  (Spec.applies_iff w_frames).mpr ⟨w_running, w_runnable, w_alone, w_named, w_hears, w_ripe, w_room, w_tables⟩
theorem atStart : AtStart classFile x code maxLocals ret World_1 tables_1 room_1 Calls_1 rest_1 Pre_1 launch0 p0 e0 about1 theMethod args0 below0 :=
  ⟨lists_1, trivial, launch0.admits_env _ _ _, launch0.least_env, fairChoices_fair.cas, fairChoices_fair.clock, w_frames, w_args, w_heap, w_applies, ⟨w_consts, trivial⟩, w_rest, w_case⟩
end start1
theorem witness_1 : WitnessClaimed_1 := ⟨start1.p0, start1.e0, start1.about1, start1.theMethod, start1.args0, start1.below0, start1.atStart⟩
end Jvm.Pilot.@@N@@
