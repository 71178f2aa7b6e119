import JvmDerived
import JvmDerived.Pilot.@@N@@Statement
import JvmDerived.Pilot.@@N@@Code
set_option linter.unusedVariables false
set_option linter.unusedSimpArgs false
/- laws to paste: Road.backArv, Road.codOf, Road.eqW (cut by pick.py; bodies as the Statement names them) -/
namespace Jvm.Pilot.@@N@@
namespace StrChars
open Jvm Sem ClassFile Op Lib Jvm.Stand Jvm.Free.XT Jvm.Free.ALB Jvm.Free.JM Jvm.Free
open Jvm.Lib.Cold (StaticIs)
/-- a char array whose places are chars -/
def Ch (a : Addr) (A : Cell) (U : State) : Prop := Arr .char a A U ∧ Typed .char A
theorem Ch.mv {a : Addr} {A : Cell} {U U' : State} (h : Ch a A U) (hal : U.vm.Alike U'.vm) (hh : U'.heap = U.heap) : Ch a A U' := ⟨h.1.mv hal hh, h.2⟩
theorem Ch.keep {a : Addr} {A : Cell} {U U' : State} (h : Ch a A U) (hal : U.vm.Alike U'.vm) (hk : U'.heap[a]? = some A) : Ch a A U' := ⟨h.1.keep hal hk, h.2⟩
/-- what place i of a char[]'s cell holds -/
def cv (A : Cell) (i : Nat) : Int32 := match A.slots[i]? with | some (.int x) => x | _ => 0
theorem Ch.get {a : Addr} {A : Cell} {U : State} (h : Ch a A U) {i : Nat} (hi : i < A.slots.size) : A.slots[i]? = some (.int (cv A i)) := by
  have e := Array.getElem?_eq_getElem hi
  have f := h.2 i _ e
  unfold cv; rw [e]
  generalize A.slots[i] = v at f
  cases v <;> simp [fits] at f ⊢
/-- the byte that i2b leaves of a char -/
def lo8 (x : Int32) : Int32 := x.toInt8.toInt32
theorem fits_lo8 (y : Int32) : fits .byte (.int (lo8 y)) = true := by
  have h1 := y.toInt8.le_toInt
  have h2 := y.toInt8.toInt_lt
  simp only [lo8, fits, Bool.and_eq_true, decide_eq_true_eq, Int32.le_iff_toInt_le, Int8.toInt_toInt32, show (-128 : Int32).toInt = -128 from by decide, show (127 : Int32).toInt = 127 from by decide]
  omega
/-- A' is A but that each place j of lo .. hi - 1 holds f j -/
def Laid (A A' : Cell) (lo hi : Nat) (f : Nat → Value) : Prop := A'.cls = A.cls ∧ A'.vm = A.vm ∧ A'.slots.size = A.slots.size ∧ ∀ i, A'.slots[i]? = if lo ≤ i ∧ i < hi then some (f i) else A.slots[i]?
theorem Laid.zero (A : Cell) (lo : Nat) (f : Nat → Value) : Laid A A lo (lo + 0) f := ⟨rfl, rfl, rfl, fun i => by rw [if_neg (by omega)]⟩
theorem Laid.step {A Ak : Cell} {lo k : Nat} {f : Nat → Value} {v : Value} (h : Laid A Ak lo k f) (hlo : lo ≤ k) (hk : k < Ak.slots.size) (hv : v = f k) : Laid A (Ak.setSlot k v) lo (k + 1) f := by
  refine ⟨h.1, h.2.1, by simpa [Cell.setSlot] using h.2.2.1, fun i => ?_⟩
  by_cases e : k = i
  · subst e; rw [Cell.slots_setSlot_self v hk, if_pos (by omega), hv]
  · rw [Cell.slots_setSlot_ne v e, h.2.2.2 i]
    by_cases q : lo ≤ i ∧ i < k
    · rw [if_pos q, if_pos (by omega)]
    · rw [if_neg q, if_neg (by omega)]
def U16 : String := "java/lang/StringUTF16"
namespace Cmp5
def yN : MethodName := ⟨"java/lang/StringUTF16", "compress", "([CI[BII)I"⟩
abbrev yB : ByteArray := jdk_52_method_21_code
theorem d0 : decode yB 0 = .ok (.iconst 0, 1) := by decide +kernel
theorem d1 : decode yB 1 = .ok (.istore 5, 2) := by decide +kernel
theorem d3 : decode yB 3 = .ok (.iload 5, 2) := by decide +kernel
theorem d5 : decode yB 5 = .ok (.iload 4, 2) := by decide +kernel
theorem d7 : decode yB 7 = .ok (.if_icmp (.ge) 37, 3) := by decide +kernel
theorem d10 : decode yB 10 = .ok (.aload_n 0, 1) := by decide +kernel
theorem d11 : decode yB 11 = .ok (.iload_n 1, 1) := by decide +kernel
theorem d12 : decode yB 12 = .ok (.caload, 1) := by decide +kernel
theorem d13 : decode yB 13 = .ok (.istore 6, 2) := by decide +kernel
theorem d15 : decode yB 15 = .ok (.iload 6, 2) := by decide +kernel
theorem d17 : decode yB 17 = .ok (.sipush 255, 3) := by decide +kernel
theorem d20 : decode yB 20 = .ok (.if_icmp (.le) 6, 3) := by decide +kernel
theorem d26 : decode yB 26 = .ok (.aload_n 2, 1) := by decide +kernel
theorem d27 : decode yB 27 = .ok (.iload_n 3, 1) := by decide +kernel
theorem d28 : decode yB 28 = .ok (.iload 6, 2) := by decide +kernel
theorem d30 : decode yB 30 = .ok (.i2b, 1) := by decide +kernel
theorem d31 : decode yB 31 = .ok (.bastore, 1) := by decide +kernel
theorem d32 : decode yB 32 = .ok (.iinc 1 1, 3) := by decide +kernel
theorem d35 : decode yB 35 = .ok (.iinc 3 1, 3) := by decide +kernel
theorem d38 : decode yB 38 = .ok (.iinc 5 1, 3) := by decide +kernel
theorem d41 : decode yB 41 = .ok (.goto (-38), 3) := by decide +kernel
theorem d44 : decode yB 44 = .ok (.iload 4, 2) := by decide +kernel
theorem d46 : decode yB 46 = .ok (.ireturn, 1) := by decide +kernel
def site : List Cond := []
def tab : Cond := tabOf yN yB 7 (some .int) site
def P (b : Addr) (A : Cell) (d : Addr) (B : Cell) (o q len : Nat) (args : Array Value) (s : State) : Prop := args = #[.ref b, .int (Int32.ofNat o), .ref d, .int (Int32.ofNat q), .int (Int32.ofNat len)] ∧ Ch b A s ∧ Arr .byte d B s ∧ b ≠ d ∧ o + len ≤ A.slots.size ∧ q + len ≤ B.slots.size ∧ ∀ i, i < len → ¬ 255 < cv A (o + i)
def E (b : Addr) (A : Cell) (d : Addr) (B : Cell) (o q len : Nat) (r : Option Value) (s u : State) : Prop := r = some (.int (Int32.ofNat len)) ∧ ∃ B', Put d B' s u ∧ Laid B B' q (q + len) (fun j => Value.int (lo8 (cv A (o + (j - q)))))
/-- no char of the range above 255: len; the places written hold each char's low byte -/
theorem law (l : Launch) (b : Addr) (A : Cell) (d : Addr) (B : Cell) (o q len : Nat) : Law l yN 5 5 0 0 yB 7 (some .int) site (P b A d B o q len) (E b A d B o q len) (copyLocs d q len) 0 0 := by
  refine Law.of_walk (plainFor_of_name (by decide +kernel)) (by decide +kernel) (by decide +kernel) (by decide) (fun _ _ h => by rw [h.1]; rfl) (fun _ U U' hal hh h => ⟨h.1, h.2.1.mv hal hh, h.2.2.1.mv hal hh, h.2.2.2⟩) (fun r U U' V V' h1 hal h2 h => ⟨h.1, h.2.elim fun B' q => ⟨B', q.1.mv h1 h2, q.2⟩⟩) ?_
  intro p e s m args below meth c s₁ X0 hexec hbytes hml hret hlk hnm hown hh0 W hP
  obtain ⟨rfl, hA, hB, hne, l1, l2, hp⟩ := hP
  have c1 : Steps p.tables e below (s₁.setTop (entryFrame m #[.ref b, .int (Int32.ofNat o), .ref d, .int (Int32.ofNat q), .int (Int32.ofNat len)] 7)) (s₁.setTop (mkF m 0 #[.val (.ref b), .val (.int (Int32.ofNat o)), .val (.ref d), .val (.int (Int32.ofNat q)), .val (.int (Int32.ofNat len)), .unset, .unset] [])) := entry rfl
  have hA0 := hA.1.mv X0.warmed.alike hh0
  have hB0 := hB.mv X0.warmed.alike hh0
  have a31 := hA.1.2.2.2
  have c2 : Steps p.tables e below (s₁.setTop (entryFrame m #[.ref b, .int (Int32.ofNat o), .ref d, .int (Int32.ofNat q), .int (Int32.ofNat len)] 7)) (s₁.setTop (mkF m 3 #[.val (.ref b), .val (.int (Int32.ofNat o)), .val (.ref d), .val (.int (Int32.ofNat q)), .val (.int (Int32.ofNat len)), .val (.int 0), .unset] [])) := c1.trans (by
    refine iconstV X0.here hexec rfl 0 (hb hbytes d0) (by decide) ?_
    refine XS.istore X0.here hexec rfl (hb hbytes d1) rfl rfl ?_
    exact Steps.refl _)
  have loop : ∀ (r i : Nat), i + r = len → ∀ (z : Slot), (z = .unset ∨ ∃ w, z = .val w ∧ w.category = 1) → ∀ (Tl : State) (Bk : Cell), Stand p l e { frames := 0, locals := 0, cells := 0, slots := 0 } s m #[.ref b, .int (Int32.ofNat o), .ref d, .int (Int32.ofNat q), .int (Int32.ofNat len)] below meth c Tl ([] ++ copyLocs d q i) 0 0 → Put d Bk s₁ Tl → Laid B Bk q (q + i) (fun j => Value.int (lo8 (cv A (o + (j - q))))) →
      Steps p.tables e below (s₁.setTop (entryFrame m #[.ref b, .int (Int32.ofNat o), .ref d, .int (Int32.ofNat q), .int (Int32.ofNat len)] 7)) (Tl.setTop (mkF m 3 #[.val (.ref b), .val (.int (Int32.ofNat (o + i))), .val (.ref d), .val (.int (Int32.ofNat (q + i))), .val (.int (Int32.ofNat len)), .val (.int (Int32.ofNat i)), z] [])) → ∃ (T' : State) (B' : Cell) (z' : Slot), Stand p l e { frames := 0, locals := 0, cells := 0, slots := 0 } s m #[.ref b, .int (Int32.ofNat o), .ref d, .int (Int32.ofNat q), .int (Int32.ofNat len)] below meth c T' ([] ++ copyLocs d q len) 0 0 ∧ Put d B' s₁ T' ∧ Laid B B' q (q + len) (fun j => Value.int (lo8 (cv A (o + (j - q))))) ∧
      Steps p.tables e below (s₁.setTop (entryFrame m #[.ref b, .int (Int32.ofNat o), .ref d, .int (Int32.ofNat q), .int (Int32.ofNat len)] 7)) (T'.setTop (mkF m 3 #[.val (.ref b), .val (.int (Int32.ofNat (o + len))), .val (.ref d), .val (.int (Int32.ofNat (q + len))), .val (.int (Int32.ofNat len)), .val (.int (Int32.ofNat len)), z'] [])) := by
    intro r
    induction r with
    | zero =>
      intro i hi z hz Tl Bk Xl pl fl cl
      have hil : i = len := by omega
      rw [hil] at Xl fl cl
      exact ⟨Tl, Bk, z, Xl, pl, fl, cl⟩
    | succ r ih =>
      intro i hi z hz Tl Bk Xl pl fl cl
      have all := X0.warmed.alike.symm.trans Xl.warmed.alike
      have hAl := hA0.keep all (pl.other hne hA0.1)
      have hBk := hB0.like all pl.1 fl.1 fl.2.1 fl.2.2.1
      have hlt : q + i < Bk.slots.size := by rw [fl.2.2.1]; omega
      have c3 : Steps p.tables e below (s₁.setTop (entryFrame m #[.ref b, .int (Int32.ofNat o), .ref d, .int (Int32.ofNat q), .int (Int32.ofNat len)] 7)) (Tl.setTop (mkF m 12 #[.val (.ref b), .val (.int (Int32.ofNat (o + i))), .val (.ref d), .val (.int (Int32.ofNat (q + i))), .val (.int (Int32.ofNat len)), .val (.int (Int32.ofNat i)), z] [.int (Int32.ofNat (o + i)), .ref b])) := cl.trans (by
        refine XS.iload Xl.here hexec rfl (hb hbytes d3) rfl ?_
        refine XS.iload Xl.here hexec rfl (hb hbytes d5) rfl ?_
        refine XS.icmpNo Xl.here hexec rfl (hb hbytes d7) rfl (ii_ge_f (lt32 (by omega) (by omega))) ?_
        refine XS.aloadN Xl.here hexec rfl (hb hbytes d10) rfl rfl ?_
        refine XS.iloadN Xl.here hexec rfl (hb hbytes d11) rfl ?_
        exact Steps.refl _)
      have c4 : Steps p.tables e below (s₁.setTop (entryFrame m #[.ref b, .int (Int32.ofNat o), .ref d, .int (Int32.ofNat q), .int (Int32.ofNat len)] 7)) (Tl.setTop (mkF m 13 #[.val (.ref b), .val (.int (Int32.ofNat (o + i))), .val (.ref d), .val (.int (Int32.ofNat (q + i))), .val (.int (Int32.ofNat len)), .val (.int (Int32.ofNat i)), z] [.int (cv A (o + i))])) := c3.trans (by
        refine Xl.aget hexec hAl rfl (hA.get (i := o + i) (by omega)) rfl rfl (hb hbytes d12) ?_
        exact Steps.refl _)
      have c5 : Steps p.tables e below (s₁.setTop (entryFrame m #[.ref b, .int (Int32.ofNat o), .ref d, .int (Int32.ofNat q), .int (Int32.ofNat len)] 7)) (Tl.setTop (mkF m 15 #[.val (.ref b), .val (.int (Int32.ofNat (o + i))), .val (.ref d), .val (.int (Int32.ofNat (q + i))), .val (.int (Int32.ofNat len)), .val (.int (Int32.ofNat i)), .val (.int (cv A (o + i)))] [])) := c4.trans (by
        refine XS.istoreS Xl.here hexec rfl (hb hbytes d13) rfl rfl hz ?_
        exact Steps.refl _)
      have c6 : Steps p.tables e below (s₁.setTop (entryFrame m #[.ref b, .int (Int32.ofNat o), .ref d, .int (Int32.ofNat q), .int (Int32.ofNat len)] 7)) (Tl.setTop (mkF m 31 #[.val (.ref b), .val (.int (Int32.ofNat (o + i))), .val (.ref d), .val (.int (Int32.ofNat (q + i))), .val (.int (Int32.ofNat len)), .val (.int (Int32.ofNat i)), .val (.int (cv A (o + i)))] [.int (lo8 (cv A (o + i))), .int (Int32.ofNat (q + i)), .ref d])) := c5.trans (by
        refine XS.iload Xl.here hexec rfl (hb hbytes d15) rfl ?_
        refine sipushV Xl.here hexec rfl 255 (hb hbytes d17) (by decide) ?_
        refine XS.icmpYes Xl.here hexec rfl (pc0 := 20) rfl (hb hbytes d20) rfl (ii_le_t (hp i (by omega))) (by decide) rfl ?_
        refine XS.aloadN Xl.here hexec rfl (hb hbytes d26) rfl rfl ?_
        refine XS.iloadN Xl.here hexec rfl (hb hbytes d27) rfl ?_
        refine XS.iload Xl.here hexec rfl (hb hbytes d28) rfl ?_
        refine i2b Xl.here hexec rfl (hb hbytes d30) rfl ?_
        exact Steps.refl _)
      obtain ⟨T7, X7, p7, st7⟩ := Xl.aput hexec hBk rfl hlt rfl (fits_lo8 (cv A (o + i))) (g := (mkF m 31 #[.val (.ref b), .val (.int (Int32.ofNat (o + i))), .val (.ref d), .val (.int (Int32.ofNat (q + i))), .val (.int (Int32.ofNat len)), .val (.int (Int32.ofNat i)), .val (.int (cv A (o + i)))] [.int (lo8 (cv A (o + i))), .int (Int32.ofNat (q + i)), .ref d])) rfl (rest := []) rfl (hb hbytes d31)
      have c8 : Steps p.tables e below (s₁.setTop (entryFrame m #[.ref b, .int (Int32.ofNat o), .ref d, .int (Int32.ofNat q), .int (Int32.ofNat len)] 7)) (T7.setTop (mkF m 32 #[.val (.ref b), .val (.int (Int32.ofNat (o + i))), .val (.ref d), .val (.int (Int32.ofNat (q + i))), .val (.int (Int32.ofNat len)), .val (.int (Int32.ofNat i)), .val (.int (cv A (o + i)))] [])) := c6.trans (st7 _ (Steps.refl _))
      have c9 : Steps p.tables e below (s₁.setTop (entryFrame m #[.ref b, .int (Int32.ofNat o), .ref d, .int (Int32.ofNat q), .int (Int32.ofNat len)] 7)) (T7.setTop (mkF m 3 #[.val (.ref b), .val (.int (Int32.ofNat (o + i) + 1)), .val (.ref d), .val (.int (Int32.ofNat (q + i) + 1)), .val (.int (Int32.ofNat len)), .val (.int (Int32.ofNat i + 1)), .val (.int (cv A (o + i)))] [])) := c8.trans (by
        refine iincV X7.here hexec rfl 1 (hb hbytes d32) (by decide) rfl rfl ?_
        refine iincV X7.here hexec rfl 1 (hb hbytes d35) (by decide) rfl rfl ?_
        refine iincV X7.here hexec rfl 1 (hb hbytes d38) (by decide) rfl rfl ?_
        refine XS.goto X7.here hexec rfl (pc0 := 41) rfl (hb hbytes d41) (by decide) rfl ?_
        exact Steps.refl _)
      have c10 : Steps p.tables e below (s₁.setTop (entryFrame m #[.ref b, .int (Int32.ofNat o), .ref d, .int (Int32.ofNat q), .int (Int32.ofNat len)] 7)) (T7.setTop (mkF m 3 #[.val (.ref b), .val (.int (Int32.ofNat (o + (i + 1)))), .val (.ref d), .val (.int (Int32.ofNat (q + (i + 1)))), .val (.int (Int32.ofNat len)), .val (.int (Int32.ofNat (i + 1))), .val (.int (cv A (o + i)))] [])) := by
        have := c9
        rw [succ32, succ32, succ32] at this
        exact this
      exact ih (i + 1) (by omega) _ (Or.inr ⟨_, rfl, rfl⟩) T7 _ (by rw [copyLocs_step, ← List.append_assoc]; exact X7) (pl.trans p7) (fl.step (by omega) hlt (by simp)) c10
  obtain ⟨T9, B9, z9, X9, p9, f9, g9⟩ := loop len 0 (by omega) .unset (Or.inl rfl) s₁ B (by simpa [copyLocs] using X0) ⟨hB0.1, fun _ _ => rfl, rfl⟩ (Laid.zero _ _ _) c2
  have c11 : Steps p.tables e below (s₁.setTop (entryFrame m #[.ref b, .int (Int32.ofNat o), .ref d, .int (Int32.ofNat q), .int (Int32.ofNat len)] 7)) (T9.setTop (mkF m 46 #[.val (.ref b), .val (.int (Int32.ofNat (o + len))), .val (.ref d), .val (.int (Int32.ofNat (q + len))), .val (.int (Int32.ofNat len)), .val (.int (Int32.ofNat len)), z9] [.int (Int32.ofNat len)])) := g9.trans (by
    refine XS.iload X9.here hexec rfl (hb hbytes d3) rfl ?_
    refine XS.iload X9.here hexec rfl (hb hbytes d5) rfl ?_
    refine XS.icmpYes X9.here hexec rfl (pc0 := 7) rfl (hb hbytes d7) rfl (ii_ge_t (nlt32 (by omega) (Nat.le_refl _))) (by decide) rfl ?_
    refine XS.iload X9.here hexec rfl (hb hbytes d44) rfl ?_
    exact Steps.refl _)
  exact ⟨T9, some (.int (Int32.ofNat len)), _, _, _, X9, by simp, rfl, rfl, (fun h => by cases h), ⟨rfl, B9, p9.from hh0, f9⟩, fun fs hl => c11.trans (X9.ireturnOut hexec hret rfl (Or.inl rfl) (hb hbytes d46) hl)⟩
end Cmp5
namespace Cmp3
def yN : MethodName := ⟨"java/lang/StringUTF16", "compress", "([CII)[B"⟩
abbrev yB : ByteArray := jdk_52_method_16_code
theorem d0 : decode yB 0 = .ok (.iload_n 2, 1) := by decide +kernel
theorem d1 : decode yB 1 = .ok (.newarray .byte, 2) := by decide +kernel
theorem d3 : decode yB 3 = .ok (.astore_n 3, 1) := by decide +kernel
theorem d4 : decode yB 4 = .ok (.aload_n 0, 1) := by decide +kernel
theorem d5 : decode yB 5 = .ok (.iload_n 1, 1) := by decide +kernel
theorem d6 : decode yB 6 = .ok (.aload_n 3, 1) := by decide +kernel
theorem d7 : decode yB 7 = .ok (.iconst 0, 1) := by decide +kernel
theorem d8 : decode yB 8 = .ok (.iload_n 2, 1) := by decide +kernel
theorem d9 : decode yB 9 = .ok (.invokestatic 115, 3) := by decide +kernel
theorem d12 : decode yB 12 = .ok (.istore 4, 2) := by decide +kernel
theorem d14 : decode yB 14 = .ok (.iload 4, 2) := by decide +kernel
theorem d16 : decode yB 16 = .ok (.iload_n 2, 1) := by decide +kernel
theorem d17 : decode yB 17 = .ok (.if_icmp (.eq) 40, 3) := by decide +kernel
theorem d57 : decode yB 57 = .ok (.aload_n 3, 1) := by decide +kernel
theorem d58 : decode yB 58 = .ok (.areturn, 1) := by decide +kernel
def site : List Cond := [.arrayClass .byte, Cmp5.tab] ++ staticW U16 115 Cmp5.yN
def tab : Cond := tabOf yN yB 6 (some (.array .byte)) site
def P (b : Addr) (A : Cell) (o len : Nat) (args : Array Value) (s : State) : Prop := args = #[.ref b, .int (Int32.ofNat o), .int (Int32.ofNat len)] ∧ Ch b A s ∧ o + len ≤ A.slots.size ∧ len ≤ 536870912 ∧ ∀ i, i < len → ¬ 255 < cv A (o + i)
def E (b : Addr) (A : Cell) (o len : Nat) (r : Option Value) (s u : State) : Prop := NewArr .byte "[B" len (fun j => .int (lo8 (cv A (o + j)))) r s u ∧ u.heap.size = s.heap.size + 1
/-- no char of the range above 255: a new byte[] of their low bytes -/
theorem law (l : Launch) (b : Addr) (A : Cell) (o len : Nat) : Law l yN 3 3 1 18 yB 6 (some (.array .byte)) site (P b A o len) (E b A o len) [] 1 len := by
  refine Law.of_walk (plainFor_of_name (by decide +kernel)) (by decide +kernel) (by decide +kernel) (by decide) (fun _ _ h => by rw [h.1]; rfl) (fun _ U U' hal hh h => ⟨h.1, h.2.1.mv hal hh, h.2.2⟩) (fun r U U' V V' h1 hal h2 h => ⟨NewArr.mv r U U' V V' h1 hal h2 h.1, by rw [h1, h2]; exact h.2⟩) ?_
  intro p e s m args below meth c s₁ X0 hexec hbytes hml hret hlk hnm hown hh0 W hP
  obtain ⟨rfl, hA, l1, l2, hp⟩ := hP
  have a31 := hA.1.2.2.2
  have c1 : Steps p.tables e below (s₁.setTop (entryFrame m #[.ref b, .int (Int32.ofNat o), .int (Int32.ofNat len)] 6)) (s₁.setTop (mkF m 0 #[.val (.ref b), .val (.int (Int32.ofNat o)), .val (.int (Int32.ofNat len)), .unset, .unset, .unset] [])) := entry rfl
  have c2 : Steps p.tables e below (s₁.setTop (entryFrame m #[.ref b, .int (Int32.ofNat o), .int (Int32.ofNat len)] 6)) (s₁.setTop (mkF m 1 #[.val (.ref b), .val (.int (Int32.ofNat o)), .val (.int (Int32.ofNat len)), .unset, .unset, .unset] [.int (Int32.ofNat len)])) := c1.trans (by
    refine XS.iloadN X0.here hexec rfl (hb hbytes d0) rfl ?_
    exact Steps.refl _)
  obtain ⟨T3, B3, X3, ba3, bs3, bv3, bh3, bf3, st3⟩ := X0.anew hexec (atype := .byte) (wk W (.arrayClass .byte)) rfl (by show len * 1 ≤ _; omega) (by omega) (g := (mkF m 1 #[.val (.ref b), .val (.int (Int32.ofNat o)), .val (.int (Int32.ofNat len)), .unset, .unset, .unset] [.int (Int32.ofNat len)])) rfl (hb hbytes d1) (rest := []) rfl (Nat.le_refl _) (by show 0 + len ≤ len; omega)
  rw [hh0] at ba3 st3
  have kp3 : XT.Kept s T3 := (XT.Kept.of_eq hh0).push bh3
  have hA3 := hA.keep X3.warmed.alike (kp3 _ _ hA.1.1)
  have hne : b ≠ s.heap.size := hA.1.ne
  have c4 : Steps p.tables e below (s₁.setTop (entryFrame m #[.ref b, .int (Int32.ofNat o), .int (Int32.ofNat len)] 6)) (T3.setTop (mkF m 3 #[.val (.ref b), .val (.int (Int32.ofNat o)), .val (.int (Int32.ofNat len)), .unset, .unset, .unset] [.ref s.heap.size])) := c2.trans (st3 _ (Steps.refl _))
  have c5 : Steps p.tables e below (s₁.setTop (entryFrame m #[.ref b, .int (Int32.ofNat o), .int (Int32.ofNat len)] 6)) (T3.setTop (mkF m 9 #[.val (.ref b), .val (.int (Int32.ofNat o)), .val (.int (Int32.ofNat len)), .val (.ref s.heap.size), .unset, .unset] [.int (Int32.ofNat len), .int 0, .ref s.heap.size, .int (Int32.ofNat o), .ref b])) := c4.trans (by
    refine XS.astoreN X3.here hexec rfl (hb hbytes d3) rfl rfl rfl ?_
    refine XS.aloadN X3.here hexec rfl (hb hbytes d4) rfl rfl ?_
    refine XS.iloadN X3.here hexec rfl (hb hbytes d5) rfl ?_
    refine XS.aloadN X3.here hexec rfl (hb hbytes d6) rfl rfl ?_
    refine iconstV X3.here hexec rfl 0 (hb hbytes d7) (by decide) ?_
    refine XS.iloadN X3.here hexec rfl (hb hbytes d8) rfl ?_
    exact Steps.refl _)
  obtain ⟨v6, T6, X6, E6, g6⟩ := X3.callS hexec (Cmp5.law l b A s.heap.size B3 o 0 len) hown (wks W (staticW U16 115 Cmp5.yN)) (wk W Cmp5.tab) (W := 0) (Nat.le_of_ble_eq_true rfl) (Nat.le_of_ble_eq_true rfl) (Nat.le_refl _) (by show 0 + len + 0 ≤ len; omega) (g := (mkF m 9 #[.val (.ref b), .val (.int (Int32.ofNat o)), .val (.int (Int32.ofNat len)), .val (.ref s.heap.size), .unset, .unset] [.int (Int32.ofNat len), .int (Int32.ofNat 0), .ref s.heap.size, .int (Int32.ofNat o), .ref b])) rfl (by rw [hml]; rfl) c5 (argsL := [.ref b, .int (Int32.ofNat o), .ref s.heap.size, .int (Int32.ofNat 0), .int (Int32.ofNat len)]) (rest := []) rfl rfl (by show 2 * 0 + 0 ≤ _; decide) (hb hbytes d9) (⟨rfl, hA3, ba3, hne, l1, by rw [bs3]; simp, hp⟩)
  obtain ⟨rfl, B6, p6, f6⟩ := E6
  have c7 : Steps p.tables e below (s₁.setTop (entryFrame m #[.ref b, .int (Int32.ofNat o), .int (Int32.ofNat len)] 6)) (T6.setTop (mkF m 12 #[.val (.ref b), .val (.int (Int32.ofNat o)), .val (.int (Int32.ofNat len)), .val (.ref s.heap.size), .unset, .unset] [.int (Int32.ofNat len)])) := g6
  have c8 : Steps p.tables e below (s₁.setTop (entryFrame m #[.ref b, .int (Int32.ofNat o), .int (Int32.ofNat len)] 6)) (T6.setTop (mkF m 58 #[.val (.ref b), .val (.int (Int32.ofNat o)), .val (.int (Int32.ofNat len)), .val (.ref s.heap.size), .val (.int (Int32.ofNat len)), .unset] [.ref s.heap.size])) := c7.trans (by
    refine XS.istore X6.here hexec rfl (hb hbytes d12) rfl rfl ?_
    refine XS.iload X6.here hexec rfl (hb hbytes d14) rfl ?_
    refine XS.iloadN X6.here hexec rfl (hb hbytes d16) rfl ?_
    refine XS.icmpYes X6.here hexec rfl (pc0 := 17) rfl (hb hbytes d17) rfl (ii_eq_t rfl) (by decide) rfl ?_
    refine XS.aloadN X6.here hexec rfl (hb hbytes d57) rfl rfl ?_
    exact Steps.refl _)
  have X8 := X6.wide (L' := []) (cells' := 1) (slots' := len) (fun x hx hlt => by
    simp only [List.nil_append, copyLocs, List.mem_map, List.mem_range] at hx
    obtain ⟨i, -, rfl⟩ := hx
    exact absurd hlt (Nat.lt_irrefl _)) (Nat.le_refl _) (by omega)
  exact ⟨T6, some (.ref s.heap.size), _, _, _, X8, rfl, rfl, rfl, (fun h => by cases h), ⟨⟨rfl, B6, ba3.like (X3.warmed.alike.symm.trans X6.warmed.alike) p6.1 f6.1 f6.2.1 f6.2.2.1, f6.2.1.trans bv3, by rw [X6.warmed.alike.findClass, f6.1]; exact bf3, by rw [f6.2.2.1, bs3]; simp, fun j hj => by rw [f6.2.2.2 j, if_pos (by omega)]; rfl, kp3.put p6 (Nat.le_refl _)⟩, by rw [p6.2.2, bh3, hh0]; simp⟩, fun fs hl => c8.trans (X8.areturnOut hexec rfl hret rfl (hb hbytes d58) hl)⟩
end Cmp3
namespace CodL
def yN : MethodName := ⟨"java/lang/StringUTF16", "coderFromArrayLen", "([BI)B"⟩
abbrev yB : ByteArray := jdk_52_method_15_code
theorem d0 : decode yB 0 = .ok (.iload_n 1, 1) := by decide +kernel
theorem d1 : decode yB 1 = .ok (.aload_n 0, 1) := by decide +kernel
theorem d2 : decode yB 2 = .ok (.arraylength, 1) := by decide +kernel
theorem d3 : decode yB 3 = .ok (.isub, 1) := by decide +kernel
theorem d4 : decode yB 4 = .ok (.bipush 31, 2) := by decide +kernel
theorem d6 : decode yB 6 = .ok (.iushr, 1) := by decide +kernel
theorem d7 : decode yB 7 = .ok (.i2b, 1) := by decide +kernel
theorem d8 : decode yB 8 = .ok (.ireturn, 1) := by decide +kernel
def site : List Cond := []
def tab : Cond := tabOf yN yB 2 (some .byte) site
def P (d : Addr) (B : Cell) (args : Array Value) (s : State) : Prop := args = #[.ref d, .int (Int32.ofNat B.slots.size)] ∧ Arr .byte d B s
def E (r : Option Value) (s u : State) : Prop := XT.PureE (some (.int 0)) r s u
/-- an array as long as the number of chars: LATIN1 -/
theorem law (l : Launch) (d : Addr) (B : Cell) : Law l yN 2 2 0 0 yB 2 (some .byte) site (P d B) E [] 0 0 := by
  refine Law.of_walk (plainFor_of_name (by decide +kernel)) (by decide +kernel) (by decide +kernel) (by decide) (fun _ _ h => by rw [h.1]; rfl) (fun _ U U' hal hh h => ⟨h.1, h.2.mv hal hh⟩) (fun r U U' V V' h1 hal h2 h => XT.PureE.mv r U U' V V' h1 hal h2 h) ?_
  intro p e s m args below meth c s₁ X0 hexec hbytes hml hret hlk hnm hown hh0 W hP
  obtain ⟨rfl, hB⟩ := hP
  have hB0 := hB.mv X0.warmed.alike hh0
  have c1 : Steps p.tables e below (s₁.setTop (entryFrame m #[.ref d, .int (Int32.ofNat B.slots.size)] 2)) (s₁.setTop (mkF m 0 #[.val (.ref d), .val (.int (Int32.ofNat B.slots.size))] [])) := entry rfl
  have c2 : Steps p.tables e below (s₁.setTop (entryFrame m #[.ref d, .int (Int32.ofNat B.slots.size)] 2)) (s₁.setTop (mkF m 2 #[.val (.ref d), .val (.int (Int32.ofNat B.slots.size))] [.ref d, .int (Int32.ofNat B.slots.size)])) := c1.trans (by
    refine XS.iloadN X0.here hexec rfl (hb hbytes d0) rfl ?_
    refine XS.aloadN X0.here hexec rfl (hb hbytes d1) rfl rfl ?_
    exact Steps.refl _)
  have c3 : Steps p.tables e below (s₁.setTop (entryFrame m #[.ref d, .int (Int32.ofNat B.slots.size)] 2)) (s₁.setTop (mkF m 8 #[.val (.ref d), .val (.int (Int32.ofNat B.slots.size))] [.int (lo8 (ushr (Int32.ofNat B.slots.size - Int32.ofNat B.slots.size) 31))])) := c2.trans (by
    refine X0.alen hexec hB0 rfl rfl (hb hbytes d2) ?_
    refine XS.isub X0.here hexec rfl (hb hbytes d3) rfl ?_
    refine bipushV X0.here hexec rfl 31 (hb hbytes d4) (by decide) ?_
    refine iushr X0.here hexec rfl (hb hbytes d6) rfl ?_
    refine i2b X0.here hexec rfl (hb hbytes d7) rfl ?_
    exact Steps.refl _)
  have e0 : lo8 (ushr (Int32.ofNat B.slots.size - Int32.ofNat B.slots.size) 31) = 0 := by rw [Int32.sub_self]; decide
  rw [e0] at c3
  exact ⟨s₁, some (.int 0), _, _, _, X0, rfl, rfl, rfl, (fun h => by cases h), ⟨rfl, hh0⟩, fun fs hl => c3.trans (X0.ireturnOut hexec hret rfl (Or.inr (Or.inr (Or.inl rfl))) (hb hbytes d8) hl)⟩
end CodL
/-- the String at a is Latin-1 over a new byte[] (the heap's one new cell): the low bytes of the len chars of A from o on; every cell but a is kept -/
def Got (a : Addr) (D : Cell) (fV fC : Field) (A : Cell) (o len : Nat) (r : Option Value) (s u : State) : Prop := r = none ∧ ∃ D' V : Cell, Blank "java/lang/String" a D' u ∧ Same D D' [fV.slot, fC.slot] ∧ D'.slots[fV.slot]? = some (.ref s.heap.size) ∧ D'.slots[fC.slot]? = some (.int 0) ∧ Arr .byte s.heap.size V u ∧ V.vm = .none ∧ u.vm.findClass "[B" = some V.cls ∧ V.slots.size = len ∧ (∀ j, j < len → V.slots[j]? = some (.int (lo8 (cv A (o + j))))) ∧ (∀ (y : Addr) (c : Cell), y ≠ a → s.heap[y]? = some c → u.heap[y]? = some c) ∧ u.heap.size = s.heap.size + 1
theorem Got.mv {a : Addr} {D A : Cell} {fV fC : Field} {o len : Nat} : ∀ r (U U' V V' : State), U'.heap = U.heap → V.vm.Alike V'.vm → V'.heap = V.heap → Got a D fV fC A o len r U V → Got a D fV fC A o len r U' V' :=
  fun r U U' V V' h1 hal h2 ⟨e0, D', X, a1, a2, a3, a4, a5, a6, a7, a8, a9, a10, a11⟩ => ⟨e0, D', X, a1.mv hal h2, a2, by rw [h1]; exact a3, a4, by rw [h1]; exact a5.mv hal h2, a6, by rw [hal.findClass]; exact a7, a8, a9, by rw [h1, h2]; exact a10, by rw [h1, h2]; exact a11⟩
namespace New4
def yN : MethodName := ⟨"java/lang/String", "<init>", "([CIILjava/lang/Void;)V"⟩
abbrev yB : ByteArray := jdk_42_method_149_code
theorem d0 : decode yB 0 = .ok (.aload_n 0, 1) := by decide +kernel
theorem d1 : decode yB 1 = .ok (.invokespecial 1, 3) := by decide +kernel
theorem d4 : decode yB 4 = .ok (.iload_n 3, 1) := by decide +kernel
theorem d5 : decode yB 5 = .ok (.ifCond (.ne) 22, 3) := by decide +kernel
theorem d27 : decode yB 27 = .ok (.getstatic 38, 3) := by decide +kernel
theorem d30 : decode yB 30 = .ok (.ifCond (.eq) 28, 3) := by decide +kernel
theorem d33 : decode yB 33 = .ok (.aload_n 1, 1) := by decide +kernel
theorem d34 : decode yB 34 = .ok (.iload_n 2, 1) := by decide +kernel
theorem d35 : decode yB 35 = .ok (.iload_n 3, 1) := by decide +kernel
theorem d36 : decode yB 36 = .ok (.invokestatic 177, 3) := by decide +kernel
theorem d39 : decode yB 39 = .ok (.astore 5, 2) := by decide +kernel
theorem d41 : decode yB 41 = .ok (.aload_n 0, 1) := by decide +kernel
theorem d42 : decode yB 42 = .ok (.aload 5, 2) := by decide +kernel
theorem d44 : decode yB 44 = .ok (.iload_n 3, 1) := by decide +kernel
theorem d45 : decode yB 45 = .ok (.invokestatic 47, 3) := by decide +kernel
theorem d48 : decode yB 48 = .ok (.putfield 15, 3) := by decide +kernel
theorem d51 : decode yB 51 = .ok (.aload_n 0, 1) := by decide +kernel
theorem d52 : decode yB 52 = .ok (.aload 5, 2) := by decide +kernel
theorem d54 : decode yB 54 = .ok (.putfield 9, 3) := by decide +kernel
theorem d57 : decode yB 57 = .ok (.return_, 1) := by decide +kernel
def site : List Cond := [.fieldLink "java/lang/String" 38 "java/lang/String" "COMPACT_STRINGS" "Z", Cmp3.tab, CodL.tab, .laysFinal "java/lang/String" "java/lang/String" "value" "[B", .fieldLink "java/lang/String" 9 "java/lang/String" "value" "[B", .laysFinal "java/lang/String" "java/lang/String" "coder" "B", .fieldLink "java/lang/String" 15 "java/lang/String" "coder" "B"] ++ objW "java/lang/String" 1 ++ staticW "java/lang/String" 177 Cmp3.yN ++ staticW "java/lang/String" 47 CodL.yN
def tab : Cond := tabOf yN yB 6 none site
def P (a : Addr) (D : Cell) (fV fC : Field) (b : Addr) (A : Cell) (z : Int32) (o len : Nat) (args : Array Value) (s : State) : Prop := args = #[.ref a, .ref b, .int (Int32.ofNat o), .int (Int32.ofNat len), .null] ∧ Blank "java/lang/String" a D s ∧ Found "java/lang/String" "value" "[B" fV s ∧ Found "java/lang/String" "coder" "B" fC s ∧ Ch b A s ∧ StaticIs s "java/lang/String" "COMPACT_STRINGS" "Z" (.int z) ∧ ¬ z = 0 ∧ 0 < len ∧ o + len ≤ A.slots.size ∧ len ≤ 536870912 ∧ ∀ i, i < len → ¬ 255 < cv A (o + i)
def E (a : Addr) (D : Cell) (fV fC : Field) (A : Cell) (o len : Nat) (r : Option Value) (s u : State) : Prop := Got a D fV fC A o len r s u
/-- len > 0, no char of the range above 255: a Latin-1 String of their low bytes -/
theorem law (l : Launch) (a : Addr) (D : Cell) (fV fC : Field) (b : Addr) (A : Cell) (z : Int32) (o len : Nat) : Law l yN 5 4 2 35 yB 6 none site (P a D fV fC b A z o len) (E a D fV fC A o len) [⟨a, fC.slot⟩, ⟨a, fV.slot⟩] 1 len := by
  refine Law.of_walk (plainFor_of_name (by decide +kernel)) (by decide +kernel) (by decide +kernel) (by decide) (fun _ _ h => by rw [h.1]; rfl) (fun _ U U' hal hh h => ⟨h.1, h.2.1.mv hal hh, h.2.2.1.al hal, h.2.2.2.1.al hal, h.2.2.2.2.1.mv hal hh, h.2.2.2.2.2.1.there hal hh, h.2.2.2.2.2.2⟩) (fun r U U' V V' h1 hal h2 h => Got.mv r U U' V V' h1 hal h2 h) ?_
  intro p e s m args below meth c s₁ X0 hexec hbytes hml hret hlk hnm hown hh0 W hP
  obtain ⟨rfl, hB, f1, f2, hA, s1, hz, l0, l1, l2, hp⟩ := hP
  have a31 := hA.1.2.2.2
  have c1 : Steps p.tables e below (s₁.setTop (entryFrame m #[.ref a, .ref b, .int (Int32.ofNat o), .int (Int32.ofNat len), .null] 6)) (s₁.setTop (mkF m 0 #[.val (.ref a), .val (.ref b), .val (.int (Int32.ofNat o)), .val (.int (Int32.ofNat len)), .val .null, .unset] [])) := entry rfl
  have c2 : Steps p.tables e below (s₁.setTop (entryFrame m #[.ref a, .ref b, .int (Int32.ofNat o), .int (Int32.ofNat len), .null] 6)) (s₁.setTop (mkF m 1 #[.val (.ref a), .val (.ref b), .val (.int (Int32.ofNat o)), .val (.int (Int32.ofNat len)), .val .null, .unset] [.ref a])) := c1.trans (by
    refine XS.aloadN X0.here hexec rfl (hb hbytes d0) rfl rfl ?_
    exact Steps.refl _)
  obtain ⟨T3, X3, q3, st3⟩ := X0.oinit hexec hown (wks W (objW "java/lang/String" 1)) (g := (mkF m 1 #[.val (.ref a), .val (.ref b), .val (.int (Int32.ofNat o)), .val (.int (Int32.ofNat len)), .val .null, .unset] [.ref a])) rfl (by rw [hml]; rfl) (rest := []) rfl (hb hbytes d1) (W := 0) (by show 2 * 0 + 0 ≤ _; decide) (Nat.le_of_ble_eq_true rfl) (Nat.le_of_ble_eq_true rfl)
  have hh3 := q3.trans hh0
  have c4 : Steps p.tables e below (s₁.setTop (entryFrame m #[.ref a, .ref b, .int (Int32.ofNat o), .int (Int32.ofNat len), .null] 6)) (T3.setTop (mkF m 27 #[.val (.ref a), .val (.ref b), .val (.int (Int32.ofNat o)), .val (.int (Int32.ofNat len)), .val .null, .unset] [])) := (c2.trans (st3 _ (Steps.refl _))).trans (by
    refine XS.iloadN X3.here hexec rfl (hb hbytes d4) rfl ?_
    refine XS.ifYes X3.here hexec rfl (pc0 := 5) rfl (hb hbytes d5) rfl (i0_ne_t (nz32 (by omega) l0)) (by decide) rfl ?_
    exact Steps.refl _)
  obtain ⟨T5, X5, q5, st5⟩ := X3.sget hexec hown (wk W (.fieldLink "java/lang/String" 38 "java/lang/String" "COMPACT_STRINGS" "Z")) s1 (fun _ _ h => by rw [hh3]; exact h) (g := (mkF m 27 #[.val (.ref a), .val (.ref b), .val (.int (Int32.ofNat o)), .val (.int (Int32.ofNat len)), .val .null, .unset] [])) rfl (hb hbytes d27)
  have hh5 := q5.trans hh3
  have c6 : Steps p.tables e below (s₁.setTop (entryFrame m #[.ref a, .ref b, .int (Int32.ofNat o), .int (Int32.ofNat len), .null] 6)) (T5.setTop (mkF m 30 #[.val (.ref a), .val (.ref b), .val (.int (Int32.ofNat o)), .val (.int (Int32.ofNat len)), .val .null, .unset] [.int z])) := c4.trans (st5 _ (Steps.refl _))
  have c7 : Steps p.tables e below (s₁.setTop (entryFrame m #[.ref a, .ref b, .int (Int32.ofNat o), .int (Int32.ofNat len), .null] 6)) (T5.setTop (mkF m 36 #[.val (.ref a), .val (.ref b), .val (.int (Int32.ofNat o)), .val (.int (Int32.ofNat len)), .val .null, .unset] [.int (Int32.ofNat len), .int (Int32.ofNat o), .ref b])) := c6.trans (by
    refine XS.ifNo X5.here hexec rfl (hb hbytes d30) rfl (i0_eq_f hz) ?_
    refine XS.aloadN X5.here hexec rfl (hb hbytes d33) rfl rfl ?_
    refine XS.iloadN X5.here hexec rfl (hb hbytes d34) rfl ?_
    refine XS.iloadN X5.here hexec rfl (hb hbytes d35) rfl ?_
    exact Steps.refl _)
  obtain ⟨v8, T8, X8, E8, g8⟩ := X5.callS hexec (Cmp3.law l b A o len) hown (wks W (staticW "java/lang/String" 177 Cmp3.yN)) (wk W Cmp3.tab) (W := 0) (Nat.le_of_ble_eq_true rfl) (Nat.le_of_ble_eq_true rfl) (Nat.le_refl _) (by show 0 + len ≤ len; omega) (g := (mkF m 36 #[.val (.ref a), .val (.ref b), .val (.int (Int32.ofNat o)), .val (.int (Int32.ofNat len)), .val .null, .unset] [.int (Int32.ofNat len), .int (Int32.ofNat o), .ref b])) rfl (by rw [hml]; rfl) c7 (argsL := [.ref b, .int (Int32.ofNat o), .int (Int32.ofNat len)]) (rest := []) rfl rfl (by show 2 * 0 + 0 ≤ _; decide) (hb hbytes d36) (⟨rfl, hA.mv X5.warmed.alike hh5, l1, l2, hp⟩)
  obtain ⟨e8, z8⟩ := E8
  obtain ⟨rfl, N, n1, n2, n3, n4, n5, n6⟩ := NewArr.mv _ T5 s _ _ hh5.symm (Vm.Alike.refl _) rfl e8
  rw [hh5] at z8
  have hB1 := hB.keep X8.warmed.alike (n6 _ _ hB.1)
  have hne : s.heap.size ≠ a := (Nat.ne_of_lt (Array.getElem?_eq_some_iff.mp hB.1).1).symm
  have c9 : Steps p.tables e below (s₁.setTop (entryFrame m #[.ref a, .ref b, .int (Int32.ofNat o), .int (Int32.ofNat len), .null] 6)) (T8.setTop (mkF m 39 #[.val (.ref a), .val (.ref b), .val (.int (Int32.ofNat o)), .val (.int (Int32.ofNat len)), .val .null, .unset] [.ref s.heap.size])) := g8
  have c10 : Steps p.tables e below (s₁.setTop (entryFrame m #[.ref a, .ref b, .int (Int32.ofNat o), .int (Int32.ofNat len), .null] 6)) (T8.setTop (mkF m 45 #[.val (.ref a), .val (.ref b), .val (.int (Int32.ofNat o)), .val (.int (Int32.ofNat len)), .val .null, .val (.ref s.heap.size)] [.int (Int32.ofNat N.slots.size), .ref s.heap.size, .ref a])) := by
    have hc : Steps p.tables e below (s₁.setTop (entryFrame m #[.ref a, .ref b, .int (Int32.ofNat o), .int (Int32.ofNat len), .null] 6)) (T8.setTop (mkF m 45 #[.val (.ref a), .val (.ref b), .val (.int (Int32.ofNat o)), .val (.int (Int32.ofNat len)), .val .null, .val (.ref s.heap.size)] [.int (Int32.ofNat len), .ref s.heap.size, .ref a])) := c9.trans (by
      refine XS.astore X8.here hexec rfl (hb hbytes d39) rfl rfl rfl ?_
      refine XS.aloadN X8.here hexec rfl (hb hbytes d41) rfl rfl ?_
      refine XS.aload X8.here hexec rfl (hb hbytes d42) rfl rfl ?_
      refine XS.iloadN X8.here hexec rfl (hb hbytes d44) rfl ?_
      exact Steps.refl _)
    rw [n4]; exact hc
  obtain ⟨v11, T11, X11, E11, g11⟩ := X8.callS hexec (CodL.law l s.heap.size N) hown (wks W (staticW "java/lang/String" 47 CodL.yN)) (wk W CodL.tab) (W := 1) (Nat.le_of_ble_eq_true rfl) (Nat.le_of_ble_eq_true rfl) (Nat.le_refl _) (by show 0 + len + 0 ≤ len; omega) (g := (mkF m 45 #[.val (.ref a), .val (.ref b), .val (.int (Int32.ofNat o)), .val (.int (Int32.ofNat len)), .val .null, .val (.ref s.heap.size)] [.int (Int32.ofNat N.slots.size), .ref s.heap.size, .ref a])) rfl (by rw [hml]; rfl) c10 (argsL := [.ref s.heap.size, .int (Int32.ofNat N.slots.size)]) (rest := [.ref a]) rfl rfl (by show 2 * 0 + (1 + 0) ≤ _; decide) (hb hbytes d45) (⟨rfl, n1⟩)
  obtain ⟨rfl, q11⟩ := E11
  have hB11 := hB1.mv (X8.warmed.alike.symm.trans X11.warmed.alike) q11
  have c12 : Steps p.tables e below (s₁.setTop (entryFrame m #[.ref a, .ref b, .int (Int32.ofNat o), .int (Int32.ofNat len), .null] 6)) (T11.setTop (mkF m 48 #[.val (.ref a), .val (.ref b), .val (.int (Int32.ofNat o)), .val (.int (Int32.ofNat len)), .val .null, .val (.ref s.heap.size)] [.int 0, .ref a])) := g11
  obtain ⟨T13, X13, p13, bl13, sl13, st13⟩ := X11.finit hexec hown (wk W (.fieldLink "java/lang/String" 15 "java/lang/String" "coder" "B")) (Or.inr ⟨_, (wk W (.laysFinal "java/lang/String" "java/lang/String" "coder" "B"))⟩) (Or.inl ⟨rfl, hnm⟩) f2 (Or.inl rfl) hB11 (t := .byte) (by decide +kernel) rfl (g := (mkF m 48 #[.val (.ref a), .val (.ref b), .val (.int (Int32.ofNat o)), .val (.int (Int32.ofNat len)), .val .null, .val (.ref s.heap.size)] [.int 0, .ref a])) rfl (rest := []) rfl (hb hbytes d48)
  have c14 : Steps p.tables e below (s₁.setTop (entryFrame m #[.ref a, .ref b, .int (Int32.ofNat o), .int (Int32.ofNat len), .null] 6)) (T13.setTop (mkF m 54 #[.val (.ref a), .val (.ref b), .val (.int (Int32.ofNat o)), .val (.int (Int32.ofNat len)), .val .null, .val (.ref s.heap.size)] [.ref s.heap.size, .ref a])) := (c12.trans (st13 _ (Steps.refl _))).trans (by
    refine XS.aloadN X13.here hexec rfl (hb hbytes d51) rfl rfl ?_
    refine XS.aload X13.here hexec rfl (hb hbytes d52) rfl rfl ?_
    exact Steps.refl _)
  obtain ⟨T15, X15, p15, bl15, sl15, st15⟩ := X13.finit hexec hown (wk W (.fieldLink "java/lang/String" 9 "java/lang/String" "value" "[B")) (Or.inr ⟨_, (wk W (.laysFinal "java/lang/String" "java/lang/String" "value" "[B"))⟩) (Or.inl ⟨rfl, hnm⟩) f1 (Or.inl rfl) bl13 (t := (.array .byte)) (by decide +kernel) rfl (g := (mkF m 54 #[.val (.ref a), .val (.ref b), .val (.int (Int32.ofNat o)), .val (.int (Int32.ofNat len)), .val .null, .val (.ref s.heap.size)] [.ref s.heap.size, .ref a])) rfl (rest := []) rfl (hb hbytes d54)
  have c16 : Steps p.tables e below (s₁.setTop (entryFrame m #[.ref a, .ref b, .int (Int32.ofNat o), .int (Int32.ofNat len), .null] 6)) (T15.setTop (mkF m 57 #[.val (.ref a), .val (.ref b), .val (.int (Int32.ofNat o)), .val (.int (Int32.ofNat len)), .val .null, .val (.ref s.heap.size)] [])) := c14.trans (st15 _ (Steps.refl _))
  have ap := apart (Or.inr ⟨_, (wk W (.laysFinal "java/lang/String" "java/lang/String" "value" "[B"))⟩) (Or.inr ⟨_, (wk W (.laysFinal "java/lang/String" "java/lang/String" "coder" "B"))⟩) f1 f2 (t₁ := .array .byte) (t₂ := .byte) (by decide +kernel) (by decide +kernel) (by decide)
  have al := X8.warmed.alike.symm.trans X15.warmed.alike
  have n7 : T11.heap[s.heap.size]? = some N := by rw [q11]; exact n1.1
  exact ⟨T15, none, _, _, _, X15, by simp, rfl, by omega, (fun _ => rfl), ⟨rfl, _, N, bl15, ((Same.refl D _).set _ (by simp)).set _ (by simp), sl15, (Cell.slots_setSlot_ne _ ap).trans sl13, n1.keep al (p15.other hne (p13.other hne n7)), n2, by rw [al.findClass]; exact n3, n4, n5, fun y c h1 h2 => p15.other h1 (p13.other h1 (by rw [q11]; exact n6 y c h2)), by rw [p15.2.2, p13.2.2, q11]; exact z8⟩, fun fs hl => c16.trans (X15.returnOut hexec hret (hb hbytes d57) hl)⟩
end New4
namespace New1
def yN : MethodName := ⟨"java/lang/String", "<init>", "([C)V"⟩
abbrev yB : ByteArray := jdk_42_method_3_code
theorem d0 : decode yB 0 = .ok (.aload_n 0, 1) := by decide +kernel
theorem d1 : decode yB 1 = .ok (.aload_n 1, 1) := by decide +kernel
theorem d2 : decode yB 2 = .ok (.iconst 0, 1) := by decide +kernel
theorem d3 : decode yB 3 = .ok (.aload_n 1, 1) := by decide +kernel
theorem d4 : decode yB 4 = .ok (.arraylength, 1) := by decide +kernel
theorem d5 : decode yB 5 = .ok (.aconst_null, 1) := by decide +kernel
theorem d6 : decode yB 6 = .ok (.invokespecial 27, 3) := by decide +kernel
theorem d9 : decode yB 9 = .ok (.return_, 1) := by decide +kernel
def site : List Cond := [New4.tab] ++ initW "java/lang/String" 27 New4.yN
def tab : Cond := tabOf yN yB 2 none site
def P (a : Addr) (D : Cell) (fV fC : Field) (b : Addr) (A : Cell) (z : Int32) (args : Array Value) (s : State) : Prop := args = #[.ref a, .ref b] ∧ Blank "java/lang/String" a D s ∧ Found "java/lang/String" "value" "[B" fV s ∧ Found "java/lang/String" "coder" "B" fC s ∧ Ch b A s ∧ StaticIs s "java/lang/String" "COMPACT_STRINGS" "Z" (.int z) ∧ ¬ z = 0 ∧ 0 < A.slots.size ∧ A.slots.size ≤ 536870912 ∧ ∀ i, i < A.slots.size → ¬ 255 < cv A i
def E (a : Addr) (D : Cell) (fV fC : Field) (A : Cell) (r : Option Value) (s u : State) : Prop := Got a D fV fC A 0 A.slots.size r s u
/-- new String(chars), not empty, no char above 255: a Latin-1 String of their low bytes -/
theorem law (l : Launch) (a : Addr) (D : Cell) (fV fC : Field) (b : Addr) (A : Cell) (z : Int32) : Law l yN 2 1 3 52 yB 2 none site (P a D fV fC b A z) (E a D fV fC A) [⟨a, fC.slot⟩, ⟨a, fV.slot⟩] 1 A.slots.size := by
  refine Law.of_walk (plainFor_of_name (by decide +kernel)) (by decide +kernel) (by decide +kernel) (by decide) (fun _ _ h => by rw [h.1]; rfl) (fun _ U U' hal hh h => ⟨h.1, h.2.1.mv hal hh, h.2.2.1.al hal, h.2.2.2.1.al hal, h.2.2.2.2.1.mv hal hh, h.2.2.2.2.2.1.there hal hh, h.2.2.2.2.2.2⟩) (fun r U U' V V' h1 hal h2 h => Got.mv r U U' V V' h1 hal h2 h) ?_
  intro p e s m args below meth c s₁ X0 hexec hbytes hml hret hlk hnm hown hh0 W hP
  obtain ⟨rfl, hB, f1, f2, hA, s1, hz, l0, l2, hp⟩ := hP
  have c1 : Steps p.tables e below (s₁.setTop (entryFrame m #[.ref a, .ref b] 2)) (s₁.setTop (mkF m 0 #[.val (.ref a), .val (.ref b)] [])) := entry rfl
  have c2 : Steps p.tables e below (s₁.setTop (entryFrame m #[.ref a, .ref b] 2)) (s₁.setTop (mkF m 6 #[.val (.ref a), .val (.ref b)] [.null, .int (Int32.ofNat A.slots.size), .int 0, .ref b, .ref a])) := c1.trans (by
    refine XS.aloadN X0.here hexec rfl (hb hbytes d0) rfl rfl ?_
    refine XS.aloadN X0.here hexec rfl (hb hbytes d1) rfl rfl ?_
    refine iconstV X0.here hexec rfl 0 (hb hbytes d2) (by decide) ?_
    refine XS.aloadN X0.here hexec rfl (hb hbytes d3) rfl rfl ?_
    refine X0.alen hexec (hA.1.mv X0.warmed.alike hh0) rfl rfl (hb hbytes d4) ?_
    refine XS.aconstNull X0.here hexec rfl (hb hbytes d5) ?_
    exact Steps.refl _)
  obtain ⟨v3, T3, X3, E3, g3⟩ := X0.callN hexec (New4.law l a D fV fC b A z 0 A.slots.size) rfl hown (wks W (initW "java/lang/String" 27 New4.yN)) (W New4.tab (by simp only [site, List.mem_cons, List.mem_append, true_or, or_true])) (W := 0) (Nat.le_of_ble_eq_true rfl) (Nat.le_of_ble_eq_true rfl) (Nat.le_refl _) (by show 0 + A.slots.size ≤ A.slots.size; omega) (g := (mkF m 6 #[.val (.ref a), .val (.ref b)] [.null, .int (Int32.ofNat A.slots.size), .int (Int32.ofNat 0), .ref b, .ref a])) rfl (by rw [hml]; rfl) c2 (argsL := [.ref b, .int (Int32.ofNat 0), .int (Int32.ofNat A.slots.size), .null]) (rest := []) rfl rfl (by show 2 * 0 + 0 ≤ _; decide) (hb hbytes d6) (⟨rfl, hB.mv X0.warmed.alike hh0, f1.al X0.warmed.alike, f2.al X0.warmed.alike, hA.mv X0.warmed.alike hh0, s1.there X0.warmed.alike hh0, hz, l0, by omega, l2, fun i hi => by rw [Nat.zero_add]; exact hp i hi⟩)
  have e0 := Got.mv _ s₁ s _ _ hh0.symm (Vm.Alike.refl _) rfl E3
  obtain rfl := e0.1
  have c4 : Steps p.tables e below (s₁.setTop (entryFrame m #[.ref a, .ref b] 2)) (T3.setTop (mkF m 9 #[.val (.ref a), .val (.ref b)] [])) := g3
  exact ⟨T3, none, _, _, _, X3, by simp, rfl, by omega, (fun _ => rfl), e0, fun fs hl => c4.trans (X3.returnOut hexec hret (hb hbytes d9) hl)⟩
theorem pays {l : Launch} {R : Room} {p : Program} {e : Env} {below : List Frame} {s : State} {sargs : Array Value} {len W : Nat} (a : Addr) (D : Cell) (fV fC : Field) (b : Addr) (A : Cell) (z : Int32) (htab : tab.before sargs s = true) (hfr : 4 ≤ R.frames) (hlo : W + 65 ≤ R.locals) :
    Back l R p e below s sargs yN len W (fun A₁ a₁ => A₁.cells + 1 ≤ R.cells ∧ A₁.slots + A.slots.size ≤ R.slots ∧ P a D fV fC b A z a₁ A₁.U) (fun A₁ _ v₁ B₁ => E a D fV fC A v₁ A₁.U B₁.U ∧ B₁.locs = A₁.locs ++ [⟨a, fC.slot⟩, ⟨a, fV.slot⟩] ∧ B₁.cells = A₁.cells + 1 ∧ B₁.slots = A₁.slots + A.slots.size) :=
  (law l a D fV fC b A z).pays htab hfr (by omega)
end New1
/-- the byte, read back as charAt reads it, is the char -/
theorem lo8_mask {x : Int32} (h0 : ¬ x < 0) (h1 : ¬ 255 < x) : lo8 x &&& 255 = x := by
  have t : ∀ k : Fin 256, lo8 (Int32.ofNat k.val) &&& 255 = Int32.ofNat k.val := by decide +kernel
  rw [Int32.lt_iff_toInt_lt] at h0 h1
  have e0 : (0 : Int32).toInt = 0 := rfl
  have e1 : (255 : Int32).toInt = 255 := rfl
  obtain ⟨k, hk⟩ : ∃ k : Nat, x.toInt = k := ⟨x.toInt.toNat, by omega⟩
  have hx : x = Int32.ofNat k := Int32.toInt_inj.mp (by rw [hk, Int32.toInt_ofNat_small (by omega)])
  rw [hx]
  exact t ⟨k, by omega⟩
end StrChars
namespace StrChars.Road
open Jvm Sem ClassFile Op Lib Jvm.Stand Jvm.Free Jvm.Free.XT
open Jvm.Lib.Cold (StaticIs)
abbrev ST : String := "java/lang/String"
/-- every table word that New1's law asks, flat -/
abbrev words : List Jvm.Cond := [.code New1.yN New1.yB 2 none, .initialized ST, .methodLink ST 27 New4.yN, .instanceMethod New4.yN,
  .code New4.yN New4.yB 6 none, .fieldLink ST 38 ST "COMPACT_STRINGS" "Z", .laysFinal ST ST "value" "[B", .fieldLink ST 9 ST "value" "[B", .laysFinal ST ST "coder" "B", .fieldLink ST 15 ST "coder" "B",
  .methodLink ST 1 Lib.objectInit, .instanceMethod Lib.objectInit, .code Lib.objectInit ⟨#[0xb1]⟩ 1 none, .methodLink ST 177 Cmp3.yN, .static Cmp3.yN, .methodLink ST 47 CodL.yN, .static CodL.yN,
  .code Cmp3.yN Cmp3.yB 6 (some (.array .byte)), .initialized U16, .arrayClass .byte, .methodLink U16 115 Cmp5.yN, .static Cmp5.yN, .code Cmp5.yN Cmp5.yB 7 (some .int), .code CodL.yN CodL.yB 2 (some .byte)]
theorem tab_of {a : Array Value} {s : State} (h : ∀ w ∈ words, w.before a s = true) : New1.tab.before a s = true := by
  have h5 : Cmp5.tab.before a s = true := unparts (wk h (.code Cmp5.yN Cmp5.yB 7 (some .int))) (wks h (.initialized Cmp5.yN.cls :: Cmp5.site))
  have hc : CodL.tab.before a s = true := unparts (wk h (.code CodL.yN CodL.yB 2 (some .byte))) (wks h (.initialized CodL.yN.cls :: CodL.site))
  have q5 : ∀ w ∈ Cmp5.tab :: words, w.before a s = true := fun w hw => (List.mem_cons.mp hw).elim (fun e => e ▸ h5) (h w)
  have h3 : Cmp3.tab.before a s = true := unparts (wk q5 (.code Cmp3.yN Cmp3.yB 6 (some (.array .byte)))) (wks q5 (.initialized Cmp3.yN.cls :: Cmp3.site))
  have q3 : ∀ w ∈ Cmp3.tab :: CodL.tab :: words, w.before a s = true := fun w hw => (List.mem_cons.mp hw).elim (fun e => e ▸ h3) fun hw => (List.mem_cons.mp hw).elim (fun e => e ▸ hc) (h w)
  have h4 : New4.tab.before a s = true := unparts (wk q3 (.code New4.yN New4.yB 6 none)) (wks q3 (.initialized New4.yN.cls :: New4.site))
  have q4 : ∀ w ∈ New4.tab :: words, w.before a s = true := fun w hw => (List.mem_cons.mp hw).elim (fun e => e ▸ h4) (h w)
  exact unparts (wk q4 (.code New1.yN New1.yB 2 none)) (wks q4 (.initialized New1.yN.cls :: New1.site))
/-- the words ride from the start Z to the walk's own state -/
theorem moved {Z s : State} {a0 args : Array Value} (hZ : Z.Warmed39 s.vm) (hw : ∀ d ∈ words, d.before a0 Z = true) : ∀ d ∈ words, d.before args s = true := fun d hd => by
  have q := hw d hd
  have t : ∀ d ∈ words, d = .arrayClass .byte ∨ (d.onTables && d.keepsFace) = true := by decide +kernel
  rcases t d hd with rfl | t
  · exact RoadKit.mvA hZ q
  · exact RoadKit.mv hZ q t
/-- WHAT COMES BACK, over the tables of the start Z: h the heap at the call, h' behind it -/
def Q (Z : State) (x : Addr) (A : Cell) (h : Heap) (v : Option Value) (h' : Heap) (L : List Loc) : Prop := v = none ∧ (∀ y ∈ L, y.base = x) ∧ RoadKit.Keep h h' [x] ∧ h'.size = h.size + 1 ∧ RoadKit.Exa Z h' x ST ∧ RoadKit.Fld Z h' x ST "value" "[B" (.ref h.size) ∧ RoadKit.Fld Z h' x ST "coder" "B" (.int 0) ∧
  (∃ V : Cell, RoadKit.Arr Z h' h.size V .byte ∧ V.vm = .none ∧ Z.vm.findClass "[B" = some V.cls ∧ V.slots.size = A.slots.size ∧ ∀ j, j < A.slots.size → V.slots[j]? = some (.int (lo8 (cv A j)))) ∧
  ∀ (O n d : String) (w : Value), RoadKit.Fld Z h x O n d w → RoadKit.slotOf Z O n d ≠ RoadKit.slotOf Z ST "value" "[B" → RoadKit.slotOf Z O n d ≠ RoadKit.slotOf Z ST "coder" "B" → RoadKit.Fld Z h' x O n d w
/-- **new String(chars) AT A CALL, IN THE ROAD'S FORM**: for specialBack behind newO: x the fresh String, b the char[] with the cell A -/
theorem back {p : Program} {l : Launch} {e : Env} {R : Room} {s : State} {args : Array Value} {below : List Frame} {len W : Nat} {Z : State} {a0 : Array Value} {h : Heap} (hZ : Z.Warmed39 s.vm) (hw : ∀ d ∈ words, d.before a0 Z = true) {kI : Nat} (wi : (Jvm.Cond.instantiable ST kI).before a0 Z = true)
    {x b : Addr} {A : Cell} {z : Int32} {v0 c0 : Value} (E : RoadKit.Exa Z h x ST) (V : RoadKit.Fld Z h x ST "value" "[B" v0) (C : RoadKit.Fld Z h x ST "coder" "B" c0) (K : RoadKit.Arr Z h b A .char) (hty : Typed .char A) (S : RoadKit.Sta Z h ST "COMPACT_STRINGS" "Z" (.int z)) (hz : ¬ z = 0)
    (l0 : 0 < A.slots.size) (l2 : A.slots.size ≤ 536870912) (hp : ∀ i, i < A.slots.size → ¬ 255 < cv A i) (hfr : 4 ≤ R.frames) (hlo : W + 65 ≤ R.locals) :
    Back l R p e below s args New1.yN len W (fun P a => a = #[.ref x, .ref b] ∧ P.U.heap = h ∧ P.cells + 1 ≤ R.cells ∧ P.slots + A.slots.size ≤ R.slots)
      (fun P _ v B => ∃ L, Q Z x A h v B.U.heap L ∧ B.locs = P.locs ++ L ∧ B.cells = P.cells + 1 ∧ B.slots = P.slots + A.slots.size) := by
  intro m meth c P g ig mk a X hg hsize hdg hW hn hp'
  obtain ⟨rfl, rfl, r1, r2⟩ := hp'
  have al : Z.vm.Alike P.U.vm := hZ.alike.trans X.warmed.alike
  obtain ⟨D, cfV, kV, iV, fV, hD, gV, stV, knV, obV, asV, slV⟩ := id V
  obtain ⟨D', cfC, kC, iC, fC, hD', gC, stC, -, -, asC, slC⟩ := id C
  cases hD.symm.trans hD'
  obtain ⟨D2, kD, e1, e2, e3, e4, e5⟩ := id E
  cases hD.symm.trans e1
  obtain ⟨c2, k2, i1, i2, i3, -⟩ := Cond.instantiable_spec wi
  cases e2.symm.trans i1
  cases e3.symm.trans i2
  obtain ⟨kU, u1, u2⟩ := al.2.2 _ _ e3
  have hB : Blank ST x D P.U := ⟨hD, ⟨knV, fun q hq => by rw [hq] at obV; cases obV⟩, by rw [al.findClass]; exact e2, kU, u1, by rw [u2]; exact i3, by rw [u2]; exact e5 i3⟩
  have F1 : Found ST "value" "[B" fV P.U := ⟨SBG.found_only al ⟨cfV, kV, iV, gV⟩, stV⟩
  have F2 : Found ST "coder" "B" fC P.U := ⟨SBG.found_only al ⟨cfC, kC, iC, gC⟩, stC⟩
  have hA : Ch b A P.U := ⟨⟨K.1, State.isArrayOf_alike al K.2.1, K.2.2, by omega⟩, hty⟩
  have hS : StaticIs P.U ST "COMPACT_STRINGS" "Z" (.int z) := by
    obtain ⟨cfS, iS, kS, fS, st, cS, t1, t2, t3, t4, t5, t6, t7⟩ := S
    exact StaticIs.there (s := { Z with heap := P.U.heap }) ⟨cfS, iS, kS, fS, st, cS, t1, t2, t3, t4, t5, (fun q => by rw [q] at t6; cases t6), t7⟩ al rfl
  obtain ⟨v, B, X', ⟨⟨hv, E', V', q1, q2, q3, q4, q5, q6, q7, q8, q9, q10, q11⟩, hl, hc, hs⟩, st⟩ := New1.pays x D fV fC b A z (tab_of (moved hZ hw)) hfr hlo m meth c P g ig mk _ X hg hsize hdg hW hn ⟨r1, r2, rfl, hB, F1, F2, hA, hS, hz, l0, l2, hp⟩
  have al' : Z.vm.Alike B.U.vm := hZ.alike.trans X'.warmed.alike
  have hsz : E'.slots.size = D.slots.size := by
    obtain ⟨-, -, -, kB, w1, w2, w3⟩ := q1
    obtain ⟨kB', y1, y2⟩ := al'.2.2 _ _ e3
    rw [q2.2.1] at w1
    cases w1.symm.trans y1
    rw [w3, e5 i3, y2]
  refine ⟨v, B, X', ⟨_, ⟨hv, ?_, ⟨by omega, fun y cy hy hn' => q10 y cy (by simpa using hn') hy, fun y cy hy => ?_⟩, q11, ⟨E', _, q1.1, by rw [q2.2.1]; exact e2, by rw [q2.2.1]; exact e3, by rw [q2.1]; exact obV, fun _ => by rw [hsz]; exact e5 i3⟩,
    ⟨E', cfV, kV, iV, fV, q1.1, gV, stV, by rw [q2.1]; exact knV, by rw [q2.1]; exact obV, by rw [q2.2.1]; exact asV, q3⟩, ⟨E', cfC, kC, iC, fC, q1.1, gC, stC, by rw [q2.1]; exact knV, by rw [q2.1]; exact obV, by rw [q2.2.1]; exact asC, q4⟩,
    ⟨V', ⟨q5.1, State.isArrayOf_alike al'.symm q5.2.1, q5.2.2.1⟩, q6, by rw [← al'.findClass]; exact q7, q8, fun j hj => by have := q9 j hj; rwa [Nat.zero_add] at this⟩, fun O n d w F n1 n2 => ?_⟩, hl, hc, hs⟩, st⟩
  · intro y hy
    simp only [List.mem_cons, List.not_mem_nil, or_false] at hy
    rcases hy with rfl | rfl <;> rfl
  · by_cases q : y = x
    · subst q
      cases hD.symm.trans hy
      exact ⟨E', q1.1, q2.2.1, q2.1, hsz⟩
    · exact ⟨cy, q10 y cy q hy, rfl, rfl, rfl⟩
  · obtain ⟨D3, cf, k, i, f, g1, g2, g3, g4, g5, g6, g7⟩ := F
    cases hD.symm.trans g1
    simp only [RoadKit.slotOf, g2, gV, gC, Option.map_some, Option.getD_some] at n1 n2
    exact ⟨E', cf, k, i, f, q1.1, g2, g3, by rw [q2.1]; exact g4, by rw [q2.1]; exact g5, by rw [q2.2.1]; exact g6, by rw [q2.2.2 f.slot (by simp [n1, n2])]; exact g7⟩
end StrChars.Road
namespace StrChars.Road
open Jvm Sem ClassFile Op Lib Jvm.Stand Jvm.Free Jvm.Free.XT
/-- WHAT COMES BACK, the byte[] as a list of values -/
def QA (Z : State) (x : Addr) (zn : Int32) (cs : List Int32) (h : Heap) (v : Option Value) (h' : Heap) (L : List Loc) : Prop := v = none ∧ (∀ y ∈ L, y.base = x) ∧ RoadKit.Keep h h' [x] ∧ h'.size = h.size + 1 ∧ RoadKit.Exa Z h' x ST ∧ RoadKit.Fld Z h' x ST "value" "[B" (.ref h.size) ∧ RoadKit.Fld Z h' x ST "coder" "B" (.int 0) ∧
  (∃ kb, Z.vm.findClass "[B" = some kb ∧ RoadKit.Arv Z h' h.size kb .byte zn (cs.map fun c => .int (lo8 c)) (.int 0)) ∧
  ∀ (O n d : String) (w : Value), RoadKit.Fld Z h x O n d w → RoadKit.slotOf Z O n d ≠ RoadKit.slotOf Z ST "value" "[B" → RoadKit.slotOf Z O n d ≠ RoadKit.slotOf Z ST "coder" "B" → RoadKit.Fld Z h' x O n d w
/-- **new String(chars) AT A CALL, THE ARRAYS AS LISTS**: the char[] at b holds cs, not empty, no char above 255 -/
theorem backArv {p : Program} {l : Launch} {e : Env} {R : Room} {s : State} {args : Array Value} {below : List Frame} {len W : Nat} {Z : State} {a0 : Array Value} {h : Heap} (hZ : Z.Warmed39 s.vm) (hw : ∀ d ∈ words, d.before a0 Z = true) {kI : Nat} (wi : (Jvm.Cond.instantiable ST kI).before a0 Z = true)
    {x b : Addr} {k : ClassId} {zn z : Int32} {cs : List Int32} {dv v0 c0 : Value} (E : RoadKit.Exa Z h x ST) (V : RoadKit.Fld Z h x ST "value" "[B" v0) (C : RoadKit.Fld Z h x ST "coder" "B" c0) (K : RoadKit.Arv Z h b k .char zn (cs.map Value.int) dv) (S : RoadKit.Sta Z h ST "COMPACT_STRINGS" "Z" (.int z)) (hz : ¬ z = 0)
    (hlen : zn.toNatClampNeg = cs.length) (h0 : 0 < cs.length) (hbig : cs.length ≤ 536870912) (hall : ∀ c ∈ cs, ¬ 255 < c) (hfr : 4 ≤ R.frames) (hlo : W + 65 ≤ R.locals) :
    Back l R p e below s args New1.yN len W (fun P a => a = #[.ref x, .ref b] ∧ P.U.heap = h ∧ P.cells + 1 ≤ R.cells ∧ P.slots + cs.length ≤ R.slots)
      (fun P _ v B => ∃ L, QA Z x zn cs h v B.U.heap L ∧ B.locs = P.locs ++ L ∧ B.cells = P.cells + 1 ∧ B.slots = P.slots + cs.length) := by
  obtain ⟨A, K1, K2, K3, K4, K5, K6⟩ := K
  have e : A.slots.size = cs.length := K3.trans hlen
  have hat : ∀ (i : Nat) (hi : i < cs.length), A.slots[i]? = some (.int cs[i]) := fun i hi => by rw [K5 i (by omega)]; simp [List.getD_eq_getElem?_getD, hi]
  have hcv : ∀ (i : Nat) (hi : i < cs.length), cv A i = cs[i] := fun i hi => by unfold cv; rw [hat i hi]
  have hty : Typed .char A := fun i v hv => by
    have hi : i < A.slots.size := (Array.getElem?_eq_some_iff.mp hv).1
    have q := K5 i hi
    rw [hv] at q
    rw [Option.some.inj q]
    exact K6 i hi
  refine Back.mono (back hZ hw wi E V C K1 hty S hz (by omega) (by omega) (fun i hi => by rw [hcv i (by omega)]; exact hall _ (List.getElem_mem _)) hfr hlo) (fun P a hp => ⟨hp.1, hp.2.1, hp.2.2.1, by rw [e]; exact hp.2.2.2⟩) (fun P a v B hp hq => ?_)
  obtain ⟨L, ⟨q1, q2, q3, q4, q5, q6, q7, ⟨V', v1, v2, v3, v4, v5⟩, q9⟩, hl, hc, hs⟩ := hq
  refine ⟨L, ⟨q1, q2, q3, q4, q5, q6, q7, ⟨V'.cls, v3, V', v1, rfl, by rw [v4, e, hlen], K4, fun i hi => ?_, fun i hi => ?_⟩, q9⟩, hl, hc, by rw [hs, e]⟩
  · have hi' : i < cs.length := by omega
    rw [v5 i (by omega), hcv i hi']; simp [List.getD_eq_getElem?_getD, hi']
  · have hi' : i < cs.length := by omega
    simp only [List.getD_eq_getElem?_getD, List.getElem?_map, List.getElem?_eq_getElem hi', Option.map_some, Option.getD_some]
    exact fits_lo8 _
end StrChars.Road
namespace StrChars.Road
open Jvm Sem ClassFile Op Lib Jvm.Stand Jvm.Free Jvm.Free.XT
/-- WHAT COMES BACK, in the writer's own shape -/
def QV (Z : State) (x : Addr) (N : Int32) (bs : List Int32) (h : Heap) (n0 : Nat) (v : Option Value) (h' : Heap) (L : List Loc) : Prop := v = none ∧ RoadKit.Fr n0 L ∧ RoadKit.Keep h h' [x] ∧ RoadKit.Exa Z h' x ST ∧ RoadKit.Fld Z h' x ST "coder" "B" (.int 0) ∧
  ∃ (t : Addr) (kb : ClassId), n0 ≤ t ∧ h.size ≤ t ∧ ¬ t = x ∧ RoadKit.Fld Z h' x ST "value" "[B" (.ref t) ∧ RoadKit.Arv Z h' t kb .byte N (bs.map Value.int) (.int 0)
/-- **new String(chars) AT A CALL, FOR THE WRITER**: a char[] of n known ints, each 0 to 255 -/
theorem backV {p : Program} {l : Launch} {e : Env} {R : Room} {s : State} {args : Array Value} {below : List Frame} {len W : Nat} {Z : State} {a0 : Array Value} {h : Heap} (hZ : Z.Warmed39 s.vm) (hw : ∀ d ∈ words, d.before a0 Z = true) {kI : Nat} (wi : (Jvm.Cond.instantiable ST kI).before a0 Z = true)
    {x b : Addr} {kC : ClassId} {cs bs : List Int32} {d v0 c0 : Value} {z N : Int32} {n n0 : Nat} (hx0 : n0 ≤ x) (hh0 : n0 ≤ h.size) (E : RoadKit.Exa Z h x ST) (V : RoadKit.Fld Z h x ST "value" "[B" v0) (C : RoadKit.Fld Z h x ST "coder" "B" c0) (K : RoadKit.Arv Z h b kC .char N (cs.map Value.int) d) (S : RoadKit.Sta Z h ST "COMPACT_STRINGS" "Z" (.int z)) (hz : ¬ z = 0)
    (hn : cs.length = n) (hN : N = Int32.ofNat n) (l0 : 0 < n) (l2 : n ≤ 4000) (hp : ∀ c ∈ cs, ¬ c < 0 ∧ ¬ (255 : Int32) < c) (hb : bs = cs.map (fun c => c.toInt8.toInt32)) (hfr : 4 ≤ R.frames) (hlo : W + 65 ≤ R.locals) :
    Back l R p e below s args (⟨"java/lang/String", "<init>", "([C)V"⟩ : MethodName) len W (fun P a => a = #[.ref x, .ref b] ∧ P.U.heap = h ∧ P.cells + 1 ≤ R.cells ∧ P.slots + n ≤ R.slots)
      (fun P _ v B => ∃ L, QV Z x N bs h n0 v B.U.heap L ∧ B.locs = P.locs ++ L ∧ B.cells = P.cells + 1 ∧ B.slots = P.slots + n) := by
  subst hn hN hb
  refine Back.mono (backArv hZ hw wi E V C K S hz (n32 (by omega)) l0 (by omega) (fun c hc => (hp c hc).2) hfr hlo) (fun P a hp => hp) (fun P a v B hp hq => ?_)
  obtain ⟨L, ⟨q1, q2, q3, q4, q5, q6, q7, ⟨kb, v1, v2⟩, q9⟩, hl, hc, hs⟩ := hq
  exact ⟨L, ⟨q1, fun y hy => by rw [q2 y hy]; exact hx0, q3, q5, q7, h.size, kb, hh0, Nat.le_refl _, Nat.ne_of_gt E.lt, q6, by rw [List.map_map]; exact v2⟩, hl, hc, hs⟩
end StrChars.Road
namespace StrChars
open Jvm Sem ClassFile Op Lib Jvm.Stand Jvm.Free.XT Jvm.Free.ALB Jvm.Free.JM Jvm.Free
open Jvm.Lib.Cold (StaticIs)
def hi8 (x : Int32) : Int32 := lo8 (x >>> ((8 : Int32) &&& 31))
/-- what StringUTF16.getChar makes of two bytes -/
def pairCh (u v : Int32) : Int32 := (((u &&& 255) <<< ((0 : Int32) &&& 31)) ||| ((v &&& 255) <<< ((8 : Int32) &&& 31))).toUInt32.toUInt16.toUInt32.toInt32
theorem lo8_and (x : Int32) : (lo8 x &&& 255).toBitVec.toNat = x.toBitVec.toNat % 256 := by
  have h : (lo8 x).toBitVec = (x.toBitVec.signExtend 8).signExtend 32 := by rw [lo8, Int8.toBitVec_toInt32, Int32.toBitVec_toInt8]
  rw [Int32.toBitVec_and, BitVec.toNat_and, h]
  have e : ((x.toBitVec.signExtend 8).signExtend 32).toNat % 256 = x.toBitVec.toNat % 256 := by
    rw [BitVec.toNat_signExtend]
    have hlt := x.toBitVec.isLt
    simp only [BitVec.toNat_setWidth, BitVec.toNat_signExtend]
    split <;> split <;> omega
  rw [← e]
  exact Nat.and_two_pow_sub_one_eq_mod _ 8
theorem pair_says {c : Int32} (h0 : ¬ c < 0) (h1 : ¬ 65535 < c) : pairCh (lo8 c) (hi8 c) = c := by
  rw [Int32.lt_iff_toInt_lt] at h0 h1
  have e0 : (0 : Int32).toInt = 0 := rfl
  have e1 : (65535 : Int32).toInt = 65535 := rfl
  have hc : c.toInt = c.toBitVec.toNat := by
    have := c.toBitVec.isLt
    have e : c.toInt = c.toBitVec.toInt := rfl
    rw [e] at h0 h1
    rw [e]
    rw [BitVec.toInt_eq_toNat_cond] at h0 h1 ⊢
    split at h0 <;> split <;> omega
  have hn : c.toBitVec.toNat < 65536 := by omega
  have a1 := lo8_and c
  have a2 : (hi8 c &&& 255).toBitVec.toNat = c.toBitVec.toNat / 256 := by
    rw [hi8, lo8_and]
    have e : ((8 : Int32) &&& 31) = 8 := by decide
    rw [e, Int32.toBitVec_shiftRight]
    have e2 : ((8 : Int32).toBitVec.smod 32) = 8#32 := by decide
    rw [e2, BitVec.sshiftRight_eq', BitVec.toNat_sshiftRight_of_msb_false (by rw [BitVec.msb_eq_false_iff_two_mul_lt]; omega)]
    show c.toBitVec.toNat >>> 8 % 256 = _
    rw [Nat.shiftRight_eq_div_pow]
    omega
  unfold pairCh
  apply Int32.toBitVec_inj.mp
  apply BitVec.eq_of_toNat_eq
  have f0 : ((0 : Int32) &&& 31) = 0 := by decide
  have f8 : ((8 : Int32) &&& 31) = 8 := by decide
  rw [f0, f8]
  have g : (((lo8 c &&& 255) <<< (0 : Int32)) ||| ((hi8 c &&& 255) <<< (8 : Int32))).toBitVec.toNat = c.toBitVec.toNat := by
    rw [Int32.toBitVec_or, Int32.toBitVec_shiftLeft, Int32.toBitVec_shiftLeft]
    have s0 : ((0 : Int32).toBitVec.smod 32) = 0#32 := by decide
    have s8 : ((8 : Int32).toBitVec.smod 32) = 8#32 := by decide
    rw [s0, s8, BitVec.toNat_or]
    simp only [BitVec.shiftLeft_eq', BitVec.toNat_shiftLeft, a1, a2]
    show (c.toBitVec.toNat % 256) <<< 0 % 2 ^ 32 ||| (c.toBitVec.toNat / 256) <<< 8 % 2 ^ 32 = _
    rw [Nat.shiftLeft_zero, Nat.mod_eq_of_lt (show c.toBitVec.toNat % 256 < 2 ^ 32 by omega), Nat.mod_eq_of_lt (show (c.toBitVec.toNat / 256) <<< 8 < 2 ^ 32 by rw [Nat.shiftLeft_eq]; omega), Nat.or_comm, ← Nat.shiftLeft_add_eq_or_of_lt (by omega), Nat.shiftLeft_eq]
    omega
  show BitVec.toNat (((((lo8 c &&& 255) <<< (0 : Int32)) ||| ((hi8 c &&& 255) <<< (8 : Int32))).toBitVec.setWidth 16).setWidth 32) = _
  rw [BitVec.toNat_setWidth, BitVec.toNat_setWidth, g]
  omega
end StrChars
namespace StrChars
open Jvm Sem ClassFile Op Lib Jvm.Stand Jvm.Free.XT Jvm.Free.ALB Jvm.Free.JM Jvm.Free
open Jvm.Lib.Cold (StaticIs)
/-- the array's cell V codes the n chars f 0 .. f (n - 1) by the coder cd, as the JDK does: coder 1 just where some char is above 255 -/
def Cod (cd : Int32) (n : Nat) (f : Nat → Int32) (V : Cell) : Prop := (cd = 0 ∧ V.slots.size = n ∧ ∀ j, j < n → V.slots[j]? = some (.int (lo8 (f j))) ∧ ¬ 255 < f j) ∨ (cd = 1 ∧ V.slots.size = 2 * n ∧ (∀ j, j < n → V.slots[2 * j]? = some (.int (lo8 (f j))) ∧ V.slots[2 * j + 1]? = some (.int (hi8 (f j)))) ∧ ∃ j, j < n ∧ 255 < f j)
/-- **x is a String of the n chars f 0 .. f (n - 1)**, Latin-1 or UTF-16; its array at t has the cell V -/
def Txt (x t : Addr) (V : Cell) (cd : Int32) (n : Nat) (f : Nat → Int32) (U : State) : Prop := Exact "java/lang/String" x U ∧ Has x "java/lang/String" "value" "[B" (.ref t) U ∧ Has x "java/lang/String" "coder" "B" (.int cd) U ∧ XT.Arr .byte t V U ∧ Cod cd n f V ∧ ∀ j, j < n → ¬ f j < 0 ∧ ¬ 65535 < f j
theorem Txt.mv {x t : Addr} {V : Cell} {cd : Int32} {n : Nat} {f : Nat → Int32} {U U' : State} (h : Txt x t V cd n f U) (hal : U.vm.Alike U'.vm) (hh : U'.heap = U.heap) : Txt x t V cd n f U' := ⟨h.1.mv hal hh, h.2.1.mv hal hh, h.2.2.1.mv hal hh, h.2.2.2.1.mv hal hh, h.2.2.2.2⟩
end StrChars
namespace StrChars.Road
open Jvm Sem ClassFile Op Lib Jvm.Stand Jvm.Free Jvm.Free.XT
open Jvm.Lib.Cold (StaticIs)
theorem consq {a : Array Value} {s : State} {c : Jvm.Cond} {L : List Jvm.Cond} (h0 : c.before a s = true) (h : ∀ w ∈ L, w.before a s = true) : ∀ w ∈ c :: L, w.before a s = true := fun w hw => (List.mem_cons.mp hw).elim (fun e => e ▸ h0) (h w)
/-- the bytes of the chars cs, low before high -/
def wideBytes : List Int32 → List Value
  | [] => []
  | c :: cs => .int (lo8 c) :: .int (hi8 c) :: wideBytes cs
theorem wide_lo (d : Value) : ∀ (cs : List Int32) (j : Nat), j < cs.length → (wideBytes cs).getD (2 * j) d = .int (lo8 (cs.getD j 0))
  | [], j, h => absurd h (Nat.not_lt_zero j)
  | c :: cs, 0, _ => rfl
  | c :: cs, j + 1, h => by
    have q := wide_lo d cs j (by simpa using h)
    rw [show 2 * (j + 1) = 2 * j + 1 + 1 from by omega]
    simpa [wideBytes] using q
theorem wide_hi (d : Value) : ∀ (cs : List Int32) (j : Nat), j < cs.length → (wideBytes cs).getD (2 * j + 1) d = .int (hi8 (cs.getD j 0))
  | [], j, h => absurd h (Nat.not_lt_zero j)
  | c :: cs, 0, _ => rfl
  | c :: cs, j + 1, h => by
    have q := wide_hi d cs j (by simpa using h)
    rw [show 2 * (j + 1) + 1 = 2 * j + 1 + 1 + 1 from by omega]
    simpa [wideBytes] using q
theorem low_at (d : Value) (cs : List Int32) (j : Nat) (h : j < cs.length) : (cs.map fun c => Value.int (lo8 c)).getD j d = .int (lo8 (cs.getD j 0)) := by
  simp [List.getD_eq_getElem?_getD, h]
/-- an array of N2 bytes vs codes the chars cs by the coder cd -/
def CodA (cs : List Int32) (cd N2 : Int32) (vs : List Value) : Prop := (cd = 0 ∧ N2 = Int32.ofNat cs.length ∧ vs = (cs.map fun c => Value.int (lo8 c)) ∧ ∀ c ∈ cs, ¬ 255 < c) ∨ (cd = 1 ∧ N2 = Int32.ofNat (2 * cs.length) ∧ vs = wideBytes cs ∧ ∃ c ∈ cs, 255 < c)
theorem CodA.cod {cs : List Int32} {cd N2 : Int32} {vs : List Value} {V : Cell} (h : CodA cs cd N2 vs) (hn : 2 * cs.length < 2 ^ 31) (hs : V.slots.size = N2.toNatClampNeg) (hv : RoadKit.Has V vs (.int 0)) : Cod cd cs.length (fun j => cs.getD j 0) V := by
  rcases h with ⟨rfl, rfl, rfl, h⟩ | ⟨rfl, rfl, rfl, c, hc, hw⟩
  · rw [n32 (by omega)] at hs
    exact Or.inl ⟨rfl, hs, fun j hj => ⟨by rw [hv j (by omega), low_at _ _ _ hj], by
      have e : cs.getD j 0 = cs[j] := by simp [List.getD_eq_getElem?_getD, hj]
      show ¬ 255 < cs.getD j 0
      rw [e]; exact h _ (List.getElem_mem _)⟩⟩
  · rw [n32 (by omega)] at hs
    obtain ⟨j, hj, rfl⟩ := List.getElem_of_mem hc
    exact Or.inr ⟨rfl, hs, fun j hj => ⟨by rw [hv _ (by omega), wide_lo _ _ _ hj], by rw [hv _ (by omega), wide_hi _ _ _ hj]⟩, j, hj, by
      have e : cs.getD j 0 = cs[j] := by simp [List.getD_eq_getElem?_getD, hj]
      show 255 < cs.getD j 0
      rw [e]; exact hw⟩
/-- an object of exactly java/lang/String, its two fields found: as the laws ask it -/
theorem strObj {Z U : State} {a0 : Array Value} {kI : Nat} (wi : (Jvm.Cond.instantiable ST kI).before a0 Z = true) (al : Z.vm.Alike U.vm) {x : Addr} {v0 c0 : Value} (E : RoadKit.Exa Z U.heap x ST) (V : RoadKit.Fld Z U.heap x ST "value" "[B" v0) (C : RoadKit.Fld Z U.heap x ST "coder" "B" c0) :
    ∃ (D : Cell) (fV fC : Field), Blank ST x D U ∧ Found ST "value" "[B" fV U ∧ Found ST "coder" "B" fC U ∧ D.slots[fV.slot]? = some v0 ∧ D.slots[fC.slot]? = some c0 ∧ RoadKit.slotOf Z ST "value" "[B" = fV.slot ∧ RoadKit.slotOf Z ST "coder" "B" = fC.slot := by
  obtain ⟨D, cfV, kV, iV, fV, hD, gV, stV, knV, obV, asV, slV⟩ := V
  obtain ⟨D', cfC, kC, iC, fC, hD', gC, stC, -, -, asC, slC⟩ := C
  cases hD.symm.trans hD'
  obtain ⟨D2, kD, e1, e2, e3, e4, e5⟩ := E
  cases hD.symm.trans e1
  obtain ⟨c2, k2, i1, i2, i3, -⟩ := Cond.instantiable_spec wi
  cases e2.symm.trans i1
  cases e3.symm.trans i2
  obtain ⟨kU, u1, u2⟩ := al.2.2 _ _ e3
  exact ⟨D, fV, fC, ⟨hD, ⟨knV, fun q hq => by rw [hq] at obV; cases obV⟩, by rw [al.findClass]; exact e2, kU, u1, by rw [u2]; exact i3, by rw [u2]; exact e5 i3⟩, ⟨SBG.found_only al ⟨cfV, kV, iV, gV⟩, stV⟩, ⟨SBG.found_only al ⟨cfC, kC, iC, gC⟩, stC⟩, slV, slC, by simp [RoadKit.slotOf, gV], by simp [RoadKit.slotOf, gC]⟩
theorem sta_is {Z U : State} (al : Z.vm.Alike U.vm) {C n d : String} {v : Value} (S : RoadKit.Sta Z U.heap C n d v) : StaticIs U C n d v := by
  obtain ⟨cfS, iS, kS, fS, st, cS, t1, t2, t3, t4, t5, t6, t7⟩ := S
  exact StaticIs.there (s := { Z with heap := U.heap }) ⟨cfS, iS, kS, fS, st, cS, t1, t2, t3, t4, t5, (fun q => by rw [q] at t6; cases t6), t7⟩ al rfl
end StrChars.Road
namespace StrChars
open Jvm Sem ClassFile Op Lib Jvm.Stand Jvm.Free.XT Jvm.Free.ALB Jvm.Free.JM Jvm.Free
open Jvm.Lib.Cold (StaticIs)
/-- what place i of a byte[]'s cell holds -/
def yv (A : Cell) (i : Nat) : Int32 := match A.slots[i]? with | some (.int x) => x | _ => 0
theorem yv_get {a : Addr} {A : Cell} {U : State} (h : XT.Arr .byte a A U) (ht : Typed .byte A) {i : Nat} (hi : i < A.slots.size) : A.slots[i]? = some (.int (yv A i)) := by
  have e := Array.getElem?_eq_getElem hi
  have f := ht i _ e
  unfold yv; rw [e]
  generalize A.slots[i] = v at f
  cases v <;> simp [fits] at f ⊢
/-- the two arrays are equal, place for place -/
def EqC (A B : Cell) : Prop := A.slots.size = B.slots.size ∧ ∀ i, i < A.slots.size → yv A i = yv B i
/-- a boolean that says whether p -/
def Says01 (q : Prop) (r : Option Value) (s u : State) : Prop := ∃ v : Int32, r = some (.int v) ∧ u.heap = s.heap ∧ ((v = 1 ∧ q) ∨ (v = 0 ∧ ¬ q))
theorem Says01.mv {q : Prop} : ∀ r (U U' V V' : State), U'.heap = U.heap → V.vm.Alike V'.vm → V'.heap = V.heap → Says01 q r U V → Says01 q r U' V' :=
  fun r U U' V V' h1 _ h2 ⟨v, a, b, c⟩ => ⟨v, a, by rw [h1, h2]; exact b, c⟩
namespace LEq
def yN : MethodName := ⟨"java/lang/StringLatin1", "equals", "([B[B)Z"⟩
abbrev yB : ByteArray := jdk_43_method_13_code
theorem d0 : decode yB 0 = .ok (.aload_n 0, 1) := by decide +kernel
theorem d1 : decode yB 1 = .ok (.arraylength, 1) := by decide +kernel
theorem d2 : decode yB 2 = .ok (.aload_n 1, 1) := by decide +kernel
theorem d3 : decode yB 3 = .ok (.arraylength, 1) := by decide +kernel
theorem d4 : decode yB 4 = .ok (.if_icmp (.ne) 30, 3) := by decide +kernel
theorem d7 : decode yB 7 = .ok (.iconst 0, 1) := by decide +kernel
theorem d8 : decode yB 8 = .ok (.istore_n 2, 1) := by decide +kernel
theorem d9 : decode yB 9 = .ok (.iload_n 2, 1) := by decide +kernel
theorem d10 : decode yB 10 = .ok (.aload_n 0, 1) := by decide +kernel
theorem d11 : decode yB 11 = .ok (.arraylength, 1) := by decide +kernel
theorem d12 : decode yB 12 = .ok (.if_icmp (.ge) 20, 3) := by decide +kernel
theorem d15 : decode yB 15 = .ok (.aload_n 0, 1) := by decide +kernel
theorem d16 : decode yB 16 = .ok (.iload_n 2, 1) := by decide +kernel
theorem d17 : decode yB 17 = .ok (.baload, 1) := by decide +kernel
theorem d18 : decode yB 18 = .ok (.aload_n 1, 1) := by decide +kernel
theorem d19 : decode yB 19 = .ok (.iload_n 2, 1) := by decide +kernel
theorem d20 : decode yB 20 = .ok (.baload, 1) := by decide +kernel
theorem d21 : decode yB 21 = .ok (.if_icmp (.eq) 5, 3) := by decide +kernel
theorem d24 : decode yB 24 = .ok (.iconst 0, 1) := by decide +kernel
theorem d25 : decode yB 25 = .ok (.ireturn, 1) := by decide +kernel
theorem d26 : decode yB 26 = .ok (.iinc 2 1, 3) := by decide +kernel
theorem d29 : decode yB 29 = .ok (.goto (-20), 3) := by decide +kernel
theorem d32 : decode yB 32 = .ok (.iconst 1, 1) := by decide +kernel
theorem d33 : decode yB 33 = .ok (.ireturn, 1) := by decide +kernel
theorem d34 : decode yB 34 = .ok (.iconst 0, 1) := by decide +kernel
theorem d35 : decode yB 35 = .ok (.ireturn, 1) := by decide +kernel
def site : List Cond := []
def tab : Cond := tabOf yN yB 3 (some .boolean) site
def P (a : Addr) (A : Cell) (b : Addr) (B : Cell) (args : Array Value) (s : State) : Prop := args = #[.ref a, .ref b] ∧ XT.Arr .byte a A s ∧ Typed .byte A ∧ XT.Arr .byte b B s ∧ Typed .byte B
/-- whether two byte[] are equal, place for place -/
theorem law (l : Launch) (a : Addr) (A : Cell) (b : Addr) (B : Cell) : Law l yN 2 2 0 0 yB 3 (some .boolean) site (P a A b B) (Says01 (EqC A B)) [] 0 0 := by
  refine Law.of_walk (plainFor_of_name (by decide +kernel)) (by decide +kernel) (by decide +kernel) (by decide) (fun _ _ h => by rw [h.1]; rfl) (fun _ U U' hal hh h => ⟨h.1, h.2.1.mv hal hh, h.2.2.1, h.2.2.2.1.mv hal hh, h.2.2.2.2⟩) (fun r U U' V V' h1 hal h2 h => Says01.mv r U U' V V' h1 hal h2 h) ?_
  intro p e s m args below meth c s₁ X0 hexec hbytes hml hret hlk hnm hown hh0 W hP
  obtain ⟨rfl, hA, tA, hB, tB⟩ := hP
  have a31 := hA.2.2.2
  have b31 := hB.2.2.2
  have hA0 := hA.mv X0.warmed.alike hh0
  have hB0 := hB.mv X0.warmed.alike hh0
  have c1 : Steps p.tables e below (s₁.setTop (entryFrame m #[.ref a, .ref b] 3)) (s₁.setTop (mkF m 0 #[.val (.ref a), .val (.ref b), .unset] [])) := entry rfl
  have c2 : Steps p.tables e below (s₁.setTop (entryFrame m #[.ref a, .ref b] 3)) (s₁.setTop (mkF m 4 #[.val (.ref a), .val (.ref b), .unset] [.int (Int32.ofNat B.slots.size), .int (Int32.ofNat A.slots.size)])) := c1.trans (by
    refine XS.aloadN X0.here hexec rfl (hb hbytes d0) rfl rfl ?_
    refine X0.alen hexec hA0 rfl rfl (hb hbytes d1) ?_
    refine XS.aloadN X0.here hexec rfl (hb hbytes d2) rfl rfl ?_
    refine X0.alen hexec hB0 rfl rfl (hb hbytes d3) ?_
    exact Steps.refl _)
  by_cases hs : A.slots.size = B.slots.size
  · have c3 : Steps p.tables e below (s₁.setTop (entryFrame m #[.ref a, .ref b] 3)) (s₁.setTop (mkF m 9 #[.val (.ref a), .val (.ref b), .val (.int 0)] [])) := c2.trans (by
      refine XS.icmpNo X0.here hexec rfl (hb hbytes d4) rfl (ii_ne_f (by rw [hs])) ?_
      refine iconstV X0.here hexec rfl 0 (hb hbytes d7) (by decide) ?_
      refine XS.istoreN X0.here hexec rfl (hb hbytes d8) rfl rfl ?_
      exact Steps.refl _)
    have loop : ∀ (r i : Nat), i + r = A.slots.size → (∀ j, j < i → yv A j = yv B j) → Steps p.tables e below (s₁.setTop (entryFrame m #[.ref a, .ref b] 3)) (s₁.setTop (mkF m 9 #[.val (.ref a), .val (.ref b), .val (.int (Int32.ofNat i))] [])) → ∃ (pc : Nat) (Ls : Array Slot) (v : Int32), (pc = 25 ∨ pc = 33) ∧ ((v = 1 ∧ EqC A B) ∨ (v = 0 ∧ ¬ EqC A B)) ∧ Steps p.tables e below (s₁.setTop (entryFrame m #[.ref a, .ref b] 3)) (s₁.setTop (mkF m pc Ls [.int v])) := by
      intro r
      induction r with
      | zero =>
        intro i hi he cl
        exact ⟨33, _, 1, Or.inr rfl, Or.inl ⟨rfl, hs, fun j hj => he j (by omega)⟩, cl.trans (by
          refine XS.iloadN X0.here hexec rfl (hb hbytes d9) rfl ?_
          refine XS.aloadN X0.here hexec rfl (hb hbytes d10) rfl rfl ?_
          refine X0.alen hexec hA0 rfl rfl (hb hbytes d11) ?_
          refine XS.icmpYes X0.here hexec rfl (pc0 := 12) rfl (hb hbytes d12) rfl (ii_ge_t (nlt32 (by omega) (by omega))) (by decide) rfl ?_
          refine iconstV X0.here hexec rfl 1 (hb hbytes d32) (by decide) ?_
          exact Steps.refl _)⟩
      | succ r ih =>
        intro i hi he cl
        have c4 : Steps p.tables e below (s₁.setTop (entryFrame m #[.ref a, .ref b] 3)) (s₁.setTop (mkF m 21 #[.val (.ref a), .val (.ref b), .val (.int (Int32.ofNat i))] [.int (yv B i), .int (yv A i)])) := cl.trans (by
          refine XS.iloadN X0.here hexec rfl (hb hbytes d9) rfl ?_
          refine XS.aloadN X0.here hexec rfl (hb hbytes d10) rfl rfl ?_
          refine X0.alen hexec hA0 rfl rfl (hb hbytes d11) ?_
          refine XS.icmpNo X0.here hexec rfl (hb hbytes d12) rfl (ii_ge_f (lt32 (by omega) (by omega))) ?_
          refine XS.aloadN X0.here hexec rfl (hb hbytes d15) rfl rfl ?_
          refine XS.iloadN X0.here hexec rfl (hb hbytes d16) rfl ?_
          refine X0.aget hexec hA0 rfl (yv_get hA tA (i := i) (by omega)) rfl rfl (hb hbytes d17) ?_
          refine XS.aloadN X0.here hexec rfl (hb hbytes d18) rfl rfl ?_
          refine XS.iloadN X0.here hexec rfl (hb hbytes d19) rfl ?_
          refine X0.aget hexec hB0 rfl (yv_get hB tB (i := i) (by omega)) rfl rfl (hb hbytes d20) ?_
          exact Steps.refl _)
        by_cases hv : yv A i = yv B i
        · have c5 : Steps p.tables e below (s₁.setTop (entryFrame m #[.ref a, .ref b] 3)) (s₁.setTop (mkF m 9 #[.val (.ref a), .val (.ref b), .val (.int (Int32.ofNat i + 1))] [])) := c4.trans (by
            refine XS.icmpYes X0.here hexec rfl (pc0 := 21) rfl (hb hbytes d21) rfl (ii_eq_t hv) (by decide) rfl ?_
            refine iincV X0.here hexec rfl 1 (hb hbytes d26) (by decide) rfl rfl ?_
            refine XS.goto X0.here hexec rfl (pc0 := 29) rfl (hb hbytes d29) (by decide) rfl ?_
            exact Steps.refl _)
          rw [succ32] at c5
          exact ih (i + 1) (by omega) (fun j hj => by
            by_cases e : j = i
            · rw [e]; exact hv
            · exact he j (by omega)) c5
        · exact ⟨25, _, 0, Or.inl rfl, Or.inr ⟨rfl, fun q => hv (q.2 i (by omega))⟩, c4.trans (by
            refine XS.icmpNo X0.here hexec rfl (hb hbytes d21) rfl (ii_eq_f hv) ?_
            refine iconstV X0.here hexec rfl 0 (hb hbytes d24) (by decide) ?_
            exact Steps.refl _)⟩
    obtain ⟨pc, Ls, v, hpc, hv, cz⟩ := loop A.slots.size 0 (by omega) (fun j hj => absurd hj (Nat.not_lt_zero j)) c3
    have nv : narrow .boolean (.int v) = .int v := by rcases hv with ⟨rfl, -⟩ | ⟨rfl, -⟩ <;> rfl
    rcases hpc with rfl | rfl
    · exact ⟨s₁, some (.int v), _, _, _, X0, rfl, rfl, rfl, (fun h => by cases h), ⟨v, rfl, hh0, hv⟩, fun fs hl => cz.trans (X0.ireturnOut hexec hret nv (Or.inr (Or.inl rfl)) (hb hbytes d25) hl)⟩
    · exact ⟨s₁, some (.int v), _, _, _, X0, rfl, rfl, rfl, (fun h => by cases h), ⟨v, rfl, hh0, hv⟩, fun fs hl => cz.trans (X0.ireturnOut hexec hret nv (Or.inr (Or.inl rfl)) (hb hbytes d33) hl)⟩
  · have c3 : Steps p.tables e below (s₁.setTop (entryFrame m #[.ref a, .ref b] 3)) (s₁.setTop (mkF m 35 #[.val (.ref a), .val (.ref b), .unset] [.int 0])) := c2.trans (by
      refine XS.icmpYes X0.here hexec rfl (pc0 := 4) rfl (hb hbytes d4) rfl (ii_ne_t (ne32 a31 b31 hs)) (by decide) rfl ?_
      refine iconstV X0.here hexec rfl 0 (hb hbytes d34) (by decide) ?_
      exact Steps.refl _)
    exact ⟨s₁, some (.int 0), _, _, _, X0, rfl, rfl, rfl, (fun h => by cases h), ⟨0, rfl, hh0, Or.inr ⟨rfl, fun q => hs q.1⟩⟩, fun fs hl => c3.trans (X0.ireturnOut hexec hret rfl (Or.inr (Or.inl rfl)) (hb hbytes d35) hl)⟩
end LEq
theorem Cod.ty {cd : Int32} {n : Nat} {f : Nat → Int32} {V : Cell} (h : Cod cd n f V) : Typed .byte V := fun i v hv => by
  have hi : i < V.slots.size := (Array.getElem?_eq_some_iff.mp hv).1
  rcases h with ⟨-, k1, k2⟩ | ⟨-, k1, k2, -⟩
  · rw [(k2 i (by omega)).1] at hv; cases hv; exact fits_lo8 _
  · rcases Nat.mod_two_eq_zero_or_one i with e | e
    · obtain ⟨j, rfl⟩ : ∃ j, i = 2 * j := ⟨i / 2, by omega⟩
      rw [(k2 j (by omega)).1] at hv; cases hv; exact fits_lo8 _
    · obtain ⟨j, rfl⟩ : ∃ j, i = 2 * j + 1 := ⟨i / 2, by omega⟩
      rw [(k2 j (by omega)).2] at hv; cases hv; exact fits_lo8 _
/-- the same text -/
def SameT (n : Nat) (f : Nat → Int32) (k : Nat) (g : Nat → Int32) : Prop := n = k ∧ ∀ j, j < n → f j = g j
theorem lo8_inj {x y : Int32} (h0 : ¬ x < 0) (h1 : ¬ 255 < x) (k0 : ¬ y < 0) (k1 : ¬ 255 < y) (h : lo8 x = lo8 y) : x = y := by
  rw [← lo8_mask h0 h1, ← lo8_mask k0 k1, h]
/-- arrays coded by one coder are equal just where the texts are -/
theorem Cod.eqv {cd : Int32} {n k : Nat} {f g : Nat → Int32} {V V' : Cell} (h : Cod cd n f V) (h' : Cod cd k g V') (hf : ∀ j, j < n → ¬ f j < 0 ∧ ¬ 65535 < f j) (hg : ∀ j, j < k → ¬ g j < 0 ∧ ¬ 65535 < g j) : EqC V V' ↔ SameT n f k g := by
  have yvv : ∀ {W : Cell} {i : Nat} {x : Int32}, W.slots[i]? = some (.int x) → yv W i = x := fun q => by unfold yv; rw [q]
  rcases h with ⟨rfl, k1, k2⟩ | ⟨rfl, k1, k2, -⟩
  · rcases h' with ⟨-, m1, m2⟩ | ⟨e, -⟩
    · constructor
      · rintro ⟨e1, e2⟩
        refine ⟨by omega, fun j hj => ?_⟩
        have q := e2 j (by omega)
        rw [yvv (k2 j hj).1, yvv (m2 j (by omega)).1] at q
        exact lo8_inj (hf j hj).1 (k2 j hj).2 (hg j (by omega)).1 (m2 j (by omega)).2 q
      · rintro ⟨rfl, e2⟩
        refine ⟨by omega, fun j hj => ?_⟩
        rw [yvv (k2 j (by omega)).1, yvv (m2 j (by omega)).1, e2 j (by omega)]
    · exact absurd e (by decide)
  · rcases h' with ⟨e, -⟩ | ⟨-, m1, m2, -⟩
    · exact absurd e (by decide)
    · constructor
      · rintro ⟨e1, e2⟩
        refine ⟨by omega, fun j hj => ?_⟩
        have q1 := e2 (2 * j) (by omega)
        have q2 := e2 (2 * j + 1) (by omega)
        rw [yvv (k2 j hj).1, yvv (m2 j (by omega)).1] at q1
        rw [yvv (k2 j hj).2, yvv (m2 j (by omega)).2] at q2
        rw [← pair_says (hf j hj).1 (hf j hj).2, ← pair_says (hg j (by omega)).1 (hg j (by omega)).2, q1, q2]
      · rintro ⟨rfl, e2⟩
        refine ⟨by omega, fun i hi => ?_⟩
        rcases Nat.mod_two_eq_zero_or_one i with e | e
        · obtain ⟨j, rfl⟩ : ∃ j, i = 2 * j := ⟨i / 2, by omega⟩
          rw [yvv (k2 j (by omega)).1, yvv (m2 j (by omega)).1, e2 j (by omega)]
        · obtain ⟨j, rfl⟩ : ∃ j, i = 2 * j + 1 := ⟨i / 2, by omega⟩
          rw [yvv (k2 j (by omega)).2, yvv (m2 j (by omega)).2, e2 j (by omega)]
/-- two codings differ: so do the texts -/
theorem Cod.dif {cd cd' : Int32} {n k : Nat} {f g : Nat → Int32} {V V' : Cell} (h : Cod cd n f V) (h' : Cod cd' k g V') (hne : ¬ cd = cd') : ¬ SameT n f k g := by
  rintro ⟨rfl, e⟩
  rcases h with ⟨rfl, -, k2⟩ | ⟨rfl, -, -, j, hj, hw⟩
  · rcases h' with ⟨rfl, -⟩ | ⟨-, -, -, j, hj, hw⟩
    · exact hne rfl
    · exact (k2 j hj).2 (by rw [e j hj]; exact hw)
  · rcases h' with ⟨-, -, m2⟩ | ⟨rfl, -⟩
    · exact (m2 j hj).2 (by rw [← e j hj]; exact hw)
    · exact hne rfl
/-- an object of exactly C is an instance of C -/
theorem cinst {p : Program} {l : Launch} {e : Env} {R : Room} {s : State} {m : MethodId} {args : Array Value} {below : List Frame} {meth : Method} {c : Code} {T : State} {locs : List Loc} {cells slots : Nat} (X : Stand p l e R s m args below meth c T locs cells slots) (hexec : p.tables.exec = Jvm.exec) {own C : String} {index : Nat} (hown : s.vm.findClass own = some m.cls) (hlink : (Cond.classLink own index C).before args s = true) {a : Addr} (hE : Exact C a T)
    {g : JFrame} (hg : g.method = m) {rest : List Value} (hstack : g.stack = .ref a :: rest) (hdg : decode c.code g.pc = .ok (.instanceof index, 3)) :
    ∃ T', Stand p l e R s m args below meth c T' locs cells slots ∧ T'.heap = T.heap ∧ ∀ target, Steps p.tables e below (T'.setTop { g with pc := g.pc + 3, stack := .int 1 :: rest }) target → Steps p.tables e below (T.setTop g) target := by
  obtain ⟨cB, h1, D, h2, h3, h4⟩ := hE
  have h1' : s.vm.findClass C = some cB := by rw [← X.warmed.alike.findClass]; exact h1
  obtain ⟨vm', X', st⟩ := X.instanceofYes hexec hown hlink h2 h4 h1' (by rw [h3]; exact Jvm.Free.SB.assignable_self _ _) hg hstack hdg
  exact ⟨_, X', rfl, st⟩
theorem cself {p : Program} {l : Launch} {e : Env} {R : Room} {s : State} {m : MethodId} {args : Array Value} {below : List Frame} {meth : Method} {c : Code} {T : State} {locs : List Loc} {cells slots : Nat} (X : Stand p l e R s m args below meth c T locs cells slots) (hexec : p.tables.exec = Jvm.exec) {own C : String} {index : Nat} (hown : s.vm.findClass own = some m.cls) (hlink : (Cond.classLink own index C).before args s = true) {a : Addr} (hE : Exact C a T)
    {g : JFrame} (hg : g.method = m) {rest : List Value} (hstack : g.stack = .ref a :: rest) (hdg : decode c.code g.pc = .ok (.checkcast index, 3)) :
    ∃ T', Stand p l e R s m args below meth c T' locs cells slots ∧ T'.heap = T.heap ∧ ∀ target, Steps p.tables e below (T'.setTop { g with pc := g.pc + 3, stack := .ref a :: rest }) target → Steps p.tables e below (T.setTop g) target := by
  obtain ⟨cB, h1, D, h2, h3, h4⟩ := hE
  have h1' : s.vm.findClass C = some cB := by rw [← X.warmed.alike.findClass]; exact h1
  obtain ⟨vm', X', st⟩ := X.checkcastYes hexec hown hlink h2 h4 h1' (by rw [h3]; exact Jvm.Free.SB.assignable_self _ _) hg hstack hdg
  exact ⟨_, X', rfl, fun t h => st t (by rw [← hstack] at h; exact h)⟩
namespace SEq
def yN : MethodName := ⟨"java/lang/String", "equals", "(Ljava/lang/Object;)Z"⟩
abbrev yB : ByteArray := jdk_42_method_66_code
theorem d0 : decode yB 0 = .ok (.aload_n 0, 1) := by decide +kernel
theorem d1 : decode yB 1 = .ok (.aload_n 1, 1) := by decide +kernel
theorem d2 : decode yB 2 = .ok (.if_acmp (.ne) 5, 3) := by decide +kernel
theorem d5 : decode yB 5 = .ok (.iconst 1, 1) := by decide +kernel
theorem d6 : decode yB 6 = .ok (.ireturn, 1) := by decide +kernel
theorem d7 : decode yB 7 = .ok (.aload_n 1, 1) := by decide +kernel
theorem d8 : decode yB 8 = .ok (.instanceof 10, 3) := by decide +kernel
theorem d11 : decode yB 11 = .ok (.ifCond (.eq) 43, 3) := by decide +kernel
theorem d14 : decode yB 14 = .ok (.aload_n 1, 1) := by decide +kernel
theorem d15 : decode yB 15 = .ok (.checkcast 10, 3) := by decide +kernel
theorem d18 : decode yB 18 = .ok (.astore_n 2, 1) := by decide +kernel
theorem d19 : decode yB 19 = .ok (.getstatic 38, 3) := by decide +kernel
theorem d22 : decode yB 22 = .ok (.ifCond (.eq) 14, 3) := by decide +kernel
theorem d25 : decode yB 25 = .ok (.aload_n 0, 1) := by decide +kernel
theorem d26 : decode yB 26 = .ok (.getfield 15, 3) := by decide +kernel
theorem d29 : decode yB 29 = .ok (.aload_n 2, 1) := by decide +kernel
theorem d30 : decode yB 30 = .ok (.getfield 15, 3) := by decide +kernel
theorem d33 : decode yB 33 = .ok (.if_icmp (.ne) 21, 3) := by decide +kernel
theorem d36 : decode yB 36 = .ok (.aload_n 0, 1) := by decide +kernel
theorem d37 : decode yB 37 = .ok (.getfield 9, 3) := by decide +kernel
theorem d40 : decode yB 40 = .ok (.aload_n 2, 1) := by decide +kernel
theorem d41 : decode yB 41 = .ok (.getfield 9, 3) := by decide +kernel
theorem d44 : decode yB 44 = .ok (.invokestatic 541, 3) := by decide +kernel
theorem d47 : decode yB 47 = .ok (.ifCond (.eq) 7, 3) := by decide +kernel
theorem d50 : decode yB 50 = .ok (.iconst 1, 1) := by decide +kernel
theorem d51 : decode yB 51 = .ok (.goto 4, 3) := by decide +kernel
theorem d54 : decode yB 54 = .ok (.iconst 0, 1) := by decide +kernel
theorem d55 : decode yB 55 = .ok (.ireturn, 1) := by decide +kernel
def site : List Cond := [.classLink "java/lang/String" 10 "java/lang/String", .fieldLink "java/lang/String" 38 "java/lang/String" "COMPACT_STRINGS" "Z", .fieldLink "java/lang/String" 15 "java/lang/String" "coder" "B", .fieldLink "java/lang/String" 9 "java/lang/String" "value" "[B", LEq.tab] ++ staticW "java/lang/String" 541 LEq.yN
def tab : Cond := tabOf yN yB 3 (some .boolean) site
def P (x t : Addr) (V : Cell) (cd : Int32) (n : Nat) (f : Nat → Int32) (y t' : Addr) (V' : Cell) (cd' : Int32) (k : Nat) (g : Nat → Int32) (z : Int32) (args : Array Value) (s : State) : Prop := args = #[.ref x, .ref y] ∧ Txt x t V cd n f s ∧ Txt y t' V' cd' k g s ∧ StaticIs s "java/lang/String" "COMPACT_STRINGS" "Z" (.int z) ∧ ¬ z = 0
/-- equals(Object) of two Strings: whether the texts are the same -/
theorem law (l : Launch) (x t : Addr) (V : Cell) (cd : Int32) (n : Nat) (f : Nat → Int32) (y t' : Addr) (V' : Cell) (cd' : Int32) (k : Nat) (g : Nat → Int32) (z : Int32) : Law l yN 2 1 1 14 yB 3 (some .boolean) site (P x t V cd n f y t' V' cd' k g z) (Says01 (SameT n f k g)) [] 0 0 := by
  refine Law.of_walk (plainFor_of_name (by decide +kernel)) (by decide +kernel) (by decide +kernel) (by decide) (fun _ _ h => by rw [h.1]; rfl) (fun _ U U' hal hh h => ⟨h.1, h.2.1.mv hal hh, h.2.2.1.mv hal hh, h.2.2.2.1.there hal hh, h.2.2.2.2⟩) (fun r U U' V V' h1 hal h2 h => Says01.mv r U U' V V' h1 hal h2 h) ?_
  intro p e s m args below meth c s₁ X0 hexec hbytes hml hret hlk hnm hown hh0 W hP
  obtain ⟨rfl, hx, hy, s1, hz⟩ := hP
  have c1 : Steps p.tables e below (s₁.setTop (entryFrame m #[.ref x, .ref y] 3)) (s₁.setTop (mkF m 2 #[.val (.ref x), .val (.ref y), .unset] [.ref y, .ref x])) := Steps.trans (entry rfl) (by
    show Steps p.tables e below (s₁.setTop (mkF m 0 #[.val (.ref x), .val (.ref y), .unset] [])) _
    refine XS.aloadN X0.here hexec rfl (hb hbytes d0) rfl rfl ?_
    refine XS.aloadN X0.here hexec rfl (hb hbytes d1) rfl rfl ?_
    exact Steps.refl _)
  by_cases hxy : x = y
  · have c2 : Steps p.tables e below (s₁.setTop (entryFrame m #[.ref x, .ref y] 3)) (s₁.setTop (mkF m 6 #[.val (.ref x), .val (.ref y), .unset] [.int 1])) := c1.trans (by
      refine acmpNo X0.here hexec rfl (hb hbytes d2) rfl rfl rfl (by simp [acmp, hxy]) ?_
      refine iconstV X0.here hexec rfl 1 (hb hbytes d5) (by decide) ?_
      exact Steps.refl _)
    subst hxy
    have ec : cd = cd' := by
      obtain ⟨D, fd, a1, a2, a3⟩ := hx.2.2.1
      obtain ⟨D', fd', b1, b2, b3⟩ := hy.2.2.1
      cases a1.symm.trans b1
      obtain ⟨q1, q2, q3, q4⟩ := a2.1
      obtain ⟨r1, r2, r3, r4⟩ := b2.1
      cases q4.symm.trans r4
      cases a3.symm.trans b3; rfl
    have et : t = t' := by
      obtain ⟨D, fd, a1, a2, a3⟩ := hx.2.1
      obtain ⟨D', fd', b1, b2, b3⟩ := hy.2.1
      cases a1.symm.trans b1
      obtain ⟨q1, q2, q3, q4⟩ := a2.1
      obtain ⟨r1, r2, r3, r4⟩ := b2.1
      cases q4.symm.trans r4
      cases a3.symm.trans b3; rfl
    subst ec et
    have ev : V = V' := by cases hx.2.2.2.1.1.symm.trans hy.2.2.2.1.1; rfl
    subst ev
    have hs : SameT n f k g := (Cod.eqv hx.2.2.2.2.1 hy.2.2.2.2.1 hx.2.2.2.2.2 hy.2.2.2.2.2).mp ⟨rfl, fun _ _ => rfl⟩
    exact ⟨s₁, some (.int 1), _, _, _, X0, rfl, rfl, rfl, (fun h => by cases h), ⟨1, rfl, hh0, Or.inl ⟨rfl, hs⟩⟩, fun fs hl => c2.trans (X0.ireturnOut hexec hret rfl (Or.inr (Or.inl rfl)) (hb hbytes d6) hl)⟩
  · have c2 : Steps p.tables e below (s₁.setTop (entryFrame m #[.ref x, .ref y] 3)) (s₁.setTop (mkF m 8 #[.val (.ref x), .val (.ref y), .unset] [.ref y])) := c1.trans (by
      refine acmpYes X0.here hexec rfl (pc0 := 2) rfl (hb hbytes d2) rfl rfl rfl (by simp [acmp, hxy]) (by decide) rfl ?_
      refine XS.aloadN X0.here hexec rfl (hb hbytes d7) rfl rfl ?_
      exact Steps.refl _)
    obtain ⟨T3, X3, q3, st3⟩ := cinst X0 hexec hown (wk W (.classLink "java/lang/String" 10 "java/lang/String")) (hy.mv X0.warmed.alike hh0).1 (g := (mkF m 8 #[.val (.ref x), .val (.ref y), .unset] [.ref y])) rfl (rest := []) rfl (hb hbytes d8)
    have hh3 := q3.trans hh0
    have c4 : Steps p.tables e below (s₁.setTop (entryFrame m #[.ref x, .ref y] 3)) (T3.setTop (mkF m 15 #[.val (.ref x), .val (.ref y), .unset] [.ref y])) := (c2.trans (st3 _ (Steps.refl _))).trans (by
      refine XS.ifNo X3.here hexec rfl (hb hbytes d11) rfl (i0_eq_f (by decide)) ?_
      refine XS.aloadN X3.here hexec rfl (hb hbytes d14) rfl rfl ?_
      exact Steps.refl _)
    obtain ⟨T5, X5, q5, st5⟩ := cself X3 hexec hown (wk W (.classLink "java/lang/String" 10 "java/lang/String")) (hy.mv X3.warmed.alike hh3).1 (g := (mkF m 15 #[.val (.ref x), .val (.ref y), .unset] [.ref y])) rfl (rest := []) rfl (hb hbytes d15)
    have hh5 := q5.trans hh3
    have c6 : Steps p.tables e below (s₁.setTop (entryFrame m #[.ref x, .ref y] 3)) (T5.setTop (mkF m 19 #[.val (.ref x), .val (.ref y), .val (.ref y)] [])) := (c4.trans (st5 _ (Steps.refl _))).trans (by
      refine XS.astoreN X5.here hexec rfl (hb hbytes d18) rfl rfl rfl ?_
      exact Steps.refl _)
    obtain ⟨T7, X7, q7, st7⟩ := X5.sget hexec hown (wk W (.fieldLink "java/lang/String" 38 "java/lang/String" "COMPACT_STRINGS" "Z")) s1 (fun _ _ h => by rw [hh5]; exact h) (g := (mkF m 19 #[.val (.ref x), .val (.ref y), .val (.ref y)] [])) rfl (hb hbytes d19)
    have hh7 := q7.trans hh5
    have c8 : Steps p.tables e below (s₁.setTop (entryFrame m #[.ref x, .ref y] 3)) (T7.setTop (mkF m 26 #[.val (.ref x), .val (.ref y), .val (.ref y)] [.ref x])) := (c6.trans (st7 _ (Steps.refl _))).trans (by
      refine XS.ifNo X7.here hexec rfl (hb hbytes d22) rfl (i0_eq_f hz) ?_
      refine XS.aloadN X7.here hexec rfl (hb hbytes d25) rfl rfl ?_
      exact Steps.refl _)
    obtain ⟨T9, X9, q9, st9⟩ := X7.hget hexec hown (wk W (.fieldLink "java/lang/String" 15 "java/lang/String" "coder" "B")) (hx.mv X7.warmed.alike hh7).2.2.1 (g := (mkF m 26 #[.val (.ref x), .val (.ref y), .val (.ref y)] [.ref x])) rfl (rest := []) rfl (hb hbytes d26)
    have hh9 := q9.trans hh7
    have c10 : Steps p.tables e below (s₁.setTop (entryFrame m #[.ref x, .ref y] 3)) (T9.setTop (mkF m 30 #[.val (.ref x), .val (.ref y), .val (.ref y)] [.ref y, .int cd])) := (c8.trans (st9 _ (Steps.refl _))).trans (by
      refine XS.aloadN X9.here hexec rfl (hb hbytes d29) rfl rfl ?_
      exact Steps.refl _)
    obtain ⟨T11, X11, q11, st11⟩ := X9.hget hexec hown (wk W (.fieldLink "java/lang/String" 15 "java/lang/String" "coder" "B")) (hy.mv X9.warmed.alike hh9).2.2.1 (g := (mkF m 30 #[.val (.ref x), .val (.ref y), .val (.ref y)] [.ref y, .int cd])) rfl (rest := [.int cd]) rfl (hb hbytes d30)
    have hh11 := q11.trans hh9
    have c12 : Steps p.tables e below (s₁.setTop (entryFrame m #[.ref x, .ref y] 3)) (T11.setTop (mkF m 33 #[.val (.ref x), .val (.ref y), .val (.ref y)] [.int cd', .int cd])) := c10.trans (st11 _ (Steps.refl _))
    by_cases hcd : cd = cd'
    · subst hcd
      have c13 : Steps p.tables e below (s₁.setTop (entryFrame m #[.ref x, .ref y] 3)) (T11.setTop (mkF m 37 #[.val (.ref x), .val (.ref y), .val (.ref y)] [.ref x])) := c12.trans (by
        refine XS.icmpNo X11.here hexec rfl (hb hbytes d33) rfl (ii_ne_f rfl) ?_
        refine XS.aloadN X11.here hexec rfl (hb hbytes d36) rfl rfl ?_
        exact Steps.refl _)
      obtain ⟨T14, X14, q14, st14⟩ := X11.hget hexec hown (wk W (.fieldLink "java/lang/String" 9 "java/lang/String" "value" "[B")) (hx.mv X11.warmed.alike hh11).2.1 (g := (mkF m 37 #[.val (.ref x), .val (.ref y), .val (.ref y)] [.ref x])) rfl (rest := []) rfl (hb hbytes d37)
      have hh14 := q14.trans hh11
      have c15 : Steps p.tables e below (s₁.setTop (entryFrame m #[.ref x, .ref y] 3)) (T14.setTop (mkF m 41 #[.val (.ref x), .val (.ref y), .val (.ref y)] [.ref y, .ref t])) := (c13.trans (st14 _ (Steps.refl _))).trans (by
        refine XS.aloadN X14.here hexec rfl (hb hbytes d40) rfl rfl ?_
        exact Steps.refl _)
      obtain ⟨T16, X16, q16, st16⟩ := X14.hget hexec hown (wk W (.fieldLink "java/lang/String" 9 "java/lang/String" "value" "[B")) (hy.mv X14.warmed.alike hh14).2.1 (g := (mkF m 41 #[.val (.ref x), .val (.ref y), .val (.ref y)] [.ref y, .ref t])) rfl (rest := [.ref t]) rfl (hb hbytes d41)
      have hh16 := q16.trans hh14
      have c17 : Steps p.tables e below (s₁.setTop (entryFrame m #[.ref x, .ref y] 3)) (T16.setTop (mkF m 44 #[.val (.ref x), .val (.ref y), .val (.ref y)] [.ref t', .ref t])) := c15.trans (st16 _ (Steps.refl _))
      obtain ⟨v18, T18, X18, E18, g18⟩ := X16.callS hexec (LEq.law l t V t' V') hown (wks W (staticW "java/lang/String" 541 LEq.yN)) (wk W LEq.tab) (W := 0) (Nat.le_of_ble_eq_true rfl) (Nat.le_of_ble_eq_true rfl) (Nat.le_refl _) (Nat.le_refl _) (g := (mkF m 44 #[.val (.ref x), .val (.ref y), .val (.ref y)] [.ref t', .ref t])) rfl (by rw [hml]; rfl) c17 (argsL := [.ref t, .ref t']) (rest := []) rfl rfl (by show 2 * 0 + 0 ≤ _; decide) (hb hbytes d44) (⟨rfl, hx.2.2.2.1.mv X16.warmed.alike hh16, hx.2.2.2.2.1.ty, hy.2.2.2.1.mv X16.warmed.alike hh16, hy.2.2.2.2.1.ty⟩)
      obtain ⟨v, rfl, q18, hv⟩ := E18
      have iff := Cod.eqv hx.2.2.2.2.1 hy.2.2.2.2.1 hx.2.2.2.2.2 hy.2.2.2.2.2
      rcases hv with ⟨rfl, he⟩ | ⟨rfl, he⟩
      · have c19 : Steps p.tables e below (s₁.setTop (entryFrame m #[.ref x, .ref y] 3)) (T18.setTop (mkF m 55 #[.val (.ref x), .val (.ref y), .val (.ref y)] [.int 1])) := Steps.trans g18 (by
          refine XS.ifNo X18.here hexec rfl (hb hbytes d47) rfl (i0_eq_f (by decide)) ?_
          refine iconstV X18.here hexec rfl 1 (hb hbytes d50) (by decide) ?_
          refine XS.goto X18.here hexec rfl (pc0 := 51) rfl (hb hbytes d51) (by decide) rfl ?_
          exact Steps.refl _)
        exact ⟨T18, some (.int 1), _, _, _, X18, rfl, rfl, rfl, (fun h => by cases h), ⟨1, rfl, q18.trans hh16, Or.inl ⟨rfl, iff.mp he⟩⟩, fun fs hl => c19.trans (X18.ireturnOut hexec hret rfl (Or.inr (Or.inl rfl)) (hb hbytes d55) hl)⟩
      · have c19 : Steps p.tables e below (s₁.setTop (entryFrame m #[.ref x, .ref y] 3)) (T18.setTop (mkF m 55 #[.val (.ref x), .val (.ref y), .val (.ref y)] [.int 0])) := Steps.trans g18 (by
          refine XS.ifYes X18.here hexec rfl (pc0 := 47) rfl (hb hbytes d47) rfl (i0_eq_t rfl) (by decide) rfl ?_
          refine iconstV X18.here hexec rfl 0 (hb hbytes d54) (by decide) ?_
          exact Steps.refl _)
        exact ⟨T18, some (.int 0), _, _, _, X18, rfl, rfl, rfl, (fun h => by cases h), ⟨0, rfl, q18.trans hh16, Or.inr ⟨rfl, fun q => he (iff.mpr q)⟩⟩, fun fs hl => c19.trans (X18.ireturnOut hexec hret rfl (Or.inr (Or.inl rfl)) (hb hbytes d55) hl)⟩
    · have c13 : Steps p.tables e below (s₁.setTop (entryFrame m #[.ref x, .ref y] 3)) (T11.setTop (mkF m 55 #[.val (.ref x), .val (.ref y), .val (.ref y)] [.int 0])) := c12.trans (by
        refine XS.icmpYes X11.here hexec rfl (pc0 := 33) rfl (hb hbytes d33) rfl (ii_ne_t hcd) (by decide) rfl ?_
        refine iconstV X11.here hexec rfl 0 (hb hbytes d54) (by decide) ?_
        exact Steps.refl _)
      exact ⟨T11, some (.int 0), _, _, _, X11, rfl, rfl, rfl, (fun h => by cases h), ⟨0, rfl, hh11, Or.inr ⟨rfl, Cod.dif hx.2.2.2.2.1 hy.2.2.2.2.1 hcd⟩⟩, fun fs hl => c13.trans (X11.ireturnOut hexec hret rfl (Or.inr (Or.inl rfl)) (hb hbytes d55) hl)⟩
theorem pays {l : Launch} {R : Room} {p : Program} {e : Env} {below : List Frame} {s : State} {sargs : Array Value} {len W : Nat} (x t : Addr) (V : Cell) (cd : Int32) (n : Nat) (f : Nat → Int32) (y t' : Addr) (V' : Cell) (cd' : Int32) (k : Nat) (g : Nat → Int32) (z : Int32) (htab : tab.before sargs s = true) (hfr : 2 ≤ R.frames) (hlo : W + 28 ≤ R.locals) :
    Back l R p e below s sargs yN len W (fun A₁ a₁ => A₁.cells + 0 ≤ R.cells ∧ A₁.slots + 0 ≤ R.slots ∧ P x t V cd n f y t' V' cd' k g z a₁ A₁.U) (fun A₁ _ v₁ B₁ => Says01 (SameT n f k g) v₁ A₁.U B₁.U ∧ B₁.locs = A₁.locs ++ [] ∧ B₁.cells = A₁.cells + 0 ∧ B₁.slots = A₁.slots + 0) :=
  (law l x t V cd n f y t' V' cd' k g z).pays htab hfr (by omega)
end SEq
end StrChars
namespace StrChars.Road
open Jvm Sem ClassFile Op Lib Jvm.Stand Jvm.Free Jvm.Free.XT
open Jvm.Lib.Cold (StaticIs)
/-- the words of String.equals(Object) -/
abbrev wordsEq : List Jvm.Cond := [.code SEq.yN SEq.yB 3 (some .boolean), .initialized ST, .classLink ST 10 ST, .fieldLink ST 38 ST "COMPACT_STRINGS" "Z", .fieldLink ST 15 ST "coder" "B", .fieldLink ST 9 ST "value" "[B", .methodLink ST 541 LEq.yN, .static LEq.yN, .code LEq.yN LEq.yB 3 (some .boolean), .initialized "java/lang/StringLatin1"]
theorem tabEq_of {a : Array Value} {s : State} (h : ∀ w ∈ wordsEq, w.before a s = true) : SEq.tab.before a s = true := by
  have hl : LEq.tab.before a s = true := unparts (wk h (.code LEq.yN LEq.yB 3 (some .boolean))) (wks h (.initialized LEq.yN.cls :: LEq.site))
  have q := consq hl h
  exact unparts (wk q (.code SEq.yN SEq.yB 3 (some .boolean))) (wks q (.initialized SEq.yN.cls :: SEq.site))
theorem movedEq {Z s : State} {a0 args : Array Value} (hZ : Z.Warmed39 s.vm) (hw : ∀ d ∈ wordsEq, d.before a0 Z = true) : ∀ d ∈ wordsEq, d.before args s = true := fun d hd => by
  have t : ∀ d ∈ wordsEq, (d.onTables && d.keepsFace) = true := by decide +kernel
  exact RoadKit.mv hZ (hw d hd) (t d hd)
/-- the road's facts of a String, as the laws ask it -/
theorem txt_of {Z U : State} {a0 : Array Value} {kI : Nat} (wi : (Jvm.Cond.instantiable ST kI).before a0 Z = true) (al : Z.vm.Alike U.vm) {x t : Addr} {kb : ClassId} {cs : List Int32} {cd N2 : Int32} {vs : List Value} (E : RoadKit.Exa Z U.heap x ST) (V : RoadKit.Fld Z U.heap x ST "value" "[B" (.ref t)) (C : RoadKit.Fld Z U.heap x ST "coder" "B" (.int cd)) (K : RoadKit.Arv Z U.heap t kb .byte N2 vs (.int 0)) (hc : CodA cs cd N2 vs) (hb : ∀ c ∈ cs, ¬ c < 0 ∧ ¬ (65535 : Int32) < c) (l2 : cs.length ≤ 4000) :
    ∃ A, Txt x t A cd cs.length (fun j => cs.getD j 0) U := by
  obtain ⟨A, K1, K2, K3, K4, K5, K6⟩ := K
  have hcod := hc.cod (by omega) K3 K5
  obtain ⟨D, fV, fC, hB, F1, F2, g1, g2, -, -⟩ := strObj wi al E V C
  exact ⟨A, ⟨_, hB.2.2.1, D, hB.1, rfl, by cases q : D.vm <;> first | rfl | exact absurd q (hB.2.1.2 _)⟩, Has.of hB F1 g1, Has.of hB F2 g2, ⟨K1.1, State.isArrayOf_alike al K1.2.1, K1.2.2, by rcases hcod with ⟨-, q, -⟩ | ⟨-, q, -⟩ <;> omega⟩, hcod, fun j hj => by
    have e : cs.getD j 0 = cs[j] := by simp [List.getD_eq_getElem?_getD, hj]
    show ¬ cs.getD j 0 < 0 ∧ ¬ 65535 < cs.getD j 0
    rw [e]; exact hb _ (List.getElem_mem _)⟩
theorem same_list (cs ds : List Int32) : SameT cs.length (fun j => cs.getD j 0) ds.length (fun j => ds.getD j 0) ↔ cs = ds := by
  constructor
  · rintro ⟨e, q⟩
    refine List.ext_getElem e fun j h1 h2 => ?_
    have := q j h1
    simpa [List.getD_eq_getElem?_getD, h1, h2] using this
  · rintro rfl
    exact ⟨rfl, fun _ _ => rfl⟩
/-- **equals(Object) OF TWO SUCH STRINGS**: 1 just where the chars are the same -/
theorem eqW {p : Program} {l : Launch} {e : Env} {R : Room} {s : State} {args : Array Value} {below : List Frame} {len W : Nat} {Z : State} {a0 : Array Value} {h : Heap} (hZ : Z.Warmed39 s.vm) (hw : ∀ d ∈ wordsEq, d.before a0 Z = true) {kI : Nat} (wi : (Jvm.Cond.instantiable ST kI).before a0 Z = true)
    {x t : Addr} {kb : ClassId} {cs : List Int32} {cd N2 : Int32} {vs : List Value} (E : RoadKit.Exa Z h x ST) (V : RoadKit.Fld Z h x ST "value" "[B" (.ref t)) (C : RoadKit.Fld Z h x ST "coder" "B" (.int cd)) (K : RoadKit.Arv Z h t kb .byte N2 vs (.int 0)) (hc : CodA cs cd N2 vs) (hb : ∀ c ∈ cs, ¬ c < 0 ∧ ¬ (65535 : Int32) < c) (l2 : cs.length ≤ 4000)
    {y t' : Addr} {kb' : ClassId} {ds : List Int32} {cd' N2' : Int32} {vs' : List Value} (E' : RoadKit.Exa Z h y ST) (V' : RoadKit.Fld Z h y ST "value" "[B" (.ref t')) (C' : RoadKit.Fld Z h y ST "coder" "B" (.int cd')) (K' : RoadKit.Arv Z h t' kb' .byte N2' vs' (.int 0)) (hc' : CodA ds cd' N2' vs') (hb' : ∀ c ∈ ds, ¬ c < 0 ∧ ¬ (65535 : Int32) < c) (l2' : ds.length ≤ 4000)
    {z : Int32} (S : RoadKit.Sta Z h ST "COMPACT_STRINGS" "Z" (.int z)) (hz : ¬ z = 0) (hfr : 2 ≤ R.frames) (hlo : W + 28 ≤ R.locals) :
    Back l R p e below s args (⟨"java/lang/String", "equals", "(Ljava/lang/Object;)Z"⟩ : MethodName) len W (fun P a => a = #[.ref x, .ref y] ∧ P.U.heap = h ∧ P.cells + 0 ≤ R.cells ∧ P.slots + 0 ≤ R.slots)
      (fun P _ v B => ∃ L, (((v = some (.int 1) ∧ cs = ds) ∨ (v = some (.int 0) ∧ ¬ cs = ds)) ∧ L = [] ∧ B.U.heap = h) ∧ B.locs = P.locs ++ L ∧ B.cells = P.cells + 0 ∧ B.slots = P.slots + 0) := by
  intro m meth c P g ig mk a X hg hsize hdg hW hn hp'
  obtain ⟨rfl, rfl, r1, r2⟩ := hp'
  have al : Z.vm.Alike P.U.vm := hZ.alike.trans X.warmed.alike
  obtain ⟨A, hx⟩ := txt_of wi al E V C K hc hb l2
  obtain ⟨A', hy⟩ := txt_of wi al E' V' C' K' hc' hb' l2'
  obtain ⟨v, B, X', ⟨⟨w, hv, hh, hq⟩, hl, hk, hs⟩, st⟩ := SEq.pays x t A cd cs.length (fun j => cs.getD j 0) y t' A' cd' ds.length (fun j => ds.getD j 0) z (tabEq_of (movedEq hZ hw)) hfr hlo m meth c P g ig mk _ X hg hsize hdg hW hn ⟨r1, r2, rfl, hx, hy, sta_is al S, hz⟩
  refine ⟨v, B, X', ⟨[], ⟨?_, rfl, hh⟩, hl, hk, hs⟩, st⟩
  rcases hq with ⟨rfl, q⟩ | ⟨rfl, q⟩
  · exact Or.inl ⟨hv, (same_list cs ds).mp q⟩
  · exact Or.inr ⟨hv, fun e => q ((same_list cs ds).mpr e)⟩
end StrChars.Road
namespace StrChars.Road
open Jvm Sem ClassFile Op Lib Jvm.Stand Jvm.Free Jvm.Free.XT
open Jvm.Lib.Cold (StaticIs)
/-- what backV says of its String, as the contracts of this text ask it: cs's low bytes, coder 0 -/
theorem codOf {cs : List Int32} {n : Nat} (hn : cs.length = n) (hb : ∀ c ∈ cs, ¬ 255 < c) : CodA cs 0 (Int32.ofNat n) ((cs.map lo8).map Value.int) := Or.inl ⟨rfl, by rw [hn], by simp [List.map_map, Function.comp_def], hb⟩
end StrChars.Road
end Jvm.Pilot.@@N@@
namespace Jvm.Pilot.@@N@@
namespace W
open Jvm Jvm.ClassFile Sem Op Lib Jvm.Free Jvm.Stand Jvm.LawKit Jvm.RoadKit Bundle
/-! the run goes on from here and ends as P says -/
def Go (p : Program) (e : Env) (below : List Frame) (P : Outcome → State → Prop) (T : State) (f : JFrame) : Prop :=
  ∃ t o, Steps p.tables e below (T.setTop f) t ∧ t.status = .running ∧ Ended t below o ∧ P o t
theorem Go.of {p : Program} {e : Env} {below : List Frame} {P : Outcome → State → Prop} {T T' : State} {f f' : JFrame}
    (h : ∀ target, Steps p.tables e below (T'.setTop f') target → Steps p.tables e below (T.setTop f) target) (k : Go p e below P T' f') : Go p e below P T f := by
  obtain ⟨t, o, h1, h2⟩ := k
  exact ⟨t, o, h t h1, h2⟩
theorem Go.cast {p : Program} {e : Env} {below : List Frame} {P : Outcome → State → Prop} {T : State} {f f' : JFrame} (q : f = f') (k : Go p e below P T f') : Go p e below P T f := q ▸ k
/-! what has moved since h0: the old objects ws at the most, and new ones -/
def Mv (h0 h : Heap) (ws : List Addr) (L : List Loc) : Prop := Keep h0 h ws ∧ ∀ y ∈ L, y.base ∈ ws ∨ h0.size ≤ y.base
section Mvs
variable {h0 h h' : Heap} {ws ws' : List Addr} {L L' : List Loc} {a : Addr} {sl : Nat} {v : Value}
theorem Mv.refl (h : Heap) (ws : List Addr) : Mv h h ws [] := ⟨Keep.refl h ws, fun _ q => nomatch q⟩
theorem Mv.le (M : Mv h0 h ws L) : h0.size ≤ h.size := M.1.1
theorem Mv.ext (M : Mv h0 h ws L) (E : Ext h h') : Mv h0 h' ws L := ⟨M.1.ext E, M.2⟩
theorem Mv.wr (M : Mv h0 h ws L) (W : Wr h h' a sl v) (q : a ∈ ws ∨ h0.size ≤ a) : Mv h0 h' ws (L ++ [⟨a, sl⟩]) :=
  ⟨M.1.wr W q, fun y hy => (List.mem_append.mp hy).elim (M.2 y) fun z => by cases List.mem_singleton.mp z; exact q⟩
theorem Mv.app (M : Mv h0 h ws L) (M' : Mv h h' ws' L') (q : ∀ x ∈ ws', x ∈ ws ∨ h0.size ≤ x) : Mv h0 h' ws (L ++ L') :=
  ⟨M.1.trans M'.1 q, fun y hy => (List.mem_append.mp hy).elim (M.2 y) fun z => (M'.2 y z).elim (q _) fun r => Or.inr (Nat.le_trans M.1.1 r)⟩
theorem Mv.app0 (M : Mv h0 h ws L) (M' : Mv h h' [] L') : Mv h0 h' ws (L ++ L') := M.app M' fun _ q => nomatch q
theorem keepE (E : Ext h h') : Keep h h' [] := (Keep.refl h []).ext E
theorem Mv.fr (M : Mv h0 h [] L) : Fr h0.size L := fun y hy => (M.2 y hy).elim (fun q => nomatch q) id
theorem Mv.ofFr {n0 : Nat} (K : Keep h0 h ws) (F : ∀ y ∈ L, y.base ∈ ws) : Mv h0 h ws L := ⟨K, fun y hy => Or.inl (F y hy)⟩
end Mvs
theorem StaKeep {Z : State} {h h' : Heap} {C n d : String} {v : Value} {ws : List Addr} (F : Sta Z h C n d v) (K : Keep h h' ws) (q : ∀ x ∈ ws, ∀ c : Cell, h[x]? = some c → c.vm.isStatics = false) : Sta Z h' C n d v := by
  obtain ⟨cf, i, k, f, st, cell, h1, h2, h3, h4, h5, h6, h7⟩ := F
  refine ⟨cf, i, k, f, st, cell, h1, h2, h3, h4, K.2.1 _ _ h5 (fun z => ?_), h6, h7⟩
  rw [q st z cell h5] at h6; cases h6
theorem staExa {Z : State} {h : Heap} {a : Addr} {C : String} (F : Exa Z h a C) : ∀ c : Cell, h[a]? = some c → c.vm.isStatics = false := fun c hc => by
  obtain ⟨c', _, h1, -, -, h4, -⟩ := F; cases h1.symm.trans hc; exact h4
theorem staArv {Z : State} {h : Heap} {a : Addr} {k : ClassId} {ty : FieldType} {n : Int32} {vs : List Value} {d : Value} (F : Arv Z h a k ty n vs d) : ∀ c : Cell, h[a]? = some c → c.vm.isStatics = false := fun c hc => by
  obtain ⟨c', A, -⟩ := F; cases A.1.symm.trans hc; exact A.plain
/-! a contract -/
def MeetsW (l : Launch) (Z : State) (y : MethodName) (bytes : ByteArray) (maxL : Nat) (ret : Option FieldType) (rm : Room) (as : Array Value) (h0 : Heap) (Q : Option Value → Heap → List Loc → Prop) : Prop :=
  ∀ ws : List Jvm.Cond, MetFree l y (head1 (Jvm.Cond.code y bytes maxL ret :: ws) rm) (fun a U => a = as ∧ Z.Warmed39 U.vm ∧ U.heap = h0) (fun _ _ _ _ _ => True)
    (fun _ U o U' => ∃ v L, o = .returned v ∧ Q v U'.heap L ∧ FrameEnd U o U' L rm.cells rm.slots)
def Pu (h : Heap) (S : Option Value → Prop) (v : Option Value) (h' : Heap) (L : List Loc) : Prop := L = [] ∧ h' = h ∧ S v
theorem MeetsW.of {l : Launch} {Z : State} {y : MethodName} {bytes : ByteArray} {maxL : Nat} {ret : Option FieldType} {rm : Room} {as : Array Value} {h0 : Heap} {Q : Option Value → Heap → List Loc → Prop} (hpl : plainFor y = true)
    (body : ∀ (p : Program) (e : Env) (s : State) (m : MethodId) (below : List Frame) (meth : Method) (c : Code) (s₁ : State) (P : Outcome → State → Prop), p.tables.exec = Jvm.exec → c.code = bytes → c.maxLocals = maxL → Z.Warmed39 s.vm → s.vm.findClass y.cls = some m.cls → meth.name = y.name → meth.sig.returnType = ret → meth.locks = false →
      Stand p l e rm s m as below meth c s₁ [] 0 0 → s₁.heap = h0 → (∀ v t L, Q v t.heap L → FrameEnd s (.returned v) t L rm.cells rm.slots → P (.returned v) t) → Go p e below P s₁ (entryFrame m as maxL)) : MeetsW l Z y bytes maxL ret rm as h0 Q := by
  intro ws
  refine MetFree.of_bodySF hpl hisR ?_
  intro p e s m args below meth c s₁ Bd hml0 hP hK
  obtain ⟨rfl, hZ, hh⟩ := hP
  exact body p e s m below meth c s₁ _ Bd.exec Bd.bytes hml0 hZ (findClass_of_methodNamed Bd.named) (name_of_methodNamed Bd.named Bd.method).1 Bd.returns (BodyLoose.notSynchronized Bd) (Stand.of_body Bd) (by rw [← hh, Bd.state]; rfl) (fun v t L hq hf => ⟨v, L, rfl, hq, hf⟩)
def MeetsI (l : Launch) (Z : State) (y : MethodName) (bytes : ByteArray) (maxL : Nat) (ret : Option FieldType) (rm : Room) (as : Array Value) (h0 : Heap) (Q : Option Value → Heap → List Loc → Prop) : Prop :=
  ∀ ws : List Jvm.Cond, MetFree l y (head1 (Jvm.Cond.code y bytes maxL ret :: ws) rm) (fun a U => a = as ∧ Z.Warmed39 U.vm ∧ U.heap = h0) (fun _ _ _ _ _ => True)
    (fun _ U o U' => ∃ v L, o = .returned v ∧ Q v U'.heap L ∧ ReturnedEndW U o U' L rm.cells rm.slots)
theorem MeetsI.of {l : Launch} {Z : State} {y : MethodName} {bytes : ByteArray} {maxL : Nat} {ret : Option FieldType} {rm : Room} {as : Array Value} {h0 : Heap} {Q : Option Value → Heap → List Loc → Prop} (hpl : plainFor y = true)
    (body : ∀ (p : Program) (e : Env) (s : State) (m : MethodId) (below : List Frame) (meth : Method) (c : Code) (s₁ : State) (P : Outcome → State → Prop), p.tables.exec = Jvm.exec → c.code = bytes → c.maxLocals = maxL → Z.Warmed39 s.vm → s.vm.findClass y.cls = some m.cls → meth.name = y.name → meth.sig.returnType = ret → meth.locks = false →
      Stand p l e rm (s.setVm s.vm) m as below meth c s₁ [] 0 0 → s₁.heap = h0 → s.Since s.vm h0.size → (∀ v t L, Q v t.heap L → ReturnedEndW s (.returned v) t L rm.cells rm.slots → P (.returned v) t) → Go p e below P s₁ (entryFrame m as maxL)) : MeetsI l Z y bytes maxL ret rm as h0 Q := by
  intro ws
  refine MetFree.of_bodySF hpl hisR ?_
  intro p e s m args below meth c s₁ Bd hml0 hP hK
  obtain ⟨rfl, hZ, hh⟩ := hP
  exact body p e s m below meth c s₁ _ Bd.exec Bd.bytes hml0 hZ (findClass_of_methodNamed Bd.named) (name_of_methodNamed Bd.named Bd.method).1 Bd.returns (BodyLoose.notSynchronized Bd) (Stand.of_body Bd) (by rw [← hh, Bd.state]; rfl) ((State.WarmedH.refl s).since _) (fun v t L hq hf => ⟨v, L, rfl, hq, hf⟩)
/-! a call that comes back -/
def BK (l : Launch) (R : Room) (p : Program) (e : Env) (below : List Frame) (s : State) (args : Array Value) (y : MethodName) (W : Nat) (as : Array Value) (h : Heap) (C S : Nat) (Q : Option Value → Heap → List Loc → Prop) : Prop :=
  Back l R p e below s args y 3 W (fun A a => a = as ∧ A.U.heap = h ∧ A.cells + C ≤ R.cells ∧ A.slots + S ≤ R.slots)
    (fun A _ v B => ∃ L, Q v B.U.heap L ∧ B.locs = A.locs ++ L ∧ B.cells = A.cells + C ∧ B.slots = A.slots + S)
section Calls
variable {p : Program} {l : Launch} {e : Env} {R : Room} {s : State} {m : MethodId} {args : Array Value} {below : List Frame} {meth : Method} {c : Code} {T : State} {locs : List Loc} {cells slots : Nat} {Z : State} {a0 : Array Value} {h : Heap} {P : Outcome → State → Prop}
theorem standUp {C S : Nat} (X : Stand p l e R s m args below meth c T locs cells slots) (hc : cells ≤ C) (hs : slots ≤ S) : Stand p l e R s m args below meth c T locs C S :=
  ⟨X.admits, X.cas, X.clock, X.frames, X.room, X.hears, X.method, X.code, X.here, X.tail, X.warmed, X.limits, X.bytes, X.same.mono hc hs⟩
theorem MeetsW.bk {y : MethodName} {bytes : ByteArray} {maxL : Nat} {ret : Option FieldType} {rm : Room} {as : Array Value} {Q : Option Value → Heap → List Loc → Prop} {W : Nat} (M : MeetsW l Z y bytes maxL ret rm as h Q) (hZ : Z.Warmed39 s.vm)
    (wc : (Jvm.Cond.code y bytes maxL ret).before a0 Z = true) (wz : (Jvm.Cond.initialized y.cls).before a0 Z = true) (hf : rm.frames + 1 ≤ R.frames) (hl : W + (maxL + 11) + rm.locals ≤ R.locals) : BK l R p e below s args y W as h rm.cells rm.slots Q :=
  backOf (M []) hZ wc wz hf hl
theorem BK.mono {y : MethodName} {W : Nat} {as : Array Value} {C S : Nat} {Q Q' : Option Value → Heap → List Loc → Prop} (B : BK l R p e below s args y W as h C S Q) (q : ∀ v h' L, Q v h' L → Q' v h' L) : BK l R p e below s args y W as h C S Q' :=
  Back.mono B (fun _ _ z => z) (fun _ _ _ _ _ ⟨L, z, r⟩ => ⟨L, q _ _ _ z, r⟩)
theorem goS (X : Stand p l e R s m args below meth c T locs cells slots) (hx : p.tables.exec = Jvm.exec) (hZ : Z.Warmed39 s.vm) {own : String} {index : Nat} {y : MethodName} {bytes : ByteArray} {maxL : Nat} {ret : Option FieldType} (hown : s.vm.findClass own = some m.cls)
    (w1 : (Jvm.Cond.methodLink own index y).before a0 Z = true) (w2 : (Jvm.Cond.static y).before a0 Z = true) (w3 : (Jvm.Cond.initialized y.cls).before a0 Z = true) (w4 : (Jvm.Cond.code y bytes maxL ret).before a0 Z = true) (hy : y.cls ≠ "java/lang/invoke/MethodHandle" ∧ y.cls ≠ "java/lang/invoke/VarHandle")
    {W C S : Nat} {as : Array Value} {Q : Option Value → Heap → List Loc → Prop} (B : BK l R p e below s args y W as h C S Q) (eT : T.heap = h) {pc : Nat} {Ls : Array Slot} {st argsL rest : List Value} (hml : Ls.size = c.maxLocals)
    (hlen : ∀ sig, parseMethodDescriptor y.desc = some sig → argsL.length = sig.parameters.length) (hst : st = argsL.reverse ++ rest) (has : argsL.toArray = as) (hd : decode c.code pc = .ok (.invokestatic index, 3)) (hW : (rest.map fun v => v.category).sum ≤ W) (hc : cells + C ≤ R.cells) (hs : slots + S ≤ R.slots)
    (k : ∀ v T' L, Stand p l e R s m args below meth c T' (locs ++ L) (cells + C) (slots + S) → Q v T'.heap L → Go p e below P T' (mkF m (pc + 3) Ls (v.toList ++ rest))) : Go p e below P T (mkF m pc Ls st) := by
  obtain ⟨v, _, ⟨T', L', k', n'⟩, -, X', ⟨Lc, hQ, l1, l2, l3⟩, stp⟩ := Jvm.LawKit.callS X hx hown (mvT hZ w1) (mvT hZ w2) (mvT hZ w3) (mvT hZ w4) hy B (g := mkF m pc Ls st) rfl hml hlen hst (by show 2 * 0 + _ ≤ _; simpa using hW) hd (fun _ _ => ⟨has, eT, hc, hs⟩)
  dsimp only [Pt.U, Pt.locs, Pt.cells, Pt.slots] at X' l1 l2 l3 stp hQ
  subst l1 l2 l3
  exact Go.of stp (k v T' Lc X' hQ)
theorem goI (X : Stand p l e R s m args below meth c T locs cells slots) (hx : p.tables.exec = Jvm.exec) (hZ : Z.Warmed39 s.vm) {own : String} {index : Nat} {y : MethodName} {bytes : ByteArray} {maxL : Nat} (hn : y.name = "<init>") (hown : s.vm.findClass own = some m.cls)
    (w1 : (Jvm.Cond.methodLink own index y).before a0 Z = true) (w2 : (Jvm.Cond.instanceMethod y).before a0 Z = true) (w4 : (Jvm.Cond.code y bytes maxL none).before a0 Z = true) (hy : y.cls ≠ "java/lang/invoke/MethodHandle" ∧ y.cls ≠ "java/lang/invoke/VarHandle")
    {W C S : Nat} {as : Array Value} {Q : Option Value → Heap → List Loc → Prop} (B : BK l R p e below s args y W as h C S Q) (eT : T.heap = h) {pc : Nat} {Ls : Array Slot} {a : Addr} {st argsL rest : List Value} (hml : Ls.size = c.maxLocals)
    (hlen : ∀ sig, parseMethodDescriptor y.desc = some sig → argsL.length = sig.parameters.length) (hst : st = argsL.reverse ++ .ref a :: rest) (has : (.ref a :: argsL).toArray = as) (hd : decode c.code pc = .ok (.invokespecial index, 3)) (hW : (rest.map fun v => v.category).sum ≤ W) (hc : cells + C ≤ R.cells) (hs : slots + S ≤ R.slots)
    (k : ∀ v T' L, Stand p l e R s m args below meth c T' (locs ++ L) (cells + C) (slots + S) → Q v T'.heap L → Go p e below P T' (mkF m (pc + 3) Ls (v.toList ++ rest))) : Go p e below P T (mkF m pc Ls st) := by
  obtain ⟨v, _, ⟨T', L', k', n'⟩, -, X', ⟨Lc, hQ, l1, l2, l3⟩, stp⟩ := X.specialBack hx hn hown (mvT hZ w1) (mvT hZ w2) (mvT hZ w4) hy B (g := mkF m pc Ls st) rfl hml (Steps.refl _) hlen hst (by show 2 * 0 + _ ≤ _; simpa using hW) hd (fun _ _ => ⟨has, eT, hc, hs⟩)
  dsimp only [Pt.U, Pt.locs, Pt.cells, Pt.slots] at X' l1 l2 l3 stp hQ
  subst l1 l2 l3
  exact Go.of (fun _ z => stp.trans z) (k v T' Lc X' hQ)
theorem goV (X : Stand p l e R s m args below meth c T locs cells slots) (hx : p.tables.exec = Jvm.exec) (hZ : Z.Warmed39 s.vm) {own K : String} {index : Nat} {y z : MethodName} (hown : s.vm.findClass own = some m.cls)
    (w1 : (Jvm.Cond.methodLink own index y).before a0 Z = true) (w2 : (Jvm.Cond.declares y).before a0 Z = true) (hnf : NotFace s y) (w3 : (Jvm.Cond.selects K y z).before a0 Z = true) (w4 : (Jvm.Cond.instanceMethod z).before a0 Z = true) (hy : y.cls ≠ "java/lang/invoke/MethodHandle" ∧ y.cls ≠ "java/lang/invoke/VarHandle")
    {W C S : Nat} {as : Array Value} {Q : Option Value → Heap → List Loc → Prop} (B : BK l R p e below s args z W as h C S Q) (eT : T.heap = h) {b : Addr} (E : Exa Z h b K) {pc : Nat} {Ls : Array Slot} {st argsL rest : List Value} (hml : Ls.size = c.maxLocals)
    (hlen : ∀ sig, parseMethodDescriptor y.desc = some sig → argsL.length = sig.parameters.length) (hst : st = argsL.reverse ++ .ref b :: rest) (has : (.ref b :: argsL).toArray = as) (hd : decode c.code pc = .ok (.invokevirtual index, 3)) (hW : (rest.map fun v => v.category).sum ≤ W) (hc : cells + C ≤ R.cells) (hs : slots + S ≤ R.slots)
    (k : ∀ v T' L, Stand p l e R s m args below meth c T' (locs ++ L) (cells + C) (slots + S) → Q v T'.heap L → Go p e below P T' (mkF m (pc + 3) Ls (v.toList ++ rest))) : Go p e below P T (mkF m pc Ls st) := by
  obtain ⟨cq, kq, qa, -, qc⟩ := isOf hZ eT E
  obtain ⟨v, _, ⟨T', L', k', n'⟩, -, X', ⟨Lc, hQ, l1, l2, l3⟩, stp⟩ := X.virtualBack hx hown (mvT hZ w1) (mvT hZ w2) hnf (mvT hZ w3) (mvT hZ w4) hy B qa qc (g := mkF m pc Ls st) rfl hml (Steps.refl _) hlen hst (by show 2 * 0 + _ ≤ _; simpa using hW) hd (fun _ _ => ⟨has, eT, hc, hs⟩)
  dsimp only [Pt.U, Pt.locs, Pt.cells, Pt.slots] at X' l1 l2 l3 stp hQ
  subst l1 l2 l3
  exact Go.of (fun _ z => stp.trans z) (k v T' Lc X' hQ)
theorem goP (X : Stand p l e R s m args below meth c T locs cells slots) (hx : p.tables.exec = Jvm.exec) (hZ : Z.Warmed39 s.vm) {own : String} {index n : Nat} {y : MethodName} {bytes : ByteArray} {maxL : Nat} {ret : Option FieldType} (hown : s.vm.findClass own = some m.cls)
    (w1 : (Jvm.Cond.methodLink own index y).before a0 Z = true) (w2 : (Jvm.Cond.instanceMethod y).before a0 Z = true) (w3 : (Jvm.Cond.privateMethod y).before a0 Z = true) (w4 : (Jvm.Cond.code y bytes maxL ret).before a0 Z = true) (wi : (Jvm.Cond.instantiable y.cls n).before a0 Z = true) (hy : y.cls ≠ "java/lang/invoke/MethodHandle" ∧ y.cls ≠ "java/lang/invoke/VarHandle")
    {W C S : Nat} {as : Array Value} {Q : Option Value → Heap → List Loc → Prop} (B : BK l R p e below s args y W as h C S Q) (eT : T.heap = h) {b : Addr} {K : String} (E : Exa Z h b K) {pc : Nat} {Ls : Array Slot} {st argsL rest : List Value} (hml : Ls.size = c.maxLocals)
    (hlen : ∀ sig, parseMethodDescriptor y.desc = some sig → argsL.length = sig.parameters.length) (hst : st = argsL.reverse ++ .ref b :: rest) (has : (.ref b :: argsL).toArray = as) (hd : decode c.code pc = .ok (.invokevirtual index, 3)) (hW : (rest.map fun v => v.category).sum ≤ W) (hc : cells + C ≤ R.cells) (hs : slots + S ≤ R.slots)
    (k : ∀ v T' L, Stand p l e R s m args below meth c T' (locs ++ L) (cells + C) (slots + S) → Q v T'.heap L → Go p e below P T' (mkF m (pc + 3) Ls (v.toList ++ rest))) : Go p e below P T (mkF m pc Ls st) := by
  have hp := Cond.privateMethod_at (mvP hZ w3 (args := args))
  obtain ⟨ci, ki, i1, i2, i3, i4, i5, -⟩ := Cond.instantiable_spec (mvT hZ wi (args := args))
  have hsel : (Jvm.Cond.selects y.cls y y).before args s = true := Jvm.Stand.selects_self_of_private i1 i2 (Bool.or_eq_false_iff.mp i4).1 hp (mvT hZ w2) hy
  obtain ⟨cq, q1, q2⟩ := E.cell
  obtain ⟨v, _, ⟨T', L', k', n'⟩, -, X', ⟨Lc, hQ, l1, l2, l3⟩, stp⟩ := X.privateBack hx hown (mvT hZ w1) (mvT hZ w2) hsel hp (mvT hZ w4) hy B (g := mkF m pc Ls st) rfl hml (Steps.refl _) (by rw [eT]; exact q1) q2 hlen hst (by show 2 * 0 + _ ≤ _; simpa using hW) hd (fun _ _ => ⟨has, eT, hc, hs⟩)
  dsimp only [Pt.U, Pt.locs, Pt.cells, Pt.slots] at X' l1 l2 l3 stp hQ
  subst l1 l2 l3
  exact Go.of (fun _ z => stp.trans z) (k v T' Lc X' hQ)
/-! pure: what a contract 'Pu' gives -/
theorem standNil {L : List Loc} (X : Stand p l e R s m args below meth c T (locs ++ L) (cells + 0) (slots + 0)) (q : L = []) : Stand p l e R s m args below meth c T locs cells slots := by
  subst q; rw [List.append_nil] at X; exact X
/-! the end -/
theorem goRet0 (X : Stand p l e R s m args below meth c T locs cells slots) (hx : p.tables.exec = Jvm.exec) (hret : meth.sig.returnType = none) (hlk : meth.locks = false) {pc : Nat} {Ls : Array Slot} {C S : Nat} {Q : Option Value → Heap → List Loc → Prop}
    (hd : decode c.code pc = .ok (.return_, 1)) (K : ∀ v t L, Q v t.heap L → FrameEnd s (.returned v) t L C S → P (.returned v) t) (hc : cells ≤ C) (hs : slots ≤ S) (eT : T.heap = h) (hq : Q none h locs) : Go p e below P T (mkF m pc Ls []) := by
  obtain ⟨fs, hr, hrun, hended, hW, hsame⟩ := X.leave (v := none) (fun _ => rfl) hlk
  exact ⟨_, _, X.returnOut hx hret hd hr, hrun, hended, K _ _ _ (by rw [← eT] at hq; exact hq) ⟨⟨_, rfl⟩, hW, hsame.mono hc hs⟩⟩
theorem goRet (X : Stand p l e R s m args below meth c T locs cells slots) (hx : p.tables.exec = Jvm.exec) {t : FieldType} (hret : meth.sig.returnType = some t) (hlk : meth.locks = false) {pc : Nat} {Ls : Array Slot} {C S : Nat} {w : Value} {rest : List Value} {i : Instr} {Q : Option Value → Heap → List Loc → Prop}
    (hn : narrow t w = w) (hi : (i = .ireturn ∧ (t = .int ∨ t = .boolean ∨ t = .byte ∨ t = .char ∨ t = .short) ∧ ∃ z, w = .int z) ∨ (i = .lreturn ∧ t = .long ∧ ∃ z, w = .long z) ∨ (i = .dreturn ∧ t = .double ∧ ∃ z, w = .double z) ∨ (i = .freturn ∧ t = .float ∧ ∃ z, w = .float z) ∨ (i = .areturn ∧ t.isReference = true ∧ w.isRef = true))
    (hd : decode c.code pc = .ok (i, 1)) (K : ∀ v t L, Q v t.heap L → FrameEnd s (.returned v) t L C S → P (.returned v) t) (hc : cells ≤ C) (hs : slots ≤ S) (eT : T.heap = h) (hq : Q (some w) h locs) : Go p e below P T (mkF m pc Ls (w :: rest)) := by
  obtain ⟨fs, hr, hrun, hended, hW, hsame⟩ := X.leave (v := some w) (fun q => by rw [hret] at q; cases q) hlk
  exact ⟨_, _, retOut X hx hret hn hi hd hr, hrun, hended, K _ _ _ (by rw [← eT] at hq; exact hq) ⟨⟨_, rfl⟩, hW, hsame.mono hc hs⟩⟩
theorem goRetI (X : Stand p l e R s m args below meth c T locs cells slots) (hx : p.tables.exec = Jvm.exec) {t : FieldType} (hret : meth.sig.returnType = some t) (hlk : meth.locks = false) {pc : Nat} {Ls : Array Slot} {C S : Nat} {z : Int32} {rest : List Value} {Q : Option Value → Heap → List Loc → Prop}
    (hn : narrow t (.int z) = .int z) (ht : t = .int ∨ t = .boolean ∨ t = .byte ∨ t = .char ∨ t = .short) (hd : decode c.code pc = .ok (.ireturn, 1)) (K : ∀ v t L, Q v t.heap L → FrameEnd s (.returned v) t L C S → P (.returned v) t) (hc : cells ≤ C) (hs : slots ≤ S) (eT : T.heap = h) (hq : Q (some (.int z)) h locs) : Go p e below P T (mkF m pc Ls (.int z :: rest)) :=
  goRet X hx hret hlk hn (Or.inl ⟨rfl, ht, z, rfl⟩) hd K hc hs eT hq
theorem goRetJ (X : Stand p l e R s m args below meth c T locs cells slots) (hx : p.tables.exec = Jvm.exec) (hret : meth.sig.returnType = some .long) (hlk : meth.locks = false) {pc : Nat} {Ls : Array Slot} {C S : Nat} {z : Int64} {rest : List Value} {Q : Option Value → Heap → List Loc → Prop}
    (hd : decode c.code pc = .ok (.lreturn, 1)) (K : ∀ v t L, Q v t.heap L → FrameEnd s (.returned v) t L C S → P (.returned v) t) (hc : cells ≤ C) (hs : slots ≤ S) (eT : T.heap = h) (hq : Q (some (.long z)) h locs) : Go p e below P T (mkF m pc Ls (.long z :: rest)) :=
  goRet X hx hret hlk rfl (Or.inr (Or.inl ⟨rfl, rfl, z, rfl⟩)) hd K hc hs eT hq
theorem goRetR (X : Stand p l e R s m args below meth c T locs cells slots) (hx : p.tables.exec = Jvm.exec) {t : FieldType} (hret : meth.sig.returnType = some t) (ht : t.isReference = true) (hlk : meth.locks = false) {pc : Nat} {Ls : Array Slot} {C S : Nat} {w : Value} {rest : List Value} {Q : Option Value → Heap → List Loc → Prop}
    (hw : w.isRef = true) (hn : narrow t w = w) (hd : decode c.code pc = .ok (.areturn, 1)) (K : ∀ v t L, Q v t.heap L → FrameEnd s (.returned v) t L C S → P (.returned v) t) (hc : cells ≤ C) (hs : slots ≤ S) (eT : T.heap = h) (hq : Q (some w) h locs) : Go p e below P T (mkF m pc Ls (w :: rest)) :=
  goRet X hx hret hlk hn (Or.inr (Or.inr (Or.inr (Or.inr ⟨rfl, ht, hw⟩)))) hd K hc hs eT hq
/-! the wide end: where a String constant may have been interned -/
theorem goRetW {vm1 : Vm} {k1 : Nat} (X : Stand p l e R (s.setVm vm1) m args below meth c T locs cells slots) (hx : p.tables.exec = Jvm.exec) (hS : s.Since vm1 k1) (hk : k1 ≤ h.size) {t : FieldType} (hret : meth.sig.returnType = some t) (hlk : meth.locks = false) {pc : Nat} {Ls : Array Slot} {C S : Nat} {w : Value} {rest : List Value} {i : Instr} {Q : Option Value → Heap → List Loc → Prop}
    (hn : narrow t w = w) (hi : (i = .ireturn ∧ (t = .int ∨ t = .boolean ∨ t = .byte ∨ t = .char ∨ t = .short) ∧ ∃ z, w = .int z) ∨ (i = .lreturn ∧ t = .long ∧ ∃ z, w = .long z) ∨ (i = .dreturn ∧ t = .double ∧ ∃ z, w = .double z) ∨ (i = .freturn ∧ t = .float ∧ ∃ z, w = .float z) ∨ (i = .areturn ∧ t.isReference = true ∧ w.isRef = true))
    (hd : decode c.code pc = .ok (i, 1)) (K : ∀ v t L, Q v t.heap L → ReturnedEndW s (.returned v) t L C S → P (.returned v) t) (hc : cells ≤ C) (hs : slots ≤ S) (eT : T.heap = h) (hq : Q (some w) h locs) : Go p e below P T (mkF m pc Ls (w :: rest)) := by
  obtain ⟨fs, hr, hrun, hended, h1, h2, h3, h4⟩ := X.leaveW hS (by rw [eT]; exact hk) (v := some w) (fun q => by rw [hret] at q; cases q) hlk
  exact ⟨_, _, retOut X hx hret hn hi hd hr, hrun, hended, K _ _ _ (by rw [← eT] at hq; exact hq) ⟨h1, h2, h3, h4.mono hc hs⟩⟩
theorem goRetIW {vm1 : Vm} {k1 : Nat} (X : Stand p l e R (s.setVm vm1) m args below meth c T locs cells slots) (hx : p.tables.exec = Jvm.exec) (hS : s.Since vm1 k1) (hk : k1 ≤ h.size) {t : FieldType} (hret : meth.sig.returnType = some t) (hlk : meth.locks = false) {pc : Nat} {Ls : Array Slot} {C S : Nat} {z : Int32} {rest : List Value} {Q : Option Value → Heap → List Loc → Prop}
    (hn : narrow t (.int z) = .int z) (ht : t = .int ∨ t = .boolean ∨ t = .byte ∨ t = .char ∨ t = .short) (hd : decode c.code pc = .ok (.ireturn, 1)) (K : ∀ v t L, Q v t.heap L → ReturnedEndW s (.returned v) t L C S → P (.returned v) t) (hc : cells ≤ C) (hs : slots ≤ S) (eT : T.heap = h) (hq : Q (some (.int z)) h locs) : Go p e below P T (mkF m pc Ls (.int z :: rest)) :=
  goRetW X hx hS hk hret hlk hn (Or.inl ⟨rfl, ht, z, rfl⟩) hd K hc hs eT hq
theorem goRetRW {vm1 : Vm} {k1 : Nat} (X : Stand p l e R (s.setVm vm1) m args below meth c T locs cells slots) (hx : p.tables.exec = Jvm.exec) (hS : s.Since vm1 k1) (hk : k1 ≤ h.size) {t : FieldType} (hret : meth.sig.returnType = some t) (ht : t.isReference = true) (hlk : meth.locks = false) {pc : Nat} {Ls : Array Slot} {C S : Nat} {w : Value} {rest : List Value} {Q : Option Value → Heap → List Loc → Prop}
    (hw : w.isRef = true) (hn : narrow t w = w) (hd : decode c.code pc = .ok (.areturn, 1)) (K : ∀ v t L, Q v t.heap L → ReturnedEndW s (.returned v) t L C S → P (.returned v) t) (hc : cells ≤ C) (hs : slots ≤ S) (eT : T.heap = h) (hq : Q (some w) h locs) : Go p e below P T (mkF m pc Ls (w :: rest)) :=
  goRetW X hx hS hk hret hlk hn (Or.inr (Or.inr (Or.inr (Or.inr ⟨rfl, ht, hw⟩)))) hd K hc hs eT hq
theorem goRet0W {vm1 : Vm} {k1 : Nat} (X : Stand p l e R (s.setVm vm1) m args below meth c T locs cells slots) (hx : p.tables.exec = Jvm.exec) (hS : s.Since vm1 k1) (hk : k1 ≤ h.size) (hret : meth.sig.returnType = none) (hlk : meth.locks = false) {pc : Nat} {Ls : Array Slot} {C S : Nat} {Q : Option Value → Heap → List Loc → Prop}
    (hd : decode c.code pc = .ok (.return_, 1)) (K : ∀ v t L, Q v t.heap L → ReturnedEndW s (.returned v) t L C S → P (.returned v) t) (hc : cells ≤ C) (hs : slots ≤ S) (eT : T.heap = h) (hq : Q none h locs) : Go p e below P T (mkF m pc Ls []) := by
  obtain ⟨fs, hr, hrun, hended, h1, h2, h3, h4⟩ := X.leaveW hS (by rw [eT]; exact hk) (v := none) (fun _ => rfl) hlk
  exact ⟨_, _, X.returnOut hx hret hd hr, hrun, hended, K _ _ _ (by rw [← eT] at hq; exact hq) ⟨h1, h2, h3, h4.mono hc hs⟩⟩
theorem lremM {g : JFrame} {target : State} (X : Stand p l e R s m args below meth c T locs cells slots) (hx : p.tables.exec = Jvm.exec) (hg : g.method = m) {x y : Int64} {rest : List Value} (hd : decode c.code g.pc = .ok (.lrem, 1)) (hs : g.stack = .long y :: .long x :: rest) (hy : y ≠ 0)
    (hr : Steps p.tables e below (T.setTop { g with pc := g.pc + 1, stack := .long (x % y) :: rest }) target) : Steps p.tables e below (T.setTop g) target := by
  have q : x - x / y * y = x % y := lrem_mod x y
  exact XS.lrem X.here hx hg hd hs hy (by rw [q]; exact hr)
end Calls
theorem refcat {v : Value} (h : v.isRef = true) : v.category = 1 := by rcases ref_cases h with rfl | ⟨a, rfl⟩ <;> rfl
theorem narref {t : FieldType} {v : Value} (h : v.isRef = true) : narrow t v = v := by rcases ref_cases h with rfl | ⟨a, rfl⟩ <;> cases t <;> rfl
theorem fitrefO {C : String} {v : Value} (h : v.isRef = true) : fits (.object C) v = true := by rcases ref_cases h with rfl | ⟨a, rfl⟩ <;> rfl
theorem fitrefA {t : FieldType} {v : Value} (h : v.isRef = true) : fits (.array t) v = true := by rcases ref_cases h with rfl | ⟨a, rfl⟩ <;> rfl
/-! booleans -/
def bi (φ : Prop) [Decidable φ] : Int32 := if φ then 1 else 0
theorem bi_t {φ : Prop} [Decidable φ] (h : φ) : bi φ = 1 := if_pos h
theorem bi_f {φ : Prop} [Decidable φ] (h : ¬ φ) : bi φ = 0 := if_neg h
theorem bi_ne {φ : Prop} [Decidable φ] (h : φ) : ¬ bi φ = 0 := by rw [bi_t h]; decide
theorem narrow_bi {φ : Prop} [Decidable φ] : narrow .boolean (.int (bi φ)) = .int (bi φ) := by unfold bi; split <;> rfl
end W
end Jvm.Pilot.@@N@@
namespace Jvm.Pilot.@@N@@
namespace W
open Jvm Jvm.ClassFile Sem Op Lib Jvm.Free Jvm.Stand Jvm.LawKit Jvm.RoadKit Bundle
/-! a String by its chars -/
def Str (Z : State) (h : Heap) (a t : Addr) (cs : List Int32) : Prop := ∃ (kb : ClassId) (cd N : Int32) (vs : List Value), Exa Z h a "java/lang/String" ∧ Fld Z h a "java/lang/String" "value" "[B" (.ref t) ∧ Fld Z h a "java/lang/String" "coder" "B" (.int cd) ∧ Arv Z h t kb .byte N vs (.int 0) ∧ StrChars.Road.CodA cs cd N vs ∧ (∀ c ∈ cs, ¬ c < 0 ∧ ¬ (65535 : Int32) < c) ∧ cs.length ≤ 4000
section Strs
variable {Z : State} {h h' : Heap} {a t : Addr} {cs : List Int32} {ws : List Addr}
theorem Str.keep (F : Str Z h a t cs) (K : Keep h h' ws) (q : a ∉ ws) (r : t ∉ ws) : Str Z h' a t cs := by
  obtain ⟨kb, cd, N, vs, E, V, C, A, g⟩ := F
  exact ⟨kb, cd, N, vs, E.keep K, V.keep K q, C.keep K q, A.keep K r, g⟩
theorem Str.exa (F : Str Z h a t cs) : Exa Z h a "java/lang/String" := by obtain ⟨kb, cd, N, vs, E, -⟩ := F; exact E
theorem Str.lt1 (F : Str Z h a t cs) : a < h.size := F.exa.lt
theorem Str.lt2 (F : Str Z h a t cs) : t < h.size := by obtain ⟨kb, cd, N, vs, E, V, C, A, g⟩ := F; exact A.lt
end Strs
theorem up255 {cs : List Int32} (h : ∀ c ∈ cs, ¬ c < 0 ∧ ¬ (255 : Int32) < c) : ∀ c ∈ cs, ¬ c < 0 ∧ ¬ (65535 : Int32) < c := fun c hc => ⟨(h c hc).1, fun q => (h c hc).2 (by rw [Int32.lt_iff_toInt_lt] at q ⊢; have e1 : (65535 : Int32).toInt = 65535 := rfl; have e2 : (255 : Int32).toInt = 255 := rfl; omega)⟩
theorem nat32 {n : Nat} (h : n < 2 ^ 31) : (Int32.ofNat n).toNatClampNeg = n := by
  show (Int32.ofNat n).toInt.toNat = n
  rw [Int32.toInt_ofNat_of_lt h]; rfl
theorem str1 {Z : State} {h : Heap} {a t : Addr} {k : ClassId} {c : Int32} (hp : ¬ c < 0 ∧ ¬ (255 : Int32) < c) (E : Exa Z h a "java/lang/String") (V : Fld Z h a "java/lang/String" "value" "[B" (.ref t)) (C : Fld Z h a "java/lang/String" "coder" "B" (.int (0 : Int32))) (A : Arv Z h t k .byte (1 : Int32) [.int (c.toInt8.toInt32)] (.int (0 : Int32))) : Str Z h a t [c] := by
  have hq : ∀ d ∈ [c], ¬ d < 0 ∧ ¬ (255 : Int32) < d := fun d hd => by cases List.mem_singleton.mp hd; exact hp
  exact ⟨k, 0, 1, _, E, V, C, A, Or.inl ⟨rfl, rfl, rfl, fun d hd => (hq d hd).2⟩, up255 hq, by simp⟩
theorem nar_b (x : Int32) : nar .byte (x.toInt8.toInt32) = x.toInt8.toInt32 := by
  show x.toInt8.toInt32.toInt8.toInt32 = _
  simp
section StrCalls
variable {p : Program} {l : Launch} {e : Env} {R : Room} {s : State} {args : Array Value} {below : List Frame} {W : Nat} {Z : State} {a0 : Array Value} {h : Heap}
theorem newStr (hZ : Z.Warmed39 s.vm) (hw : ∀ d ∈ StrChars.Road.words, d.before a0 Z = true) {kI : Nat} (wi : (Jvm.Cond.instantiable "java/lang/String" kI).before a0 Z = true) {x b : Addr} {k : ClassId} {zn z : Int32} {cs : List Int32} {dv v0 c0 : Value} (E : Exa Z h x "java/lang/String") (V : Fld Z h x "java/lang/String" "value" "[B" v0) (C : Fld Z h x "java/lang/String" "coder" "B" c0)
    {vs : List Value} (A : Arv Z h b k .char zn vs dv) (hvs : vs = cs.map Value.int) (S : Sta Z h "java/lang/String" "COMPACT_STRINGS" "Z" (.int z)) (hz : ¬ z = 0) {n : Nat} (hn : cs.length = n) (hN : zn = Int32.ofNat n) (l0 : 0 < n) (l2 : n ≤ 4000) (hp : ∀ c ∈ cs, ¬ c < 0 ∧ ¬ (255 : Int32) < c) (hfr : 4 ≤ R.frames) (hlo : W + 65 ≤ R.locals) :
    BK l R p e below s args (⟨"java/lang/String", "<init>", "([C)V"⟩ : MethodName) W #[.ref x, .ref b] h 1 n (fun v h' L => v = none ∧ Mv h h' [x] L ∧ ∃ t, h.size ≤ t ∧ Str Z h' x t cs) := by
  subst hn hN hvs
  have hlen : (Int32.ofNat cs.length).toNatClampNeg = cs.length := nat32 (by omega)
  refine BK.mono (Q := StrChars.Road.QA Z x (Int32.ofNat cs.length) cs h) (StrChars.Road.backArv hZ hw wi E V C A S hz hlen l0 (by omega) (fun c hc => (hp c hc).2) hfr hlo) ?_
  intro v h' L hq
  obtain ⟨q1, q2, q3, q4, q5, q6, q7, ⟨kb, v1, v2⟩, q9⟩ := hq
  refine ⟨q1, ⟨q3, fun y hy => Or.inl (by rw [q2 y hy]; exact List.mem_singleton.mpr rfl)⟩, h.size, Nat.le_refl _, kb, 0, _, _, q5, q6, q7, v2, ?_, up255 hp, l2⟩
  have := StrChars.Road.codOf (cs := cs) rfl (fun c hc => (hp c hc).2)
  rw [List.map_map] at this
  exact this
theorem eqStr (hZ : Z.Warmed39 s.vm) (hw : ∀ d ∈ StrChars.Road.wordsEq, d.before a0 Z = true) {kI : Nat} (wi : (Jvm.Cond.instantiable "java/lang/String" kI).before a0 Z = true) {x t y u : Addr} {cs ds : List Int32} {z : Int32} (F : Str Z h x t cs) (G : Str Z h y u ds) (S : Sta Z h "java/lang/String" "COMPACT_STRINGS" "Z" (.int z)) (hz : ¬ z = 0) (hfr : 2 ≤ R.frames) (hlo : W + 28 ≤ R.locals) :
    BK l R p e below s args (⟨"java/lang/String", "equals", "(Ljava/lang/Object;)Z"⟩ : MethodName) W #[.ref x, .ref y] h 0 0 (Pu h (fun v => v = some (.int (bi (cs = ds))))) := by
  obtain ⟨kb, cd, N, vs, E, V, C, A, g1, g2, g3⟩ := F
  obtain ⟨kb', cd', N', vs', E', V', C', A', g1', g2', g3'⟩ := G
  refine BK.mono (Q := fun v h' L => ((v = some (.int 1) ∧ cs = ds) ∨ (v = some (.int 0) ∧ ¬ cs = ds)) ∧ L = [] ∧ h' = h) (StrChars.Road.eqW hZ hw wi E V C A g1 g2 g3 E' V' C' A' g1' g2' g3' S hz hfr hlo) fun v h' L hq => ⟨hq.2.1, hq.2.2, ?_⟩
  rcases hq.1 with ⟨q, r⟩ | ⟨q, r⟩
  · rw [q, bi_t r]
  · rw [q, bi_f r]
end StrCalls
end W
end Jvm.Pilot.@@N@@
namespace Jvm.Pilot.@@N@@
open Jvm Jvm.ClassFile Sem Op Lib Jvm.Free Jvm.Stand Jvm.LawKit Jvm.RoadKit Bundle Jvm.Pilot.@@N@@.Jvm.D Jvm.Pilot.@@N@@.W
theorem m255 (x : Int32) : ¬ (x &&& (255 : Int32)).toUInt32.toUInt16.toUInt32.toInt32 < 0 ∧ ¬ (255 : Int32) < (x &&& (255 : Int32)).toUInt32.toUInt16.toUInt32.toInt32 := by
  rw [i2c_mask]
  have h := c_mask x 255 8 (by decide) (by decide)
  have e1 : (0 : Int32).toInt = 0 := by decide
  have e2 : (255 : Int32).toInt = 255 := by decide
  rw [Int32.lt_iff_toInt_lt, Int32.lt_iff_toInt_lt, h, e1, e2]; omega
theorem narC (x : Int32) : nar .char (x.toUInt32.toUInt16.toUInt32.toInt32) = x.toUInt32.toUInt16.toUInt32.toInt32 := by
  have h1 := c_i2c x
  have h2 := c_i2c (x.toUInt32.toUInt16.toUInt32.toInt32)
  show x.toUInt32.toUInt16.toUInt32.toInt32.toUInt32.toUInt16.toUInt32.toInt32 = x.toUInt32.toUInt16.toUInt32.toInt32
  apply Int32.toInt_inj.mp
  omega

def Lat (c : Int32) : Prop := ¬ c < 0 ∧ ¬ (255 : Int32) < c
theorem lat_num {c : Int32} : Lat c ↔ 0 ≤ c.toInt ∧ c.toInt ≤ 255 := by
  unfold Lat
  have e1 : (0 : Int32).toInt = 0 := by decide
  have e2 : (255 : Int32).toInt = 255 := by decide
  rw [Int32.lt_iff_toInt_lt, Int32.lt_iff_toInt_lt, e1, e2]; omega
theorem lat_nar {c : Int32} (h : Lat c) : nar .char c = c := by
  have h1 := c_i2c c
  rw [lat_num] at h
  show c.toUInt32.toUInt16.toUInt32.toInt32 = c
  apply Int32.toInt_inj.mp
  omega
theorem eq_int_v {t : Term} {n : Int32} {args : Array Value} {s : State} (h : (Jvm.Cond.eq t (Term.int n)).value args s none s [] = some true) : t.eval args s none [] s = some (.int n) := by
  obtain ⟨x, y, e1, e2, k1, k2⟩ := cmp_v (Or.inl h)
  cases (Term.int_eval n).symm.trans e2
  obtain ⟨z, rfl⟩ := k2
  rw [gotT (Cond.eq_ints e1 (Term.int_eval n)) h] at e1
  exact e1

theorem boolNar {p : Int32} (h : p = 0 ∨ p = 1) : narrow .boolean (.int p) = .int p ∧ fits .boolean (.int p) = true := by rcases h with rfl | rfl <;> decide

theorem os0 {ca c1 c2 c3 c4 : Addr} {of os : Int32} (h : (ca = c1 ∧ of = 1 ∧ os = 1) ∨ (ca = c2 ∧ of = 1 ∧ os = 0) ∨ (ca = c3 ∧ of = 0 ∧ os = 1) ∨ (ca = c4 ∧ of = 0 ∧ os = 0)) (n12 : c1 ≠ c2) (n13 : c1 ≠ c3) (n14 : c1 ≠ c4) (n23 : c2 ≠ c3) (n24 : c2 ≠ c4) (n34 : c3 ≠ c4) : (os = (0 : Int32) ↔ ca = c2 ∨ ca = c4) ∧ (of = (0 : Int32) ↔ ca = c3 ∨ ca = c4) := by
  rcases h with ⟨rfl, rfl, rfl⟩ | ⟨rfl, rfl, rfl⟩ | ⟨rfl, rfl, rfl⟩ | ⟨rfl, rfl, rfl⟩ <;> simp [n12, n13, n14, n23, n24, n34, Ne.symm n12, Ne.symm n13, Ne.symm n14, Ne.symm n23, Ne.symm n24, Ne.symm n34]
theorem two_eq {a b c d : Int32} : ([a, b] : List Int32) = [c, d] ↔ a = c ∧ b = d := by simp

theorem pn_com_example_denormal_denormal_modelfile_Relationship : plainName "com/example/denormal/denormal/modelfile/Relationship" = true := by first | (simp [plainName, overriddenIn]; done) | decide +kernel
theorem ef_rm_rel (m : MethodId) (x0 : Addr) (x1 : Addr) (x2 : Addr) (x3 : Addr) (x4 : Addr)  : entryFrame m #[(.ref x0), (.ref x1), (.ref x2), (.ref x3), (.ref x4)] 5 = mkF m 0 #[.val (.ref x0), .val (.ref x1), .val (.ref x2), .val (.ref x3), .val (.ref x4)] [] := by first | (simp [entryFrame, mkF, argsToLocals, Value.category]; done) | rfl
theorem d_prog_7_method_1_code_0 : decode prog_7_method_1_code 0 = .ok (.aload_n 0, 1) := by decide +kernel
theorem d_prog_7_method_1_code_1 : decode prog_7_method_1_code 1 = .ok (.invokespecial 1, 3) := by decide +kernel
theorem d_prog_7_method_1_code_4 : decode prog_7_method_1_code 4 = .ok (.aload_n 0, 1) := by decide +kernel
theorem d_prog_7_method_1_code_5 : decode prog_7_method_1_code 5 = .ok (.aload_n 1, 1) := by decide +kernel
theorem d_prog_7_method_1_code_6 : decode prog_7_method_1_code 6 = .ok (.putfield 7, 3) := by decide +kernel
theorem d_prog_7_method_1_code_9 : decode prog_7_method_1_code 9 = .ok (.aload_n 0, 1) := by decide +kernel
theorem d_prog_7_method_1_code_10 : decode prog_7_method_1_code 10 = .ok (.aload_n 2, 1) := by decide +kernel
theorem d_prog_7_method_1_code_11 : decode prog_7_method_1_code 11 = .ok (.putfield 13, 3) := by decide +kernel
theorem d_prog_7_method_1_code_14 : decode prog_7_method_1_code 14 = .ok (.aload_n 0, 1) := by decide +kernel
theorem d_prog_7_method_1_code_15 : decode prog_7_method_1_code 15 = .ok (.aload_n 3, 1) := by decide +kernel
theorem d_prog_7_method_1_code_16 : decode prog_7_method_1_code 16 = .ok (.putfield 16, 3) := by decide +kernel
theorem d_prog_7_method_1_code_19 : decode prog_7_method_1_code 19 = .ok (.aload_n 0, 1) := by decide +kernel
theorem d_prog_7_method_1_code_20 : decode prog_7_method_1_code 20 = .ok (.aload 4, 2) := by decide +kernel
theorem d_prog_7_method_1_code_22 : decode prog_7_method_1_code 22 = .ok (.putfield 19, 3) := by decide +kernel
theorem d_prog_7_method_1_code_25 : decode prog_7_method_1_code 25 = .ok (.return_, 1) := by decide +kernel
set_option maxRecDepth 65536 in
set_option maxHeartbeats 40000000 in
theorem rm_rel (l : Launch) (Z : State) (a0 : Array Value) (hw : ∀ d ∈ tables_1, d.before a0 Z = true) (a1 : Addr) (a2 a3 a4 a5 : Addr) (h0 : Heap) (E_a1 : Exa Z h0 a1 "com/example/denormal/denormal/modelfile/Relationship") (F_name : Fld Z h0 a1 "com/example/denormal/denormal/modelfile/Relationship" "name" "Ljava/lang/String;" .null) (F_first : Fld Z h0 a1 "com/example/denormal/denormal/modelfile/Relationship" "first" "Ljava/lang/String;" .null) (F_second : Fld Z h0 a1 "com/example/denormal/denormal/modelfile/Relationship" "second" "Ljava/lang/String;" .null) (F_cardinality : Fld Z h0 a1 "com/example/denormal/denormal/modelfile/Relationship" "cardinality" "Lcom/example/denormal/denormal/modelfile/Cardinality;" .null)  :
    MeetsW l Z (⟨"com/example/denormal/denormal/modelfile/Relationship", "<init>", "(Ljava/lang/String;Ljava/lang/String;Ljava/lang/String;Lcom/example/denormal/denormal/modelfile/Cardinality;)V"⟩ : MethodName) prog_7_method_1_code 5 none ({ frames := 1, cells := 0, slots := 0, locals := 12 } : Room) #[(.ref a1), (.ref a2), (.ref a3), (.ref a4), (.ref a5)] h0 (fun v h L => v = none ∧ Mv h0 h [a1] L ∧ Exa Z h a1 "com/example/denormal/denormal/modelfile/Relationship" ∧ Fld Z h a1 "com/example/denormal/denormal/modelfile/Relationship" "name" "Ljava/lang/String;" (.ref a2) ∧ Fld Z h a1 "com/example/denormal/denormal/modelfile/Relationship" "first" "Ljava/lang/String;" (.ref a3) ∧ Fld Z h a1 "com/example/denormal/denormal/modelfile/Relationship" "second" "Ljava/lang/String;" (.ref a4) ∧ Fld Z h a1 "com/example/denormal/denormal/modelfile/Relationship" "cardinality" "Lcom/example/denormal/denormal/modelfile/Cardinality;" (.ref a5)) := by
  refine MeetsW.of (plainFor_of_name pn_com_example_denormal_denormal_modelfile_Relationship) ?_
  intro p e s m below meth c s₁ P hx hby hml hZ hown hnm hret hlk X0 e0 K
  have M0 : Mv h0 h0 [a1] [] := Mv.refl _ _
  refine Go.cast (ef_rm_rel m a1 a2 a3 a4 a5 ) ?_
  refine Go.of (T' := s₁) (f' := (mkF m 1 #[.val (.ref a1), .val (.ref a2), .val (.ref a3), .val (.ref a4), .val (.ref a5)] [(.ref a1)])) (fun _ k => XS.aloadN X0.here hx rfl (hb hby d_prog_7_method_1_code_0) rfl rfl k) ?_
  obtain ⟨T1, X1, e1, st1⟩ := initO X0 hx hZ hown (hw _ (List.mem_of_getElem? (i := 47) rfl)) (hw _ (List.mem_of_getElem? (i := 20) rfl)) (hw _ (List.mem_of_getElem? (i := 21) rfl)) e0 (g := (mkF m 1 #[.val (.ref a1), .val (.ref a2), .val (.ref a3), .val (.ref a4), .val (.ref a5)] [(.ref a1)])) rfl (by rw [hml]; rfl) rfl (hb hby d_prog_7_method_1_code_1) (by decide) (W := 0) (by show 2 * 0 + _ ≤ _; exact Nat.le_of_eq rfl) (by decide)
  refine Go.of (T' := T1) (f' := (mkF m 4 #[.val (.ref a1), .val (.ref a2), .val (.ref a3), .val (.ref a4), .val (.ref a5)] [])) st1 ?_
  refine Go.of (T' := T1) (f' := (mkF m 5 #[.val (.ref a1), .val (.ref a2), .val (.ref a3), .val (.ref a4), .val (.ref a5)] [(.ref a1)])) (fun _ k => XS.aloadN X1.here hx rfl (hb hby d_prog_7_method_1_code_4) rfl rfl k) ?_
  refine Go.of (T' := T1) (f' := (mkF m 6 #[.val (.ref a1), .val (.ref a2), .val (.ref a3), .val (.ref a4), .val (.ref a5)] [(.ref a2), (.ref a1)])) (fun _ k => XS.aloadN X1.here hx rfl (hb hby d_prog_7_method_1_code_5) rfl rfl k) ?_
  obtain ⟨T2, h2, X2, e2, W2, st2⟩ := putF X1 hx hZ hown (host := "") (Or.inl (hw _ (List.mem_of_getElem? (i := 48) rfl))) Via.refl e1 F_name E_a1 (Or.inr ⟨(hw _ (List.mem_of_getElem? (i := 49) rfl)), rfl, hnm⟩) (hw _ (List.mem_of_getElem? (i := 39) rfl)) (ty := (.object "java/lang/String")) (by decide) rfl rfl (g := (mkF m 6 #[.val (.ref a1), .val (.ref a2), .val (.ref a3), .val (.ref a4), .val (.ref a5)] [(.ref a2), (.ref a1)])) rfl rfl (hb hby d_prog_7_method_1_code_6)
  have K2 := Keep.of_wr W2
  have M2 := M0.wr W2 (Or.inl (List.mem_of_getElem? (i := 0) rfl))
  replace F_name := F_name.same W2
  replace F_first := F_first.other W2 (Or.inr (slot_ne (Or.inr (hw _ (List.mem_of_getElem? (i := 51) rfl))) (Or.inr (hw _ (List.mem_of_getElem? (i := 49) rfl))) (by decide) (t := (.object "java/lang/String")) (t' := (.object "java/lang/String")) (by decide) (by decide)))
  replace F_second := F_second.other W2 (Or.inr (slot_ne (Or.inr (hw _ (List.mem_of_getElem? (i := 53) rfl))) (Or.inr (hw _ (List.mem_of_getElem? (i := 49) rfl))) (by decide) (t := (.object "java/lang/String")) (t' := (.object "java/lang/String")) (by decide) (by decide)))
  replace F_cardinality := F_cardinality.other W2 (Or.inr (slot_ne (Or.inr (hw _ (List.mem_of_getElem? (i := 55) rfl))) (Or.inr (hw _ (List.mem_of_getElem? (i := 49) rfl))) (by decide) (t := (.object "com/example/denormal/denormal/modelfile/Cardinality")) (t' := (.object "java/lang/String")) (by decide) (by decide)))
  replace E_a1 := E_a1.keep K2
  refine Go.of (T' := T2) (f' := (mkF m 9 #[.val (.ref a1), .val (.ref a2), .val (.ref a3), .val (.ref a4), .val (.ref a5)] [])) st2 ?_
  refine Go.of (T' := T2) (f' := (mkF m 10 #[.val (.ref a1), .val (.ref a2), .val (.ref a3), .val (.ref a4), .val (.ref a5)] [(.ref a1)])) (fun _ k => XS.aloadN X2.here hx rfl (hb hby d_prog_7_method_1_code_9) rfl rfl k) ?_
  refine Go.of (T' := T2) (f' := (mkF m 11 #[.val (.ref a1), .val (.ref a2), .val (.ref a3), .val (.ref a4), .val (.ref a5)] [(.ref a3), (.ref a1)])) (fun _ k => XS.aloadN X2.here hx rfl (hb hby d_prog_7_method_1_code_10) rfl rfl k) ?_
  obtain ⟨T3, h3, X3, e3, W3, st3⟩ := putF X2 hx hZ hown (host := "") (Or.inl (hw _ (List.mem_of_getElem? (i := 50) rfl))) Via.refl e2 F_first E_a1 (Or.inr ⟨(hw _ (List.mem_of_getElem? (i := 51) rfl)), rfl, hnm⟩) (hw _ (List.mem_of_getElem? (i := 39) rfl)) (ty := (.object "java/lang/String")) (by decide) rfl rfl (g := (mkF m 11 #[.val (.ref a1), .val (.ref a2), .val (.ref a3), .val (.ref a4), .val (.ref a5)] [(.ref a3), (.ref a1)])) rfl rfl (hb hby d_prog_7_method_1_code_11)
  have K3 := Keep.of_wr W3
  have M3 := M2.wr W3 (Or.inl (List.mem_of_getElem? (i := 0) rfl))
  replace F_name := F_name.other W3 (Or.inr (slot_ne (Or.inr (hw _ (List.mem_of_getElem? (i := 49) rfl))) (Or.inr (hw _ (List.mem_of_getElem? (i := 51) rfl))) (by decide) (t := (.object "java/lang/String")) (t' := (.object "java/lang/String")) (by decide) (by decide)))
  replace F_first := F_first.same W3
  replace F_second := F_second.other W3 (Or.inr (slot_ne (Or.inr (hw _ (List.mem_of_getElem? (i := 53) rfl))) (Or.inr (hw _ (List.mem_of_getElem? (i := 51) rfl))) (by decide) (t := (.object "java/lang/String")) (t' := (.object "java/lang/String")) (by decide) (by decide)))
  replace F_cardinality := F_cardinality.other W3 (Or.inr (slot_ne (Or.inr (hw _ (List.mem_of_getElem? (i := 55) rfl))) (Or.inr (hw _ (List.mem_of_getElem? (i := 51) rfl))) (by decide) (t := (.object "com/example/denormal/denormal/modelfile/Cardinality")) (t' := (.object "java/lang/String")) (by decide) (by decide)))
  replace E_a1 := E_a1.keep K3
  refine Go.of (T' := T3) (f' := (mkF m 14 #[.val (.ref a1), .val (.ref a2), .val (.ref a3), .val (.ref a4), .val (.ref a5)] [])) st3 ?_
  refine Go.of (T' := T3) (f' := (mkF m 15 #[.val (.ref a1), .val (.ref a2), .val (.ref a3), .val (.ref a4), .val (.ref a5)] [(.ref a1)])) (fun _ k => XS.aloadN X3.here hx rfl (hb hby d_prog_7_method_1_code_14) rfl rfl k) ?_
  refine Go.of (T' := T3) (f' := (mkF m 16 #[.val (.ref a1), .val (.ref a2), .val (.ref a3), .val (.ref a4), .val (.ref a5)] [(.ref a4), (.ref a1)])) (fun _ k => XS.aloadN X3.here hx rfl (hb hby d_prog_7_method_1_code_15) rfl rfl k) ?_
  obtain ⟨T4, h4, X4, e4, W4, st4⟩ := putF X3 hx hZ hown (host := "") (Or.inl (hw _ (List.mem_of_getElem? (i := 52) rfl))) Via.refl e3 F_second E_a1 (Or.inr ⟨(hw _ (List.mem_of_getElem? (i := 53) rfl)), rfl, hnm⟩) (hw _ (List.mem_of_getElem? (i := 39) rfl)) (ty := (.object "java/lang/String")) (by decide) rfl rfl (g := (mkF m 16 #[.val (.ref a1), .val (.ref a2), .val (.ref a3), .val (.ref a4), .val (.ref a5)] [(.ref a4), (.ref a1)])) rfl rfl (hb hby d_prog_7_method_1_code_16)
  have K4 := Keep.of_wr W4
  have M4 := M3.wr W4 (Or.inl (List.mem_of_getElem? (i := 0) rfl))
  replace F_name := F_name.other W4 (Or.inr (slot_ne (Or.inr (hw _ (List.mem_of_getElem? (i := 49) rfl))) (Or.inr (hw _ (List.mem_of_getElem? (i := 53) rfl))) (by decide) (t := (.object "java/lang/String")) (t' := (.object "java/lang/String")) (by decide) (by decide)))
  replace F_first := F_first.other W4 (Or.inr (slot_ne (Or.inr (hw _ (List.mem_of_getElem? (i := 51) rfl))) (Or.inr (hw _ (List.mem_of_getElem? (i := 53) rfl))) (by decide) (t := (.object "java/lang/String")) (t' := (.object "java/lang/String")) (by decide) (by decide)))
  replace F_second := F_second.same W4
  replace F_cardinality := F_cardinality.other W4 (Or.inr (slot_ne (Or.inr (hw _ (List.mem_of_getElem? (i := 55) rfl))) (Or.inr (hw _ (List.mem_of_getElem? (i := 53) rfl))) (by decide) (t := (.object "com/example/denormal/denormal/modelfile/Cardinality")) (t' := (.object "java/lang/String")) (by decide) (by decide)))
  replace E_a1 := E_a1.keep K4
  refine Go.of (T' := T4) (f' := (mkF m 19 #[.val (.ref a1), .val (.ref a2), .val (.ref a3), .val (.ref a4), .val (.ref a5)] [])) st4 ?_
  refine Go.of (T' := T4) (f' := (mkF m 20 #[.val (.ref a1), .val (.ref a2), .val (.ref a3), .val (.ref a4), .val (.ref a5)] [(.ref a1)])) (fun _ k => XS.aloadN X4.here hx rfl (hb hby d_prog_7_method_1_code_19) rfl rfl k) ?_
  refine Go.of (T' := T4) (f' := (mkF m 22 #[.val (.ref a1), .val (.ref a2), .val (.ref a3), .val (.ref a4), .val (.ref a5)] [(.ref a5), (.ref a1)])) (fun _ k => XS.aload X4.here hx rfl (hb hby d_prog_7_method_1_code_20) rfl rfl k) ?_
  obtain ⟨T5, h5, X5, e5, W5, st5⟩ := putF X4 hx hZ hown (host := "") (Or.inl (hw _ (List.mem_of_getElem? (i := 54) rfl))) Via.refl e4 F_cardinality E_a1 (Or.inr ⟨(hw _ (List.mem_of_getElem? (i := 55) rfl)), rfl, hnm⟩) (hw _ (List.mem_of_getElem? (i := 39) rfl)) (ty := (.object "com/example/denormal/denormal/modelfile/Cardinality")) (by decide) rfl rfl (g := (mkF m 22 #[.val (.ref a1), .val (.ref a2), .val (.ref a3), .val (.ref a4), .val (.ref a5)] [(.ref a5), (.ref a1)])) rfl rfl (hb hby d_prog_7_method_1_code_22)
  have K5 := Keep.of_wr W5
  have M5 := M4.wr W5 (Or.inl (List.mem_of_getElem? (i := 0) rfl))
  replace F_name := F_name.other W5 (Or.inr (slot_ne (Or.inr (hw _ (List.mem_of_getElem? (i := 49) rfl))) (Or.inr (hw _ (List.mem_of_getElem? (i := 55) rfl))) (by decide) (t := (.object "java/lang/String")) (t' := (.object "com/example/denormal/denormal/modelfile/Cardinality")) (by decide) (by decide)))
  replace F_first := F_first.other W5 (Or.inr (slot_ne (Or.inr (hw _ (List.mem_of_getElem? (i := 51) rfl))) (Or.inr (hw _ (List.mem_of_getElem? (i := 55) rfl))) (by decide) (t := (.object "java/lang/String")) (t' := (.object "com/example/denormal/denormal/modelfile/Cardinality")) (by decide) (by decide)))
  replace F_second := F_second.other W5 (Or.inr (slot_ne (Or.inr (hw _ (List.mem_of_getElem? (i := 53) rfl))) (Or.inr (hw _ (List.mem_of_getElem? (i := 55) rfl))) (by decide) (t := (.object "java/lang/String")) (t' := (.object "com/example/denormal/denormal/modelfile/Cardinality")) (by decide) (by decide)))
  replace F_cardinality := F_cardinality.same W5
  replace E_a1 := E_a1.keep K5
  refine Go.of (T' := T5) (f' := (mkF m 25 #[.val (.ref a1), .val (.ref a2), .val (.ref a3), .val (.ref a4), .val (.ref a5)] [])) st5 ?_
  exact goRet0 (Q := fun v h L => v = none ∧ Mv h0 h [a1] L ∧ Exa Z h a1 "com/example/denormal/denormal/modelfile/Relationship" ∧ Fld Z h a1 "com/example/denormal/denormal/modelfile/Relationship" "name" "Ljava/lang/String;" (.ref a2) ∧ Fld Z h a1 "com/example/denormal/denormal/modelfile/Relationship" "first" "Ljava/lang/String;" (.ref a3) ∧ Fld Z h a1 "com/example/denormal/denormal/modelfile/Relationship" "second" "Ljava/lang/String;" (.ref a4) ∧ Fld Z h a1 "com/example/denormal/denormal/modelfile/Relationship" "cardinality" "Lcom/example/denormal/denormal/modelfile/Cardinality;" (.ref a5)) X5 hx hret hlk (hb hby d_prog_7_method_1_code_25) K (by decide) (by decide) e5 (⟨rfl, M5, E_a1, F_name, F_first, F_second, F_cardinality⟩)
theorem pn_com_example_denormal_denormal_modelfile_Cardinality : plainName "com/example/denormal/denormal/modelfile/Cardinality" = true := by first | (simp [plainName, overriddenIn]; done) | decide +kernel
theorem ef_rm_isOneFirst (m : MethodId) (x0 : Addr)  : entryFrame m #[(.ref x0)] 1 = mkF m 0 #[.val (.ref x0)] [] := by first | (simp [entryFrame, mkF, argsToLocals, Value.category]; done) | rfl
theorem d_prog_4_method_4_code_0 : decode prog_4_method_4_code 0 = .ok (.aload_n 0, 1) := by decide +kernel
theorem d_prog_4_method_4_code_1 : decode prog_4_method_4_code 1 = .ok (.getfield 39, 3) := by decide +kernel
theorem d_prog_4_method_4_code_4 : decode prog_4_method_4_code 4 = .ok (.ireturn, 1) := by decide +kernel
set_option maxRecDepth 65536 in
set_option maxHeartbeats 40000000 in
theorem rm_isOneFirst (l : Launch) (Z : State) (a0 : Array Value) (hw : ∀ d ∈ tables_1, d.before a0 Z = true) (a1 : Addr) (q : Int32) (h0 : Heap) (F : Fld Z h0 a1 "com/example/denormal/denormal/modelfile/Cardinality" "isOneFirst" "Z" (.int q)) (hp : q = 0 ∨ q = 1) :
    MeetsW l Z (⟨"com/example/denormal/denormal/modelfile/Cardinality", "isOneFirst", "()Z"⟩ : MethodName) prog_4_method_4_code 1 (some .boolean) ({ frames := 0, cells := 0, slots := 0, locals := 0 } : Room) #[(.ref a1)] h0 (Pu h0 (fun v => v = some (.int q))) := by
  refine MeetsW.of (plainFor_of_name pn_com_example_denormal_denormal_modelfile_Cardinality) ?_
  intro p e s m below meth c s₁ P hx hby hml hZ hown hnm hret hlk X0 e0 K
  have M0 : Mv h0 h0 [] [] := Mv.refl _ _
  refine Go.cast (ef_rm_isOneFirst m a1 ) ?_
  refine Go.of (T' := s₁) (f' := (mkF m 1 #[.val (.ref a1)] [(.ref a1)])) (fun _ k => XS.aloadN X0.here hx rfl (hb hby d_prog_4_method_4_code_0) rfl rfl k) ?_
  obtain ⟨T1, X1, e1, st1⟩ := getF X0 hx hZ hown (host := "") (Or.inl (hw _ (List.mem_of_getElem? (i := 80) rfl))) Via.refl e0 F (g := (mkF m 1 #[.val (.ref a1)] [(.ref a1)])) rfl rfl (hb hby d_prog_4_method_4_code_1)
  refine Go.of (T' := T1) (f' := (mkF m 4 #[.val (.ref a1)] [(.int q)])) st1 ?_
  exact goRetI (Q := Pu h0 (fun v => v = some (.int q))) X1 hx (t := .boolean) hret hlk (boolNar hp).1 (by simp) (hb hby d_prog_4_method_4_code_4) K (by decide) (by decide) e1 (⟨rfl, rfl, rfl⟩)
theorem ef_rm_isOneSecond (m : MethodId) (x0 : Addr)  : entryFrame m #[(.ref x0)] 1 = mkF m 0 #[.val (.ref x0)] [] := by first | (simp [entryFrame, mkF, argsToLocals, Value.category]; done) | rfl
theorem d_prog_4_method_5_code_0 : decode prog_4_method_5_code 0 = .ok (.aload_n 0, 1) := by decide +kernel
theorem d_prog_4_method_5_code_1 : decode prog_4_method_5_code 1 = .ok (.getfield 43, 3) := by decide +kernel
theorem d_prog_4_method_5_code_4 : decode prog_4_method_5_code 4 = .ok (.ireturn, 1) := by decide +kernel
set_option maxRecDepth 65536 in
set_option maxHeartbeats 40000000 in
theorem rm_isOneSecond (l : Launch) (Z : State) (a0 : Array Value) (hw : ∀ d ∈ tables_1, d.before a0 Z = true) (a1 : Addr) (q : Int32) (h0 : Heap) (F : Fld Z h0 a1 "com/example/denormal/denormal/modelfile/Cardinality" "isOneSecond" "Z" (.int q)) (hp : q = 0 ∨ q = 1) :
    MeetsW l Z (⟨"com/example/denormal/denormal/modelfile/Cardinality", "isOneSecond", "()Z"⟩ : MethodName) prog_4_method_5_code 1 (some .boolean) ({ frames := 0, cells := 0, slots := 0, locals := 0 } : Room) #[(.ref a1)] h0 (Pu h0 (fun v => v = some (.int q))) := by
  refine MeetsW.of (plainFor_of_name pn_com_example_denormal_denormal_modelfile_Cardinality) ?_
  intro p e s m below meth c s₁ P hx hby hml hZ hown hnm hret hlk X0 e0 K
  have M0 : Mv h0 h0 [] [] := Mv.refl _ _
  refine Go.cast (ef_rm_isOneSecond m a1 ) ?_
  refine Go.of (T' := s₁) (f' := (mkF m 1 #[.val (.ref a1)] [(.ref a1)])) (fun _ k => XS.aloadN X0.here hx rfl (hb hby d_prog_4_method_5_code_0) rfl rfl k) ?_
  obtain ⟨T1, X1, e1, st1⟩ := getF X0 hx hZ hown (host := "") (Or.inl (hw _ (List.mem_of_getElem? (i := 89) rfl))) Via.refl e0 F (g := (mkF m 1 #[.val (.ref a1)] [(.ref a1)])) rfl rfl (hb hby d_prog_4_method_5_code_1)
  refine Go.of (T' := T1) (f' := (mkF m 4 #[.val (.ref a1)] [(.int q)])) st1 ?_
  exact goRetI (Q := Pu h0 (fun v => v = some (.int q))) X1 hx (t := .boolean) hret hlk (boolNar hp).1 (by simp) (hb hby d_prog_4_method_5_code_4) K (by decide) (by decide) e1 (⟨rfl, rfl, rfl⟩)
theorem pn_com_example_denormal_denormal_modelfile_RelationshipLinksManyPinLaw : plainName "com/example/denormal/denormal/modelfile/RelationshipLinksManyPinLaw" = true := by first | (simp [plainName, overriddenIn]; done) | decide +kernel
theorem ef_rm_card (m : MethodId) (x0 : Int32)  : entryFrame m #[(.int x0)] 1 = mkF m 0 #[.val (.int x0)] [] := by first | (simp [entryFrame, mkF, argsToLocals, Value.category]; done) | rfl
theorem d_method_2_code_0 : decode method_2_code 0 = .ok (.iload_n 0, 1) := by decide +kernel
theorem d_method_2_code_1 : decode method_2_code 1 = .ok (.ifCond .ne 7, 3) := by decide +kernel
theorem d_method_2_code_4 : decode method_2_code 4 = .ok (.getstatic 7, 3) := by decide +kernel
theorem d_method_2_code_7 : decode method_2_code 7 = .ok (.areturn, 1) := by decide +kernel
theorem d_method_2_code_8 : decode method_2_code 8 = .ok (.iload_n 0, 1) := by decide +kernel
theorem d_method_2_code_9 : decode method_2_code 9 = .ok (.iconst 1, 1) := by decide +kernel
theorem d_method_2_code_10 : decode method_2_code 10 = .ok (.if_icmp .ne 7, 3) := by decide +kernel
theorem d_method_2_code_13 : decode method_2_code 13 = .ok (.getstatic 13, 3) := by decide +kernel
theorem d_method_2_code_16 : decode method_2_code 16 = .ok (.areturn, 1) := by decide +kernel
theorem d_method_2_code_17 : decode method_2_code 17 = .ok (.iload_n 0, 1) := by decide +kernel
theorem d_method_2_code_18 : decode method_2_code 18 = .ok (.iconst 2, 1) := by decide +kernel
theorem d_method_2_code_19 : decode method_2_code 19 = .ok (.if_icmp .ne 7, 3) := by decide +kernel
theorem d_method_2_code_22 : decode method_2_code 22 = .ok (.getstatic 16, 3) := by decide +kernel
theorem d_method_2_code_25 : decode method_2_code 25 = .ok (.areturn, 1) := by decide +kernel
theorem d_method_2_code_26 : decode method_2_code 26 = .ok (.getstatic 19, 3) := by decide +kernel
theorem d_method_2_code_29 : decode method_2_code 29 = .ok (.areturn, 1) := by decide +kernel
set_option maxRecDepth 65536 in
set_option maxHeartbeats 40000000 in
theorem rm_card (l : Launch) (Z : State) (a0 : Array Value) (hw : ∀ d ∈ tables_1, d.before a0 Z = true) (p1 : Int32) (c1 c2 c3 c4 : Addr) (h0 : Heap) (Z_c1 : Sta Z h0 "com/example/denormal/denormal/modelfile/Cardinality" "ONE_TO_ONE" "Lcom/example/denormal/denormal/modelfile/Cardinality;" (.ref c1)) (Z_c2 : Sta Z h0 "com/example/denormal/denormal/modelfile/Cardinality" "ONE_TO_MANY" "Lcom/example/denormal/denormal/modelfile/Cardinality;" (.ref c2)) (Z_c3 : Sta Z h0 "com/example/denormal/denormal/modelfile/Cardinality" "MANY_TO_ONE" "Lcom/example/denormal/denormal/modelfile/Cardinality;" (.ref c3)) (Z_c4 : Sta Z h0 "com/example/denormal/denormal/modelfile/Cardinality" "MANY_TO_MANY" "Lcom/example/denormal/denormal/modelfile/Cardinality;" (.ref c4)) :
    MeetsW l Z (⟨"com/example/denormal/denormal/modelfile/RelationshipLinksManyPinLaw", "cardinalityOf", "(I)Lcom/example/denormal/denormal/modelfile/Cardinality;"⟩ : MethodName) method_2_code 1 (some (.object "com/example/denormal/denormal/modelfile/Cardinality")) ({ frames := 0, cells := 0, slots := 0, locals := 0 } : Room) #[(.int p1)] h0 (Pu h0 (fun v => ∃ a : Addr, v = some (.ref a) ∧ (a = c1 ∨ a = c2 ∨ a = c3 ∨ a = c4))) := by
  refine MeetsW.of (plainFor_of_name pn_com_example_denormal_denormal_modelfile_RelationshipLinksManyPinLaw) ?_
  intro p e s m below meth c s₁ P hx hby hml hZ hown hnm hret hlk X0 e0 K
  have M0 : Mv h0 h0 [] [] := Mv.refl _ _
  refine Go.cast (ef_rm_card m p1 ) ?_
  refine Go.of (T' := s₁) (f' := (mkF m 1 #[.val (.int p1)] [(.int p1)])) (fun _ k => XS.iloadN X0.here hx rfl (hb hby d_method_2_code_0) rfl k) ?_
  by_cases hc1 : p1 = (0 : Int32)
  ·
    refine Go.of (T' := s₁) (f' := (mkF m 4 #[.val (.int p1)] [])) (fun _ k => XS.ifNo X0.here hx rfl (hb hby d_method_2_code_1) rfl ((if0 _ _).trans (teq hc1).2) k) ?_
    obtain ⟨T1, X1, e1, st1⟩ := getS2 X0 hx hZ hown (host := "") (Or.inl (hw _ (List.mem_of_getElem? (i := 5) rfl))) Via.refl e0 Z_c1 (g := (mkF m 4 #[.val (.int p1)] [])) rfl (hb hby d_method_2_code_4)
    refine Go.of (T' := T1) (f' := (mkF m 7 #[.val (.int p1)] [(.ref c1)])) st1 ?_
    exact goRetR (Q := Pu h0 (fun v => ∃ a : Addr, v = some (.ref a) ∧ (a = c1 ∨ a = c2 ∨ a = c3 ∨ a = c4))) X1 hx hret rfl hlk rfl rfl (hb hby d_method_2_code_7) K (by decide) (by decide) e1 (⟨rfl, rfl, _, rfl, by simp⟩)
  ·
    refine Go.of (T' := s₁) (f' := (mkF m 8 #[.val (.int p1)] [])) (fun _ k => XS.ifYes X0.here hx rfl (pc0 := 1) (pc' := 8) rfl (hb hby d_method_2_code_1) rfl ((if0 _ _).trans (feq hc1).2) (by decide) (by decide) k) ?_
    refine Go.of (T' := s₁) (f' := (mkF m 9 #[.val (.int p1)] [(.int p1)])) (fun _ k => XS.iloadN X0.here hx rfl (hb hby d_method_2_code_8) rfl k) ?_
    refine Go.of (T' := s₁) (f' := (mkF m 10 #[.val (.int p1)] [(.int (1 : Int32)), (.int p1)])) (fun _ k => XS.iconst X0.here hx rfl (hb hby d_method_2_code_9) k) ?_
    by_cases hc10 : p1 = (1 : Int32)
    ·
      refine Go.of (T' := s₁) (f' := (mkF m 13 #[.val (.int p1)] [])) (fun _ k => XS.icmpNo X0.here hx rfl (hb hby d_method_2_code_10) rfl (teq hc10).2 k) ?_
      obtain ⟨T2, X2, e2, st2⟩ := getS2 X0 hx hZ hown (host := "") (Or.inl (hw _ (List.mem_of_getElem? (i := 82) rfl))) Via.refl e0 Z_c2 (g := (mkF m 13 #[.val (.int p1)] [])) rfl (hb hby d_method_2_code_13)
      refine Go.of (T' := T2) (f' := (mkF m 16 #[.val (.int p1)] [(.ref c2)])) st2 ?_
      exact goRetR (Q := Pu h0 (fun v => ∃ a : Addr, v = some (.ref a) ∧ (a = c1 ∨ a = c2 ∨ a = c3 ∨ a = c4))) X2 hx hret rfl hlk rfl rfl (hb hby d_method_2_code_16) K (by decide) (by decide) e2 (⟨rfl, rfl, _, rfl, by simp⟩)
    ·
      refine Go.of (T' := s₁) (f' := (mkF m 17 #[.val (.int p1)] [])) (fun _ k => XS.icmpYes X0.here hx rfl (pc0 := 10) (pc' := 17) rfl (hb hby d_method_2_code_10) rfl (feq hc10).2 (by decide) (by decide) k) ?_
      refine Go.of (T' := s₁) (f' := (mkF m 18 #[.val (.int p1)] [(.int p1)])) (fun _ k => XS.iloadN X0.here hx rfl (hb hby d_method_2_code_17) rfl k) ?_
      refine Go.of (T' := s₁) (f' := (mkF m 19 #[.val (.int p1)] [(.int (2 : Int32)), (.int p1)])) (fun _ k => XS.iconst X0.here hx rfl (hb hby d_method_2_code_18) k) ?_
      by_cases hc19 : p1 = (2 : Int32)
      ·
        refine Go.of (T' := s₁) (f' := (mkF m 22 #[.val (.int p1)] [])) (fun _ k => XS.icmpNo X0.here hx rfl (hb hby d_method_2_code_19) rfl (teq hc19).2 k) ?_
        obtain ⟨T3, X3, e3, st3⟩ := getS2 X0 hx hZ hown (host := "") (Or.inl (hw _ (List.mem_of_getElem? (i := 56) rfl))) Via.refl e0 Z_c3 (g := (mkF m 22 #[.val (.int p1)] [])) rfl (hb hby d_method_2_code_22)
        refine Go.of (T' := T3) (f' := (mkF m 25 #[.val (.int p1)] [(.ref c3)])) st3 ?_
        exact goRetR (Q := Pu h0 (fun v => ∃ a : Addr, v = some (.ref a) ∧ (a = c1 ∨ a = c2 ∨ a = c3 ∨ a = c4))) X3 hx hret rfl hlk rfl rfl (hb hby d_method_2_code_25) K (by decide) (by decide) e3 (⟨rfl, rfl, _, rfl, by simp⟩)
      ·
        refine Go.of (T' := s₁) (f' := (mkF m 26 #[.val (.int p1)] [])) (fun _ k => XS.icmpYes X0.here hx rfl (pc0 := 19) (pc' := 26) rfl (hb hby d_method_2_code_19) rfl (feq hc19).2 (by decide) (by decide) k) ?_
        obtain ⟨T4, X4, e4, st4⟩ := getS2 X0 hx hZ hown (host := "") (Or.inl (hw _ (List.mem_of_getElem? (i := 58) rfl))) Via.refl e0 Z_c4 (g := (mkF m 26 #[.val (.int p1)] [])) rfl (hb hby d_method_2_code_26)
        refine Go.of (T' := T4) (f' := (mkF m 29 #[.val (.int p1)] [(.ref c4)])) st4 ?_
        exact goRetR (Q := Pu h0 (fun v => ∃ a : Addr, v = some (.ref a) ∧ (a = c1 ∨ a = c2 ∨ a = c3 ∨ a = c4))) X4 hx hret rfl hlk rfl rfl (hb hby d_method_2_code_29) K (by decide) (by decide) e4 (⟨rfl, rfl, _, rfl, by simp⟩)
theorem ef_rm_linksMany (m : MethodId) (x0 : Addr) (x1 : Addr)  : entryFrame m #[(.ref x0), (.ref x1)] 2 = mkF m 0 #[.val (.ref x0), .val (.ref x1)] [] := by first | (simp [entryFrame, mkF, argsToLocals, Value.category]; done) | rfl
theorem d_prog_7_method_7_code_0 : decode prog_7_method_7_code 0 = .ok (.aload_n 1, 1) := by decide +kernel
theorem d_prog_7_method_7_code_1 : decode prog_7_method_7_code 1 = .ok (.aload_n 0, 1) := by decide +kernel
theorem d_prog_7_method_7_code_2 : decode prog_7_method_7_code 2 = .ok (.getfield 16, 3) := by decide +kernel
theorem d_prog_7_method_7_code_5 : decode prog_7_method_7_code 5 = .ok (.invokevirtual 23, 3) := by decide +kernel
theorem hw_wordsEq {Z : State} {a0 : Array Value} (hw : ∀ d ∈ tables_1, d.before a0 Z = true) : ∀ d ∈ StrChars.Road.wordsEq, d.before a0 Z = true := fun d hd => hw d ((by decide +kernel : ∀ d ∈ StrChars.Road.wordsEq, d ∈ tables_1) d hd)
theorem pd__Ljava_lang_Object__Z : parseMethodDescriptor "(Ljava/lang/Object;)Z" = some ⟨[(.object "java/lang/Object")], some .boolean⟩ := by decide +kernel
theorem d_prog_7_method_7_code_8 : decode prog_7_method_7_code 8 = .ok (.ifCond .eq 21, 3) := by decide +kernel
theorem d_prog_7_method_7_code_11 : decode prog_7_method_7_code 11 = .ok (.aload_n 0, 1) := by decide +kernel
theorem d_prog_7_method_7_code_12 : decode prog_7_method_7_code 12 = .ok (.getfield 19, 3) := by decide +kernel
theorem d_prog_7_method_7_code_15 : decode prog_7_method_7_code 15 = .ok (.invokevirtual 29, 3) := by decide +kernel
theorem pd___Z : parseMethodDescriptor "()Z" = some ⟨[], some .boolean⟩ := by decide +kernel
theorem d_prog_7_method_7_code_18 : decode prog_7_method_7_code 18 = .ok (.ifCond .ne 7, 3) := by decide +kernel
theorem d_prog_7_method_7_code_21 : decode prog_7_method_7_code 21 = .ok (.iconst 1, 1) := by decide +kernel
theorem d_prog_7_method_7_code_22 : decode prog_7_method_7_code 22 = .ok (.goto 22, 3) := by decide +kernel
theorem d_prog_7_method_7_code_44 : decode prog_7_method_7_code 44 = .ok (.ireturn, 1) := by decide +kernel
theorem d_prog_7_method_7_code_25 : decode prog_7_method_7_code 25 = .ok (.iconst 0, 1) := by decide +kernel
theorem d_prog_7_method_7_code_26 : decode prog_7_method_7_code 26 = .ok (.goto 18, 3) := by decide +kernel
theorem d_prog_7_method_7_code_29 : decode prog_7_method_7_code 29 = .ok (.aload_n 0, 1) := by decide +kernel
theorem d_prog_7_method_7_code_30 : decode prog_7_method_7_code 30 = .ok (.getfield 19, 3) := by decide +kernel
theorem d_prog_7_method_7_code_33 : decode prog_7_method_7_code 33 = .ok (.invokevirtual 35, 3) := by decide +kernel
theorem d_prog_7_method_7_code_36 : decode prog_7_method_7_code 36 = .ok (.ifCond .ne 7, 3) := by decide +kernel
theorem d_prog_7_method_7_code_39 : decode prog_7_method_7_code 39 = .ok (.iconst 1, 1) := by decide +kernel
theorem d_prog_7_method_7_code_40 : decode prog_7_method_7_code 40 = .ok (.goto 4, 3) := by decide +kernel
theorem d_prog_7_method_7_code_43 : decode prog_7_method_7_code 43 = .ok (.iconst 0, 1) := by decide +kernel
set_option maxRecDepth 65536 in
set_option maxHeartbeats 40000000 in
theorem rm_linksMany (l : Launch) (Z : State) (a0 : Array Value) (hw : ∀ d ∈ tables_1, d.before a0 Z = true) (a1 a2 s1 ca t1 t2 : Addr) (ce cs : List Int32) (of os zc : Int32) (h0 : Heap) (F_second : Fld Z h0 a1 "com/example/denormal/denormal/modelfile/Relationship" "second" "Ljava/lang/String;" (.ref s1)) (F_card : Fld Z h0 a1 "com/example/denormal/denormal/modelfile/Relationship" "cardinality" "Lcom/example/denormal/denormal/modelfile/Cardinality;" (.ref ca)) (S_a2 : Str Z h0 a2 t2 ce) (S_s1 : Str Z h0 s1 t1 cs) (E_ca : Exa Z h0 ca "com/example/denormal/denormal/modelfile/Cardinality") (F_of : Fld Z h0 ca "com/example/denormal/denormal/modelfile/Cardinality" "isOneFirst" "Z" (.int of)) (F_os : Fld Z h0 ca "com/example/denormal/denormal/modelfile/Cardinality" "isOneSecond" "Z" (.int os)) (hof : of = 0 ∨ of = 1) (hos : os = 0 ∨ os = 1) (Z_cs : Sta Z h0 "java/lang/String" "COMPACT_STRINGS" "Z" (.int zc)) (hz : ¬ zc = 0) :
    MeetsW l Z (⟨"com/example/denormal/denormal/modelfile/Relationship", "linksMany", "(Ljava/lang/String;)Z"⟩ : MethodName) prog_7_method_7_code 2 (some .boolean) ({ frames := 2, cells := 0, slots := 0, locals := 28 } : Room) #[(.ref a1), (.ref a2)] h0 (Pu h0 (fun v => v = some (.int (bi ((ce = cs ∧ os = (0 : Int32)) ∨ (¬ ce = cs ∧ of = (0 : Int32))))))) := by
  refine MeetsW.of (plainFor_of_name pn_com_example_denormal_denormal_modelfile_Relationship) ?_
  intro p e s m below meth c s₁ P hx hby hml hZ hown hnm hret hlk X0 e0 K
  have M0 : Mv h0 h0 [] [] := Mv.refl _ _
  refine Go.cast (ef_rm_linksMany m a1 a2 ) ?_
  refine Go.of (T' := s₁) (f' := (mkF m 1 #[.val (.ref a1), .val (.ref a2)] [(.ref a2)])) (fun _ k => XS.aloadN X0.here hx rfl (hb hby d_prog_7_method_7_code_0) rfl rfl k) ?_
  refine Go.of (T' := s₁) (f' := (mkF m 2 #[.val (.ref a1), .val (.ref a2)] [(.ref a1), (.ref a2)])) (fun _ k => XS.aloadN X0.here hx rfl (hb hby d_prog_7_method_7_code_1) rfl rfl k) ?_
  obtain ⟨T1, X1, e1, st1⟩ := getF X0 hx hZ hown (host := "") (Or.inl (hw _ (List.mem_of_getElem? (i := 52) rfl))) Via.refl e0 F_second (g := (mkF m 2 #[.val (.ref a1), .val (.ref a2)] [(.ref a1), (.ref a2)])) rfl rfl (hb hby d_prog_7_method_7_code_2)
  refine Go.of (T' := T1) (f' := (mkF m 5 #[.val (.ref a1), .val (.ref a2)] [(.ref s1), (.ref a2)])) st1 ?_
  refine goV X1 hx hZ (y := (⟨"java/lang/String", "equals", "(Ljava/lang/Object;)Z"⟩ : MethodName)) (z := (⟨"java/lang/String", "equals", "(Ljava/lang/Object;)Z"⟩ : MethodName)) hown (hw _ (List.mem_of_getElem? (i := 65) rfl)) (hw _ (List.mem_of_getElem? (i := 66) rfl)) (notFace_of_selects (args := #[]) (mvT hZ (hw _ (List.mem_of_getElem? (i := 68) rfl)))) (hw _ (List.mem_of_getElem? (i := 68) rfl)) (hw _ (List.mem_of_getElem? (i := 67) rfl)) (by decide) (C := 0) (S := 0) (eqStr (W := 0) hZ (hw_wordsEq hw) (hw _ (List.mem_of_getElem? (i := 9) rfl)) S_a2 S_s1 Z_cs hz (by decide) (by decide)) e1 S_a2.exa (argsL := [(.ref s1)]) (rest := []) (by rw [hml]; rfl) (lenOf pd__Ljava_lang_Object__Z rfl) rfl rfl (hb hby d_prog_7_method_7_code_5) (Nat.le_of_eq rfl) (by decide) (by decide) ?_
  intro v2 T2 L2 X2 hQ2
  obtain ⟨nq2, e2, rfl⟩ := hQ2
  replace X2 := standNil X2 nq2
  show Go p e below P T2 (mkF m 8 #[.val (.ref a1), .val (.ref a2)] [(.int (bi (ce = cs)))])
  by_cases hc8 : ce = cs
  ·
    refine Go.of (T' := T2) (f' := (mkF m 11 #[.val (.ref a1), .val (.ref a2)] [])) (fun _ k => XS.ifNo X2.here hx rfl (hb hby d_prog_7_method_7_code_8) rfl ((if0 _ _).trans (feq (bi_ne hc8)).1) k) ?_
    refine Go.of (T' := T2) (f' := (mkF m 12 #[.val (.ref a1), .val (.ref a2)] [(.ref a1)])) (fun _ k => XS.aloadN X2.here hx rfl (hb hby d_prog_7_method_7_code_11) rfl rfl k) ?_
    obtain ⟨T3, X3, e3, st3⟩ := getF X2 hx hZ hown (host := "") (Or.inl (hw _ (List.mem_of_getElem? (i := 54) rfl))) Via.refl e2 F_card (g := (mkF m 12 #[.val (.ref a1), .val (.ref a2)] [(.ref a1)])) rfl rfl (hb hby d_prog_7_method_7_code_12)
    refine Go.of (T' := T3) (f' := (mkF m 15 #[.val (.ref a1), .val (.ref a2)] [(.ref ca)])) st3 ?_
    refine goV X3 hx hZ (y := (⟨"com/example/denormal/denormal/modelfile/Cardinality", "isOneSecond", "()Z"⟩ : MethodName)) (z := (⟨"com/example/denormal/denormal/modelfile/Cardinality", "isOneSecond", "()Z"⟩ : MethodName)) hown (hw _ (List.mem_of_getElem? (i := 84) rfl)) (hw _ (List.mem_of_getElem? (i := 85) rfl)) (notFace_of_selects (args := #[]) (mvT hZ (hw _ (List.mem_of_getElem? (i := 87) rfl)))) (hw _ (List.mem_of_getElem? (i := 87) rfl)) (hw _ (List.mem_of_getElem? (i := 86) rfl)) (by decide) (C := 0) (S := 0) ((rm_isOneSecond l Z a0 hw ca os h0 F_os hos).bk (W := 0) hZ (hw _ (List.mem_of_getElem? (i := 88) rfl)) (hw _ (List.mem_of_getElem? (i := 6) rfl)) (by decide) (by decide)) e3 E_ca (argsL := []) (rest := []) (by rw [hml]; rfl) (lenOf pd___Z rfl) rfl rfl (hb hby d_prog_7_method_7_code_15) (Nat.le_of_eq rfl) (by decide) (by decide) ?_
    intro v4 T4 L4 X4 hQ4
    obtain ⟨nq4, e4, rfl⟩ := hQ4
    replace X4 := standNil X4 nq4
    show Go p e below P T4 (mkF m 18 #[.val (.ref a1), .val (.ref a2)] [(.int os)])
    by_cases hc18 : os = (0 : Int32)
    ·
      refine Go.of (T' := T4) (f' := (mkF m 21 #[.val (.ref a1), .val (.ref a2)] [])) (fun _ k => XS.ifNo X4.here hx rfl (hb hby d_prog_7_method_7_code_18) rfl ((if0 _ _).trans (teq hc18).2) k) ?_
      refine Go.of (T' := T4) (f' := (mkF m 22 #[.val (.ref a1), .val (.ref a2)] [(.int (1 : Int32))])) (fun _ k => XS.iconst X4.here hx rfl (hb hby d_prog_7_method_7_code_21) k) ?_
      refine Go.of (T' := T4) (f' := (mkF m 44 #[.val (.ref a1), .val (.ref a2)] [(.int (1 : Int32))])) (fun _ k => XS.goto X4.here hx rfl (pc0 := 22) (pc' := 44) rfl (hb hby d_prog_7_method_7_code_22) (by decide) (by decide) k) ?_
      exact goRetI (Q := Pu h0 (fun v => v = some (.int (bi ((ce = cs ∧ os = (0 : Int32)) ∨ (¬ ce = cs ∧ of = (0 : Int32))))))) X4 hx (t := .boolean) hret hlk rfl (by simp) (hb hby d_prog_7_method_7_code_44) K (by decide) (by decide) e4 (⟨rfl, rfl, by rw [bi_t (Or.inl ⟨hc8, hc18⟩)]⟩)
    ·
      refine Go.of (T' := T4) (f' := (mkF m 25 #[.val (.ref a1), .val (.ref a2)] [])) (fun _ k => XS.ifYes X4.here hx rfl (pc0 := 18) (pc' := 25) rfl (hb hby d_prog_7_method_7_code_18) rfl ((if0 _ _).trans (feq hc18).2) (by decide) (by decide) k) ?_
      refine Go.of (T' := T4) (f' := (mkF m 26 #[.val (.ref a1), .val (.ref a2)] [(.int (0 : Int32))])) (fun _ k => XS.iconst X4.here hx rfl (hb hby d_prog_7_method_7_code_25) k) ?_
      refine Go.of (T' := T4) (f' := (mkF m 44 #[.val (.ref a1), .val (.ref a2)] [(.int (0 : Int32))])) (fun _ k => XS.goto X4.here hx rfl (pc0 := 26) (pc' := 44) rfl (hb hby d_prog_7_method_7_code_26) (by decide) (by decide) k) ?_
      exact goRetI (Q := Pu h0 (fun v => v = some (.int (bi ((ce = cs ∧ os = (0 : Int32)) ∨ (¬ ce = cs ∧ of = (0 : Int32))))))) X4 hx (t := .boolean) hret hlk rfl (by simp) (hb hby d_prog_7_method_7_code_44) K (by decide) (by decide) e4 (⟨rfl, rfl, by rw [bi_f (by rintro (⟨h1, h2⟩ | ⟨h1, h2⟩) <;> first | exact hc18 h2 | exact h1 hc8 | exact hc8 h1)]⟩)
  ·
    refine Go.of (T' := T2) (f' := (mkF m 29 #[.val (.ref a1), .val (.ref a2)] [])) (fun _ k => XS.ifYes X2.here hx rfl (pc0 := 8) (pc' := 29) rfl (hb hby d_prog_7_method_7_code_8) rfl ((if0 _ _).trans (teq (bi_f hc8)).1) (by decide) (by decide) k) ?_
    refine Go.of (T' := T2) (f' := (mkF m 30 #[.val (.ref a1), .val (.ref a2)] [(.ref a1)])) (fun _ k => XS.aloadN X2.here hx rfl (hb hby d_prog_7_method_7_code_29) rfl rfl k) ?_
    obtain ⟨T5, X5, e5, st5⟩ := getF X2 hx hZ hown (host := "") (Or.inl (hw _ (List.mem_of_getElem? (i := 54) rfl))) Via.refl e2 F_card (g := (mkF m 30 #[.val (.ref a1), .val (.ref a2)] [(.ref a1)])) rfl rfl (hb hby d_prog_7_method_7_code_30)
    refine Go.of (T' := T5) (f' := (mkF m 33 #[.val (.ref a1), .val (.ref a2)] [(.ref ca)])) st5 ?_
    refine goV X5 hx hZ (y := (⟨"com/example/denormal/denormal/modelfile/Cardinality", "isOneFirst", "()Z"⟩ : MethodName)) (z := (⟨"com/example/denormal/denormal/modelfile/Cardinality", "isOneFirst", "()Z"⟩ : MethodName)) hown (hw _ (List.mem_of_getElem? (i := 75) rfl)) (hw _ (List.mem_of_getElem? (i := 76) rfl)) (notFace_of_selects (args := #[]) (mvT hZ (hw _ (List.mem_of_getElem? (i := 78) rfl)))) (hw _ (List.mem_of_getElem? (i := 78) rfl)) (hw _ (List.mem_of_getElem? (i := 77) rfl)) (by decide) (C := 0) (S := 0) ((rm_isOneFirst l Z a0 hw ca of h0 F_of hof).bk (W := 0) hZ (hw _ (List.mem_of_getElem? (i := 79) rfl)) (hw _ (List.mem_of_getElem? (i := 6) rfl)) (by decide) (by decide)) e5 E_ca (argsL := []) (rest := []) (by rw [hml]; rfl) (lenOf pd___Z rfl) rfl rfl (hb hby d_prog_7_method_7_code_33) (Nat.le_of_eq rfl) (by decide) (by decide) ?_
    intro v6 T6 L6 X6 hQ6
    obtain ⟨nq6, e6, rfl⟩ := hQ6
    replace X6 := standNil X6 nq6
    show Go p e below P T6 (mkF m 36 #[.val (.ref a1), .val (.ref a2)] [(.int of)])
    by_cases hc36 : of = (0 : Int32)
    ·
      refine Go.of (T' := T6) (f' := (mkF m 39 #[.val (.ref a1), .val (.ref a2)] [])) (fun _ k => XS.ifNo X6.here hx rfl (hb hby d_prog_7_method_7_code_36) rfl ((if0 _ _).trans (teq hc36).2) k) ?_
      refine Go.of (T' := T6) (f' := (mkF m 40 #[.val (.ref a1), .val (.ref a2)] [(.int (1 : Int32))])) (fun _ k => XS.iconst X6.here hx rfl (hb hby d_prog_7_method_7_code_39) k) ?_
      refine Go.of (T' := T6) (f' := (mkF m 44 #[.val (.ref a1), .val (.ref a2)] [(.int (1 : Int32))])) (fun _ k => XS.goto X6.here hx rfl (pc0 := 40) (pc' := 44) rfl (hb hby d_prog_7_method_7_code_40) (by decide) (by decide) k) ?_
      exact goRetI (Q := Pu h0 (fun v => v = some (.int (bi ((ce = cs ∧ os = (0 : Int32)) ∨ (¬ ce = cs ∧ of = (0 : Int32))))))) X6 hx (t := .boolean) hret hlk rfl (by simp) (hb hby d_prog_7_method_7_code_44) K (by decide) (by decide) e6 (⟨rfl, rfl, by rw [bi_t (Or.inr ⟨hc8, hc36⟩)]⟩)
    ·
      refine Go.of (T' := T6) (f' := (mkF m 43 #[.val (.ref a1), .val (.ref a2)] [])) (fun _ k => XS.ifYes X6.here hx rfl (pc0 := 36) (pc' := 43) rfl (hb hby d_prog_7_method_7_code_36) rfl ((if0 _ _).trans (feq hc36).2) (by decide) (by decide) k) ?_
      refine Go.of (T' := T6) (f' := (mkF m 44 #[.val (.ref a1), .val (.ref a2)] [(.int (0 : Int32))])) (fun _ k => XS.iconst X6.here hx rfl (hb hby d_prog_7_method_7_code_43) k) ?_
      exact goRetI (Q := Pu h0 (fun v => v = some (.int (bi ((ce = cs ∧ os = (0 : Int32)) ∨ (¬ ce = cs ∧ of = (0 : Int32))))))) X6 hx (t := .boolean) hret hlk rfl (by simp) (hb hby d_prog_7_method_7_code_44) K (by decide) (by decide) e6 (⟨rfl, rfl, by rw [bi_f (by rintro (⟨h1, h2⟩ | ⟨h1, h2⟩) <;> first | exact hc36 h2 | exact h1 hc8 | exact hc8 h1)]⟩)
theorem ef_rm_law (m : MethodId) (x0 : Int32) (x1 : Int32) (x2 : Int32) (x3 : Int32) (x4 : Int32)  : entryFrame m #[(.int x0), (.int x1), (.int x2), (.int x3), (.int x4)] maxLocals = mkF m 0 #[.val (.int x0), .val (.int x1), .val (.int x2), .val (.int x3), .val (.int x4), .unset, .unset, .unset, .unset, .unset, .unset, .unset, .unset, .unset, .unset, .unset, .unset, .unset, .unset] [] := by first | (simp [entryFrame, mkF, argsToLocals, Value.category, maxLocals]; done) | rfl
theorem pd__I_Lcom_example_denormal_denormal_modelfile_Cardinality_ : parseMethodDescriptor "(I)Lcom/example/denormal/denormal/modelfile/Cardinality;" = some ⟨[.int], some (.object "com/example/denormal/denormal/modelfile/Cardinality")⟩ := by decide +kernel
theorem hw_words {Z : State} {a0 : Array Value} (hw : ∀ d ∈ tables_1, d.before a0 Z = true) : ∀ d ∈ StrChars.Road.words, d.before a0 Z = true := fun d hd => hw d ((by decide +kernel : ∀ d ∈ StrChars.Road.words, d ∈ tables_1) d hd)
theorem pd___C_V : parseMethodDescriptor "([C)V" = some ⟨[(.array .char)], none⟩ := by decide +kernel
theorem hw_sA {Z : State} {a0 : Array Value} (hw : ∀ d ∈ tables_1, d.before a0 Z = true) : ∀ d ∈ Bundle.stringAtoms, d.before a0 Z = true := fun d hd => hw d ((by decide +kernel : ∀ d ∈ Bundle.stringAtoms, d ∈ tables_1) d hd)
theorem pd__Ljava_lang_String_Ljava_lang_String_Ljava_lang_String_Lcom_example_denormal_denormal_modelfile_Cardinality__V : parseMethodDescriptor "(Ljava/lang/String;Ljava/lang/String;Ljava/lang/String;Lcom/example/denormal/denormal/modelfile/Cardinality;)V" = some ⟨[(.object "java/lang/String"), (.object "java/lang/String"), (.object "java/lang/String"), (.object "com/example/denormal/denormal/modelfile/Cardinality")], none⟩ := by decide +kernel
theorem pd__Ljava_lang_String__Z : parseMethodDescriptor "(Ljava/lang/String;)Z" = some ⟨[(.object "java/lang/String")], some .boolean⟩ := by decide +kernel
set_option maxRecDepth 65536 in
set_option maxHeartbeats 40000000 in
theorem rm_law (l : Launch) (Z : State) (a0 : Array Value) (hw : ∀ d ∈ tables_1, d.before a0 Z = true) (p1 p2 p3 p4 p5 zc : Int32) (c1 c2 c3 c4 : Addr) (h0 : Heap) (Z_cs : Sta Z h0 "java/lang/String" "COMPACT_STRINGS" "Z" (.int zc)) (hz : ¬ zc = 0) (Z_c1 : Sta Z h0 "com/example/denormal/denormal/modelfile/Cardinality" "ONE_TO_ONE" "Lcom/example/denormal/denormal/modelfile/Cardinality;" (.ref c1)) (E_c1 : Exa Z h0 c1 "com/example/denormal/denormal/modelfile/Cardinality") (Fo_c1 : Fld Z h0 c1 "com/example/denormal/denormal/modelfile/Cardinality" "isOneFirst" "Z" (.int (1 : Int32))) (Fs_c1 : Fld Z h0 c1 "com/example/denormal/denormal/modelfile/Cardinality" "isOneSecond" "Z" (.int (1 : Int32))) (Z_c2 : Sta Z h0 "com/example/denormal/denormal/modelfile/Cardinality" "ONE_TO_MANY" "Lcom/example/denormal/denormal/modelfile/Cardinality;" (.ref c2)) (E_c2 : Exa Z h0 c2 "com/example/denormal/denormal/modelfile/Cardinality") (Fo_c2 : Fld Z h0 c2 "com/example/denormal/denormal/modelfile/Cardinality" "isOneFirst" "Z" (.int (1 : Int32))) (Fs_c2 : Fld Z h0 c2 "com/example/denormal/denormal/modelfile/Cardinality" "isOneSecond" "Z" (.int (0 : Int32))) (Z_c3 : Sta Z h0 "com/example/denormal/denormal/modelfile/Cardinality" "MANY_TO_ONE" "Lcom/example/denormal/denormal/modelfile/Cardinality;" (.ref c3)) (E_c3 : Exa Z h0 c3 "com/example/denormal/denormal/modelfile/Cardinality") (Fo_c3 : Fld Z h0 c3 "com/example/denormal/denormal/modelfile/Cardinality" "isOneFirst" "Z" (.int (0 : Int32))) (Fs_c3 : Fld Z h0 c3 "com/example/denormal/denormal/modelfile/Cardinality" "isOneSecond" "Z" (.int (1 : Int32))) (Z_c4 : Sta Z h0 "com/example/denormal/denormal/modelfile/Cardinality" "MANY_TO_MANY" "Lcom/example/denormal/denormal/modelfile/Cardinality;" (.ref c4)) (E_c4 : Exa Z h0 c4 "com/example/denormal/denormal/modelfile/Cardinality") (Fo_c4 : Fld Z h0 c4 "com/example/denormal/denormal/modelfile/Cardinality" "isOneFirst" "Z" (.int (0 : Int32))) (Fs_c4 : Fld Z h0 c4 "com/example/denormal/denormal/modelfile/Cardinality" "isOneSecond" "Z" (.int (0 : Int32))) (n12 : c1 ≠ c2) (n13 : c1 ≠ c3) (n14 : c1 ≠ c4) (n23 : c2 ≠ c3) (n24 : c2 ≠ c4) (n34 : c3 ≠ c4) :
    MeetsI l Z x code maxLocals ret room_1 #[(.int p1), (.int p2), (.int p3), (.int p4), (.int p5)] h0 (fun v h L => v = some (.int 1) ∧ Mv h0 h [] L) := by
  refine MeetsI.of (plainFor_of_name pn_com_example_denormal_denormal_modelfile_RelationshipLinksManyPinLaw) ?_
  intro p e s m below meth c s₁ P hx hby hml hZ hown hnm hret hlk X0 e0 hS K
  have hk : h0.size ≤ h0.size := Nat.le_refl _
  replace hZ : Z.Warmed39 (s.setVm s.vm).vm := hZ
  replace hown : (s.setVm s.vm).vm.findClass "com/example/denormal/denormal/modelfile/RelationshipLinksManyPinLaw" = some m.cls := hown
  have M0 : Mv h0 h0 [] [] := Mv.refl _ _
  refine Go.cast (ef_rm_law m p1 p2 p3 p4 p5 ) ?_
  refine Go.of (T' := s₁) (f' := (mkF m 1 #[.val (.int p1), .val (.int p2), .val (.int p3), .val (.int p4), .val (.int p5), .unset, .unset, .unset, .unset, .unset, .unset, .unset, .unset, .unset, .unset, .unset, .unset, .unset, .unset] [(.int p1)])) (fun _ k => XS.iloadN X0.here hx rfl (hb hby at_0) rfl k) ?_
  refine Go.of (T' := s₁) (f' := (mkF m 4 #[.val (.int p1), .val (.int p2), .val (.int p3), .val (.int p4), .val (.int p5), .unset, .unset, .unset, .unset, .unset, .unset, .unset, .unset, .unset, .unset, .unset, .unset, .unset, .unset] [(.int (255 : Int32)), (.int p1)])) (fun _ k => XS.sipush X0.here hx rfl (hb hby at_1) k) ?_
  refine Go.of (T' := s₁) (f' := (mkF m 5 #[.val (.int p1), .val (.int p2), .val (.int p3), .val (.int p4), .val (.int p5), .unset, .unset, .unset, .unset, .unset, .unset, .unset, .unset, .unset, .unset, .unset, .unset, .unset, .unset] [(.int (p1 &&& (255 : Int32)))])) (fun _ k => XS.iand X0.here hx rfl (hb hby at_4) rfl k) ?_
  refine Go.of (T' := s₁) (f' := (mkF m 6 #[.val (.int p1), .val (.int p2), .val (.int p3), .val (.int p4), .val (.int p5), .unset, .unset, .unset, .unset, .unset, .unset, .unset, .unset, .unset, .unset, .unset, .unset, .unset, .unset] [(.int ((p1 &&& (255 : Int32)).toUInt32.toUInt16.toUInt32.toInt32))])) (fun _ k => XS.i2c X0.here hx rfl (hb hby at_5) rfl k) ?_
  refine Go.of (T' := s₁) (f' := (mkF m 8 #[.val (.int p1), .val (.int p2), .val (.int p3), .val (.int p4), .val (.int p5), .val (.int ((p1 &&& (255 : Int32)).toUInt32.toUInt16.toUInt32.toInt32)), .unset, .unset, .unset, .unset, .unset, .unset, .unset, .unset, .unset, .unset, .unset, .unset, .unset] [])) (fun _ k => XS.istore X0.here hx rfl (hb hby at_6) rfl (l' := #[.val (.int p1), .val (.int p2), .val (.int p3), .val (.int p4), .val (.int p5), .val (.int ((p1 &&& (255 : Int32)).toUInt32.toUInt16.toUInt32.toInt32)), .unset, .unset, .unset, .unset, .unset, .unset, .unset, .unset, .unset, .unset, .unset, .unset, .unset]) rfl k) ?_
  refine Go.of (T' := s₁) (f' := (mkF m 9 #[.val (.int p1), .val (.int p2), .val (.int p3), .val (.int p4), .val (.int p5), .val (.int ((p1 &&& (255 : Int32)).toUInt32.toUInt16.toUInt32.toInt32)), .unset, .unset, .unset, .unset, .unset, .unset, .unset, .unset, .unset, .unset, .unset, .unset, .unset] [(.int p1)])) (fun _ k => XS.iloadN X0.here hx rfl (hb hby at_8) rfl k) ?_
  refine Go.of (T' := s₁) (f' := (mkF m 11 #[.val (.int p1), .val (.int p2), .val (.int p3), .val (.int p4), .val (.int p5), .val (.int ((p1 &&& (255 : Int32)).toUInt32.toUInt16.toUInt32.toInt32)), .unset, .unset, .unset, .unset, .unset, .unset, .unset, .unset, .unset, .unset, .unset, .unset, .unset] [(.int (8 : Int32)), (.int p1)])) (fun _ k => XS.bipush X0.here hx rfl (hb hby at_9) k) ?_
  refine Go.of (T' := s₁) (f' := (mkF m 12 #[.val (.int p1), .val (.int p2), .val (.int p3), .val (.int p4), .val (.int p5), .val (.int ((p1 &&& (255 : Int32)).toUInt32.toUInt16.toUInt32.toInt32)), .unset, .unset, .unset, .unset, .unset, .unset, .unset, .unset, .unset, .unset, .unset, .unset, .unset] [(.int ((p1.toUInt32 >>> ((8 : Int32) &&& 31).toUInt32).toInt32))])) (fun _ k => XS.iushr X0.here hx rfl (hb hby at_11) rfl k) ?_
  refine Go.of (T' := s₁) (f' := (mkF m 15 #[.val (.int p1), .val (.int p2), .val (.int p3), .val (.int p4), .val (.int p5), .val (.int ((p1 &&& (255 : Int32)).toUInt32.toUInt16.toUInt32.toInt32)), .unset, .unset, .unset, .unset, .unset, .unset, .unset, .unset, .unset, .unset, .unset, .unset, .unset] [(.int (255 : Int32)), (.int ((p1.toUInt32 >>> ((8 : Int32) &&& 31).toUInt32).toInt32))])) (fun _ k => XS.sipush X0.here hx rfl (hb hby at_12) k) ?_
  refine Go.of (T' := s₁) (f' := (mkF m 16 #[.val (.int p1), .val (.int p2), .val (.int p3), .val (.int p4), .val (.int p5), .val (.int ((p1 &&& (255 : Int32)).toUInt32.toUInt16.toUInt32.toInt32)), .unset, .unset, .unset, .unset, .unset, .unset, .unset, .unset, .unset, .unset, .unset, .unset, .unset] [(.int (((p1.toUInt32 >>> ((8 : Int32) &&& 31).toUInt32).toInt32) &&& (255 : Int32)))])) (fun _ k => XS.iand X0.here hx rfl (hb hby at_15) rfl k) ?_
  refine Go.of (T' := s₁) (f' := (mkF m 17 #[.val (.int p1), .val (.int p2), .val (.int p3), .val (.int p4), .val (.int p5), .val (.int ((p1 &&& (255 : Int32)).toUInt32.toUInt16.toUInt32.toInt32)), .unset, .unset, .unset, .unset, .unset, .unset, .unset, .unset, .unset, .unset, .unset, .unset, .unset] [(.int ((((p1.toUInt32 >>> ((8 : Int32) &&& 31).toUInt32).toInt32) &&& (255 : Int32)).toUInt32.toUInt16.toUInt32.toInt32))])) (fun _ k => XS.i2c X0.here hx rfl (hb hby at_16) rfl k) ?_
  refine Go.of (T' := s₁) (f' := (mkF m 19 #[.val (.int p1), .val (.int p2), .val (.int p3), .val (.int p4), .val (.int p5), .val (.int ((p1 &&& (255 : Int32)).toUInt32.toUInt16.toUInt32.toInt32)), .val (.int ((((p1.toUInt32 >>> ((8 : Int32) &&& 31).toUInt32).toInt32) &&& (255 : Int32)).toUInt32.toUInt16.toUInt32.toInt32)), .unset, .unset, .unset, .unset, .unset, .unset, .unset, .unset, .unset, .unset, .unset, .unset] [])) (fun _ k => XS.istore X0.here hx rfl (hb hby at_17) rfl (l' := #[.val (.int p1), .val (.int p2), .val (.int p3), .val (.int p4), .val (.int p5), .val (.int ((p1 &&& (255 : Int32)).toUInt32.toUInt16.toUInt32.toInt32)), .val (.int ((((p1.toUInt32 >>> ((8 : Int32) &&& 31).toUInt32).toInt32) &&& (255 : Int32)).toUInt32.toUInt16.toUInt32.toInt32)), .unset, .unset, .unset, .unset, .unset, .unset, .unset, .unset, .unset, .unset, .unset, .unset]) rfl k) ?_
  have hu5 : Lat ((p1 &&& (255 : Int32)).toUInt32.toUInt16.toUInt32.toInt32) := m255 _
  generalize ((p1 &&& (255 : Int32)).toUInt32.toUInt16.toUInt32.toInt32) = u5 at hu5 ⊢
  have hu6 : Lat ((((p1.toUInt32 >>> ((8 : Int32) &&& 31).toUInt32).toInt32) &&& (255 : Int32)).toUInt32.toUInt16.toUInt32.toInt32) := m255 _
  generalize ((((p1.toUInt32 >>> ((8 : Int32) &&& 31).toUInt32).toInt32) &&& (255 : Int32)).toUInt32.toUInt16.toUInt32.toInt32) = u6 at hu6 ⊢
  have J1 : ∀ (u7 : Int32) (u8 : Int32), Lat u7 → Lat u8 → Go p e below P s₁ (mkF m 58 #[.val (.int p1), .val (.int p2), .val (.int p3), .val (.int p4), .val (.int p5), .val (.int u5), .val (.int u6), .val (.int u7), .val (.int u8), .unset, .unset, .unset, .unset, .unset, .unset, .unset, .unset, .unset, .unset] []) := by
    intro u7 u8 hu7 hu8
    refine Go.of (T' := s₁) (f' := (mkF m 59 #[.val (.int p1), .val (.int p2), .val (.int p3), .val (.int p4), .val (.int p5), .val (.int u5), .val (.int u6), .val (.int u7), .val (.int u8), .unset, .unset, .unset, .unset, .unset, .unset, .unset, .unset, .unset, .unset] [(.int p4)])) (fun _ k => XS.iloadN X0.here hx rfl (hb hby at_58) rfl k) ?_
    refine Go.of (T' := s₁) (f' := (mkF m 61 #[.val (.int p1), .val (.int p2), .val (.int p3), .val (.int p4), .val (.int p5), .val (.int u5), .val (.int u6), .val (.int u7), .val (.int u8), .unset, .unset, .unset, .unset, .unset, .unset, .unset, .unset, .unset, .unset] [(.int (2147483647 : Int32)), (.int p4)])) (fun _ k => X0.ldcInt hx hown (mvT hZ (hw _ (List.mem_of_getElem? (i := 0) rfl))) (g := (mkF m 59 #[.val (.int p1), .val (.int p2), .val (.int p3), .val (.int p4), .val (.int p5), .val (.int u5), .val (.int u6), .val (.int u7), .val (.int u8), .unset, .unset, .unset, .unset, .unset, .unset, .unset, .unset, .unset, .unset] [(.int p4)])) rfl (hb hby at_59) _ k) ?_
    refine Go.of (T' := s₁) (f' := (mkF m 62 #[.val (.int p1), .val (.int p2), .val (.int p3), .val (.int p4), .val (.int p5), .val (.int u5), .val (.int u6), .val (.int u7), .val (.int u8), .unset, .unset, .unset, .unset, .unset, .unset, .unset, .unset, .unset, .unset] [(.int (p4 &&& (2147483647 : Int32)))])) (fun _ k => XS.iand X0.here hx rfl (hb hby at_61) rfl k) ?_
    refine Go.of (T' := s₁) (f' := (mkF m 63 #[.val (.int p1), .val (.int p2), .val (.int p3), .val (.int p4), .val (.int p5), .val (.int u5), .val (.int u6), .val (.int u7), .val (.int u8), .unset, .unset, .unset, .unset, .unset, .unset, .unset, .unset, .unset, .unset] [(.int (3 : Int32)), (.int (p4 &&& (2147483647 : Int32)))])) (fun _ k => XS.iconst X0.here hx rfl (hb hby at_62) k) ?_
    refine Go.of (T' := s₁) (f' := (mkF m 64 #[.val (.int p1), .val (.int p2), .val (.int p3), .val (.int p4), .val (.int p5), .val (.int u5), .val (.int u6), .val (.int u7), .val (.int u8), .unset, .unset, .unset, .unset, .unset, .unset, .unset, .unset, .unset, .unset] [(.int ((p4 &&& (2147483647 : Int32)) % (3 : Int32)))])) (fun _ k => iremM X0 hx rfl (hb hby at_63) rfl (by decide) k) ?_
    refine Go.of (T' := s₁) (f' := (mkF m 66 #[.val (.int p1), .val (.int p2), .val (.int p3), .val (.int p4), .val (.int p5), .val (.int u5), .val (.int u6), .val (.int u7), .val (.int u8), .val (.int ((p4 &&& (2147483647 : Int32)) % (3 : Int32))), .unset, .unset, .unset, .unset, .unset, .unset, .unset, .unset, .unset] [])) (fun _ k => XS.istore X0.here hx rfl (hb hby at_64) rfl (l' := #[.val (.int p1), .val (.int p2), .val (.int p3), .val (.int p4), .val (.int p5), .val (.int u5), .val (.int u6), .val (.int u7), .val (.int u8), .val (.int ((p4 &&& (2147483647 : Int32)) % (3 : Int32))), .unset, .unset, .unset, .unset, .unset, .unset, .unset, .unset, .unset]) rfl k) ?_
    have J2 : ∀ (u10 : Int32) (u11 : Int32), Lat u10 → Lat u11 → Go p e below P s₁ (mkF m 118 #[.val (.int p1), .val (.int p2), .val (.int p3), .val (.int p4), .val (.int p5), .val (.int u5), .val (.int u6), .val (.int u7), .val (.int u8), .val (.int ((p4 &&& (2147483647 : Int32)) % (3 : Int32))), .val (.int u10), .val (.int u11), .unset, .unset, .unset, .unset, .unset, .unset, .unset] []) := by
      intro u10 u11 hu10 hu11
      refine Go.of (T' := s₁) (f' := (mkF m 120 #[.val (.int p1), .val (.int p2), .val (.int p3), .val (.int p4), .val (.int p5), .val (.int u5), .val (.int u6), .val (.int u7), .val (.int u8), .val (.int ((p4 &&& (2147483647 : Int32)) % (3 : Int32))), .val (.int u10), .val (.int u11), .unset, .unset, .unset, .unset, .unset, .unset, .unset] [(.int p5)])) (fun _ k => XS.iload X0.here hx rfl (hb hby at_118) rfl k) ?_
      refine Go.of (T' := s₁) (f' := (mkF m 121 #[.val (.int p1), .val (.int p2), .val (.int p3), .val (.int p4), .val (.int p5), .val (.int u5), .val (.int u6), .val (.int u7), .val (.int u8), .val (.int ((p4 &&& (2147483647 : Int32)) % (3 : Int32))), .val (.int u10), .val (.int u11), .unset, .unset, .unset, .unset, .unset, .unset, .unset] [(.int (3 : Int32)), (.int p5)])) (fun _ k => XS.iconst X0.here hx rfl (hb hby at_120) k) ?_
      refine Go.of (T' := s₁) (f' := (mkF m 122 #[.val (.int p1), .val (.int p2), .val (.int p3), .val (.int p4), .val (.int p5), .val (.int u5), .val (.int u6), .val (.int u7), .val (.int u8), .val (.int ((p4 &&& (2147483647 : Int32)) % (3 : Int32))), .val (.int u10), .val (.int u11), .unset, .unset, .unset, .unset, .unset, .unset, .unset] [(.int (p5 &&& (3 : Int32)))])) (fun _ k => XS.iand X0.here hx rfl (hb hby at_121) rfl k) ?_
      refine goS X0 hx hZ hown (hw _ (List.mem_of_getElem? (i := 1) rfl)) (hw _ (List.mem_of_getElem? (i := 2) rfl)) (hw _ (List.mem_of_getElem? (i := 3) rfl)) (hw _ (List.mem_of_getElem? (i := 4) rfl)) (by decide) (C := 0) (S := 0) ((rm_card l Z a0 hw (p5 &&& (3 : Int32)) c1 c2 c3 c4 h0 Z_c1 Z_c2 Z_c3 Z_c4).bk (W := 0) hZ (hw _ (List.mem_of_getElem? (i := 4) rfl)) (hw _ (List.mem_of_getElem? (i := 3) rfl)) (by decide) (by decide)) e0 (argsL := [(.int (p5 &&& (3 : Int32)))]) (rest := []) (by rw [hml]; rfl) (lenOf pd__I_Lcom_example_denormal_denormal_modelfile_Cardinality_ rfl) rfl rfl (hb hby at_122) (Nat.le_of_eq rfl) (by decide) (by decide) ?_
      intro v3 T3 L3 X3 hQ3
      obtain ⟨nq3, e3, ca, rfl, hca⟩ := hQ3
      replace X3 := standNil X3 nq3
      obtain ⟨of, os, E_ca, F_of, F_os, hrel⟩ : ∃ of os : Int32, Exa Z h0 ca "com/example/denormal/denormal/modelfile/Cardinality" ∧ Fld Z h0 ca "com/example/denormal/denormal/modelfile/Cardinality" "isOneFirst" "Z" (.int of) ∧ Fld Z h0 ca "com/example/denormal/denormal/modelfile/Cardinality" "isOneSecond" "Z" (.int os) ∧ ((ca = c1 ∧ of = 1 ∧ os = 1) ∨ (ca = c2 ∧ of = 1 ∧ os = 0) ∨ (ca = c3 ∧ of = 0 ∧ os = 1) ∨ (ca = c4 ∧ of = 0 ∧ os = 0)) := by
        rcases hca with rfl | rfl | rfl | rfl
        · exact ⟨_, _, E_c1, Fo_c1, Fs_c1, Or.inl ⟨rfl, rfl, rfl⟩⟩
        · exact ⟨_, _, E_c2, Fo_c2, Fs_c2, Or.inr (Or.inl ⟨rfl, rfl, rfl⟩)⟩
        · exact ⟨_, _, E_c3, Fo_c3, Fs_c3, Or.inr (Or.inr (Or.inl ⟨rfl, rfl, rfl⟩))⟩
        · exact ⟨_, _, E_c4, Fo_c4, Fs_c4, Or.inr (Or.inr (Or.inr ⟨rfl, rfl, rfl⟩))⟩
      have hof : of = 0 ∨ of = 1 := by rcases hrel with ⟨-, q, -⟩ | ⟨-, q, -⟩ | ⟨-, q, -⟩ | ⟨-, q, -⟩ <;> simp [q]
      have hos : os = 0 ∨ os = 1 := by rcases hrel with ⟨-, -, q⟩ | ⟨-, -, q⟩ | ⟨-, -, q⟩ | ⟨-, -, q⟩ <;> simp [q]
      show Go p e below P T3 (mkF m 125 #[.val (.int p1), .val (.int p2), .val (.int p3), .val (.int p4), .val (.int p5), .val (.int u5), .val (.int u6), .val (.int u7), .val (.int u8), .val (.int ((p4 &&& (2147483647 : Int32)) % (3 : Int32))), .val (.int u10), .val (.int u11), .unset, .unset, .unset, .unset, .unset, .unset, .unset] [(.ref ca)])
      refine Go.of (T' := T3) (f' := (mkF m 127 #[.val (.int p1), .val (.int p2), .val (.int p3), .val (.int p4), .val (.int p5), .val (.int u5), .val (.int u6), .val (.int u7), .val (.int u8), .val (.int ((p4 &&& (2147483647 : Int32)) % (3 : Int32))), .val (.int u10), .val (.int u11), .val (.ref ca), .unset, .unset, .unset, .unset, .unset, .unset] [])) (fun _ k => XS.astore X3.here hx rfl (hb hby at_125) rfl rfl (l' := #[.val (.int p1), .val (.int p2), .val (.int p3), .val (.int p4), .val (.int p5), .val (.int u5), .val (.int u6), .val (.int u7), .val (.int u8), .val (.int ((p4 &&& (2147483647 : Int32)) % (3 : Int32))), .val (.int u10), .val (.int u11), .val (.ref ca), .unset, .unset, .unset, .unset, .unset, .unset]) rfl k) ?_
      obtain ⟨T4, h4, X4, e4, E4, A4, D4, -, st4⟩ := newO X3 hx hZ hown (hw _ (List.mem_of_getElem? (i := 8) rfl)) (hw _ (List.mem_of_getElem? (i := 9) rfl)) (hw _ (List.mem_of_getElem? (i := 10) rfl)) e3 (g := (mkF m 127 #[.val (.int p1), .val (.int p2), .val (.int p3), .val (.int p4), .val (.int p5), .val (.int u5), .val (.int u6), .val (.int u7), .val (.int u8), .val (.int ((p4 &&& (2147483647 : Int32)) % (3 : Int32))), .val (.int u10), .val (.int u11), .val (.ref ca), .unset, .unset, .unset, .unset, .unset, .unset] [])) rfl (hb hby at_127) (by decide) (by decide)
      obtain ⟨b4, g4⟩ : ∃ z, z = h0.size := ⟨_, rfl⟩
      rw [← g4] at A4 D4 st4
      have ne_ca_b4 : ca ≠ b4 := Nat.ne_of_lt (Nat.lt_of_lt_of_le E_ca.lt (Nat.le_of_eq g4.symm))
      have fr_b4 : h0.size ≤ b4 := Nat.le_trans M0.le (Nat.le_of_eq g4.symm)
      have K4 := keepE E4
      have M4 := M0.ext E4
      replace hk := Nat.le_trans hk (K4).1
      replace Z_cs := StaKeep Z_cs K4 all0
      replace Z_c1 := StaKeep Z_c1 K4 all0
      replace Z_c2 := StaKeep Z_c2 K4 all0
      replace Z_c3 := StaKeep Z_c3 K4 all0
      replace Z_c4 := StaKeep Z_c4 K4 all0
      replace E_ca := E_ca.keep K4
      replace F_of := F_of.keep K4 nin0
      replace F_os := F_os.keep K4 nin0
      have E_b4 := A4
      have F_coder_b4 : Fld Z h4 b4 "java/lang/String" "coder" "B" (.int (0 : Int32)) := D4 (Or.inr (hw _ (List.mem_of_getElem? (i := 35) rfl))) (ty := .byte) (by decide)
      have F_value_b4 : Fld Z h4 b4 "java/lang/String" "value" "[B" .null := D4 (Or.inr (hw _ (List.mem_of_getElem? (i := 37) rfl))) (ty := (.array .byte)) (by decide)
      refine Go.of (T' := T4) (f' := (mkF m 130 #[.val (.int p1), .val (.int p2), .val (.int p3), .val (.int p4), .val (.int p5), .val (.int u5), .val (.int u6), .val (.int u7), .val (.int u8), .val (.int ((p4 &&& (2147483647 : Int32)) % (3 : Int32))), .val (.int u10), .val (.int u11), .val (.ref ca), .unset, .unset, .unset, .unset, .unset, .unset] [(.ref b4)])) st4 ?_
      refine Go.of (T' := T4) (f' := (mkF m 131 #[.val (.int p1), .val (.int p2), .val (.int p3), .val (.int p4), .val (.int p5), .val (.int u5), .val (.int u6), .val (.int u7), .val (.int u8), .val (.int ((p4 &&& (2147483647 : Int32)) % (3 : Int32))), .val (.int u10), .val (.int u11), .val (.ref ca), .unset, .unset, .unset, .unset, .unset, .unset] [(.ref b4), (.ref b4)])) (fun _ k => XS.dup X4.here hx rfl (hb hby at_130) rfl rfl k) ?_
      refine Go.of (T' := T4) (f' := (mkF m 132 #[.val (.int p1), .val (.int p2), .val (.int p3), .val (.int p4), .val (.int p5), .val (.int u5), .val (.int u6), .val (.int u7), .val (.int u8), .val (.int ((p4 &&& (2147483647 : Int32)) % (3 : Int32))), .val (.int u10), .val (.int u11), .val (.ref ca), .unset, .unset, .unset, .unset, .unset, .unset] [(.int (2 : Int32)), (.ref b4), (.ref b4)])) (fun _ k => XS.iconst X4.here hx rfl (hb hby at_131) k) ?_
      obtain ⟨T5, h5, k5, X5, e5, E5, A5, st5⟩ := newP X4 hx hZ (hw _ (List.mem_of_getElem? (i := 11) rfl)) e4 (g := (mkF m 132 #[.val (.int p1), .val (.int p2), .val (.int p3), .val (.int p4), .val (.int p5), .val (.int u5), .val (.int u6), .val (.int u7), .val (.int u8), .val (.int ((p4 &&& (2147483647 : Int32)) % (3 : Int32))), .val (.int u10), .val (.int u11), .val (.ref ca), .unset, .unset, .unset, .unset, .unset, .unset] [(.int (2 : Int32)), (.ref b4), (.ref b4)])) rfl (hb hby at_132) rfl (by decide) (cap := 2) (by decide) (by decide) (by decide) (by decide)
      obtain ⟨b5, g5⟩ : ∃ z, z = h4.size := ⟨_, rfl⟩
      rw [← g5] at A5 st5
      have ne_ca_b5 : ca ≠ b5 := Nat.ne_of_lt (Nat.lt_of_lt_of_le E_ca.lt (Nat.le_of_eq g5.symm))
      have ne_b4_b5 : b4 ≠ b5 := Nat.ne_of_lt (Nat.lt_of_lt_of_le E_b4.lt (Nat.le_of_eq g5.symm))
      have fr_b5 : h0.size ≤ b5 := Nat.le_trans M4.le (Nat.le_of_eq g5.symm)
      have K5 := keepE E5
      have M5 := M4.ext E5
      replace hk := Nat.le_trans hk (K5).1
      replace Z_cs := StaKeep Z_cs K5 all0
      replace Z_c1 := StaKeep Z_c1 K5 all0
      replace Z_c2 := StaKeep Z_c2 K5 all0
      replace Z_c3 := StaKeep Z_c3 K5 all0
      replace Z_c4 := StaKeep Z_c4 K5 all0
      replace E_ca := E_ca.keep K5
      replace F_of := F_of.keep K5 nin0
      replace F_os := F_os.keep K5 nin0
      replace E_b4 := E_b4.keep K5
      replace F_coder_b4 := F_coder_b4.keep K5 nin0
      replace F_value_b4 := F_value_b4.keep K5 nin0
      have V_b5 : Arv Z h5 b5 k5 .char (2 : Int32) [(.int (0 : Int32)), (.int (0 : Int32))] (.int (0 : Int32)) := (Arv.new A5 (by decide)).pad (pad_rep [] (.int (0 : Int32)) 2)
      refine Go.of (T' := T5) (f' := (mkF m 134 #[.val (.int p1), .val (.int p2), .val (.int p3), .val (.int p4), .val (.int p5), .val (.int u5), .val (.int u6), .val (.int u7), .val (.int u8), .val (.int ((p4 &&& (2147483647 : Int32)) % (3 : Int32))), .val (.int u10), .val (.int u11), .val (.ref ca), .unset, .unset, .unset, .unset, .unset, .unset] [(.ref b5), (.ref b4), (.ref b4)])) st5 ?_
      refine Go.of (T' := T5) (f' := (mkF m 135 #[.val (.int p1), .val (.int p2), .val (.int p3), .val (.int p4), .val (.int p5), .val (.int u5), .val (.int u6), .val (.int u7), .val (.int u8), .val (.int ((p4 &&& (2147483647 : Int32)) % (3 : Int32))), .val (.int u10), .val (.int u11), .val (.ref ca), .unset, .unset, .unset, .unset, .unset, .unset] [(.ref b5), (.ref b5), (.ref b4), (.ref b4)])) (fun _ k => XS.dup X5.here hx rfl (hb hby at_134) rfl rfl k) ?_
      refine Go.of (T' := T5) (f' := (mkF m 136 #[.val (.int p1), .val (.int p2), .val (.int p3), .val (.int p4), .val (.int p5), .val (.int u5), .val (.int u6), .val (.int u7), .val (.int u8), .val (.int ((p4 &&& (2147483647 : Int32)) % (3 : Int32))), .val (.int u10), .val (.int u11), .val (.ref ca), .unset, .unset, .unset, .unset, .unset, .unset] [(.int (0 : Int32)), (.ref b5), (.ref b5), (.ref b4), (.ref b4)])) (fun _ k => XS.iconst X5.here hx rfl (hb hby at_135) k) ?_
      refine Go.of (T' := T5) (f' := (mkF m 138 #[.val (.int p1), .val (.int p2), .val (.int p3), .val (.int p4), .val (.int p5), .val (.int u5), .val (.int u6), .val (.int u7), .val (.int u8), .val (.int ((p4 &&& (2147483647 : Int32)) % (3 : Int32))), .val (.int u10), .val (.int u11), .val (.ref ca), .unset, .unset, .unset, .unset, .unset, .unset] [(.int u5), (.int (0 : Int32)), (.ref b5), (.ref b5), (.ref b4), (.ref b4)])) (fun _ k => XS.iload X5.here hx rfl (hb hby at_136) rfl k) ?_
      obtain ⟨cl6, Ar6, cq6, Sz6, Nn6, Hs6, Gs6⟩ := id V_b5
      have hin6 : ¬ ((0 : Int32) < 0 ∨ cl6.slots.size ≤ ((0 : Int32)).toNatClampNeg) := inb_of Sz6 ⟨by decide, by decide⟩
      obtain ⟨T6, h6, X6, e6, W6, st6⟩ := stC X5 hx hZ e5 Ar6 (j := (0 : Int32)) hin6 (g := (mkF m 138 #[.val (.int p1), .val (.int p2), .val (.int p3), .val (.int p4), .val (.int p5), .val (.int u5), .val (.int u6), .val (.int u7), .val (.int u8), .val (.int ((p4 &&& (2147483647 : Int32)) % (3 : Int32))), .val (.int u10), .val (.int u11), .val (.ref ca), .unset, .unset, .unset, .unset, .unset, .unset] [(.int u5), (.int (0 : Int32)), (.ref b5), (.ref b5), (.ref b4), (.ref b4)])) rfl rfl (hb hby at_138)
      have fq6 : fits .char (.int (nar .char u5)) = true := fits_nar_char _
      rw [show nar .char u5 = u5 from lat_nar hu5] at W6 fq6
      have V6 := Arv.set Ar6 cq6 Sz6 Nn6 Hs6 Gs6 fq6 W6 0 rfl (Nat.le_of_ble_eq_true rfl)
      have V_b5_o := V_b5
      have K6 := Keep.of_wr W6
      have M6 := M5.wr W6 (Or.inr fr_b5)
      replace hk := Nat.le_trans hk (K6).1
      replace Z_cs := StaKeep Z_cs K6 (allS (staArv V_b5_o) all0)
      replace Z_c1 := StaKeep Z_c1 K6 (allS (staArv V_b5_o) all0)
      replace Z_c2 := StaKeep Z_c2 K6 (allS (staArv V_b5_o) all0)
      replace Z_c3 := StaKeep Z_c3 K6 (allS (staArv V_b5_o) all0)
      replace Z_c4 := StaKeep Z_c4 K6 (allS (staArv V_b5_o) all0)
      replace E_ca := E_ca.keep K6
      replace F_of := F_of.keep K6 (ninS ne_ca_b5 nin0)
      replace F_os := F_os.keep K6 (ninS ne_ca_b5 nin0)
      replace E_b4 := E_b4.keep K6
      replace F_coder_b4 := F_coder_b4.keep K6 (ninS ne_b4_b5 nin0)
      replace F_value_b4 := F_value_b4.keep K6 (ninS ne_b4_b5 nin0)
      replace V_b5 : Arv Z h6 b5 k5 .char (2 : Int32) [(.int u5), (.int (0 : Int32))] (.int (0 : Int32)) := V6
      refine Go.of (T' := T6) (f' := (mkF m 139 #[.val (.int p1), .val (.int p2), .val (.int p3), .val (.int p4), .val (.int p5), .val (.int u5), .val (.int u6), .val (.int u7), .val (.int u8), .val (.int ((p4 &&& (2147483647 : Int32)) % (3 : Int32))), .val (.int u10), .val (.int u11), .val (.ref ca), .unset, .unset, .unset, .unset, .unset, .unset] [(.ref b5), (.ref b4), (.ref b4)])) st6 ?_
      refine Go.of (T' := T6) (f' := (mkF m 140 #[.val (.int p1), .val (.int p2), .val (.int p3), .val (.int p4), .val (.int p5), .val (.int u5), .val (.int u6), .val (.int u7), .val (.int u8), .val (.int ((p4 &&& (2147483647 : Int32)) % (3 : Int32))), .val (.int u10), .val (.int u11), .val (.ref ca), .unset, .unset, .unset, .unset, .unset, .unset] [(.ref b5), (.ref b5), (.ref b4), (.ref b4)])) (fun _ k => XS.dup X6.here hx rfl (hb hby at_139) rfl rfl k) ?_
      refine Go.of (T' := T6) (f' := (mkF m 141 #[.val (.int p1), .val (.int p2), .val (.int p3), .val (.int p4), .val (.int p5), .val (.int u5), .val (.int u6), .val (.int u7), .val (.int u8), .val (.int ((p4 &&& (2147483647 : Int32)) % (3 : Int32))), .val (.int u10), .val (.int u11), .val (.ref ca), .unset, .unset, .unset, .unset, .unset, .unset] [(.int (1 : Int32)), (.ref b5), (.ref b5), (.ref b4), (.ref b4)])) (fun _ k => XS.iconst X6.here hx rfl (hb hby at_140) k) ?_
      refine Go.of (T' := T6) (f' := (mkF m 143 #[.val (.int p1), .val (.int p2), .val (.int p3), .val (.int p4), .val (.int p5), .val (.int u5), .val (.int u6), .val (.int u7), .val (.int u8), .val (.int ((p4 &&& (2147483647 : Int32)) % (3 : Int32))), .val (.int u10), .val (.int u11), .val (.ref ca), .unset, .unset, .unset, .unset, .unset, .unset] [(.int u6), (.int (1 : Int32)), (.ref b5), (.ref b5), (.ref b4), (.ref b4)])) (fun _ k => XS.iload X6.here hx rfl (hb hby at_141) rfl k) ?_
      obtain ⟨cl7, Ar7, cq7, Sz7, Nn7, Hs7, Gs7⟩ := id V_b5
      have hin7 : ¬ ((1 : Int32) < 0 ∨ cl7.slots.size ≤ ((1 : Int32)).toNatClampNeg) := inb_of Sz7 ⟨by decide, by decide⟩
      obtain ⟨T7, h7, X7, e7, W7, st7⟩ := stC X6 hx hZ e6 Ar7 (j := (1 : Int32)) hin7 (g := (mkF m 143 #[.val (.int p1), .val (.int p2), .val (.int p3), .val (.int p4), .val (.int p5), .val (.int u5), .val (.int u6), .val (.int u7), .val (.int u8), .val (.int ((p4 &&& (2147483647 : Int32)) % (3 : Int32))), .val (.int u10), .val (.int u11), .val (.ref ca), .unset, .unset, .unset, .unset, .unset, .unset] [(.int u6), (.int (1 : Int32)), (.ref b5), (.ref b5), (.ref b4), (.ref b4)])) rfl rfl (hb hby at_143)
      have fq7 : fits .char (.int (nar .char u6)) = true := fits_nar_char _
      rw [show nar .char u6 = u6 from lat_nar hu6] at W7 fq7
      have V7 := Arv.set Ar7 cq7 Sz7 Nn7 Hs7 Gs7 fq7 W7 1 rfl (Nat.le_of_ble_eq_true rfl)
      have V_b5_o := V_b5
      have K7 := Keep.of_wr W7
      have M7 := M6.wr W7 (Or.inr fr_b5)
      replace hk := Nat.le_trans hk (K7).1
      replace Z_cs := StaKeep Z_cs K7 (allS (staArv V_b5_o) all0)
      replace Z_c1 := StaKeep Z_c1 K7 (allS (staArv V_b5_o) all0)
      replace Z_c2 := StaKeep Z_c2 K7 (allS (staArv V_b5_o) all0)
      replace Z_c3 := StaKeep Z_c3 K7 (allS (staArv V_b5_o) all0)
      replace Z_c4 := StaKeep Z_c4 K7 (allS (staArv V_b5_o) all0)
      replace E_ca := E_ca.keep K7
      replace F_of := F_of.keep K7 (ninS ne_ca_b5 nin0)
      replace F_os := F_os.keep K7 (ninS ne_ca_b5 nin0)
      replace E_b4 := E_b4.keep K7
      replace F_coder_b4 := F_coder_b4.keep K7 (ninS ne_b4_b5 nin0)
      replace F_value_b4 := F_value_b4.keep K7 (ninS ne_b4_b5 nin0)
      replace V_b5 : Arv Z h7 b5 k5 .char (2 : Int32) [(.int u5), (.int u6)] (.int (0 : Int32)) := V7
      refine Go.of (T' := T7) (f' := (mkF m 144 #[.val (.int p1), .val (.int p2), .val (.int p3), .val (.int p4), .val (.int p5), .val (.int u5), .val (.int u6), .val (.int u7), .val (.int u8), .val (.int ((p4 &&& (2147483647 : Int32)) % (3 : Int32))), .val (.int u10), .val (.int u11), .val (.ref ca), .unset, .unset, .unset, .unset, .unset, .unset] [(.ref b5), (.ref b4), (.ref b4)])) st7 ?_
      refine goI X7 hx hZ rfl hown (hw _ (List.mem_of_getElem? (i := 12) rfl)) (hw _ (List.mem_of_getElem? (i := 13) rfl)) (hw _ (List.mem_of_getElem? (i := 14) rfl)) (by decide) (C := 1) (S := 2) (newStr (W := 1) hZ (hw_words hw) (hw _ (List.mem_of_getElem? (i := 9) rfl)) (cs := [u5, u6]) E_b4 F_value_b4 F_coder_b4 V_b5 rfl Z_cs hz (n := 2) rfl rfl (by decide) (by decide) (by intro c hc; simp only [List.mem_cons, List.not_mem_nil, or_false] at hc; rcases hc with rfl | rfl; exact hu5; exact hu6) (by decide) (by decide)) e7 (argsL := [(.ref b5)]) (rest := [(.ref b4)]) (by rw [hml]; rfl) (lenOf pd___C_V rfl) rfl rfl (hb hby at_144) (Nat.le_of_eq rfl) (by decide) (by decide) ?_
      intro v8 T8 L8 X8 hQ8
      obtain ⟨h8, e8⟩ : ∃ z, T8.heap = z := ⟨_, rfl⟩
      rw [e8] at hQ8
      have E_b4_o := E_b4
      obtain ⟨rfl, Mc8, t8, le8, S8⟩ := hQ8
      have ne_ca_t8 : ca ≠ t8 := Nat.ne_of_lt (Nat.lt_of_lt_of_le E_ca.lt le8)
      have ne_b4_t8 : b4 ≠ t8 := Nat.ne_of_lt (Nat.lt_of_lt_of_le E_b4.lt le8)
      have ne_b5_t8 : b5 ≠ t8 := Nat.ne_of_lt (Nat.lt_of_lt_of_le V_b5.lt le8)
      have fr_t8 : h0.size ≤ t8 := Nat.le_trans M7.le le8
      have M8 := M7.app Mc8 (allS (Or.inr fr_b4) all0)
      replace hk := Nat.le_trans hk (Mc8.1).1
      replace Z_cs := StaKeep Z_cs Mc8.1 (allS (staExa E_b4_o) all0)
      replace Z_c1 := StaKeep Z_c1 Mc8.1 (allS (staExa E_b4_o) all0)
      replace Z_c2 := StaKeep Z_c2 Mc8.1 (allS (staExa E_b4_o) all0)
      replace Z_c3 := StaKeep Z_c3 Mc8.1 (allS (staExa E_b4_o) all0)
      replace Z_c4 := StaKeep Z_c4 Mc8.1 (allS (staExa E_b4_o) all0)
      replace E_ca := E_ca.keep Mc8.1
      replace F_of := F_of.keep Mc8.1 (ninS ne_ca_b4 nin0)
      replace F_os := F_os.keep Mc8.1 (ninS ne_ca_b4 nin0)
      replace E_b4 := E_b4.keep Mc8.1
      replace V_b5 := V_b5.keep Mc8.1 (ninS (Ne.symm ne_b4_b5) nin0)
      have S_b4 := S8
      show Go p e below P T8 (mkF m 147 #[.val (.int p1), .val (.int p2), .val (.int p3), .val (.int p4), .val (.int p5), .val (.int u5), .val (.int u6), .val (.int u7), .val (.int u8), .val (.int ((p4 &&& (2147483647 : Int32)) % (3 : Int32))), .val (.int u10), .val (.int u11), .val (.ref ca), .unset, .unset, .unset, .unset, .unset, .unset] [(.ref b4)])
      refine Go.of (T' := T8) (f' := (mkF m 149 #[.val (.int p1), .val (.int p2), .val (.int p3), .val (.int p4), .val (.int p5), .val (.int u5), .val (.int u6), .val (.int u7), .val (.int u8), .val (.int ((p4 &&& (2147483647 : Int32)) % (3 : Int32))), .val (.int u10), .val (.int u11), .val (.ref ca), .val (.ref b4), .unset, .unset, .unset, .unset, .unset] [])) (fun _ k => XS.astore X8.here hx rfl (hb hby at_147) rfl rfl (l' := #[.val (.int p1), .val (.int p2), .val (.int p3), .val (.int p4), .val (.int p5), .val (.int u5), .val (.int u6), .val (.int u7), .val (.int u8), .val (.int ((p4 &&& (2147483647 : Int32)) % (3 : Int32))), .val (.int u10), .val (.int u11), .val (.ref ca), .val (.ref b4), .unset, .unset, .unset, .unset, .unset]) rfl k) ?_
      obtain ⟨T9, h9, X9, e9, E9, A9, D9, -, st9⟩ := newO X8 hx hZ hown (hw _ (List.mem_of_getElem? (i := 8) rfl)) (hw _ (List.mem_of_getElem? (i := 9) rfl)) (hw _ (List.mem_of_getElem? (i := 10) rfl)) e8 (g := (mkF m 149 #[.val (.int p1), .val (.int p2), .val (.int p3), .val (.int p4), .val (.int p5), .val (.int u5), .val (.int u6), .val (.int u7), .val (.int u8), .val (.int ((p4 &&& (2147483647 : Int32)) % (3 : Int32))), .val (.int u10), .val (.int u11), .val (.ref ca), .val (.ref b4), .unset, .unset, .unset, .unset, .unset] [])) rfl (hb hby at_149) (by decide) (by decide)
      obtain ⟨b9, g9⟩ : ∃ z, z = h8.size := ⟨_, rfl⟩
      rw [← g9] at A9 D9 st9
      have ne_ca_b9 : ca ≠ b9 := Nat.ne_of_lt (Nat.lt_of_lt_of_le E_ca.lt (Nat.le_of_eq g9.symm))
      have ne_b5_b9 : b5 ≠ b9 := Nat.ne_of_lt (Nat.lt_of_lt_of_le V_b5.lt (Nat.le_of_eq g9.symm))
      have ne_b4_b9 : b4 ≠ b9 := Nat.ne_of_lt (Nat.lt_of_lt_of_le S_b4.lt1 (Nat.le_of_eq g9.symm))
      have ne_t8_b9 : t8 ≠ b9 := Nat.ne_of_lt (Nat.lt_of_lt_of_le S_b4.lt2 (Nat.le_of_eq g9.symm))
      have fr_b9 : h0.size ≤ b9 := Nat.le_trans M8.le (Nat.le_of_eq g9.symm)
      have K9 := keepE E9
      have M9 := M8.ext E9
      replace hk := Nat.le_trans hk (K9).1
      replace Z_cs := StaKeep Z_cs K9 all0
      replace Z_c1 := StaKeep Z_c1 K9 all0
      replace Z_c2 := StaKeep Z_c2 K9 all0
      replace Z_c3 := StaKeep Z_c3 K9 all0
      replace Z_c4 := StaKeep Z_c4 K9 all0
      replace E_ca := E_ca.keep K9
      replace F_of := F_of.keep K9 nin0
      replace F_os := F_os.keep K9 nin0
      replace V_b5 := V_b5.keep K9 nin0
      replace S_b4 := S_b4.keep K9 nin0 nin0
      have E_b9 := A9
      have F_coder_b9 : Fld Z h9 b9 "java/lang/String" "coder" "B" (.int (0 : Int32)) := D9 (Or.inr (hw _ (List.mem_of_getElem? (i := 35) rfl))) (ty := .byte) (by decide)
      have F_value_b9 : Fld Z h9 b9 "java/lang/String" "value" "[B" .null := D9 (Or.inr (hw _ (List.mem_of_getElem? (i := 37) rfl))) (ty := (.array .byte)) (by decide)
      refine Go.of (T' := T9) (f' := (mkF m 152 #[.val (.int p1), .val (.int p2), .val (.int p3), .val (.int p4), .val (.int p5), .val (.int u5), .val (.int u6), .val (.int u7), .val (.int u8), .val (.int ((p4 &&& (2147483647 : Int32)) % (3 : Int32))), .val (.int u10), .val (.int u11), .val (.ref ca), .val (.ref b4), .unset, .unset, .unset, .unset, .unset] [(.ref b9)])) st9 ?_
      refine Go.of (T' := T9) (f' := (mkF m 153 #[.val (.int p1), .val (.int p2), .val (.int p3), .val (.int p4), .val (.int p5), .val (.int u5), .val (.int u6), .val (.int u7), .val (.int u8), .val (.int ((p4 &&& (2147483647 : Int32)) % (3 : Int32))), .val (.int u10), .val (.int u11), .val (.ref ca), .val (.ref b4), .unset, .unset, .unset, .unset, .unset] [(.ref b9), (.ref b9)])) (fun _ k => XS.dup X9.here hx rfl (hb hby at_152) rfl rfl k) ?_
      refine Go.of (T' := T9) (f' := (mkF m 154 #[.val (.int p1), .val (.int p2), .val (.int p3), .val (.int p4), .val (.int p5), .val (.int u5), .val (.int u6), .val (.int u7), .val (.int u8), .val (.int ((p4 &&& (2147483647 : Int32)) % (3 : Int32))), .val (.int u10), .val (.int u11), .val (.ref ca), .val (.ref b4), .unset, .unset, .unset, .unset, .unset] [(.int (2 : Int32)), (.ref b9), (.ref b9)])) (fun _ k => XS.iconst X9.here hx rfl (hb hby at_153) k) ?_
      obtain ⟨T10, h10, k10, X10, e10, E10, A10, st10⟩ := newP X9 hx hZ (hw _ (List.mem_of_getElem? (i := 11) rfl)) e9 (g := (mkF m 154 #[.val (.int p1), .val (.int p2), .val (.int p3), .val (.int p4), .val (.int p5), .val (.int u5), .val (.int u6), .val (.int u7), .val (.int u8), .val (.int ((p4 &&& (2147483647 : Int32)) % (3 : Int32))), .val (.int u10), .val (.int u11), .val (.ref ca), .val (.ref b4), .unset, .unset, .unset, .unset, .unset] [(.int (2 : Int32)), (.ref b9), (.ref b9)])) rfl (hb hby at_154) rfl (by decide) (cap := 2) (by decide) (by decide) (by decide) (by decide)
      obtain ⟨b10, g10⟩ : ∃ z, z = h9.size := ⟨_, rfl⟩
      rw [← g10] at A10 st10
      have ne_ca_b10 : ca ≠ b10 := Nat.ne_of_lt (Nat.lt_of_lt_of_le E_ca.lt (Nat.le_of_eq g10.symm))
      have ne_b5_b10 : b5 ≠ b10 := Nat.ne_of_lt (Nat.lt_of_lt_of_le V_b5.lt (Nat.le_of_eq g10.symm))
      have ne_b4_b10 : b4 ≠ b10 := Nat.ne_of_lt (Nat.lt_of_lt_of_le S_b4.lt1 (Nat.le_of_eq g10.symm))
      have ne_t8_b10 : t8 ≠ b10 := Nat.ne_of_lt (Nat.lt_of_lt_of_le S_b4.lt2 (Nat.le_of_eq g10.symm))
      have ne_b9_b10 : b9 ≠ b10 := Nat.ne_of_lt (Nat.lt_of_lt_of_le E_b9.lt (Nat.le_of_eq g10.symm))
      have fr_b10 : h0.size ≤ b10 := Nat.le_trans M9.le (Nat.le_of_eq g10.symm)
      have K10 := keepE E10
      have M10 := M9.ext E10
      replace hk := Nat.le_trans hk (K10).1
      replace Z_cs := StaKeep Z_cs K10 all0
      replace Z_c1 := StaKeep Z_c1 K10 all0
      replace Z_c2 := StaKeep Z_c2 K10 all0
      replace Z_c3 := StaKeep Z_c3 K10 all0
      replace Z_c4 := StaKeep Z_c4 K10 all0
      replace E_ca := E_ca.keep K10
      replace F_of := F_of.keep K10 nin0
      replace F_os := F_os.keep K10 nin0
      replace V_b5 := V_b5.keep K10 nin0
      replace S_b4 := S_b4.keep K10 nin0 nin0
      replace E_b9 := E_b9.keep K10
      replace F_coder_b9 := F_coder_b9.keep K10 nin0
      replace F_value_b9 := F_value_b9.keep K10 nin0
      have V_b10 : Arv Z h10 b10 k10 .char (2 : Int32) [(.int (0 : Int32)), (.int (0 : Int32))] (.int (0 : Int32)) := (Arv.new A10 (by decide)).pad (pad_rep [] (.int (0 : Int32)) 2)
      refine Go.of (T' := T10) (f' := (mkF m 156 #[.val (.int p1), .val (.int p2), .val (.int p3), .val (.int p4), .val (.int p5), .val (.int u5), .val (.int u6), .val (.int u7), .val (.int u8), .val (.int ((p4 &&& (2147483647 : Int32)) % (3 : Int32))), .val (.int u10), .val (.int u11), .val (.ref ca), .val (.ref b4), .unset, .unset, .unset, .unset, .unset] [(.ref b10), (.ref b9), (.ref b9)])) st10 ?_
      refine Go.of (T' := T10) (f' := (mkF m 157 #[.val (.int p1), .val (.int p2), .val (.int p3), .val (.int p4), .val (.int p5), .val (.int u5), .val (.int u6), .val (.int u7), .val (.int u8), .val (.int ((p4 &&& (2147483647 : Int32)) % (3 : Int32))), .val (.int u10), .val (.int u11), .val (.ref ca), .val (.ref b4), .unset, .unset, .unset, .unset, .unset] [(.ref b10), (.ref b10), (.ref b9), (.ref b9)])) (fun _ k => XS.dup X10.here hx rfl (hb hby at_156) rfl rfl k) ?_
      refine Go.of (T' := T10) (f' := (mkF m 158 #[.val (.int p1), .val (.int p2), .val (.int p3), .val (.int p4), .val (.int p5), .val (.int u5), .val (.int u6), .val (.int u7), .val (.int u8), .val (.int ((p4 &&& (2147483647 : Int32)) % (3 : Int32))), .val (.int u10), .val (.int u11), .val (.ref ca), .val (.ref b4), .unset, .unset, .unset, .unset, .unset] [(.int (0 : Int32)), (.ref b10), (.ref b10), (.ref b9), (.ref b9)])) (fun _ k => XS.iconst X10.here hx rfl (hb hby at_157) k) ?_
      refine Go.of (T' := T10) (f' := (mkF m 160 #[.val (.int p1), .val (.int p2), .val (.int p3), .val (.int p4), .val (.int p5), .val (.int u5), .val (.int u6), .val (.int u7), .val (.int u8), .val (.int ((p4 &&& (2147483647 : Int32)) % (3 : Int32))), .val (.int u10), .val (.int u11), .val (.ref ca), .val (.ref b4), .unset, .unset, .unset, .unset, .unset] [(.int u7), (.int (0 : Int32)), (.ref b10), (.ref b10), (.ref b9), (.ref b9)])) (fun _ k => XS.iload X10.here hx rfl (hb hby at_158) rfl k) ?_
      obtain ⟨cl11, Ar11, cq11, Sz11, Nn11, Hs11, Gs11⟩ := id V_b10
      have hin11 : ¬ ((0 : Int32) < 0 ∨ cl11.slots.size ≤ ((0 : Int32)).toNatClampNeg) := inb_of Sz11 ⟨by decide, by decide⟩
      obtain ⟨T11, h11, X11, e11, W11, st11⟩ := stC X10 hx hZ e10 Ar11 (j := (0 : Int32)) hin11 (g := (mkF m 160 #[.val (.int p1), .val (.int p2), .val (.int p3), .val (.int p4), .val (.int p5), .val (.int u5), .val (.int u6), .val (.int u7), .val (.int u8), .val (.int ((p4 &&& (2147483647 : Int32)) % (3 : Int32))), .val (.int u10), .val (.int u11), .val (.ref ca), .val (.ref b4), .unset, .unset, .unset, .unset, .unset] [(.int u7), (.int (0 : Int32)), (.ref b10), (.ref b10), (.ref b9), (.ref b9)])) rfl rfl (hb hby at_160)
      have fq11 : fits .char (.int (nar .char u7)) = true := fits_nar_char _
      rw [show nar .char u7 = u7 from lat_nar hu7] at W11 fq11
      have V11 := Arv.set Ar11 cq11 Sz11 Nn11 Hs11 Gs11 fq11 W11 0 rfl (Nat.le_of_ble_eq_true rfl)
      have V_b10_o := V_b10
      have K11 := Keep.of_wr W11
      have M11 := M10.wr W11 (Or.inr fr_b10)
      replace hk := Nat.le_trans hk (K11).1
      replace Z_cs := StaKeep Z_cs K11 (allS (staArv V_b10_o) all0)
      replace Z_c1 := StaKeep Z_c1 K11 (allS (staArv V_b10_o) all0)
      replace Z_c2 := StaKeep Z_c2 K11 (allS (staArv V_b10_o) all0)
      replace Z_c3 := StaKeep Z_c3 K11 (allS (staArv V_b10_o) all0)
      replace Z_c4 := StaKeep Z_c4 K11 (allS (staArv V_b10_o) all0)
      replace E_ca := E_ca.keep K11
      replace F_of := F_of.keep K11 (ninS ne_ca_b10 nin0)
      replace F_os := F_os.keep K11 (ninS ne_ca_b10 nin0)
      replace V_b5 := V_b5.keep K11 (ninS ne_b5_b10 nin0)
      replace S_b4 := S_b4.keep K11 (ninS ne_b4_b10 nin0) (ninS ne_t8_b10 nin0)
      replace E_b9 := E_b9.keep K11
      replace F_coder_b9 := F_coder_b9.keep K11 (ninS ne_b9_b10 nin0)
      replace F_value_b9 := F_value_b9.keep K11 (ninS ne_b9_b10 nin0)
      replace V_b10 : Arv Z h11 b10 k10 .char (2 : Int32) [(.int u7), (.int (0 : Int32))] (.int (0 : Int32)) := V11
      refine Go.of (T' := T11) (f' := (mkF m 161 #[.val (.int p1), .val (.int p2), .val (.int p3), .val (.int p4), .val (.int p5), .val (.int u5), .val (.int u6), .val (.int u7), .val (.int u8), .val (.int ((p4 &&& (2147483647 : Int32)) % (3 : Int32))), .val (.int u10), .val (.int u11), .val (.ref ca), .val (.ref b4), .unset, .unset, .unset, .unset, .unset] [(.ref b10), (.ref b9), (.ref b9)])) st11 ?_
      refine Go.of (T' := T11) (f' := (mkF m 162 #[.val (.int p1), .val (.int p2), .val (.int p3), .val (.int p4), .val (.int p5), .val (.int u5), .val (.int u6), .val (.int u7), .val (.int u8), .val (.int ((p4 &&& (2147483647 : Int32)) % (3 : Int32))), .val (.int u10), .val (.int u11), .val (.ref ca), .val (.ref b4), .unset, .unset, .unset, .unset, .unset] [(.ref b10), (.ref b10), (.ref b9), (.ref b9)])) (fun _ k => XS.dup X11.here hx rfl (hb hby at_161) rfl rfl k) ?_
      refine Go.of (T' := T11) (f' := (mkF m 163 #[.val (.int p1), .val (.int p2), .val (.int p3), .val (.int p4), .val (.int p5), .val (.int u5), .val (.int u6), .val (.int u7), .val (.int u8), .val (.int ((p4 &&& (2147483647 : Int32)) % (3 : Int32))), .val (.int u10), .val (.int u11), .val (.ref ca), .val (.ref b4), .unset, .unset, .unset, .unset, .unset] [(.int (1 : Int32)), (.ref b10), (.ref b10), (.ref b9), (.ref b9)])) (fun _ k => XS.iconst X11.here hx rfl (hb hby at_162) k) ?_
      refine Go.of (T' := T11) (f' := (mkF m 165 #[.val (.int p1), .val (.int p2), .val (.int p3), .val (.int p4), .val (.int p5), .val (.int u5), .val (.int u6), .val (.int u7), .val (.int u8), .val (.int ((p4 &&& (2147483647 : Int32)) % (3 : Int32))), .val (.int u10), .val (.int u11), .val (.ref ca), .val (.ref b4), .unset, .unset, .unset, .unset, .unset] [(.int u8), (.int (1 : Int32)), (.ref b10), (.ref b10), (.ref b9), (.ref b9)])) (fun _ k => XS.iload X11.here hx rfl (hb hby at_163) rfl k) ?_
      obtain ⟨cl12, Ar12, cq12, Sz12, Nn12, Hs12, Gs12⟩ := id V_b10
      have hin12 : ¬ ((1 : Int32) < 0 ∨ cl12.slots.size ≤ ((1 : Int32)).toNatClampNeg) := inb_of Sz12 ⟨by decide, by decide⟩
      obtain ⟨T12, h12, X12, e12, W12, st12⟩ := stC X11 hx hZ e11 Ar12 (j := (1 : Int32)) hin12 (g := (mkF m 165 #[.val (.int p1), .val (.int p2), .val (.int p3), .val (.int p4), .val (.int p5), .val (.int u5), .val (.int u6), .val (.int u7), .val (.int u8), .val (.int ((p4 &&& (2147483647 : Int32)) % (3 : Int32))), .val (.int u10), .val (.int u11), .val (.ref ca), .val (.ref b4), .unset, .unset, .unset, .unset, .unset] [(.int u8), (.int (1 : Int32)), (.ref b10), (.ref b10), (.ref b9), (.ref b9)])) rfl rfl (hb hby at_165)
      have fq12 : fits .char (.int (nar .char u8)) = true := fits_nar_char _
      rw [show nar .char u8 = u8 from lat_nar hu8] at W12 fq12
      have V12 := Arv.set Ar12 cq12 Sz12 Nn12 Hs12 Gs12 fq12 W12 1 rfl (Nat.le_of_ble_eq_true rfl)
      have V_b10_o := V_b10
      have K12 := Keep.of_wr W12
      have M12 := M11.wr W12 (Or.inr fr_b10)
      replace hk := Nat.le_trans hk (K12).1
      replace Z_cs := StaKeep Z_cs K12 (allS (staArv V_b10_o) all0)
      replace Z_c1 := StaKeep Z_c1 K12 (allS (staArv V_b10_o) all0)
      replace Z_c2 := StaKeep Z_c2 K12 (allS (staArv V_b10_o) all0)
      replace Z_c3 := StaKeep Z_c3 K12 (allS (staArv V_b10_o) all0)
      replace Z_c4 := StaKeep Z_c4 K12 (allS (staArv V_b10_o) all0)
      replace E_ca := E_ca.keep K12
      replace F_of := F_of.keep K12 (ninS ne_ca_b10 nin0)
      replace F_os := F_os.keep K12 (ninS ne_ca_b10 nin0)
      replace V_b5 := V_b5.keep K12 (ninS ne_b5_b10 nin0)
      replace S_b4 := S_b4.keep K12 (ninS ne_b4_b10 nin0) (ninS ne_t8_b10 nin0)
      replace E_b9 := E_b9.keep K12
      replace F_coder_b9 := F_coder_b9.keep K12 (ninS ne_b9_b10 nin0)
      replace F_value_b9 := F_value_b9.keep K12 (ninS ne_b9_b10 nin0)
      replace V_b10 : Arv Z h12 b10 k10 .char (2 : Int32) [(.int u7), (.int u8)] (.int (0 : Int32)) := V12
      refine Go.of (T' := T12) (f' := (mkF m 166 #[.val (.int p1), .val (.int p2), .val (.int p3), .val (.int p4), .val (.int p5), .val (.int u5), .val (.int u6), .val (.int u7), .val (.int u8), .val (.int ((p4 &&& (2147483647 : Int32)) % (3 : Int32))), .val (.int u10), .val (.int u11), .val (.ref ca), .val (.ref b4), .unset, .unset, .unset, .unset, .unset] [(.ref b10), (.ref b9), (.ref b9)])) st12 ?_
      refine goI X12 hx hZ rfl hown (hw _ (List.mem_of_getElem? (i := 12) rfl)) (hw _ (List.mem_of_getElem? (i := 13) rfl)) (hw _ (List.mem_of_getElem? (i := 14) rfl)) (by decide) (C := 1) (S := 2) (newStr (W := 1) hZ (hw_words hw) (hw _ (List.mem_of_getElem? (i := 9) rfl)) (cs := [u7, u8]) E_b9 F_value_b9 F_coder_b9 V_b10 rfl Z_cs hz (n := 2) rfl rfl (by decide) (by decide) (by intro c hc; simp only [List.mem_cons, List.not_mem_nil, or_false] at hc; rcases hc with rfl | rfl; exact hu7; exact hu8) (by decide) (by decide)) e12 (argsL := [(.ref b10)]) (rest := [(.ref b9)]) (by rw [hml]; rfl) (lenOf pd___C_V rfl) rfl rfl (hb hby at_166) (Nat.le_of_eq rfl) (by decide) (by decide) ?_
      intro v13 T13 L13 X13 hQ13
      obtain ⟨h13, e13⟩ : ∃ z, T13.heap = z := ⟨_, rfl⟩
      rw [e13] at hQ13
      have E_b9_o := E_b9
      obtain ⟨rfl, Mc13, t13, le13, S13⟩ := hQ13
      have ne_ca_t13 : ca ≠ t13 := Nat.ne_of_lt (Nat.lt_of_lt_of_le E_ca.lt le13)
      have ne_b5_t13 : b5 ≠ t13 := Nat.ne_of_lt (Nat.lt_of_lt_of_le V_b5.lt le13)
      have ne_b4_t13 : b4 ≠ t13 := Nat.ne_of_lt (Nat.lt_of_lt_of_le S_b4.lt1 le13)
      have ne_t8_t13 : t8 ≠ t13 := Nat.ne_of_lt (Nat.lt_of_lt_of_le S_b4.lt2 le13)
      have ne_b9_t13 : b9 ≠ t13 := Nat.ne_of_lt (Nat.lt_of_lt_of_le E_b9.lt le13)
      have ne_b10_t13 : b10 ≠ t13 := Nat.ne_of_lt (Nat.lt_of_lt_of_le V_b10.lt le13)
      have fr_t13 : h0.size ≤ t13 := Nat.le_trans M12.le le13
      have M13 := M12.app Mc13 (allS (Or.inr fr_b9) all0)
      replace hk := Nat.le_trans hk (Mc13.1).1
      replace Z_cs := StaKeep Z_cs Mc13.1 (allS (staExa E_b9_o) all0)
      replace Z_c1 := StaKeep Z_c1 Mc13.1 (allS (staExa E_b9_o) all0)
      replace Z_c2 := StaKeep Z_c2 Mc13.1 (allS (staExa E_b9_o) all0)
      replace Z_c3 := StaKeep Z_c3 Mc13.1 (allS (staExa E_b9_o) all0)
      replace Z_c4 := StaKeep Z_c4 Mc13.1 (allS (staExa E_b9_o) all0)
      replace E_ca := E_ca.keep Mc13.1
      replace F_of := F_of.keep Mc13.1 (ninS ne_ca_b9 nin0)
      replace F_os := F_os.keep Mc13.1 (ninS ne_ca_b9 nin0)
      replace V_b5 := V_b5.keep Mc13.1 (ninS ne_b5_b9 nin0)
      replace S_b4 := S_b4.keep Mc13.1 (ninS ne_b4_b9 nin0) (ninS ne_t8_b9 nin0)
      replace E_b9 := E_b9.keep Mc13.1
      replace V_b10 := V_b10.keep Mc13.1 (ninS (Ne.symm ne_b9_b10) nin0)
      have S_b9 := S13
      show Go p e below P T13 (mkF m 169 #[.val (.int p1), .val (.int p2), .val (.int p3), .val (.int p4), .val (.int p5), .val (.int u5), .val (.int u6), .val (.int u7), .val (.int u8), .val (.int ((p4 &&& (2147483647 : Int32)) % (3 : Int32))), .val (.int u10), .val (.int u11), .val (.ref ca), .val (.ref b4), .unset, .unset, .unset, .unset, .unset] [(.ref b9)])
      refine Go.of (T' := T13) (f' := (mkF m 171 #[.val (.int p1), .val (.int p2), .val (.int p3), .val (.int p4), .val (.int p5), .val (.int u5), .val (.int u6), .val (.int u7), .val (.int u8), .val (.int ((p4 &&& (2147483647 : Int32)) % (3 : Int32))), .val (.int u10), .val (.int u11), .val (.ref ca), .val (.ref b4), .val (.ref b9), .unset, .unset, .unset, .unset] [])) (fun _ k => XS.astore X13.here hx rfl (hb hby at_169) rfl rfl (l' := #[.val (.int p1), .val (.int p2), .val (.int p3), .val (.int p4), .val (.int p5), .val (.int u5), .val (.int u6), .val (.int u7), .val (.int u8), .val (.int ((p4 &&& (2147483647 : Int32)) % (3 : Int32))), .val (.int u10), .val (.int u11), .val (.ref ca), .val (.ref b4), .val (.ref b9), .unset, .unset, .unset, .unset]) rfl k) ?_
      obtain ⟨T14, h14, X14, e14, E14, A14, D14, -, st14⟩ := newO X13 hx hZ hown (hw _ (List.mem_of_getElem? (i := 8) rfl)) (hw _ (List.mem_of_getElem? (i := 9) rfl)) (hw _ (List.mem_of_getElem? (i := 10) rfl)) e13 (g := (mkF m 171 #[.val (.int p1), .val (.int p2), .val (.int p3), .val (.int p4), .val (.int p5), .val (.int u5), .val (.int u6), .val (.int u7), .val (.int u8), .val (.int ((p4 &&& (2147483647 : Int32)) % (3 : Int32))), .val (.int u10), .val (.int u11), .val (.ref ca), .val (.ref b4), .val (.ref b9), .unset, .unset, .unset, .unset] [])) rfl (hb hby at_171) (by decide) (by decide)
      obtain ⟨b14, g14⟩ : ∃ z, z = h13.size := ⟨_, rfl⟩
      rw [← g14] at A14 D14 st14
      have ne_ca_b14 : ca ≠ b14 := Nat.ne_of_lt (Nat.lt_of_lt_of_le E_ca.lt (Nat.le_of_eq g14.symm))
      have ne_b5_b14 : b5 ≠ b14 := Nat.ne_of_lt (Nat.lt_of_lt_of_le V_b5.lt (Nat.le_of_eq g14.symm))
      have ne_b4_b14 : b4 ≠ b14 := Nat.ne_of_lt (Nat.lt_of_lt_of_le S_b4.lt1 (Nat.le_of_eq g14.symm))
      have ne_t8_b14 : t8 ≠ b14 := Nat.ne_of_lt (Nat.lt_of_lt_of_le S_b4.lt2 (Nat.le_of_eq g14.symm))
      have ne_b10_b14 : b10 ≠ b14 := Nat.ne_of_lt (Nat.lt_of_lt_of_le V_b10.lt (Nat.le_of_eq g14.symm))
      have ne_b9_b14 : b9 ≠ b14 := Nat.ne_of_lt (Nat.lt_of_lt_of_le S_b9.lt1 (Nat.le_of_eq g14.symm))
      have ne_t13_b14 : t13 ≠ b14 := Nat.ne_of_lt (Nat.lt_of_lt_of_le S_b9.lt2 (Nat.le_of_eq g14.symm))
      have fr_b14 : h0.size ≤ b14 := Nat.le_trans M13.le (Nat.le_of_eq g14.symm)
      have K14 := keepE E14
      have M14 := M13.ext E14
      replace hk := Nat.le_trans hk (K14).1
      replace Z_cs := StaKeep Z_cs K14 all0
      replace Z_c1 := StaKeep Z_c1 K14 all0
      replace Z_c2 := StaKeep Z_c2 K14 all0
      replace Z_c3 := StaKeep Z_c3 K14 all0
      replace Z_c4 := StaKeep Z_c4 K14 all0
      replace E_ca := E_ca.keep K14
      replace F_of := F_of.keep K14 nin0
      replace F_os := F_os.keep K14 nin0
      replace V_b5 := V_b5.keep K14 nin0
      replace S_b4 := S_b4.keep K14 nin0 nin0
      replace V_b10 := V_b10.keep K14 nin0
      replace S_b9 := S_b9.keep K14 nin0 nin0
      have E_b14 := A14
      have F_coder_b14 : Fld Z h14 b14 "java/lang/String" "coder" "B" (.int (0 : Int32)) := D14 (Or.inr (hw _ (List.mem_of_getElem? (i := 35) rfl))) (ty := .byte) (by decide)
      have F_value_b14 : Fld Z h14 b14 "java/lang/String" "value" "[B" .null := D14 (Or.inr (hw _ (List.mem_of_getElem? (i := 37) rfl))) (ty := (.array .byte)) (by decide)
      refine Go.of (T' := T14) (f' := (mkF m 174 #[.val (.int p1), .val (.int p2), .val (.int p3), .val (.int p4), .val (.int p5), .val (.int u5), .val (.int u6), .val (.int u7), .val (.int u8), .val (.int ((p4 &&& (2147483647 : Int32)) % (3 : Int32))), .val (.int u10), .val (.int u11), .val (.ref ca), .val (.ref b4), .val (.ref b9), .unset, .unset, .unset, .unset] [(.ref b14)])) st14 ?_
      refine Go.of (T' := T14) (f' := (mkF m 175 #[.val (.int p1), .val (.int p2), .val (.int p3), .val (.int p4), .val (.int p5), .val (.int u5), .val (.int u6), .val (.int u7), .val (.int u8), .val (.int ((p4 &&& (2147483647 : Int32)) % (3 : Int32))), .val (.int u10), .val (.int u11), .val (.ref ca), .val (.ref b4), .val (.ref b9), .unset, .unset, .unset, .unset] [(.ref b14), (.ref b14)])) (fun _ k => XS.dup X14.here hx rfl (hb hby at_174) rfl rfl k) ?_
      refine Go.of (T' := T14) (f' := (mkF m 176 #[.val (.int p1), .val (.int p2), .val (.int p3), .val (.int p4), .val (.int p5), .val (.int u5), .val (.int u6), .val (.int u7), .val (.int u8), .val (.int ((p4 &&& (2147483647 : Int32)) % (3 : Int32))), .val (.int u10), .val (.int u11), .val (.ref ca), .val (.ref b4), .val (.ref b9), .unset, .unset, .unset, .unset] [(.int (2 : Int32)), (.ref b14), (.ref b14)])) (fun _ k => XS.iconst X14.here hx rfl (hb hby at_175) k) ?_
      obtain ⟨T15, h15, k15, X15, e15, E15, A15, st15⟩ := newP X14 hx hZ (hw _ (List.mem_of_getElem? (i := 11) rfl)) e14 (g := (mkF m 176 #[.val (.int p1), .val (.int p2), .val (.int p3), .val (.int p4), .val (.int p5), .val (.int u5), .val (.int u6), .val (.int u7), .val (.int u8), .val (.int ((p4 &&& (2147483647 : Int32)) % (3 : Int32))), .val (.int u10), .val (.int u11), .val (.ref ca), .val (.ref b4), .val (.ref b9), .unset, .unset, .unset, .unset] [(.int (2 : Int32)), (.ref b14), (.ref b14)])) rfl (hb hby at_176) rfl (by decide) (cap := 2) (by decide) (by decide) (by decide) (by decide)
      obtain ⟨b15, g15⟩ : ∃ z, z = h14.size := ⟨_, rfl⟩
      rw [← g15] at A15 st15
      have ne_ca_b15 : ca ≠ b15 := Nat.ne_of_lt (Nat.lt_of_lt_of_le E_ca.lt (Nat.le_of_eq g15.symm))
      have ne_b5_b15 : b5 ≠ b15 := Nat.ne_of_lt (Nat.lt_of_lt_of_le V_b5.lt (Nat.le_of_eq g15.symm))
      have ne_b4_b15 : b4 ≠ b15 := Nat.ne_of_lt (Nat.lt_of_lt_of_le S_b4.lt1 (Nat.le_of_eq g15.symm))
      have ne_t8_b15 : t8 ≠ b15 := Nat.ne_of_lt (Nat.lt_of_lt_of_le S_b4.lt2 (Nat.le_of_eq g15.symm))
      have ne_b10_b15 : b10 ≠ b15 := Nat.ne_of_lt (Nat.lt_of_lt_of_le V_b10.lt (Nat.le_of_eq g15.symm))
      have ne_b9_b15 : b9 ≠ b15 := Nat.ne_of_lt (Nat.lt_of_lt_of_le S_b9.lt1 (Nat.le_of_eq g15.symm))
      have ne_t13_b15 : t13 ≠ b15 := Nat.ne_of_lt (Nat.lt_of_lt_of_le S_b9.lt2 (Nat.le_of_eq g15.symm))
      have ne_b14_b15 : b14 ≠ b15 := Nat.ne_of_lt (Nat.lt_of_lt_of_le E_b14.lt (Nat.le_of_eq g15.symm))
      have fr_b15 : h0.size ≤ b15 := Nat.le_trans M14.le (Nat.le_of_eq g15.symm)
      have K15 := keepE E15
      have M15 := M14.ext E15
      replace hk := Nat.le_trans hk (K15).1
      replace Z_cs := StaKeep Z_cs K15 all0
      replace Z_c1 := StaKeep Z_c1 K15 all0
      replace Z_c2 := StaKeep Z_c2 K15 all0
      replace Z_c3 := StaKeep Z_c3 K15 all0
      replace Z_c4 := StaKeep Z_c4 K15 all0
      replace E_ca := E_ca.keep K15
      replace F_of := F_of.keep K15 nin0
      replace F_os := F_os.keep K15 nin0
      replace V_b5 := V_b5.keep K15 nin0
      replace S_b4 := S_b4.keep K15 nin0 nin0
      replace V_b10 := V_b10.keep K15 nin0
      replace S_b9 := S_b9.keep K15 nin0 nin0
      replace E_b14 := E_b14.keep K15
      replace F_coder_b14 := F_coder_b14.keep K15 nin0
      replace F_value_b14 := F_value_b14.keep K15 nin0
      have V_b15 : Arv Z h15 b15 k15 .char (2 : Int32) [(.int (0 : Int32)), (.int (0 : Int32))] (.int (0 : Int32)) := (Arv.new A15 (by decide)).pad (pad_rep [] (.int (0 : Int32)) 2)
      refine Go.of (T' := T15) (f' := (mkF m 178 #[.val (.int p1), .val (.int p2), .val (.int p3), .val (.int p4), .val (.int p5), .val (.int u5), .val (.int u6), .val (.int u7), .val (.int u8), .val (.int ((p4 &&& (2147483647 : Int32)) % (3 : Int32))), .val (.int u10), .val (.int u11), .val (.ref ca), .val (.ref b4), .val (.ref b9), .unset, .unset, .unset, .unset] [(.ref b15), (.ref b14), (.ref b14)])) st15 ?_
      refine Go.of (T' := T15) (f' := (mkF m 179 #[.val (.int p1), .val (.int p2), .val (.int p3), .val (.int p4), .val (.int p5), .val (.int u5), .val (.int u6), .val (.int u7), .val (.int u8), .val (.int ((p4 &&& (2147483647 : Int32)) % (3 : Int32))), .val (.int u10), .val (.int u11), .val (.ref ca), .val (.ref b4), .val (.ref b9), .unset, .unset, .unset, .unset] [(.ref b15), (.ref b15), (.ref b14), (.ref b14)])) (fun _ k => XS.dup X15.here hx rfl (hb hby at_178) rfl rfl k) ?_
      refine Go.of (T' := T15) (f' := (mkF m 180 #[.val (.int p1), .val (.int p2), .val (.int p3), .val (.int p4), .val (.int p5), .val (.int u5), .val (.int u6), .val (.int u7), .val (.int u8), .val (.int ((p4 &&& (2147483647 : Int32)) % (3 : Int32))), .val (.int u10), .val (.int u11), .val (.ref ca), .val (.ref b4), .val (.ref b9), .unset, .unset, .unset, .unset] [(.int (0 : Int32)), (.ref b15), (.ref b15), (.ref b14), (.ref b14)])) (fun _ k => XS.iconst X15.here hx rfl (hb hby at_179) k) ?_
      refine Go.of (T' := T15) (f' := (mkF m 182 #[.val (.int p1), .val (.int p2), .val (.int p3), .val (.int p4), .val (.int p5), .val (.int u5), .val (.int u6), .val (.int u7), .val (.int u8), .val (.int ((p4 &&& (2147483647 : Int32)) % (3 : Int32))), .val (.int u10), .val (.int u11), .val (.ref ca), .val (.ref b4), .val (.ref b9), .unset, .unset, .unset, .unset] [(.int u10), (.int (0 : Int32)), (.ref b15), (.ref b15), (.ref b14), (.ref b14)])) (fun _ k => XS.iload X15.here hx rfl (hb hby at_180) rfl k) ?_
      obtain ⟨cl16, Ar16, cq16, Sz16, Nn16, Hs16, Gs16⟩ := id V_b15
      have hin16 : ¬ ((0 : Int32) < 0 ∨ cl16.slots.size ≤ ((0 : Int32)).toNatClampNeg) := inb_of Sz16 ⟨by decide, by decide⟩
      obtain ⟨T16, h16, X16, e16, W16, st16⟩ := stC X15 hx hZ e15 Ar16 (j := (0 : Int32)) hin16 (g := (mkF m 182 #[.val (.int p1), .val (.int p2), .val (.int p3), .val (.int p4), .val (.int p5), .val (.int u5), .val (.int u6), .val (.int u7), .val (.int u8), .val (.int ((p4 &&& (2147483647 : Int32)) % (3 : Int32))), .val (.int u10), .val (.int u11), .val (.ref ca), .val (.ref b4), .val (.ref b9), .unset, .unset, .unset, .unset] [(.int u10), (.int (0 : Int32)), (.ref b15), (.ref b15), (.ref b14), (.ref b14)])) rfl rfl (hb hby at_182)
      have fq16 : fits .char (.int (nar .char u10)) = true := fits_nar_char _
      rw [show nar .char u10 = u10 from lat_nar hu10] at W16 fq16
      have V16 := Arv.set Ar16 cq16 Sz16 Nn16 Hs16 Gs16 fq16 W16 0 rfl (Nat.le_of_ble_eq_true rfl)
      have V_b15_o := V_b15
      have K16 := Keep.of_wr W16
      have M16 := M15.wr W16 (Or.inr fr_b15)
      replace hk := Nat.le_trans hk (K16).1
      replace Z_cs := StaKeep Z_cs K16 (allS (staArv V_b15_o) all0)
      replace Z_c1 := StaKeep Z_c1 K16 (allS (staArv V_b15_o) all0)
      replace Z_c2 := StaKeep Z_c2 K16 (allS (staArv V_b15_o) all0)
      replace Z_c3 := StaKeep Z_c3 K16 (allS (staArv V_b15_o) all0)
      replace Z_c4 := StaKeep Z_c4 K16 (allS (staArv V_b15_o) all0)
      replace E_ca := E_ca.keep K16
      replace F_of := F_of.keep K16 (ninS ne_ca_b15 nin0)
      replace F_os := F_os.keep K16 (ninS ne_ca_b15 nin0)
      replace V_b5 := V_b5.keep K16 (ninS ne_b5_b15 nin0)
      replace S_b4 := S_b4.keep K16 (ninS ne_b4_b15 nin0) (ninS ne_t8_b15 nin0)
      replace V_b10 := V_b10.keep K16 (ninS ne_b10_b15 nin0)
      replace S_b9 := S_b9.keep K16 (ninS ne_b9_b15 nin0) (ninS ne_t13_b15 nin0)
      replace E_b14 := E_b14.keep K16
      replace F_coder_b14 := F_coder_b14.keep K16 (ninS ne_b14_b15 nin0)
      replace F_value_b14 := F_value_b14.keep K16 (ninS ne_b14_b15 nin0)
      replace V_b15 : Arv Z h16 b15 k15 .char (2 : Int32) [(.int u10), (.int (0 : Int32))] (.int (0 : Int32)) := V16
      refine Go.of (T' := T16) (f' := (mkF m 183 #[.val (.int p1), .val (.int p2), .val (.int p3), .val (.int p4), .val (.int p5), .val (.int u5), .val (.int u6), .val (.int u7), .val (.int u8), .val (.int ((p4 &&& (2147483647 : Int32)) % (3 : Int32))), .val (.int u10), .val (.int u11), .val (.ref ca), .val (.ref b4), .val (.ref b9), .unset, .unset, .unset, .unset] [(.ref b15), (.ref b14), (.ref b14)])) st16 ?_
      refine Go.of (T' := T16) (f' := (mkF m 184 #[.val (.int p1), .val (.int p2), .val (.int p3), .val (.int p4), .val (.int p5), .val (.int u5), .val (.int u6), .val (.int u7), .val (.int u8), .val (.int ((p4 &&& (2147483647 : Int32)) % (3 : Int32))), .val (.int u10), .val (.int u11), .val (.ref ca), .val (.ref b4), .val (.ref b9), .unset, .unset, .unset, .unset] [(.ref b15), (.ref b15), (.ref b14), (.ref b14)])) (fun _ k => XS.dup X16.here hx rfl (hb hby at_183) rfl rfl k) ?_
      refine Go.of (T' := T16) (f' := (mkF m 185 #[.val (.int p1), .val (.int p2), .val (.int p3), .val (.int p4), .val (.int p5), .val (.int u5), .val (.int u6), .val (.int u7), .val (.int u8), .val (.int ((p4 &&& (2147483647 : Int32)) % (3 : Int32))), .val (.int u10), .val (.int u11), .val (.ref ca), .val (.ref b4), .val (.ref b9), .unset, .unset, .unset, .unset] [(.int (1 : Int32)), (.ref b15), (.ref b15), (.ref b14), (.ref b14)])) (fun _ k => XS.iconst X16.here hx rfl (hb hby at_184) k) ?_
      refine Go.of (T' := T16) (f' := (mkF m 187 #[.val (.int p1), .val (.int p2), .val (.int p3), .val (.int p4), .val (.int p5), .val (.int u5), .val (.int u6), .val (.int u7), .val (.int u8), .val (.int ((p4 &&& (2147483647 : Int32)) % (3 : Int32))), .val (.int u10), .val (.int u11), .val (.ref ca), .val (.ref b4), .val (.ref b9), .unset, .unset, .unset, .unset] [(.int u11), (.int (1 : Int32)), (.ref b15), (.ref b15), (.ref b14), (.ref b14)])) (fun _ k => XS.iload X16.here hx rfl (hb hby at_185) rfl k) ?_
      obtain ⟨cl17, Ar17, cq17, Sz17, Nn17, Hs17, Gs17⟩ := id V_b15
      have hin17 : ¬ ((1 : Int32) < 0 ∨ cl17.slots.size ≤ ((1 : Int32)).toNatClampNeg) := inb_of Sz17 ⟨by decide, by decide⟩
      obtain ⟨T17, h17, X17, e17, W17, st17⟩ := stC X16 hx hZ e16 Ar17 (j := (1 : Int32)) hin17 (g := (mkF m 187 #[.val (.int p1), .val (.int p2), .val (.int p3), .val (.int p4), .val (.int p5), .val (.int u5), .val (.int u6), .val (.int u7), .val (.int u8), .val (.int ((p4 &&& (2147483647 : Int32)) % (3 : Int32))), .val (.int u10), .val (.int u11), .val (.ref ca), .val (.ref b4), .val (.ref b9), .unset, .unset, .unset, .unset] [(.int u11), (.int (1 : Int32)), (.ref b15), (.ref b15), (.ref b14), (.ref b14)])) rfl rfl (hb hby at_187)
      have fq17 : fits .char (.int (nar .char u11)) = true := fits_nar_char _
      rw [show nar .char u11 = u11 from lat_nar hu11] at W17 fq17
      have V17 := Arv.set Ar17 cq17 Sz17 Nn17 Hs17 Gs17 fq17 W17 1 rfl (Nat.le_of_ble_eq_true rfl)
      have V_b15_o := V_b15
      have K17 := Keep.of_wr W17
      have M17 := M16.wr W17 (Or.inr fr_b15)
      replace hk := Nat.le_trans hk (K17).1
      replace Z_cs := StaKeep Z_cs K17 (allS (staArv V_b15_o) all0)
      replace Z_c1 := StaKeep Z_c1 K17 (allS (staArv V_b15_o) all0)
      replace Z_c2 := StaKeep Z_c2 K17 (allS (staArv V_b15_o) all0)
      replace Z_c3 := StaKeep Z_c3 K17 (allS (staArv V_b15_o) all0)
      replace Z_c4 := StaKeep Z_c4 K17 (allS (staArv V_b15_o) all0)
      replace E_ca := E_ca.keep K17
      replace F_of := F_of.keep K17 (ninS ne_ca_b15 nin0)
      replace F_os := F_os.keep K17 (ninS ne_ca_b15 nin0)
      replace V_b5 := V_b5.keep K17 (ninS ne_b5_b15 nin0)
      replace S_b4 := S_b4.keep K17 (ninS ne_b4_b15 nin0) (ninS ne_t8_b15 nin0)
      replace V_b10 := V_b10.keep K17 (ninS ne_b10_b15 nin0)
      replace S_b9 := S_b9.keep K17 (ninS ne_b9_b15 nin0) (ninS ne_t13_b15 nin0)
      replace E_b14 := E_b14.keep K17
      replace F_coder_b14 := F_coder_b14.keep K17 (ninS ne_b14_b15 nin0)
      replace F_value_b14 := F_value_b14.keep K17 (ninS ne_b14_b15 nin0)
      replace V_b15 : Arv Z h17 b15 k15 .char (2 : Int32) [(.int u10), (.int u11)] (.int (0 : Int32)) := V17
      refine Go.of (T' := T17) (f' := (mkF m 188 #[.val (.int p1), .val (.int p2), .val (.int p3), .val (.int p4), .val (.int p5), .val (.int u5), .val (.int u6), .val (.int u7), .val (.int u8), .val (.int ((p4 &&& (2147483647 : Int32)) % (3 : Int32))), .val (.int u10), .val (.int u11), .val (.ref ca), .val (.ref b4), .val (.ref b9), .unset, .unset, .unset, .unset] [(.ref b15), (.ref b14), (.ref b14)])) st17 ?_
      refine goI X17 hx hZ rfl hown (hw _ (List.mem_of_getElem? (i := 12) rfl)) (hw _ (List.mem_of_getElem? (i := 13) rfl)) (hw _ (List.mem_of_getElem? (i := 14) rfl)) (by decide) (C := 1) (S := 2) (newStr (W := 1) hZ (hw_words hw) (hw _ (List.mem_of_getElem? (i := 9) rfl)) (cs := [u10, u11]) E_b14 F_value_b14 F_coder_b14 V_b15 rfl Z_cs hz (n := 2) rfl rfl (by decide) (by decide) (by intro c hc; simp only [List.mem_cons, List.not_mem_nil, or_false] at hc; rcases hc with rfl | rfl; exact hu10; exact hu11) (by decide) (by decide)) e17 (argsL := [(.ref b15)]) (rest := [(.ref b14)]) (by rw [hml]; rfl) (lenOf pd___C_V rfl) rfl rfl (hb hby at_188) (Nat.le_of_eq rfl) (by decide) (by decide) ?_
      intro v18 T18 L18 X18 hQ18
      obtain ⟨h18, e18⟩ : ∃ z, T18.heap = z := ⟨_, rfl⟩
      rw [e18] at hQ18
      have E_b14_o := E_b14
      obtain ⟨rfl, Mc18, t18, le18, S18⟩ := hQ18
      have ne_ca_t18 : ca ≠ t18 := Nat.ne_of_lt (Nat.lt_of_lt_of_le E_ca.lt le18)
      have ne_b5_t18 : b5 ≠ t18 := Nat.ne_of_lt (Nat.lt_of_lt_of_le V_b5.lt le18)
      have ne_b4_t18 : b4 ≠ t18 := Nat.ne_of_lt (Nat.lt_of_lt_of_le S_b4.lt1 le18)
      have ne_t8_t18 : t8 ≠ t18 := Nat.ne_of_lt (Nat.lt_of_lt_of_le S_b4.lt2 le18)
      have ne_b10_t18 : b10 ≠ t18 := Nat.ne_of_lt (Nat.lt_of_lt_of_le V_b10.lt le18)
      have ne_b9_t18 : b9 ≠ t18 := Nat.ne_of_lt (Nat.lt_of_lt_of_le S_b9.lt1 le18)
      have ne_t13_t18 : t13 ≠ t18 := Nat.ne_of_lt (Nat.lt_of_lt_of_le S_b9.lt2 le18)
      have ne_b14_t18 : b14 ≠ t18 := Nat.ne_of_lt (Nat.lt_of_lt_of_le E_b14.lt le18)
      have ne_b15_t18 : b15 ≠ t18 := Nat.ne_of_lt (Nat.lt_of_lt_of_le V_b15.lt le18)
      have fr_t18 : h0.size ≤ t18 := Nat.le_trans M17.le le18
      have M18 := M17.app Mc18 (allS (Or.inr fr_b14) all0)
      replace hk := Nat.le_trans hk (Mc18.1).1
      replace Z_cs := StaKeep Z_cs Mc18.1 (allS (staExa E_b14_o) all0)
      replace Z_c1 := StaKeep Z_c1 Mc18.1 (allS (staExa E_b14_o) all0)
      replace Z_c2 := StaKeep Z_c2 Mc18.1 (allS (staExa E_b14_o) all0)
      replace Z_c3 := StaKeep Z_c3 Mc18.1 (allS (staExa E_b14_o) all0)
      replace Z_c4 := StaKeep Z_c4 Mc18.1 (allS (staExa E_b14_o) all0)
      replace E_ca := E_ca.keep Mc18.1
      replace F_of := F_of.keep Mc18.1 (ninS ne_ca_b14 nin0)
      replace F_os := F_os.keep Mc18.1 (ninS ne_ca_b14 nin0)
      replace V_b5 := V_b5.keep Mc18.1 (ninS ne_b5_b14 nin0)
      replace S_b4 := S_b4.keep Mc18.1 (ninS ne_b4_b14 nin0) (ninS ne_t8_b14 nin0)
      replace V_b10 := V_b10.keep Mc18.1 (ninS ne_b10_b14 nin0)
      replace S_b9 := S_b9.keep Mc18.1 (ninS ne_b9_b14 nin0) (ninS ne_t13_b14 nin0)
      replace E_b14 := E_b14.keep Mc18.1
      replace V_b15 := V_b15.keep Mc18.1 (ninS (Ne.symm ne_b14_b15) nin0)
      have S_b14 := S18
      show Go p e below P T18 (mkF m 191 #[.val (.int p1), .val (.int p2), .val (.int p3), .val (.int p4), .val (.int p5), .val (.int u5), .val (.int u6), .val (.int u7), .val (.int u8), .val (.int ((p4 &&& (2147483647 : Int32)) % (3 : Int32))), .val (.int u10), .val (.int u11), .val (.ref ca), .val (.ref b4), .val (.ref b9), .unset, .unset, .unset, .unset] [(.ref b14)])
      refine Go.of (T' := T18) (f' := (mkF m 193 #[.val (.int p1), .val (.int p2), .val (.int p3), .val (.int p4), .val (.int p5), .val (.int u5), .val (.int u6), .val (.int u7), .val (.int u8), .val (.int ((p4 &&& (2147483647 : Int32)) % (3 : Int32))), .val (.int u10), .val (.int u11), .val (.ref ca), .val (.ref b4), .val (.ref b9), .val (.ref b14), .unset, .unset, .unset] [])) (fun _ k => XS.astore X18.here hx rfl (hb hby at_191) rfl rfl (l' := #[.val (.int p1), .val (.int p2), .val (.int p3), .val (.int p4), .val (.int p5), .val (.int u5), .val (.int u6), .val (.int u7), .val (.int u8), .val (.int ((p4 &&& (2147483647 : Int32)) % (3 : Int32))), .val (.int u10), .val (.int u11), .val (.ref ca), .val (.ref b4), .val (.ref b9), .val (.ref b14), .unset, .unset, .unset]) rfl k) ?_
      obtain ⟨T19, h19, X19, e19, E19, A19, D19, -, st19⟩ := newO X18 hx hZ hown (hw _ (List.mem_of_getElem? (i := 38) rfl)) (hw _ (List.mem_of_getElem? (i := 39) rfl)) (hw _ (List.mem_of_getElem? (i := 40) rfl)) e18 (g := (mkF m 193 #[.val (.int p1), .val (.int p2), .val (.int p3), .val (.int p4), .val (.int p5), .val (.int u5), .val (.int u6), .val (.int u7), .val (.int u8), .val (.int ((p4 &&& (2147483647 : Int32)) % (3 : Int32))), .val (.int u10), .val (.int u11), .val (.ref ca), .val (.ref b4), .val (.ref b9), .val (.ref b14), .unset, .unset, .unset] [])) rfl (hb hby at_193) (by decide) (by decide)
      obtain ⟨b19, g19⟩ : ∃ z, z = h18.size := ⟨_, rfl⟩
      rw [← g19] at A19 D19 st19
      have ne_ca_b19 : ca ≠ b19 := Nat.ne_of_lt (Nat.lt_of_lt_of_le E_ca.lt (Nat.le_of_eq g19.symm))
      have ne_b5_b19 : b5 ≠ b19 := Nat.ne_of_lt (Nat.lt_of_lt_of_le V_b5.lt (Nat.le_of_eq g19.symm))
      have ne_b4_b19 : b4 ≠ b19 := Nat.ne_of_lt (Nat.lt_of_lt_of_le S_b4.lt1 (Nat.le_of_eq g19.symm))
      have ne_t8_b19 : t8 ≠ b19 := Nat.ne_of_lt (Nat.lt_of_lt_of_le S_b4.lt2 (Nat.le_of_eq g19.symm))
      have ne_b10_b19 : b10 ≠ b19 := Nat.ne_of_lt (Nat.lt_of_lt_of_le V_b10.lt (Nat.le_of_eq g19.symm))
      have ne_b9_b19 : b9 ≠ b19 := Nat.ne_of_lt (Nat.lt_of_lt_of_le S_b9.lt1 (Nat.le_of_eq g19.symm))
      have ne_t13_b19 : t13 ≠ b19 := Nat.ne_of_lt (Nat.lt_of_lt_of_le S_b9.lt2 (Nat.le_of_eq g19.symm))
      have ne_b15_b19 : b15 ≠ b19 := Nat.ne_of_lt (Nat.lt_of_lt_of_le V_b15.lt (Nat.le_of_eq g19.symm))
      have ne_b14_b19 : b14 ≠ b19 := Nat.ne_of_lt (Nat.lt_of_lt_of_le S_b14.lt1 (Nat.le_of_eq g19.symm))
      have ne_t18_b19 : t18 ≠ b19 := Nat.ne_of_lt (Nat.lt_of_lt_of_le S_b14.lt2 (Nat.le_of_eq g19.symm))
      have fr_b19 : h0.size ≤ b19 := Nat.le_trans M18.le (Nat.le_of_eq g19.symm)
      have K19 := keepE E19
      have M19 := M18.ext E19
      replace hk := Nat.le_trans hk (K19).1
      replace Z_cs := StaKeep Z_cs K19 all0
      replace Z_c1 := StaKeep Z_c1 K19 all0
      replace Z_c2 := StaKeep Z_c2 K19 all0
      replace Z_c3 := StaKeep Z_c3 K19 all0
      replace Z_c4 := StaKeep Z_c4 K19 all0
      replace E_ca := E_ca.keep K19
      replace F_of := F_of.keep K19 nin0
      replace F_os := F_os.keep K19 nin0
      replace V_b5 := V_b5.keep K19 nin0
      replace S_b4 := S_b4.keep K19 nin0 nin0
      replace V_b10 := V_b10.keep K19 nin0
      replace S_b9 := S_b9.keep K19 nin0 nin0
      replace V_b15 := V_b15.keep K19 nin0
      replace S_b14 := S_b14.keep K19 nin0 nin0
      have E_b19 := A19
      have F_name_b19 : Fld Z h19 b19 "com/example/denormal/denormal/modelfile/Relationship" "name" "Ljava/lang/String;" .null := D19 (Or.inr (hw _ (List.mem_of_getElem? (i := 49) rfl))) (ty := (.object "java/lang/String")) (by decide)
      have F_first_b19 : Fld Z h19 b19 "com/example/denormal/denormal/modelfile/Relationship" "first" "Ljava/lang/String;" .null := D19 (Or.inr (hw _ (List.mem_of_getElem? (i := 51) rfl))) (ty := (.object "java/lang/String")) (by decide)
      have F_second_b19 : Fld Z h19 b19 "com/example/denormal/denormal/modelfile/Relationship" "second" "Ljava/lang/String;" .null := D19 (Or.inr (hw _ (List.mem_of_getElem? (i := 53) rfl))) (ty := (.object "java/lang/String")) (by decide)
      have F_cardinality_b19 : Fld Z h19 b19 "com/example/denormal/denormal/modelfile/Relationship" "cardinality" "Lcom/example/denormal/denormal/modelfile/Cardinality;" .null := D19 (Or.inr (hw _ (List.mem_of_getElem? (i := 55) rfl))) (ty := (.object "com/example/denormal/denormal/modelfile/Cardinality")) (by decide)
      refine Go.of (T' := T19) (f' := (mkF m 196 #[.val (.int p1), .val (.int p2), .val (.int p3), .val (.int p4), .val (.int p5), .val (.int u5), .val (.int u6), .val (.int u7), .val (.int u8), .val (.int ((p4 &&& (2147483647 : Int32)) % (3 : Int32))), .val (.int u10), .val (.int u11), .val (.ref ca), .val (.ref b4), .val (.ref b9), .val (.ref b14), .unset, .unset, .unset] [(.ref b19)])) st19 ?_
      refine Go.of (T' := T19) (f' := (mkF m 197 #[.val (.int p1), .val (.int p2), .val (.int p3), .val (.int p4), .val (.int p5), .val (.int u5), .val (.int u6), .val (.int u7), .val (.int u8), .val (.int ((p4 &&& (2147483647 : Int32)) % (3 : Int32))), .val (.int u10), .val (.int u11), .val (.ref ca), .val (.ref b4), .val (.ref b9), .val (.ref b14), .unset, .unset, .unset] [(.ref b19), (.ref b19)])) (fun _ k => XS.dup X19.here hx rfl (hb hby at_196) rfl rfl k) ?_
      obtain ⟨sa20, T20, h20, k20, X20, e20, E20, hS20, hk20, hZ20, hown20, st20⟩ := ldcS X19 hx hZ hown (hw _ (List.mem_of_getElem? (i := 41) rfl)) (hw_sA hw) e19 hS hk (g := (mkF m 197 #[.val (.int p1), .val (.int p2), .val (.int p3), .val (.int p4), .val (.int p5), .val (.int u5), .val (.int u6), .val (.int u7), .val (.int u8), .val (.int ((p4 &&& (2147483647 : Int32)) % (3 : Int32))), .val (.int u10), .val (.int u11), .val (.ref ca), .val (.ref b4), .val (.ref b9), .val (.ref b14), .unset, .unset, .unset] [(.ref b19), (.ref b19)])) rfl (hb hby at_197) (n := 4) (by decide) (by decide) (by decide) (by decide)
      clear hS hk
      have K20 := keepE E20
      have M20 := M19.ext E20
      replace Z_cs := StaKeep Z_cs K20 all0
      replace Z_c1 := StaKeep Z_c1 K20 all0
      replace Z_c2 := StaKeep Z_c2 K20 all0
      replace Z_c3 := StaKeep Z_c3 K20 all0
      replace Z_c4 := StaKeep Z_c4 K20 all0
      replace E_ca := E_ca.keep K20
      replace F_of := F_of.keep K20 nin0
      replace F_os := F_os.keep K20 nin0
      replace V_b5 := V_b5.keep K20 nin0
      replace S_b4 := S_b4.keep K20 nin0 nin0
      replace V_b10 := V_b10.keep K20 nin0
      replace S_b9 := S_b9.keep K20 nin0 nin0
      replace V_b15 := V_b15.keep K20 nin0
      replace S_b14 := S_b14.keep K20 nin0 nin0
      replace E_b19 := E_b19.keep K20
      replace F_name_b19 := F_name_b19.keep K20 nin0
      replace F_first_b19 := F_first_b19.keep K20 nin0
      replace F_second_b19 := F_second_b19.keep K20 nin0
      replace F_cardinality_b19 := F_cardinality_b19.keep K20 nin0
      have hS := hS20
      have hk := hk20
      replace hZ := hZ20
      replace hown := hown20
      refine Go.of (T' := T20) (f' := (mkF m 199 #[.val (.int p1), .val (.int p2), .val (.int p3), .val (.int p4), .val (.int p5), .val (.int u5), .val (.int u6), .val (.int u7), .val (.int u8), .val (.int ((p4 &&& (2147483647 : Int32)) % (3 : Int32))), .val (.int u10), .val (.int u11), .val (.ref ca), .val (.ref b4), .val (.ref b9), .val (.ref b14), .unset, .unset, .unset] [(.ref sa20), (.ref b19), (.ref b19)])) st20 ?_
      refine Go.of (T' := T20) (f' := (mkF m 201 #[.val (.int p1), .val (.int p2), .val (.int p3), .val (.int p4), .val (.int p5), .val (.int u5), .val (.int u6), .val (.int u7), .val (.int u8), .val (.int ((p4 &&& (2147483647 : Int32)) % (3 : Int32))), .val (.int u10), .val (.int u11), .val (.ref ca), .val (.ref b4), .val (.ref b9), .val (.ref b14), .unset, .unset, .unset] [(.ref b4), (.ref sa20), (.ref b19), (.ref b19)])) (fun _ k => XS.aload X20.here hx rfl (hb hby at_199) rfl rfl k) ?_
      refine Go.of (T' := T20) (f' := (mkF m 203 #[.val (.int p1), .val (.int p2), .val (.int p3), .val (.int p4), .val (.int p5), .val (.int u5), .val (.int u6), .val (.int u7), .val (.int u8), .val (.int ((p4 &&& (2147483647 : Int32)) % (3 : Int32))), .val (.int u10), .val (.int u11), .val (.ref ca), .val (.ref b4), .val (.ref b9), .val (.ref b14), .unset, .unset, .unset] [(.ref b9), (.ref b4), (.ref sa20), (.ref b19), (.ref b19)])) (fun _ k => XS.aload X20.here hx rfl (hb hby at_201) rfl rfl k) ?_
      refine Go.of (T' := T20) (f' := (mkF m 205 #[.val (.int p1), .val (.int p2), .val (.int p3), .val (.int p4), .val (.int p5), .val (.int u5), .val (.int u6), .val (.int u7), .val (.int u8), .val (.int ((p4 &&& (2147483647 : Int32)) % (3 : Int32))), .val (.int u10), .val (.int u11), .val (.ref ca), .val (.ref b4), .val (.ref b9), .val (.ref b14), .unset, .unset, .unset] [(.ref ca), (.ref b9), (.ref b4), (.ref sa20), (.ref b19), (.ref b19)])) (fun _ k => XS.aload X20.here hx rfl (hb hby at_203) rfl rfl k) ?_
      refine goI X20 hx hZ rfl hown (hw _ (List.mem_of_getElem? (i := 44) rfl)) (hw _ (List.mem_of_getElem? (i := 45) rfl)) (hw _ (List.mem_of_getElem? (i := 46) rfl)) (by decide) (C := 0) (S := 0) ((rm_rel l Z a0 hw b19 sa20 b4 b9 ca h20 E_b19 F_name_b19 F_first_b19 F_second_b19 F_cardinality_b19 ).bk (W := 1) hZ (hw _ (List.mem_of_getElem? (i := 46) rfl)) (hw _ (List.mem_of_getElem? (i := 40) rfl)) (by decide) (by decide)) e20 (argsL := [(.ref sa20), (.ref b4), (.ref b9), (.ref ca)]) (rest := [(.ref b19)]) (by rw [hml]; rfl) (lenOf pd__Ljava_lang_String_Ljava_lang_String_Ljava_lang_String_Lcom_example_denormal_denormal_modelfile_Cardinality__V rfl) rfl rfl (hb hby at_205) (Nat.le_of_eq rfl) (by decide) (by decide) ?_
      intro v21 T21 L21 X21 hQ21
      obtain ⟨h21, e21⟩ : ∃ z, T21.heap = z := ⟨_, rfl⟩
      rw [e21] at hQ21
      have E_b19_o := E_b19
      obtain ⟨rfl, Mc21, Ec21, Fc21_0, Fc21_1, Fc21_2, Fc21_3⟩ := hQ21
      have M21 := M20.app Mc21 (allS (Or.inr fr_b19) all0)
      replace hk := Nat.le_trans hk (Mc21.1).1
      replace Z_cs := StaKeep Z_cs Mc21.1 (allS (staExa E_b19_o) all0)
      replace Z_c1 := StaKeep Z_c1 Mc21.1 (allS (staExa E_b19_o) all0)
      replace Z_c2 := StaKeep Z_c2 Mc21.1 (allS (staExa E_b19_o) all0)
      replace Z_c3 := StaKeep Z_c3 Mc21.1 (allS (staExa E_b19_o) all0)
      replace Z_c4 := StaKeep Z_c4 Mc21.1 (allS (staExa E_b19_o) all0)
      replace E_ca := E_ca.keep Mc21.1
      replace F_of := F_of.keep Mc21.1 (ninS ne_ca_b19 nin0)
      replace F_os := F_os.keep Mc21.1 (ninS ne_ca_b19 nin0)
      replace V_b5 := V_b5.keep Mc21.1 (ninS ne_b5_b19 nin0)
      replace S_b4 := S_b4.keep Mc21.1 (ninS ne_b4_b19 nin0) (ninS ne_t8_b19 nin0)
      replace V_b10 := V_b10.keep Mc21.1 (ninS ne_b10_b19 nin0)
      replace S_b9 := S_b9.keep Mc21.1 (ninS ne_b9_b19 nin0) (ninS ne_t13_b19 nin0)
      replace V_b15 := V_b15.keep Mc21.1 (ninS ne_b15_b19 nin0)
      replace S_b14 := S_b14.keep Mc21.1 (ninS ne_b14_b19 nin0) (ninS ne_t18_b19 nin0)
      replace E_b19 := Ec21
      have F_name_b19 := Fc21_0
      have F_first_b19 := Fc21_1
      have F_second_b19 := Fc21_2
      have F_cardinality_b19 := Fc21_3
      show Go p e below P T21 (mkF m 208 #[.val (.int p1), .val (.int p2), .val (.int p3), .val (.int p4), .val (.int p5), .val (.int u5), .val (.int u6), .val (.int u7), .val (.int u8), .val (.int ((p4 &&& (2147483647 : Int32)) % (3 : Int32))), .val (.int u10), .val (.int u11), .val (.ref ca), .val (.ref b4), .val (.ref b9), .val (.ref b14), .unset, .unset, .unset] [(.ref b19)])
      refine Go.of (T' := T21) (f' := (mkF m 210 #[.val (.int p1), .val (.int p2), .val (.int p3), .val (.int p4), .val (.int p5), .val (.int u5), .val (.int u6), .val (.int u7), .val (.int u8), .val (.int ((p4 &&& (2147483647 : Int32)) % (3 : Int32))), .val (.int u10), .val (.int u11), .val (.ref ca), .val (.ref b4), .val (.ref b9), .val (.ref b14), .val (.ref b19), .unset, .unset] [])) (fun _ k => XS.astore X21.here hx rfl (hb hby at_208) rfl rfl (l' := #[.val (.int p1), .val (.int p2), .val (.int p3), .val (.int p4), .val (.int p5), .val (.int u5), .val (.int u6), .val (.int u7), .val (.int u8), .val (.int ((p4 &&& (2147483647 : Int32)) % (3 : Int32))), .val (.int u10), .val (.int u11), .val (.ref ca), .val (.ref b4), .val (.ref b9), .val (.ref b14), .val (.ref b19), .unset, .unset]) rfl k) ?_
      refine Go.of (T' := T21) (f' := (mkF m 212 #[.val (.int p1), .val (.int p2), .val (.int p3), .val (.int p4), .val (.int p5), .val (.int u5), .val (.int u6), .val (.int u7), .val (.int u8), .val (.int ((p4 &&& (2147483647 : Int32)) % (3 : Int32))), .val (.int u10), .val (.int u11), .val (.ref ca), .val (.ref b4), .val (.ref b9), .val (.ref b14), .val (.ref b19), .unset, .unset] [(.int u10)])) (fun _ k => XS.iload X21.here hx rfl (hb hby at_210) rfl k) ?_
      refine Go.of (T' := T21) (f' := (mkF m 214 #[.val (.int p1), .val (.int p2), .val (.int p3), .val (.int p4), .val (.int p5), .val (.int u5), .val (.int u6), .val (.int u7), .val (.int u8), .val (.int ((p4 &&& (2147483647 : Int32)) % (3 : Int32))), .val (.int u10), .val (.int u11), .val (.ref ca), .val (.ref b4), .val (.ref b9), .val (.ref b14), .val (.ref b19), .unset, .unset] [(.int u7), (.int u10)])) (fun _ k => XS.iload X21.here hx rfl (hb hby at_212) rfl k) ?_
      by_cases hc214 : u10 = u7
      ·
        refine Go.of (T' := T21) (f' := (mkF m 217 #[.val (.int p1), .val (.int p2), .val (.int p3), .val (.int p4), .val (.int p5), .val (.int u5), .val (.int u6), .val (.int u7), .val (.int u8), .val (.int ((p4 &&& (2147483647 : Int32)) % (3 : Int32))), .val (.int u10), .val (.int u11), .val (.ref ca), .val (.ref b4), .val (.ref b9), .val (.ref b14), .val (.ref b19), .unset, .unset] [])) (fun _ k => XS.icmpNo X21.here hx rfl (hb hby at_214) rfl (teq hc214).2 k) ?_
        refine Go.of (T' := T21) (f' := (mkF m 219 #[.val (.int p1), .val (.int p2), .val (.int p3), .val (.int p4), .val (.int p5), .val (.int u5), .val (.int u6), .val (.int u7), .val (.int u8), .val (.int ((p4 &&& (2147483647 : Int32)) % (3 : Int32))), .val (.int u10), .val (.int u11), .val (.ref ca), .val (.ref b4), .val (.ref b9), .val (.ref b14), .val (.ref b19), .unset, .unset] [(.int u11)])) (fun _ k => XS.iload X21.here hx rfl (hb hby at_217) rfl k) ?_
        refine Go.of (T' := T21) (f' := (mkF m 221 #[.val (.int p1), .val (.int p2), .val (.int p3), .val (.int p4), .val (.int p5), .val (.int u5), .val (.int u6), .val (.int u7), .val (.int u8), .val (.int ((p4 &&& (2147483647 : Int32)) % (3 : Int32))), .val (.int u10), .val (.int u11), .val (.ref ca), .val (.ref b4), .val (.ref b9), .val (.ref b14), .val (.ref b19), .unset, .unset] [(.int u8), (.int u11)])) (fun _ k => XS.iload X21.here hx rfl (hb hby at_219) rfl k) ?_
        by_cases hc221 : u11 = u8
        ·
          refine Go.of (T' := T21) (f' := (mkF m 224 #[.val (.int p1), .val (.int p2), .val (.int p3), .val (.int p4), .val (.int p5), .val (.int u5), .val (.int u6), .val (.int u7), .val (.int u8), .val (.int ((p4 &&& (2147483647 : Int32)) % (3 : Int32))), .val (.int u10), .val (.int u11), .val (.ref ca), .val (.ref b4), .val (.ref b9), .val (.ref b14), .val (.ref b19), .unset, .unset] [])) (fun _ k => XS.icmpNo X21.here hx rfl (hb hby at_221) rfl (teq hc221).2 k) ?_
          refine Go.of (T' := T21) (f' := (mkF m 225 #[.val (.int p1), .val (.int p2), .val (.int p3), .val (.int p4), .val (.int p5), .val (.int u5), .val (.int u6), .val (.int u7), .val (.int u8), .val (.int ((p4 &&& (2147483647 : Int32)) % (3 : Int32))), .val (.int u10), .val (.int u11), .val (.ref ca), .val (.ref b4), .val (.ref b9), .val (.ref b14), .val (.ref b19), .unset, .unset] [(.int (1 : Int32))])) (fun _ k => XS.iconst X21.here hx rfl (hb hby at_224) k) ?_
          refine Go.of (T' := T21) (f' := (mkF m 229 #[.val (.int p1), .val (.int p2), .val (.int p3), .val (.int p4), .val (.int p5), .val (.int u5), .val (.int u6), .val (.int u7), .val (.int u8), .val (.int ((p4 &&& (2147483647 : Int32)) % (3 : Int32))), .val (.int u10), .val (.int u11), .val (.ref ca), .val (.ref b4), .val (.ref b9), .val (.ref b14), .val (.ref b19), .unset, .unset] [(.int (1 : Int32))])) (fun _ k => XS.goto X21.here hx rfl (pc0 := 225) (pc' := 229) rfl (hb hby at_225) (by decide) (by decide) k) ?_
          refine Go.of (T' := T21) (f' := (mkF m 231 #[.val (.int p1), .val (.int p2), .val (.int p3), .val (.int p4), .val (.int p5), .val (.int u5), .val (.int u6), .val (.int u7), .val (.int u8), .val (.int ((p4 &&& (2147483647 : Int32)) % (3 : Int32))), .val (.int u10), .val (.int u11), .val (.ref ca), .val (.ref b4), .val (.ref b9), .val (.ref b14), .val (.ref b19), .val (.int (1 : Int32)), .unset] [])) (fun _ k => XS.istore X21.here hx rfl (hb hby at_229) rfl (l' := #[.val (.int p1), .val (.int p2), .val (.int p3), .val (.int p4), .val (.int p5), .val (.int u5), .val (.int u6), .val (.int u7), .val (.int u8), .val (.int ((p4 &&& (2147483647 : Int32)) % (3 : Int32))), .val (.int u10), .val (.int u11), .val (.ref ca), .val (.ref b4), .val (.ref b9), .val (.ref b14), .val (.ref b19), .val (.int (1 : Int32)), .unset]) rfl k) ?_
          refine Go.of (T' := T21) (f' := (mkF m 233 #[.val (.int p1), .val (.int p2), .val (.int p3), .val (.int p4), .val (.int p5), .val (.int u5), .val (.int u6), .val (.int u7), .val (.int u8), .val (.int ((p4 &&& (2147483647 : Int32)) % (3 : Int32))), .val (.int u10), .val (.int u11), .val (.ref ca), .val (.ref b4), .val (.ref b9), .val (.ref b14), .val (.ref b19), .val (.int (1 : Int32)), .unset] [(.int (1 : Int32))])) (fun _ k => XS.iload X21.here hx rfl (hb hby at_231) rfl k) ?_
          refine Go.of (T' := T21) (f' := (mkF m 236 #[.val (.int p1), .val (.int p2), .val (.int p3), .val (.int p4), .val (.int p5), .val (.int u5), .val (.int u6), .val (.int u7), .val (.int u8), .val (.int ((p4 &&& (2147483647 : Int32)) % (3 : Int32))), .val (.int u10), .val (.int u11), .val (.ref ca), .val (.ref b4), .val (.ref b9), .val (.ref b14), .val (.ref b19), .val (.int (1 : Int32)), .unset] [])) (fun _ k => XS.ifNo X21.here hx rfl (hb hby at_233) rfl (by decide) k) ?_
          refine Go.of (T' := T21) (f' := (mkF m 238 #[.val (.int p1), .val (.int p2), .val (.int p3), .val (.int p4), .val (.int p5), .val (.int u5), .val (.int u6), .val (.int u7), .val (.int u8), .val (.int ((p4 &&& (2147483647 : Int32)) % (3 : Int32))), .val (.int u10), .val (.int u11), .val (.ref ca), .val (.ref b4), .val (.ref b9), .val (.ref b14), .val (.ref b19), .val (.int (1 : Int32)), .unset] [(.ref ca)])) (fun _ k => XS.aload X21.here hx rfl (hb hby at_236) rfl rfl k) ?_
          obtain ⟨T22, X22, e22, st22⟩ := getS2 X21 hx hZ hown (host := "") (Or.inl (hw _ (List.mem_of_getElem? (i := 82) rfl))) Via.refl e21 Z_c2 (g := (mkF m 238 #[.val (.int p1), .val (.int p2), .val (.int p3), .val (.int p4), .val (.int p5), .val (.int u5), .val (.int u6), .val (.int u7), .val (.int u8), .val (.int ((p4 &&& (2147483647 : Int32)) % (3 : Int32))), .val (.int u10), .val (.int u11), .val (.ref ca), .val (.ref b4), .val (.ref b9), .val (.ref b14), .val (.ref b19), .val (.int (1 : Int32)), .unset] [(.ref ca)])) rfl (hb hby at_238)
          refine Go.of (T' := T22) (f' := (mkF m 241 #[.val (.int p1), .val (.int p2), .val (.int p3), .val (.int p4), .val (.int p5), .val (.int u5), .val (.int u6), .val (.int u7), .val (.int u8), .val (.int ((p4 &&& (2147483647 : Int32)) % (3 : Int32))), .val (.int u10), .val (.int u11), .val (.ref ca), .val (.ref b4), .val (.ref b9), .val (.ref b14), .val (.ref b19), .val (.int (1 : Int32)), .unset] [(.ref c2), (.ref ca)])) st22 ?_
          by_cases ha241 : ca = c2
          ·
            refine Go.of (T' := T22) (f' := (mkF m 252 #[.val (.int p1), .val (.int p2), .val (.int p3), .val (.int p4), .val (.int p5), .val (.int u5), .val (.int u6), .val (.int u7), .val (.int u8), .val (.int ((p4 &&& (2147483647 : Int32)) % (3 : Int32))), .val (.int u10), .val (.int u11), .val (.ref ca), .val (.ref b4), .val (.ref b9), .val (.ref b14), .val (.ref b19), .val (.int (1 : Int32)), .unset] [])) (fun _ k => Jvm.RoadKit.acmp (g := (mkF m 241 #[.val (.int p1), .val (.int p2), .val (.int p3), .val (.int p4), .val (.int p5), .val (.int u5), .val (.int u6), .val (.int u7), .val (.int u8), .val (.int ((p4 &&& (2147483647 : Int32)) % (3 : Int32))), .val (.int u10), .val (.int u11), .val (.ref ca), .val (.ref b4), .val (.ref b9), .val (.ref b14), .val (.ref b19), .val (.int (1 : Int32)), .unset] [(.ref c2), (.ref ca)])) X22 hx rfl rfl rfl (pc0 := 241) (pc' := 252) (same := true) rfl (hb hby at_241) rfl (decide_eq_true (congrArg Value.ref ha241)) (by decide) (by decide) k) ?_
            refine Go.of (T' := T22) (f' := (mkF m 253 #[.val (.int p1), .val (.int p2), .val (.int p3), .val (.int p4), .val (.int p5), .val (.int u5), .val (.int u6), .val (.int u7), .val (.int u8), .val (.int ((p4 &&& (2147483647 : Int32)) % (3 : Int32))), .val (.int u10), .val (.int u11), .val (.ref ca), .val (.ref b4), .val (.ref b9), .val (.ref b14), .val (.ref b19), .val (.int (1 : Int32)), .unset] [(.int (1 : Int32))])) (fun _ k => XS.iconst X22.here hx rfl (hb hby at_252) k) ?_
            refine Go.of (T' := T22) (f' := (mkF m 257 #[.val (.int p1), .val (.int p2), .val (.int p3), .val (.int p4), .val (.int p5), .val (.int u5), .val (.int u6), .val (.int u7), .val (.int u8), .val (.int ((p4 &&& (2147483647 : Int32)) % (3 : Int32))), .val (.int u10), .val (.int u11), .val (.ref ca), .val (.ref b4), .val (.ref b9), .val (.ref b14), .val (.ref b19), .val (.int (1 : Int32)), .unset] [(.int (1 : Int32))])) (fun _ k => XS.goto X22.here hx rfl (pc0 := 253) (pc' := 257) rfl (hb hby at_253) (by decide) (by decide) k) ?_
            refine Go.of (T' := T22) (f' := (mkF m 259 #[.val (.int p1), .val (.int p2), .val (.int p3), .val (.int p4), .val (.int p5), .val (.int u5), .val (.int u6), .val (.int u7), .val (.int u8), .val (.int ((p4 &&& (2147483647 : Int32)) % (3 : Int32))), .val (.int u10), .val (.int u11), .val (.ref ca), .val (.ref b4), .val (.ref b9), .val (.ref b14), .val (.ref b19), .val (.int (1 : Int32)), .val (.int (1 : Int32))] [])) (fun _ k => XS.istore X22.here hx rfl (hb hby at_257) rfl (l' := #[.val (.int p1), .val (.int p2), .val (.int p3), .val (.int p4), .val (.int p5), .val (.int u5), .val (.int u6), .val (.int u7), .val (.int u8), .val (.int ((p4 &&& (2147483647 : Int32)) % (3 : Int32))), .val (.int u10), .val (.int u11), .val (.ref ca), .val (.ref b4), .val (.ref b9), .val (.ref b14), .val (.ref b19), .val (.int (1 : Int32)), .val (.int (1 : Int32))]) rfl k) ?_
            refine Go.of (T' := T22) (f' := (mkF m 285 #[.val (.int p1), .val (.int p2), .val (.int p3), .val (.int p4), .val (.int p5), .val (.int u5), .val (.int u6), .val (.int u7), .val (.int u8), .val (.int ((p4 &&& (2147483647 : Int32)) % (3 : Int32))), .val (.int u10), .val (.int u11), .val (.ref ca), .val (.ref b4), .val (.ref b9), .val (.ref b14), .val (.ref b19), .val (.int (1 : Int32)), .val (.int (1 : Int32))] [])) (fun _ k => XS.goto X22.here hx rfl (pc0 := 259) (pc' := 285) rfl (hb hby at_259) (by decide) (by decide) k) ?_
            refine Go.of (T' := T22) (f' := (mkF m 287 #[.val (.int p1), .val (.int p2), .val (.int p3), .val (.int p4), .val (.int p5), .val (.int u5), .val (.int u6), .val (.int u7), .val (.int u8), .val (.int ((p4 &&& (2147483647 : Int32)) % (3 : Int32))), .val (.int u10), .val (.int u11), .val (.ref ca), .val (.ref b4), .val (.ref b9), .val (.ref b14), .val (.ref b19), .val (.int (1 : Int32)), .val (.int (1 : Int32))] [(.ref b19)])) (fun _ k => XS.aload X22.here hx rfl (hb hby at_285) rfl rfl k) ?_
            refine Go.of (T' := T22) (f' := (mkF m 289 #[.val (.int p1), .val (.int p2), .val (.int p3), .val (.int p4), .val (.int p5), .val (.int u5), .val (.int u6), .val (.int u7), .val (.int u8), .val (.int ((p4 &&& (2147483647 : Int32)) % (3 : Int32))), .val (.int u10), .val (.int u11), .val (.ref ca), .val (.ref b4), .val (.ref b9), .val (.ref b14), .val (.ref b19), .val (.int (1 : Int32)), .val (.int (1 : Int32))] [(.ref b14), (.ref b19)])) (fun _ k => XS.aload X22.here hx rfl (hb hby at_287) rfl rfl k) ?_
            refine goV X22 hx hZ (y := (⟨"com/example/denormal/denormal/modelfile/Relationship", "linksMany", "(Ljava/lang/String;)Z"⟩ : MethodName)) (z := (⟨"com/example/denormal/denormal/modelfile/Relationship", "linksMany", "(Ljava/lang/String;)Z"⟩ : MethodName)) hown (hw _ (List.mem_of_getElem? (i := 60) rfl)) (hw _ (List.mem_of_getElem? (i := 61) rfl)) (notFace_of_selects (args := #[]) (mvT hZ (hw _ (List.mem_of_getElem? (i := 63) rfl)))) (hw _ (List.mem_of_getElem? (i := 63) rfl)) (hw _ (List.mem_of_getElem? (i := 62) rfl)) (by decide) (C := 0) (S := 0) ((rm_linksMany l Z a0 hw b19 b14 b9 ca t13 t18 [u10, u11] [u7, u8] of os zc h21 F_second_b19 F_cardinality_b19 S_b14 S_b9 E_ca F_of F_os hof hos Z_cs hz).bk (W := 0) hZ (hw _ (List.mem_of_getElem? (i := 64) rfl)) (hw _ (List.mem_of_getElem? (i := 40) rfl)) (by decide) (by decide)) e22 E_b19 (argsL := [(.ref b14)]) (rest := []) (by rw [hml]; rfl) (lenOf pd__Ljava_lang_String__Z rfl) rfl rfl (hb hby at_289) (Nat.le_of_eq rfl) (by decide) (by decide) ?_
            intro v23 T23 L23 X23 hQ23
            obtain ⟨nq23, e23, rfl⟩ := hQ23
            replace X23 := standNil X23 nq23
            show Go p e below P T23 (mkF m 292 #[.val (.int p1), .val (.int p2), .val (.int p3), .val (.int p4), .val (.int p5), .val (.int u5), .val (.int u6), .val (.int u7), .val (.int u8), .val (.int ((p4 &&& (2147483647 : Int32)) % (3 : Int32))), .val (.int u10), .val (.int u11), .val (.ref ca), .val (.ref b4), .val (.ref b9), .val (.ref b14), .val (.ref b19), .val (.int (1 : Int32)), .val (.int (1 : Int32))] [(.int (bi ((([u10, u11] : List Int32) = [u7, u8] ∧ os = (0 : Int32)) ∨ (¬ ([u10, u11] : List Int32) = [u7, u8] ∧ of = (0 : Int32)))))])
            refine Go.of (T' := T23) (f' := (mkF m 294 #[.val (.int p1), .val (.int p2), .val (.int p3), .val (.int p4), .val (.int p5), .val (.int u5), .val (.int u6), .val (.int u7), .val (.int u8), .val (.int ((p4 &&& (2147483647 : Int32)) % (3 : Int32))), .val (.int u10), .val (.int u11), .val (.ref ca), .val (.ref b4), .val (.ref b9), .val (.ref b14), .val (.ref b19), .val (.int (1 : Int32)), .val (.int (1 : Int32))] [(.int (1 : Int32)), (.int (bi ((([u10, u11] : List Int32) = [u7, u8] ∧ os = (0 : Int32)) ∨ (¬ ([u10, u11] : List Int32) = [u7, u8] ∧ of = (0 : Int32)))))])) (fun _ k => XS.iload X23.here hx rfl (hb hby at_292) rfl k) ?_
            have hc294 : (bi ((([u10, u11] : List Int32) = [u7, u8] ∧ os = (0 : Int32)) ∨ (¬ ([u10, u11] : List Int32) = [u7, u8] ∧ of = (0 : Int32)))) = (1 : Int32) := bi_t (Or.inl ⟨(two_eq.mpr ⟨hc214, hc221⟩), (os0 hrel n12 n13 n14 n23 n24 n34).1.mpr (by first | exact Or.inl ha241 | exact Or.inr ha249)⟩)
            refine Go.of (T' := T23) (f' := (mkF m 297 #[.val (.int p1), .val (.int p2), .val (.int p3), .val (.int p4), .val (.int p5), .val (.int u5), .val (.int u6), .val (.int u7), .val (.int u8), .val (.int ((p4 &&& (2147483647 : Int32)) % (3 : Int32))), .val (.int u10), .val (.int u11), .val (.ref ca), .val (.ref b4), .val (.ref b9), .val (.ref b14), .val (.ref b19), .val (.int (1 : Int32)), .val (.int (1 : Int32))] [])) (fun _ k => XS.icmpNo X23.here hx rfl (hb hby at_294) rfl (teq hc294).2 k) ?_
            refine Go.of (T' := T23) (f' := (mkF m 298 #[.val (.int p1), .val (.int p2), .val (.int p3), .val (.int p4), .val (.int p5), .val (.int u5), .val (.int u6), .val (.int u7), .val (.int u8), .val (.int ((p4 &&& (2147483647 : Int32)) % (3 : Int32))), .val (.int u10), .val (.int u11), .val (.ref ca), .val (.ref b4), .val (.ref b9), .val (.ref b14), .val (.ref b19), .val (.int (1 : Int32)), .val (.int (1 : Int32))] [(.int (1 : Int32))])) (fun _ k => XS.iconst X23.here hx rfl (hb hby at_297) k) ?_
            refine Go.of (T' := T23) (f' := (mkF m 302 #[.val (.int p1), .val (.int p2), .val (.int p3), .val (.int p4), .val (.int p5), .val (.int u5), .val (.int u6), .val (.int u7), .val (.int u8), .val (.int ((p4 &&& (2147483647 : Int32)) % (3 : Int32))), .val (.int u10), .val (.int u11), .val (.ref ca), .val (.ref b4), .val (.ref b9), .val (.ref b14), .val (.ref b19), .val (.int (1 : Int32)), .val (.int (1 : Int32))] [(.int (1 : Int32))])) (fun _ k => XS.goto X23.here hx rfl (pc0 := 298) (pc' := 302) rfl (hb hby at_298) (by decide) (by decide) k) ?_
            exact goRetIW (Q := fun v h L => v = some (.int 1) ∧ Mv h0 h [] L) X23 hx hS hk (t := .boolean) hret hlk rfl (by simp) (hb hby at_302) K (by decide) (by decide) e23 (⟨rfl, M21⟩)
          ·
            refine Go.of (T' := T22) (f' := (mkF m 244 #[.val (.int p1), .val (.int p2), .val (.int p3), .val (.int p4), .val (.int p5), .val (.int u5), .val (.int u6), .val (.int u7), .val (.int u8), .val (.int ((p4 &&& (2147483647 : Int32)) % (3 : Int32))), .val (.int u10), .val (.int u11), .val (.ref ca), .val (.ref b4), .val (.ref b9), .val (.ref b14), .val (.ref b19), .val (.int (1 : Int32)), .unset] [])) (fun _ k => Jvm.RoadKit.acmp (g := (mkF m 241 #[.val (.int p1), .val (.int p2), .val (.int p3), .val (.int p4), .val (.int p5), .val (.int u5), .val (.int u6), .val (.int u7), .val (.int u8), .val (.int ((p4 &&& (2147483647 : Int32)) % (3 : Int32))), .val (.int u10), .val (.int u11), .val (.ref ca), .val (.ref b4), .val (.ref b9), .val (.ref b14), .val (.ref b19), .val (.int (1 : Int32)), .unset] [(.ref c2), (.ref ca)])) X22 hx rfl rfl rfl (pc0 := 241) (pc' := 244) (same := false) rfl (hb hby at_241) rfl (decide_eq_false fun q => ha241 (Value.ref.inj q)) (by decide) (by decide) k) ?_
            refine Go.of (T' := T22) (f' := (mkF m 246 #[.val (.int p1), .val (.int p2), .val (.int p3), .val (.int p4), .val (.int p5), .val (.int u5), .val (.int u6), .val (.int u7), .val (.int u8), .val (.int ((p4 &&& (2147483647 : Int32)) % (3 : Int32))), .val (.int u10), .val (.int u11), .val (.ref ca), .val (.ref b4), .val (.ref b9), .val (.ref b14), .val (.ref b19), .val (.int (1 : Int32)), .unset] [(.ref ca)])) (fun _ k => XS.aload X22.here hx rfl (hb hby at_244) rfl rfl k) ?_
            obtain ⟨T24, X24, e24, st24⟩ := getS2 X22 hx hZ hown (host := "") (Or.inl (hw _ (List.mem_of_getElem? (i := 58) rfl))) Via.refl e22 Z_c4 (g := (mkF m 246 #[.val (.int p1), .val (.int p2), .val (.int p3), .val (.int p4), .val (.int p5), .val (.int u5), .val (.int u6), .val (.int u7), .val (.int u8), .val (.int ((p4 &&& (2147483647 : Int32)) % (3 : Int32))), .val (.int u10), .val (.int u11), .val (.ref ca), .val (.ref b4), .val (.ref b9), .val (.ref b14), .val (.ref b19), .val (.int (1 : Int32)), .unset] [(.ref ca)])) rfl (hb hby at_246)
            refine Go.of (T' := T24) (f' := (mkF m 249 #[.val (.int p1), .val (.int p2), .val (.int p3), .val (.int p4), .val (.int p5), .val (.int u5), .val (.int u6), .val (.int u7), .val (.int u8), .val (.int ((p4 &&& (2147483647 : Int32)) % (3 : Int32))), .val (.int u10), .val (.int u11), .val (.ref ca), .val (.ref b4), .val (.ref b9), .val (.ref b14), .val (.ref b19), .val (.int (1 : Int32)), .unset] [(.ref c4), (.ref ca)])) st24 ?_
            by_cases ha249 : ca = c4
            ·
              refine Go.of (T' := T24) (f' := (mkF m 252 #[.val (.int p1), .val (.int p2), .val (.int p3), .val (.int p4), .val (.int p5), .val (.int u5), .val (.int u6), .val (.int u7), .val (.int u8), .val (.int ((p4 &&& (2147483647 : Int32)) % (3 : Int32))), .val (.int u10), .val (.int u11), .val (.ref ca), .val (.ref b4), .val (.ref b9), .val (.ref b14), .val (.ref b19), .val (.int (1 : Int32)), .unset] [])) (fun _ k => Jvm.RoadKit.acmp (g := (mkF m 249 #[.val (.int p1), .val (.int p2), .val (.int p3), .val (.int p4), .val (.int p5), .val (.int u5), .val (.int u6), .val (.int u7), .val (.int u8), .val (.int ((p4 &&& (2147483647 : Int32)) % (3 : Int32))), .val (.int u10), .val (.int u11), .val (.ref ca), .val (.ref b4), .val (.ref b9), .val (.ref b14), .val (.ref b19), .val (.int (1 : Int32)), .unset] [(.ref c4), (.ref ca)])) X24 hx rfl rfl rfl (pc0 := 249) (pc' := 252) (same := true) rfl (hb hby at_249) rfl (decide_eq_true (congrArg Value.ref ha249)) (by decide) (by decide) k) ?_
              refine Go.of (T' := T24) (f' := (mkF m 253 #[.val (.int p1), .val (.int p2), .val (.int p3), .val (.int p4), .val (.int p5), .val (.int u5), .val (.int u6), .val (.int u7), .val (.int u8), .val (.int ((p4 &&& (2147483647 : Int32)) % (3 : Int32))), .val (.int u10), .val (.int u11), .val (.ref ca), .val (.ref b4), .val (.ref b9), .val (.ref b14), .val (.ref b19), .val (.int (1 : Int32)), .unset] [(.int (1 : Int32))])) (fun _ k => XS.iconst X24.here hx rfl (hb hby at_252) k) ?_
              refine Go.of (T' := T24) (f' := (mkF m 257 #[.val (.int p1), .val (.int p2), .val (.int p3), .val (.int p4), .val (.int p5), .val (.int u5), .val (.int u6), .val (.int u7), .val (.int u8), .val (.int ((p4 &&& (2147483647 : Int32)) % (3 : Int32))), .val (.int u10), .val (.int u11), .val (.ref ca), .val (.ref b4), .val (.ref b9), .val (.ref b14), .val (.ref b19), .val (.int (1 : Int32)), .unset] [(.int (1 : Int32))])) (fun _ k => XS.goto X24.here hx rfl (pc0 := 253) (pc' := 257) rfl (hb hby at_253) (by decide) (by decide) k) ?_
              refine Go.of (T' := T24) (f' := (mkF m 259 #[.val (.int p1), .val (.int p2), .val (.int p3), .val (.int p4), .val (.int p5), .val (.int u5), .val (.int u6), .val (.int u7), .val (.int u8), .val (.int ((p4 &&& (2147483647 : Int32)) % (3 : Int32))), .val (.int u10), .val (.int u11), .val (.ref ca), .val (.ref b4), .val (.ref b9), .val (.ref b14), .val (.ref b19), .val (.int (1 : Int32)), .val (.int (1 : Int32))] [])) (fun _ k => XS.istore X24.here hx rfl (hb hby at_257) rfl (l' := #[.val (.int p1), .val (.int p2), .val (.int p3), .val (.int p4), .val (.int p5), .val (.int u5), .val (.int u6), .val (.int u7), .val (.int u8), .val (.int ((p4 &&& (2147483647 : Int32)) % (3 : Int32))), .val (.int u10), .val (.int u11), .val (.ref ca), .val (.ref b4), .val (.ref b9), .val (.ref b14), .val (.ref b19), .val (.int (1 : Int32)), .val (.int (1 : Int32))]) rfl k) ?_
              refine Go.of (T' := T24) (f' := (mkF m 285 #[.val (.int p1), .val (.int p2), .val (.int p3), .val (.int p4), .val (.int p5), .val (.int u5), .val (.int u6), .val (.int u7), .val (.int u8), .val (.int ((p4 &&& (2147483647 : Int32)) % (3 : Int32))), .val (.int u10), .val (.int u11), .val (.ref ca), .val (.ref b4), .val (.ref b9), .val (.ref b14), .val (.ref b19), .val (.int (1 : Int32)), .val (.int (1 : Int32))] [])) (fun _ k => XS.goto X24.here hx rfl (pc0 := 259) (pc' := 285) rfl (hb hby at_259) (by decide) (by decide) k) ?_
              refine Go.of (T' := T24) (f' := (mkF m 287 #[.val (.int p1), .val (.int p2), .val (.int p3), .val (.int p4), .val (.int p5), .val (.int u5), .val (.int u6), .val (.int u7), .val (.int u8), .val (.int ((p4 &&& (2147483647 : Int32)) % (3 : Int32))), .val (.int u10), .val (.int u11), .val (.ref ca), .val (.ref b4), .val (.ref b9), .val (.ref b14), .val (.ref b19), .val (.int (1 : Int32)), .val (.int (1 : Int32))] [(.ref b19)])) (fun _ k => XS.aload X24.here hx rfl (hb hby at_285) rfl rfl k) ?_
              refine Go.of (T' := T24) (f' := (mkF m 289 #[.val (.int p1), .val (.int p2), .val (.int p3), .val (.int p4), .val (.int p5), .val (.int u5), .val (.int u6), .val (.int u7), .val (.int u8), .val (.int ((p4 &&& (2147483647 : Int32)) % (3 : Int32))), .val (.int u10), .val (.int u11), .val (.ref ca), .val (.ref b4), .val (.ref b9), .val (.ref b14), .val (.ref b19), .val (.int (1 : Int32)), .val (.int (1 : Int32))] [(.ref b14), (.ref b19)])) (fun _ k => XS.aload X24.here hx rfl (hb hby at_287) rfl rfl k) ?_
              refine goV X24 hx hZ (y := (⟨"com/example/denormal/denormal/modelfile/Relationship", "linksMany", "(Ljava/lang/String;)Z"⟩ : MethodName)) (z := (⟨"com/example/denormal/denormal/modelfile/Relationship", "linksMany", "(Ljava/lang/String;)Z"⟩ : MethodName)) hown (hw _ (List.mem_of_getElem? (i := 60) rfl)) (hw _ (List.mem_of_getElem? (i := 61) rfl)) (notFace_of_selects (args := #[]) (mvT hZ (hw _ (List.mem_of_getElem? (i := 63) rfl)))) (hw _ (List.mem_of_getElem? (i := 63) rfl)) (hw _ (List.mem_of_getElem? (i := 62) rfl)) (by decide) (C := 0) (S := 0) ((rm_linksMany l Z a0 hw b19 b14 b9 ca t13 t18 [u10, u11] [u7, u8] of os zc h21 F_second_b19 F_cardinality_b19 S_b14 S_b9 E_ca F_of F_os hof hos Z_cs hz).bk (W := 0) hZ (hw _ (List.mem_of_getElem? (i := 64) rfl)) (hw _ (List.mem_of_getElem? (i := 40) rfl)) (by decide) (by decide)) e24 E_b19 (argsL := [(.ref b14)]) (rest := []) (by rw [hml]; rfl) (lenOf pd__Ljava_lang_String__Z rfl) rfl rfl (hb hby at_289) (Nat.le_of_eq rfl) (by decide) (by decide) ?_
              intro v25 T25 L25 X25 hQ25
              obtain ⟨nq25, e25, rfl⟩ := hQ25
              replace X25 := standNil X25 nq25
              show Go p e below P T25 (mkF m 292 #[.val (.int p1), .val (.int p2), .val (.int p3), .val (.int p4), .val (.int p5), .val (.int u5), .val (.int u6), .val (.int u7), .val (.int u8), .val (.int ((p4 &&& (2147483647 : Int32)) % (3 : Int32))), .val (.int u10), .val (.int u11), .val (.ref ca), .val (.ref b4), .val (.ref b9), .val (.ref b14), .val (.ref b19), .val (.int (1 : Int32)), .val (.int (1 : Int32))] [(.int (bi ((([u10, u11] : List Int32) = [u7, u8] ∧ os = (0 : Int32)) ∨ (¬ ([u10, u11] : List Int32) = [u7, u8] ∧ of = (0 : Int32)))))])
              refine Go.of (T' := T25) (f' := (mkF m 294 #[.val (.int p1), .val (.int p2), .val (.int p3), .val (.int p4), .val (.int p5), .val (.int u5), .val (.int u6), .val (.int u7), .val (.int u8), .val (.int ((p4 &&& (2147483647 : Int32)) % (3 : Int32))), .val (.int u10), .val (.int u11), .val (.ref ca), .val (.ref b4), .val (.ref b9), .val (.ref b14), .val (.ref b19), .val (.int (1 : Int32)), .val (.int (1 : Int32))] [(.int (1 : Int32)), (.int (bi ((([u10, u11] : List Int32) = [u7, u8] ∧ os = (0 : Int32)) ∨ (¬ ([u10, u11] : List Int32) = [u7, u8] ∧ of = (0 : Int32)))))])) (fun _ k => XS.iload X25.here hx rfl (hb hby at_292) rfl k) ?_
              have hc294 : (bi ((([u10, u11] : List Int32) = [u7, u8] ∧ os = (0 : Int32)) ∨ (¬ ([u10, u11] : List Int32) = [u7, u8] ∧ of = (0 : Int32)))) = (1 : Int32) := bi_t (Or.inl ⟨(two_eq.mpr ⟨hc214, hc221⟩), (os0 hrel n12 n13 n14 n23 n24 n34).1.mpr (by first | exact Or.inl ha241 | exact Or.inr ha249)⟩)
              refine Go.of (T' := T25) (f' := (mkF m 297 #[.val (.int p1), .val (.int p2), .val (.int p3), .val (.int p4), .val (.int p5), .val (.int u5), .val (.int u6), .val (.int u7), .val (.int u8), .val (.int ((p4 &&& (2147483647 : Int32)) % (3 : Int32))), .val (.int u10), .val (.int u11), .val (.ref ca), .val (.ref b4), .val (.ref b9), .val (.ref b14), .val (.ref b19), .val (.int (1 : Int32)), .val (.int (1 : Int32))] [])) (fun _ k => XS.icmpNo X25.here hx rfl (hb hby at_294) rfl (teq hc294).2 k) ?_
              refine Go.of (T' := T25) (f' := (mkF m 298 #[.val (.int p1), .val (.int p2), .val (.int p3), .val (.int p4), .val (.int p5), .val (.int u5), .val (.int u6), .val (.int u7), .val (.int u8), .val (.int ((p4 &&& (2147483647 : Int32)) % (3 : Int32))), .val (.int u10), .val (.int u11), .val (.ref ca), .val (.ref b4), .val (.ref b9), .val (.ref b14), .val (.ref b19), .val (.int (1 : Int32)), .val (.int (1 : Int32))] [(.int (1 : Int32))])) (fun _ k => XS.iconst X25.here hx rfl (hb hby at_297) k) ?_
              refine Go.of (T' := T25) (f' := (mkF m 302 #[.val (.int p1), .val (.int p2), .val (.int p3), .val (.int p4), .val (.int p5), .val (.int u5), .val (.int u6), .val (.int u7), .val (.int u8), .val (.int ((p4 &&& (2147483647 : Int32)) % (3 : Int32))), .val (.int u10), .val (.int u11), .val (.ref ca), .val (.ref b4), .val (.ref b9), .val (.ref b14), .val (.ref b19), .val (.int (1 : Int32)), .val (.int (1 : Int32))] [(.int (1 : Int32))])) (fun _ k => XS.goto X25.here hx rfl (pc0 := 298) (pc' := 302) rfl (hb hby at_298) (by decide) (by decide) k) ?_
              exact goRetIW (Q := fun v h L => v = some (.int 1) ∧ Mv h0 h [] L) X25 hx hS hk (t := .boolean) hret hlk rfl (by simp) (hb hby at_302) K (by decide) (by decide) e25 (⟨rfl, M21⟩)
            ·
              refine Go.of (T' := T24) (f' := (mkF m 256 #[.val (.int p1), .val (.int p2), .val (.int p3), .val (.int p4), .val (.int p5), .val (.int u5), .val (.int u6), .val (.int u7), .val (.int u8), .val (.int ((p4 &&& (2147483647 : Int32)) % (3 : Int32))), .val (.int u10), .val (.int u11), .val (.ref ca), .val (.ref b4), .val (.ref b9), .val (.ref b14), .val (.ref b19), .val (.int (1 : Int32)), .unset] [])) (fun _ k => Jvm.RoadKit.acmp (g := (mkF m 249 #[.val (.int p1), .val (.int p2), .val (.int p3), .val (.int p4), .val (.int p5), .val (.int u5), .val (.int u6), .val (.int u7), .val (.int u8), .val (.int ((p4 &&& (2147483647 : Int32)) % (3 : Int32))), .val (.int u10), .val (.int u11), .val (.ref ca), .val (.ref b4), .val (.ref b9), .val (.ref b14), .val (.ref b19), .val (.int (1 : Int32)), .unset] [(.ref c4), (.ref ca)])) X24 hx rfl rfl rfl (pc0 := 249) (pc' := 256) (same := false) rfl (hb hby at_249) rfl (decide_eq_false fun q => ha249 (Value.ref.inj q)) (by decide) (by decide) k) ?_
              refine Go.of (T' := T24) (f' := (mkF m 257 #[.val (.int p1), .val (.int p2), .val (.int p3), .val (.int p4), .val (.int p5), .val (.int u5), .val (.int u6), .val (.int u7), .val (.int u8), .val (.int ((p4 &&& (2147483647 : Int32)) % (3 : Int32))), .val (.int u10), .val (.int u11), .val (.ref ca), .val (.ref b4), .val (.ref b9), .val (.ref b14), .val (.ref b19), .val (.int (1 : Int32)), .unset] [(.int (0 : Int32))])) (fun _ k => XS.iconst X24.here hx rfl (hb hby at_256) k) ?_
              refine Go.of (T' := T24) (f' := (mkF m 259 #[.val (.int p1), .val (.int p2), .val (.int p3), .val (.int p4), .val (.int p5), .val (.int u5), .val (.int u6), .val (.int u7), .val (.int u8), .val (.int ((p4 &&& (2147483647 : Int32)) % (3 : Int32))), .val (.int u10), .val (.int u11), .val (.ref ca), .val (.ref b4), .val (.ref b9), .val (.ref b14), .val (.ref b19), .val (.int (1 : Int32)), .val (.int (0 : Int32))] [])) (fun _ k => XS.istore X24.here hx rfl (hb hby at_257) rfl (l' := #[.val (.int p1), .val (.int p2), .val (.int p3), .val (.int p4), .val (.int p5), .val (.int u5), .val (.int u6), .val (.int u7), .val (.int u8), .val (.int ((p4 &&& (2147483647 : Int32)) % (3 : Int32))), .val (.int u10), .val (.int u11), .val (.ref ca), .val (.ref b4), .val (.ref b9), .val (.ref b14), .val (.ref b19), .val (.int (1 : Int32)), .val (.int (0 : Int32))]) rfl k) ?_
              refine Go.of (T' := T24) (f' := (mkF m 285 #[.val (.int p1), .val (.int p2), .val (.int p3), .val (.int p4), .val (.int p5), .val (.int u5), .val (.int u6), .val (.int u7), .val (.int u8), .val (.int ((p4 &&& (2147483647 : Int32)) % (3 : Int32))), .val (.int u10), .val (.int u11), .val (.ref ca), .val (.ref b4), .val (.ref b9), .val (.ref b14), .val (.ref b19), .val (.int (1 : Int32)), .val (.int (0 : Int32))] [])) (fun _ k => XS.goto X24.here hx rfl (pc0 := 259) (pc' := 285) rfl (hb hby at_259) (by decide) (by decide) k) ?_
              refine Go.of (T' := T24) (f' := (mkF m 287 #[.val (.int p1), .val (.int p2), .val (.int p3), .val (.int p4), .val (.int p5), .val (.int u5), .val (.int u6), .val (.int u7), .val (.int u8), .val (.int ((p4 &&& (2147483647 : Int32)) % (3 : Int32))), .val (.int u10), .val (.int u11), .val (.ref ca), .val (.ref b4), .val (.ref b9), .val (.ref b14), .val (.ref b19), .val (.int (1 : Int32)), .val (.int (0 : Int32))] [(.ref b19)])) (fun _ k => XS.aload X24.here hx rfl (hb hby at_285) rfl rfl k) ?_
              refine Go.of (T' := T24) (f' := (mkF m 289 #[.val (.int p1), .val (.int p2), .val (.int p3), .val (.int p4), .val (.int p5), .val (.int u5), .val (.int u6), .val (.int u7), .val (.int u8), .val (.int ((p4 &&& (2147483647 : Int32)) % (3 : Int32))), .val (.int u10), .val (.int u11), .val (.ref ca), .val (.ref b4), .val (.ref b9), .val (.ref b14), .val (.ref b19), .val (.int (1 : Int32)), .val (.int (0 : Int32))] [(.ref b14), (.ref b19)])) (fun _ k => XS.aload X24.here hx rfl (hb hby at_287) rfl rfl k) ?_
              refine goV X24 hx hZ (y := (⟨"com/example/denormal/denormal/modelfile/Relationship", "linksMany", "(Ljava/lang/String;)Z"⟩ : MethodName)) (z := (⟨"com/example/denormal/denormal/modelfile/Relationship", "linksMany", "(Ljava/lang/String;)Z"⟩ : MethodName)) hown (hw _ (List.mem_of_getElem? (i := 60) rfl)) (hw _ (List.mem_of_getElem? (i := 61) rfl)) (notFace_of_selects (args := #[]) (mvT hZ (hw _ (List.mem_of_getElem? (i := 63) rfl)))) (hw _ (List.mem_of_getElem? (i := 63) rfl)) (hw _ (List.mem_of_getElem? (i := 62) rfl)) (by decide) (C := 0) (S := 0) ((rm_linksMany l Z a0 hw b19 b14 b9 ca t13 t18 [u10, u11] [u7, u8] of os zc h21 F_second_b19 F_cardinality_b19 S_b14 S_b9 E_ca F_of F_os hof hos Z_cs hz).bk (W := 0) hZ (hw _ (List.mem_of_getElem? (i := 64) rfl)) (hw _ (List.mem_of_getElem? (i := 40) rfl)) (by decide) (by decide)) e24 E_b19 (argsL := [(.ref b14)]) (rest := []) (by rw [hml]; rfl) (lenOf pd__Ljava_lang_String__Z rfl) rfl rfl (hb hby at_289) (Nat.le_of_eq rfl) (by decide) (by decide) ?_
              intro v26 T26 L26 X26 hQ26
              obtain ⟨nq26, e26, rfl⟩ := hQ26
              replace X26 := standNil X26 nq26
              show Go p e below P T26 (mkF m 292 #[.val (.int p1), .val (.int p2), .val (.int p3), .val (.int p4), .val (.int p5), .val (.int u5), .val (.int u6), .val (.int u7), .val (.int u8), .val (.int ((p4 &&& (2147483647 : Int32)) % (3 : Int32))), .val (.int u10), .val (.int u11), .val (.ref ca), .val (.ref b4), .val (.ref b9), .val (.ref b14), .val (.ref b19), .val (.int (1 : Int32)), .val (.int (0 : Int32))] [(.int (bi ((([u10, u11] : List Int32) = [u7, u8] ∧ os = (0 : Int32)) ∨ (¬ ([u10, u11] : List Int32) = [u7, u8] ∧ of = (0 : Int32)))))])
              refine Go.of (T' := T26) (f' := (mkF m 294 #[.val (.int p1), .val (.int p2), .val (.int p3), .val (.int p4), .val (.int p5), .val (.int u5), .val (.int u6), .val (.int u7), .val (.int u8), .val (.int ((p4 &&& (2147483647 : Int32)) % (3 : Int32))), .val (.int u10), .val (.int u11), .val (.ref ca), .val (.ref b4), .val (.ref b9), .val (.ref b14), .val (.ref b19), .val (.int (1 : Int32)), .val (.int (0 : Int32))] [(.int (0 : Int32)), (.int (bi ((([u10, u11] : List Int32) = [u7, u8] ∧ os = (0 : Int32)) ∨ (¬ ([u10, u11] : List Int32) = [u7, u8] ∧ of = (0 : Int32)))))])) (fun _ k => XS.iload X26.here hx rfl (hb hby at_292) rfl k) ?_
              have hc294 : (bi ((([u10, u11] : List Int32) = [u7, u8] ∧ os = (0 : Int32)) ∨ (¬ ([u10, u11] : List Int32) = [u7, u8] ∧ of = (0 : Int32)))) = (0 : Int32) := bi_f (by rintro (⟨h1, h2⟩ | ⟨h1, h2⟩); exact ((os0 hrel n12 n13 n14 n23 n24 n34).1.mp h2).elim ha241 ha249; exact h1 (two_eq.mpr ⟨hc214, hc221⟩))
              refine Go.of (T' := T26) (f' := (mkF m 297 #[.val (.int p1), .val (.int p2), .val (.int p3), .val (.int p4), .val (.int p5), .val (.int u5), .val (.int u6), .val (.int u7), .val (.int u8), .val (.int ((p4 &&& (2147483647 : Int32)) % (3 : Int32))), .val (.int u10), .val (.int u11), .val (.ref ca), .val (.ref b4), .val (.ref b9), .val (.ref b14), .val (.ref b19), .val (.int (1 : Int32)), .val (.int (0 : Int32))] [])) (fun _ k => XS.icmpNo X26.here hx rfl (hb hby at_294) rfl (teq hc294).2 k) ?_
              refine Go.of (T' := T26) (f' := (mkF m 298 #[.val (.int p1), .val (.int p2), .val (.int p3), .val (.int p4), .val (.int p5), .val (.int u5), .val (.int u6), .val (.int u7), .val (.int u8), .val (.int ((p4 &&& (2147483647 : Int32)) % (3 : Int32))), .val (.int u10), .val (.int u11), .val (.ref ca), .val (.ref b4), .val (.ref b9), .val (.ref b14), .val (.ref b19), .val (.int (1 : Int32)), .val (.int (0 : Int32))] [(.int (1 : Int32))])) (fun _ k => XS.iconst X26.here hx rfl (hb hby at_297) k) ?_
              refine Go.of (T' := T26) (f' := (mkF m 302 #[.val (.int p1), .val (.int p2), .val (.int p3), .val (.int p4), .val (.int p5), .val (.int u5), .val (.int u6), .val (.int u7), .val (.int u8), .val (.int ((p4 &&& (2147483647 : Int32)) % (3 : Int32))), .val (.int u10), .val (.int u11), .val (.ref ca), .val (.ref b4), .val (.ref b9), .val (.ref b14), .val (.ref b19), .val (.int (1 : Int32)), .val (.int (0 : Int32))] [(.int (1 : Int32))])) (fun _ k => XS.goto X26.here hx rfl (pc0 := 298) (pc' := 302) rfl (hb hby at_298) (by decide) (by decide) k) ?_
              exact goRetIW (Q := fun v h L => v = some (.int 1) ∧ Mv h0 h [] L) X26 hx hS hk (t := .boolean) hret hlk rfl (by simp) (hb hby at_302) K (by decide) (by decide) e26 (⟨rfl, M21⟩)
        ·
          refine Go.of (T' := T21) (f' := (mkF m 228 #[.val (.int p1), .val (.int p2), .val (.int p3), .val (.int p4), .val (.int p5), .val (.int u5), .val (.int u6), .val (.int u7), .val (.int u8), .val (.int ((p4 &&& (2147483647 : Int32)) % (3 : Int32))), .val (.int u10), .val (.int u11), .val (.ref ca), .val (.ref b4), .val (.ref b9), .val (.ref b14), .val (.ref b19), .unset, .unset] [])) (fun _ k => XS.icmpYes X21.here hx rfl (pc0 := 221) (pc' := 228) rfl (hb hby at_221) rfl (feq hc221).2 (by decide) (by decide) k) ?_
          refine Go.of (T' := T21) (f' := (mkF m 229 #[.val (.int p1), .val (.int p2), .val (.int p3), .val (.int p4), .val (.int p5), .val (.int u5), .val (.int u6), .val (.int u7), .val (.int u8), .val (.int ((p4 &&& (2147483647 : Int32)) % (3 : Int32))), .val (.int u10), .val (.int u11), .val (.ref ca), .val (.ref b4), .val (.ref b9), .val (.ref b14), .val (.ref b19), .unset, .unset] [(.int (0 : Int32))])) (fun _ k => XS.iconst X21.here hx rfl (hb hby at_228) k) ?_
          refine Go.of (T' := T21) (f' := (mkF m 231 #[.val (.int p1), .val (.int p2), .val (.int p3), .val (.int p4), .val (.int p5), .val (.int u5), .val (.int u6), .val (.int u7), .val (.int u8), .val (.int ((p4 &&& (2147483647 : Int32)) % (3 : Int32))), .val (.int u10), .val (.int u11), .val (.ref ca), .val (.ref b4), .val (.ref b9), .val (.ref b14), .val (.ref b19), .val (.int (0 : Int32)), .unset] [])) (fun _ k => XS.istore X21.here hx rfl (hb hby at_229) rfl (l' := #[.val (.int p1), .val (.int p2), .val (.int p3), .val (.int p4), .val (.int p5), .val (.int u5), .val (.int u6), .val (.int u7), .val (.int u8), .val (.int ((p4 &&& (2147483647 : Int32)) % (3 : Int32))), .val (.int u10), .val (.int u11), .val (.ref ca), .val (.ref b4), .val (.ref b9), .val (.ref b14), .val (.ref b19), .val (.int (0 : Int32)), .unset]) rfl k) ?_
          refine Go.of (T' := T21) (f' := (mkF m 233 #[.val (.int p1), .val (.int p2), .val (.int p3), .val (.int p4), .val (.int p5), .val (.int u5), .val (.int u6), .val (.int u7), .val (.int u8), .val (.int ((p4 &&& (2147483647 : Int32)) % (3 : Int32))), .val (.int u10), .val (.int u11), .val (.ref ca), .val (.ref b4), .val (.ref b9), .val (.ref b14), .val (.ref b19), .val (.int (0 : Int32)), .unset] [(.int (0 : Int32))])) (fun _ k => XS.iload X21.here hx rfl (hb hby at_231) rfl k) ?_
          refine Go.of (T' := T21) (f' := (mkF m 262 #[.val (.int p1), .val (.int p2), .val (.int p3), .val (.int p4), .val (.int p5), .val (.int u5), .val (.int u6), .val (.int u7), .val (.int u8), .val (.int ((p4 &&& (2147483647 : Int32)) % (3 : Int32))), .val (.int u10), .val (.int u11), .val (.ref ca), .val (.ref b4), .val (.ref b9), .val (.ref b14), .val (.ref b19), .val (.int (0 : Int32)), .unset] [])) (fun _ k => XS.ifYes X21.here hx rfl (pc0 := 233) (pc' := 262) rfl (hb hby at_233) rfl (by decide) (by decide) (by decide) k) ?_
          refine Go.of (T' := T21) (f' := (mkF m 264 #[.val (.int p1), .val (.int p2), .val (.int p3), .val (.int p4), .val (.int p5), .val (.int u5), .val (.int u6), .val (.int u7), .val (.int u8), .val (.int ((p4 &&& (2147483647 : Int32)) % (3 : Int32))), .val (.int u10), .val (.int u11), .val (.ref ca), .val (.ref b4), .val (.ref b9), .val (.ref b14), .val (.ref b19), .val (.int (0 : Int32)), .unset] [(.ref ca)])) (fun _ k => XS.aload X21.here hx rfl (hb hby at_262) rfl rfl k) ?_
          obtain ⟨T27, X27, e27, st27⟩ := getS2 X21 hx hZ hown (host := "") (Or.inl (hw _ (List.mem_of_getElem? (i := 56) rfl))) Via.refl e21 Z_c3 (g := (mkF m 264 #[.val (.int p1), .val (.int p2), .val (.int p3), .val (.int p4), .val (.int p5), .val (.int u5), .val (.int u6), .val (.int u7), .val (.int u8), .val (.int ((p4 &&& (2147483647 : Int32)) % (3 : Int32))), .val (.int u10), .val (.int u11), .val (.ref ca), .val (.ref b4), .val (.ref b9), .val (.ref b14), .val (.ref b19), .val (.int (0 : Int32)), .unset] [(.ref ca)])) rfl (hb hby at_264)
          refine Go.of (T' := T27) (f' := (mkF m 267 #[.val (.int p1), .val (.int p2), .val (.int p3), .val (.int p4), .val (.int p5), .val (.int u5), .val (.int u6), .val (.int u7), .val (.int u8), .val (.int ((p4 &&& (2147483647 : Int32)) % (3 : Int32))), .val (.int u10), .val (.int u11), .val (.ref ca), .val (.ref b4), .val (.ref b9), .val (.ref b14), .val (.ref b19), .val (.int (0 : Int32)), .unset] [(.ref c3), (.ref ca)])) st27 ?_
          by_cases ha267 : ca = c3
          ·
            refine Go.of (T' := T27) (f' := (mkF m 278 #[.val (.int p1), .val (.int p2), .val (.int p3), .val (.int p4), .val (.int p5), .val (.int u5), .val (.int u6), .val (.int u7), .val (.int u8), .val (.int ((p4 &&& (2147483647 : Int32)) % (3 : Int32))), .val (.int u10), .val (.int u11), .val (.ref ca), .val (.ref b4), .val (.ref b9), .val (.ref b14), .val (.ref b19), .val (.int (0 : Int32)), .unset] [])) (fun _ k => Jvm.RoadKit.acmp (g := (mkF m 267 #[.val (.int p1), .val (.int p2), .val (.int p3), .val (.int p4), .val (.int p5), .val (.int u5), .val (.int u6), .val (.int u7), .val (.int u8), .val (.int ((p4 &&& (2147483647 : Int32)) % (3 : Int32))), .val (.int u10), .val (.int u11), .val (.ref ca), .val (.ref b4), .val (.ref b9), .val (.ref b14), .val (.ref b19), .val (.int (0 : Int32)), .unset] [(.ref c3), (.ref ca)])) X27 hx rfl rfl rfl (pc0 := 267) (pc' := 278) (same := true) rfl (hb hby at_267) rfl (decide_eq_true (congrArg Value.ref ha267)) (by decide) (by decide) k) ?_
            refine Go.of (T' := T27) (f' := (mkF m 279 #[.val (.int p1), .val (.int p2), .val (.int p3), .val (.int p4), .val (.int p5), .val (.int u5), .val (.int u6), .val (.int u7), .val (.int u8), .val (.int ((p4 &&& (2147483647 : Int32)) % (3 : Int32))), .val (.int u10), .val (.int u11), .val (.ref ca), .val (.ref b4), .val (.ref b9), .val (.ref b14), .val (.ref b19), .val (.int (0 : Int32)), .unset] [(.int (1 : Int32))])) (fun _ k => XS.iconst X27.here hx rfl (hb hby at_278) k) ?_
            refine Go.of (T' := T27) (f' := (mkF m 283 #[.val (.int p1), .val (.int p2), .val (.int p3), .val (.int p4), .val (.int p5), .val (.int u5), .val (.int u6), .val (.int u7), .val (.int u8), .val (.int ((p4 &&& (2147483647 : Int32)) % (3 : Int32))), .val (.int u10), .val (.int u11), .val (.ref ca), .val (.ref b4), .val (.ref b9), .val (.ref b14), .val (.ref b19), .val (.int (0 : Int32)), .unset] [(.int (1 : Int32))])) (fun _ k => XS.goto X27.here hx rfl (pc0 := 279) (pc' := 283) rfl (hb hby at_279) (by decide) (by decide) k) ?_
            refine Go.of (T' := T27) (f' := (mkF m 285 #[.val (.int p1), .val (.int p2), .val (.int p3), .val (.int p4), .val (.int p5), .val (.int u5), .val (.int u6), .val (.int u7), .val (.int u8), .val (.int ((p4 &&& (2147483647 : Int32)) % (3 : Int32))), .val (.int u10), .val (.int u11), .val (.ref ca), .val (.ref b4), .val (.ref b9), .val (.ref b14), .val (.ref b19), .val (.int (0 : Int32)), .val (.int (1 : Int32))] [])) (fun _ k => XS.istore X27.here hx rfl (hb hby at_283) rfl (l' := #[.val (.int p1), .val (.int p2), .val (.int p3), .val (.int p4), .val (.int p5), .val (.int u5), .val (.int u6), .val (.int u7), .val (.int u8), .val (.int ((p4 &&& (2147483647 : Int32)) % (3 : Int32))), .val (.int u10), .val (.int u11), .val (.ref ca), .val (.ref b4), .val (.ref b9), .val (.ref b14), .val (.ref b19), .val (.int (0 : Int32)), .val (.int (1 : Int32))]) rfl k) ?_
            refine Go.of (T' := T27) (f' := (mkF m 287 #[.val (.int p1), .val (.int p2), .val (.int p3), .val (.int p4), .val (.int p5), .val (.int u5), .val (.int u6), .val (.int u7), .val (.int u8), .val (.int ((p4 &&& (2147483647 : Int32)) % (3 : Int32))), .val (.int u10), .val (.int u11), .val (.ref ca), .val (.ref b4), .val (.ref b9), .val (.ref b14), .val (.ref b19), .val (.int (0 : Int32)), .val (.int (1 : Int32))] [(.ref b19)])) (fun _ k => XS.aload X27.here hx rfl (hb hby at_285) rfl rfl k) ?_
            refine Go.of (T' := T27) (f' := (mkF m 289 #[.val (.int p1), .val (.int p2), .val (.int p3), .val (.int p4), .val (.int p5), .val (.int u5), .val (.int u6), .val (.int u7), .val (.int u8), .val (.int ((p4 &&& (2147483647 : Int32)) % (3 : Int32))), .val (.int u10), .val (.int u11), .val (.ref ca), .val (.ref b4), .val (.ref b9), .val (.ref b14), .val (.ref b19), .val (.int (0 : Int32)), .val (.int (1 : Int32))] [(.ref b14), (.ref b19)])) (fun _ k => XS.aload X27.here hx rfl (hb hby at_287) rfl rfl k) ?_
            refine goV X27 hx hZ (y := (⟨"com/example/denormal/denormal/modelfile/Relationship", "linksMany", "(Ljava/lang/String;)Z"⟩ : MethodName)) (z := (⟨"com/example/denormal/denormal/modelfile/Relationship", "linksMany", "(Ljava/lang/String;)Z"⟩ : MethodName)) hown (hw _ (List.mem_of_getElem? (i := 60) rfl)) (hw _ (List.mem_of_getElem? (i := 61) rfl)) (notFace_of_selects (args := #[]) (mvT hZ (hw _ (List.mem_of_getElem? (i := 63) rfl)))) (hw _ (List.mem_of_getElem? (i := 63) rfl)) (hw _ (List.mem_of_getElem? (i := 62) rfl)) (by decide) (C := 0) (S := 0) ((rm_linksMany l Z a0 hw b19 b14 b9 ca t13 t18 [u10, u11] [u7, u8] of os zc h21 F_second_b19 F_cardinality_b19 S_b14 S_b9 E_ca F_of F_os hof hos Z_cs hz).bk (W := 0) hZ (hw _ (List.mem_of_getElem? (i := 64) rfl)) (hw _ (List.mem_of_getElem? (i := 40) rfl)) (by decide) (by decide)) e27 E_b19 (argsL := [(.ref b14)]) (rest := []) (by rw [hml]; rfl) (lenOf pd__Ljava_lang_String__Z rfl) rfl rfl (hb hby at_289) (Nat.le_of_eq rfl) (by decide) (by decide) ?_
            intro v28 T28 L28 X28 hQ28
            obtain ⟨nq28, e28, rfl⟩ := hQ28
            replace X28 := standNil X28 nq28
            show Go p e below P T28 (mkF m 292 #[.val (.int p1), .val (.int p2), .val (.int p3), .val (.int p4), .val (.int p5), .val (.int u5), .val (.int u6), .val (.int u7), .val (.int u8), .val (.int ((p4 &&& (2147483647 : Int32)) % (3 : Int32))), .val (.int u10), .val (.int u11), .val (.ref ca), .val (.ref b4), .val (.ref b9), .val (.ref b14), .val (.ref b19), .val (.int (0 : Int32)), .val (.int (1 : Int32))] [(.int (bi ((([u10, u11] : List Int32) = [u7, u8] ∧ os = (0 : Int32)) ∨ (¬ ([u10, u11] : List Int32) = [u7, u8] ∧ of = (0 : Int32)))))])
            refine Go.of (T' := T28) (f' := (mkF m 294 #[.val (.int p1), .val (.int p2), .val (.int p3), .val (.int p4), .val (.int p5), .val (.int u5), .val (.int u6), .val (.int u7), .val (.int u8), .val (.int ((p4 &&& (2147483647 : Int32)) % (3 : Int32))), .val (.int u10), .val (.int u11), .val (.ref ca), .val (.ref b4), .val (.ref b9), .val (.ref b14), .val (.ref b19), .val (.int (0 : Int32)), .val (.int (1 : Int32))] [(.int (1 : Int32)), (.int (bi ((([u10, u11] : List Int32) = [u7, u8] ∧ os = (0 : Int32)) ∨ (¬ ([u10, u11] : List Int32) = [u7, u8] ∧ of = (0 : Int32)))))])) (fun _ k => XS.iload X28.here hx rfl (hb hby at_292) rfl k) ?_
            have hc294 : (bi ((([u10, u11] : List Int32) = [u7, u8] ∧ os = (0 : Int32)) ∨ (¬ ([u10, u11] : List Int32) = [u7, u8] ∧ of = (0 : Int32)))) = (1 : Int32) := bi_t (Or.inr ⟨(fun q => by have q := two_eq.mp q; first | exact hc214 q.1 | exact hc221 q.2), (os0 hrel n12 n13 n14 n23 n24 n34).2.mpr (by first | exact Or.inl ha267 | exact Or.inr ha275)⟩)
            refine Go.of (T' := T28) (f' := (mkF m 297 #[.val (.int p1), .val (.int p2), .val (.int p3), .val (.int p4), .val (.int p5), .val (.int u5), .val (.int u6), .val (.int u7), .val (.int u8), .val (.int ((p4 &&& (2147483647 : Int32)) % (3 : Int32))), .val (.int u10), .val (.int u11), .val (.ref ca), .val (.ref b4), .val (.ref b9), .val (.ref b14), .val (.ref b19), .val (.int (0 : Int32)), .val (.int (1 : Int32))] [])) (fun _ k => XS.icmpNo X28.here hx rfl (hb hby at_294) rfl (teq hc294).2 k) ?_
            refine Go.of (T' := T28) (f' := (mkF m 298 #[.val (.int p1), .val (.int p2), .val (.int p3), .val (.int p4), .val (.int p5), .val (.int u5), .val (.int u6), .val (.int u7), .val (.int u8), .val (.int ((p4 &&& (2147483647 : Int32)) % (3 : Int32))), .val (.int u10), .val (.int u11), .val (.ref ca), .val (.ref b4), .val (.ref b9), .val (.ref b14), .val (.ref b19), .val (.int (0 : Int32)), .val (.int (1 : Int32))] [(.int (1 : Int32))])) (fun _ k => XS.iconst X28.here hx rfl (hb hby at_297) k) ?_
            refine Go.of (T' := T28) (f' := (mkF m 302 #[.val (.int p1), .val (.int p2), .val (.int p3), .val (.int p4), .val (.int p5), .val (.int u5), .val (.int u6), .val (.int u7), .val (.int u8), .val (.int ((p4 &&& (2147483647 : Int32)) % (3 : Int32))), .val (.int u10), .val (.int u11), .val (.ref ca), .val (.ref b4), .val (.ref b9), .val (.ref b14), .val (.ref b19), .val (.int (0 : Int32)), .val (.int (1 : Int32))] [(.int (1 : Int32))])) (fun _ k => XS.goto X28.here hx rfl (pc0 := 298) (pc' := 302) rfl (hb hby at_298) (by decide) (by decide) k) ?_
            exact goRetIW (Q := fun v h L => v = some (.int 1) ∧ Mv h0 h [] L) X28 hx hS hk (t := .boolean) hret hlk rfl (by simp) (hb hby at_302) K (by decide) (by decide) e28 (⟨rfl, M21⟩)
          ·
            refine Go.of (T' := T27) (f' := (mkF m 270 #[.val (.int p1), .val (.int p2), .val (.int p3), .val (.int p4), .val (.int p5), .val (.int u5), .val (.int u6), .val (.int u7), .val (.int u8), .val (.int ((p4 &&& (2147483647 : Int32)) % (3 : Int32))), .val (.int u10), .val (.int u11), .val (.ref ca), .val (.ref b4), .val (.ref b9), .val (.ref b14), .val (.ref b19), .val (.int (0 : Int32)), .unset] [])) (fun _ k => Jvm.RoadKit.acmp (g := (mkF m 267 #[.val (.int p1), .val (.int p2), .val (.int p3), .val (.int p4), .val (.int p5), .val (.int u5), .val (.int u6), .val (.int u7), .val (.int u8), .val (.int ((p4 &&& (2147483647 : Int32)) % (3 : Int32))), .val (.int u10), .val (.int u11), .val (.ref ca), .val (.ref b4), .val (.ref b9), .val (.ref b14), .val (.ref b19), .val (.int (0 : Int32)), .unset] [(.ref c3), (.ref ca)])) X27 hx rfl rfl rfl (pc0 := 267) (pc' := 270) (same := false) rfl (hb hby at_267) rfl (decide_eq_false fun q => ha267 (Value.ref.inj q)) (by decide) (by decide) k) ?_
            refine Go.of (T' := T27) (f' := (mkF m 272 #[.val (.int p1), .val (.int p2), .val (.int p3), .val (.int p4), .val (.int p5), .val (.int u5), .val (.int u6), .val (.int u7), .val (.int u8), .val (.int ((p4 &&& (2147483647 : Int32)) % (3 : Int32))), .val (.int u10), .val (.int u11), .val (.ref ca), .val (.ref b4), .val (.ref b9), .val (.ref b14), .val (.ref b19), .val (.int (0 : Int32)), .unset] [(.ref ca)])) (fun _ k => XS.aload X27.here hx rfl (hb hby at_270) rfl rfl k) ?_
            obtain ⟨T29, X29, e29, st29⟩ := getS2 X27 hx hZ hown (host := "") (Or.inl (hw _ (List.mem_of_getElem? (i := 58) rfl))) Via.refl e27 Z_c4 (g := (mkF m 272 #[.val (.int p1), .val (.int p2), .val (.int p3), .val (.int p4), .val (.int p5), .val (.int u5), .val (.int u6), .val (.int u7), .val (.int u8), .val (.int ((p4 &&& (2147483647 : Int32)) % (3 : Int32))), .val (.int u10), .val (.int u11), .val (.ref ca), .val (.ref b4), .val (.ref b9), .val (.ref b14), .val (.ref b19), .val (.int (0 : Int32)), .unset] [(.ref ca)])) rfl (hb hby at_272)
            refine Go.of (T' := T29) (f' := (mkF m 275 #[.val (.int p1), .val (.int p2), .val (.int p3), .val (.int p4), .val (.int p5), .val (.int u5), .val (.int u6), .val (.int u7), .val (.int u8), .val (.int ((p4 &&& (2147483647 : Int32)) % (3 : Int32))), .val (.int u10), .val (.int u11), .val (.ref ca), .val (.ref b4), .val (.ref b9), .val (.ref b14), .val (.ref b19), .val (.int (0 : Int32)), .unset] [(.ref c4), (.ref ca)])) st29 ?_
            by_cases ha275 : ca = c4
            ·
              refine Go.of (T' := T29) (f' := (mkF m 278 #[.val (.int p1), .val (.int p2), .val (.int p3), .val (.int p4), .val (.int p5), .val (.int u5), .val (.int u6), .val (.int u7), .val (.int u8), .val (.int ((p4 &&& (2147483647 : Int32)) % (3 : Int32))), .val (.int u10), .val (.int u11), .val (.ref ca), .val (.ref b4), .val (.ref b9), .val (.ref b14), .val (.ref b19), .val (.int (0 : Int32)), .unset] [])) (fun _ k => Jvm.RoadKit.acmp (g := (mkF m 275 #[.val (.int p1), .val (.int p2), .val (.int p3), .val (.int p4), .val (.int p5), .val (.int u5), .val (.int u6), .val (.int u7), .val (.int u8), .val (.int ((p4 &&& (2147483647 : Int32)) % (3 : Int32))), .val (.int u10), .val (.int u11), .val (.ref ca), .val (.ref b4), .val (.ref b9), .val (.ref b14), .val (.ref b19), .val (.int (0 : Int32)), .unset] [(.ref c4), (.ref ca)])) X29 hx rfl rfl rfl (pc0 := 275) (pc' := 278) (same := true) rfl (hb hby at_275) rfl (decide_eq_true (congrArg Value.ref ha275)) (by decide) (by decide) k) ?_
              refine Go.of (T' := T29) (f' := (mkF m 279 #[.val (.int p1), .val (.int p2), .val (.int p3), .val (.int p4), .val (.int p5), .val (.int u5), .val (.int u6), .val (.int u7), .val (.int u8), .val (.int ((p4 &&& (2147483647 : Int32)) % (3 : Int32))), .val (.int u10), .val (.int u11), .val (.ref ca), .val (.ref b4), .val (.ref b9), .val (.ref b14), .val (.ref b19), .val (.int (0 : Int32)), .unset] [(.int (1 : Int32))])) (fun _ k => XS.iconst X29.here hx rfl (hb hby at_278) k) ?_
              refine Go.of (T' := T29) (f' := (mkF m 283 #[.val (.int p1), .val (.int p2), .val (.int p3), .val (.int p4), .val (.int p5), .val (.int u5), .val (.int u6), .val (.int u7), .val (.int u8), .val (.int ((p4 &&& (2147483647 : Int32)) % (3 : Int32))), .val (.int u10), .val (.int u11), .val (.ref ca), .val (.ref b4), .val (.ref b9), .val (.ref b14), .val (.ref b19), .val (.int (0 : Int32)), .unset] [(.int (1 : Int32))])) (fun _ k => XS.goto X29.here hx rfl (pc0 := 279) (pc' := 283) rfl (hb hby at_279) (by decide) (by decide) k) ?_
              refine Go.of (T' := T29) (f' := (mkF m 285 #[.val (.int p1), .val (.int p2), .val (.int p3), .val (.int p4), .val (.int p5), .val (.int u5), .val (.int u6), .val (.int u7), .val (.int u8), .val (.int ((p4 &&& (2147483647 : Int32)) % (3 : Int32))), .val (.int u10), .val (.int u11), .val (.ref ca), .val (.ref b4), .val (.ref b9), .val (.ref b14), .val (.ref b19), .val (.int (0 : Int32)), .val (.int (1 : Int32))] [])) (fun _ k => XS.istore X29.here hx rfl (hb hby at_283) rfl (l' := #[.val (.int p1), .val (.int p2), .val (.int p3), .val (.int p4), .val (.int p5), .val (.int u5), .val (.int u6), .val (.int u7), .val (.int u8), .val (.int ((p4 &&& (2147483647 : Int32)) % (3 : Int32))), .val (.int u10), .val (.int u11), .val (.ref ca), .val (.ref b4), .val (.ref b9), .val (.ref b14), .val (.ref b19), .val (.int (0 : Int32)), .val (.int (1 : Int32))]) rfl k) ?_
              refine Go.of (T' := T29) (f' := (mkF m 287 #[.val (.int p1), .val (.int p2), .val (.int p3), .val (.int p4), .val (.int p5), .val (.int u5), .val (.int u6), .val (.int u7), .val (.int u8), .val (.int ((p4 &&& (2147483647 : Int32)) % (3 : Int32))), .val (.int u10), .val (.int u11), .val (.ref ca), .val (.ref b4), .val (.ref b9), .val (.ref b14), .val (.ref b19), .val (.int (0 : Int32)), .val (.int (1 : Int32))] [(.ref b19)])) (fun _ k => XS.aload X29.here hx rfl (hb hby at_285) rfl rfl k) ?_
              refine Go.of (T' := T29) (f' := (mkF m 289 #[.val (.int p1), .val (.int p2), .val (.int p3), .val (.int p4), .val (.int p5), .val (.int u5), .val (.int u6), .val (.int u7), .val (.int u8), .val (.int ((p4 &&& (2147483647 : Int32)) % (3 : Int32))), .val (.int u10), .val (.int u11), .val (.ref ca), .val (.ref b4), .val (.ref b9), .val (.ref b14), .val (.ref b19), .val (.int (0 : Int32)), .val (.int (1 : Int32))] [(.ref b14), (.ref b19)])) (fun _ k => XS.aload X29.here hx rfl (hb hby at_287) rfl rfl k) ?_
              refine goV X29 hx hZ (y := (⟨"com/example/denormal/denormal/modelfile/Relationship", "linksMany", "(Ljava/lang/String;)Z"⟩ : MethodName)) (z := (⟨"com/example/denormal/denormal/modelfile/Relationship", "linksMany", "(Ljava/lang/String;)Z"⟩ : MethodName)) hown (hw _ (List.mem_of_getElem? (i := 60) rfl)) (hw _ (List.mem_of_getElem? (i := 61) rfl)) (notFace_of_selects (args := #[]) (mvT hZ (hw _ (List.mem_of_getElem? (i := 63) rfl)))) (hw _ (List.mem_of_getElem? (i := 63) rfl)) (hw _ (List.mem_of_getElem? (i := 62) rfl)) (by decide) (C := 0) (S := 0) ((rm_linksMany l Z a0 hw b19 b14 b9 ca t13 t18 [u10, u11] [u7, u8] of os zc h21 F_second_b19 F_cardinality_b19 S_b14 S_b9 E_ca F_of F_os hof hos Z_cs hz).bk (W := 0) hZ (hw _ (List.mem_of_getElem? (i := 64) rfl)) (hw _ (List.mem_of_getElem? (i := 40) rfl)) (by decide) (by decide)) e29 E_b19 (argsL := [(.ref b14)]) (rest := []) (by rw [hml]; rfl) (lenOf pd__Ljava_lang_String__Z rfl) rfl rfl (hb hby at_289) (Nat.le_of_eq rfl) (by decide) (by decide) ?_
              intro v30 T30 L30 X30 hQ30
              obtain ⟨nq30, e30, rfl⟩ := hQ30
              replace X30 := standNil X30 nq30
              show Go p e below P T30 (mkF m 292 #[.val (.int p1), .val (.int p2), .val (.int p3), .val (.int p4), .val (.int p5), .val (.int u5), .val (.int u6), .val (.int u7), .val (.int u8), .val (.int ((p4 &&& (2147483647 : Int32)) % (3 : Int32))), .val (.int u10), .val (.int u11), .val (.ref ca), .val (.ref b4), .val (.ref b9), .val (.ref b14), .val (.ref b19), .val (.int (0 : Int32)), .val (.int (1 : Int32))] [(.int (bi ((([u10, u11] : List Int32) = [u7, u8] ∧ os = (0 : Int32)) ∨ (¬ ([u10, u11] : List Int32) = [u7, u8] ∧ of = (0 : Int32)))))])
              refine Go.of (T' := T30) (f' := (mkF m 294 #[.val (.int p1), .val (.int p2), .val (.int p3), .val (.int p4), .val (.int p5), .val (.int u5), .val (.int u6), .val (.int u7), .val (.int u8), .val (.int ((p4 &&& (2147483647 : Int32)) % (3 : Int32))), .val (.int u10), .val (.int u11), .val (.ref ca), .val (.ref b4), .val (.ref b9), .val (.ref b14), .val (.ref b19), .val (.int (0 : Int32)), .val (.int (1 : Int32))] [(.int (1 : Int32)), (.int (bi ((([u10, u11] : List Int32) = [u7, u8] ∧ os = (0 : Int32)) ∨ (¬ ([u10, u11] : List Int32) = [u7, u8] ∧ of = (0 : Int32)))))])) (fun _ k => XS.iload X30.here hx rfl (hb hby at_292) rfl k) ?_
              have hc294 : (bi ((([u10, u11] : List Int32) = [u7, u8] ∧ os = (0 : Int32)) ∨ (¬ ([u10, u11] : List Int32) = [u7, u8] ∧ of = (0 : Int32)))) = (1 : Int32) := bi_t (Or.inr ⟨(fun q => by have q := two_eq.mp q; first | exact hc214 q.1 | exact hc221 q.2), (os0 hrel n12 n13 n14 n23 n24 n34).2.mpr (by first | exact Or.inl ha267 | exact Or.inr ha275)⟩)
              refine Go.of (T' := T30) (f' := (mkF m 297 #[.val (.int p1), .val (.int p2), .val (.int p3), .val (.int p4), .val (.int p5), .val (.int u5), .val (.int u6), .val (.int u7), .val (.int u8), .val (.int ((p4 &&& (2147483647 : Int32)) % (3 : Int32))), .val (.int u10), .val (.int u11), .val (.ref ca), .val (.ref b4), .val (.ref b9), .val (.ref b14), .val (.ref b19), .val (.int (0 : Int32)), .val (.int (1 : Int32))] [])) (fun _ k => XS.icmpNo X30.here hx rfl (hb hby at_294) rfl (teq hc294).2 k) ?_
              refine Go.of (T' := T30) (f' := (mkF m 298 #[.val (.int p1), .val (.int p2), .val (.int p3), .val (.int p4), .val (.int p5), .val (.int u5), .val (.int u6), .val (.int u7), .val (.int u8), .val (.int ((p4 &&& (2147483647 : Int32)) % (3 : Int32))), .val (.int u10), .val (.int u11), .val (.ref ca), .val (.ref b4), .val (.ref b9), .val (.ref b14), .val (.ref b19), .val (.int (0 : Int32)), .val (.int (1 : Int32))] [(.int (1 : Int32))])) (fun _ k => XS.iconst X30.here hx rfl (hb hby at_297) k) ?_
              refine Go.of (T' := T30) (f' := (mkF m 302 #[.val (.int p1), .val (.int p2), .val (.int p3), .val (.int p4), .val (.int p5), .val (.int u5), .val (.int u6), .val (.int u7), .val (.int u8), .val (.int ((p4 &&& (2147483647 : Int32)) % (3 : Int32))), .val (.int u10), .val (.int u11), .val (.ref ca), .val (.ref b4), .val (.ref b9), .val (.ref b14), .val (.ref b19), .val (.int (0 : Int32)), .val (.int (1 : Int32))] [(.int (1 : Int32))])) (fun _ k => XS.goto X30.here hx rfl (pc0 := 298) (pc' := 302) rfl (hb hby at_298) (by decide) (by decide) k) ?_
              exact goRetIW (Q := fun v h L => v = some (.int 1) ∧ Mv h0 h [] L) X30 hx hS hk (t := .boolean) hret hlk rfl (by simp) (hb hby at_302) K (by decide) (by decide) e30 (⟨rfl, M21⟩)
            ·
              refine Go.of (T' := T29) (f' := (mkF m 282 #[.val (.int p1), .val (.int p2), .val (.int p3), .val (.int p4), .val (.int p5), .val (.int u5), .val (.int u6), .val (.int u7), .val (.int u8), .val (.int ((p4 &&& (2147483647 : Int32)) % (3 : Int32))), .val (.int u10), .val (.int u11), .val (.ref ca), .val (.ref b4), .val (.ref b9), .val (.ref b14), .val (.ref b19), .val (.int (0 : Int32)), .unset] [])) (fun _ k => Jvm.RoadKit.acmp (g := (mkF m 275 #[.val (.int p1), .val (.int p2), .val (.int p3), .val (.int p4), .val (.int p5), .val (.int u5), .val (.int u6), .val (.int u7), .val (.int u8), .val (.int ((p4 &&& (2147483647 : Int32)) % (3 : Int32))), .val (.int u10), .val (.int u11), .val (.ref ca), .val (.ref b4), .val (.ref b9), .val (.ref b14), .val (.ref b19), .val (.int (0 : Int32)), .unset] [(.ref c4), (.ref ca)])) X29 hx rfl rfl rfl (pc0 := 275) (pc' := 282) (same := false) rfl (hb hby at_275) rfl (decide_eq_false fun q => ha275 (Value.ref.inj q)) (by decide) (by decide) k) ?_
              refine Go.of (T' := T29) (f' := (mkF m 283 #[.val (.int p1), .val (.int p2), .val (.int p3), .val (.int p4), .val (.int p5), .val (.int u5), .val (.int u6), .val (.int u7), .val (.int u8), .val (.int ((p4 &&& (2147483647 : Int32)) % (3 : Int32))), .val (.int u10), .val (.int u11), .val (.ref ca), .val (.ref b4), .val (.ref b9), .val (.ref b14), .val (.ref b19), .val (.int (0 : Int32)), .unset] [(.int (0 : Int32))])) (fun _ k => XS.iconst X29.here hx rfl (hb hby at_282) k) ?_
              refine Go.of (T' := T29) (f' := (mkF m 285 #[.val (.int p1), .val (.int p2), .val (.int p3), .val (.int p4), .val (.int p5), .val (.int u5), .val (.int u6), .val (.int u7), .val (.int u8), .val (.int ((p4 &&& (2147483647 : Int32)) % (3 : Int32))), .val (.int u10), .val (.int u11), .val (.ref ca), .val (.ref b4), .val (.ref b9), .val (.ref b14), .val (.ref b19), .val (.int (0 : Int32)), .val (.int (0 : Int32))] [])) (fun _ k => XS.istore X29.here hx rfl (hb hby at_283) rfl (l' := #[.val (.int p1), .val (.int p2), .val (.int p3), .val (.int p4), .val (.int p5), .val (.int u5), .val (.int u6), .val (.int u7), .val (.int u8), .val (.int ((p4 &&& (2147483647 : Int32)) % (3 : Int32))), .val (.int u10), .val (.int u11), .val (.ref ca), .val (.ref b4), .val (.ref b9), .val (.ref b14), .val (.ref b19), .val (.int (0 : Int32)), .val (.int (0 : Int32))]) rfl k) ?_
              refine Go.of (T' := T29) (f' := (mkF m 287 #[.val (.int p1), .val (.int p2), .val (.int p3), .val (.int p4), .val (.int p5), .val (.int u5), .val (.int u6), .val (.int u7), .val (.int u8), .val (.int ((p4 &&& (2147483647 : Int32)) % (3 : Int32))), .val (.int u10), .val (.int u11), .val (.ref ca), .val (.ref b4), .val (.ref b9), .val (.ref b14), .val (.ref b19), .val (.int (0 : Int32)), .val (.int (0 : Int32))] [(.ref b19)])) (fun _ k => XS.aload X29.here hx rfl (hb hby at_285) rfl rfl k) ?_
              refine Go.of (T' := T29) (f' := (mkF m 289 #[.val (.int p1), .val (.int p2), .val (.int p3), .val (.int p4), .val (.int p5), .val (.int u5), .val (.int u6), .val (.int u7), .val (.int u8), .val (.int ((p4 &&& (2147483647 : Int32)) % (3 : Int32))), .val (.int u10), .val (.int u11), .val (.ref ca), .val (.ref b4), .val (.ref b9), .val (.ref b14), .val (.ref b19), .val (.int (0 : Int32)), .val (.int (0 : Int32))] [(.ref b14), (.ref b19)])) (fun _ k => XS.aload X29.here hx rfl (hb hby at_287) rfl rfl k) ?_
              refine goV X29 hx hZ (y := (⟨"com/example/denormal/denormal/modelfile/Relationship", "linksMany", "(Ljava/lang/String;)Z"⟩ : MethodName)) (z := (⟨"com/example/denormal/denormal/modelfile/Relationship", "linksMany", "(Ljava/lang/String;)Z"⟩ : MethodName)) hown (hw _ (List.mem_of_getElem? (i := 60) rfl)) (hw _ (List.mem_of_getElem? (i := 61) rfl)) (notFace_of_selects (args := #[]) (mvT hZ (hw _ (List.mem_of_getElem? (i := 63) rfl)))) (hw _ (List.mem_of_getElem? (i := 63) rfl)) (hw _ (List.mem_of_getElem? (i := 62) rfl)) (by decide) (C := 0) (S := 0) ((rm_linksMany l Z a0 hw b19 b14 b9 ca t13 t18 [u10, u11] [u7, u8] of os zc h21 F_second_b19 F_cardinality_b19 S_b14 S_b9 E_ca F_of F_os hof hos Z_cs hz).bk (W := 0) hZ (hw _ (List.mem_of_getElem? (i := 64) rfl)) (hw _ (List.mem_of_getElem? (i := 40) rfl)) (by decide) (by decide)) e29 E_b19 (argsL := [(.ref b14)]) (rest := []) (by rw [hml]; rfl) (lenOf pd__Ljava_lang_String__Z rfl) rfl rfl (hb hby at_289) (Nat.le_of_eq rfl) (by decide) (by decide) ?_
              intro v31 T31 L31 X31 hQ31
              obtain ⟨nq31, e31, rfl⟩ := hQ31
              replace X31 := standNil X31 nq31
              show Go p e below P T31 (mkF m 292 #[.val (.int p1), .val (.int p2), .val (.int p3), .val (.int p4), .val (.int p5), .val (.int u5), .val (.int u6), .val (.int u7), .val (.int u8), .val (.int ((p4 &&& (2147483647 : Int32)) % (3 : Int32))), .val (.int u10), .val (.int u11), .val (.ref ca), .val (.ref b4), .val (.ref b9), .val (.ref b14), .val (.ref b19), .val (.int (0 : Int32)), .val (.int (0 : Int32))] [(.int (bi ((([u10, u11] : List Int32) = [u7, u8] ∧ os = (0 : Int32)) ∨ (¬ ([u10, u11] : List Int32) = [u7, u8] ∧ of = (0 : Int32)))))])
              refine Go.of (T' := T31) (f' := (mkF m 294 #[.val (.int p1), .val (.int p2), .val (.int p3), .val (.int p4), .val (.int p5), .val (.int u5), .val (.int u6), .val (.int u7), .val (.int u8), .val (.int ((p4 &&& (2147483647 : Int32)) % (3 : Int32))), .val (.int u10), .val (.int u11), .val (.ref ca), .val (.ref b4), .val (.ref b9), .val (.ref b14), .val (.ref b19), .val (.int (0 : Int32)), .val (.int (0 : Int32))] [(.int (0 : Int32)), (.int (bi ((([u10, u11] : List Int32) = [u7, u8] ∧ os = (0 : Int32)) ∨ (¬ ([u10, u11] : List Int32) = [u7, u8] ∧ of = (0 : Int32)))))])) (fun _ k => XS.iload X31.here hx rfl (hb hby at_292) rfl k) ?_
              have hc294 : (bi ((([u10, u11] : List Int32) = [u7, u8] ∧ os = (0 : Int32)) ∨ (¬ ([u10, u11] : List Int32) = [u7, u8] ∧ of = (0 : Int32)))) = (0 : Int32) := bi_f (by rintro (⟨h1, h2⟩ | ⟨h1, h2⟩); exact (fun q => by have q := two_eq.mp q; first | exact hc214 q.1 | exact hc221 q.2) h1; exact ((os0 hrel n12 n13 n14 n23 n24 n34).2.mp h2).elim ha267 ha275)
              refine Go.of (T' := T31) (f' := (mkF m 297 #[.val (.int p1), .val (.int p2), .val (.int p3), .val (.int p4), .val (.int p5), .val (.int u5), .val (.int u6), .val (.int u7), .val (.int u8), .val (.int ((p4 &&& (2147483647 : Int32)) % (3 : Int32))), .val (.int u10), .val (.int u11), .val (.ref ca), .val (.ref b4), .val (.ref b9), .val (.ref b14), .val (.ref b19), .val (.int (0 : Int32)), .val (.int (0 : Int32))] [])) (fun _ k => XS.icmpNo X31.here hx rfl (hb hby at_294) rfl (teq hc294).2 k) ?_
              refine Go.of (T' := T31) (f' := (mkF m 298 #[.val (.int p1), .val (.int p2), .val (.int p3), .val (.int p4), .val (.int p5), .val (.int u5), .val (.int u6), .val (.int u7), .val (.int u8), .val (.int ((p4 &&& (2147483647 : Int32)) % (3 : Int32))), .val (.int u10), .val (.int u11), .val (.ref ca), .val (.ref b4), .val (.ref b9), .val (.ref b14), .val (.ref b19), .val (.int (0 : Int32)), .val (.int (0 : Int32))] [(.int (1 : Int32))])) (fun _ k => XS.iconst X31.here hx rfl (hb hby at_297) k) ?_
              refine Go.of (T' := T31) (f' := (mkF m 302 #[.val (.int p1), .val (.int p2), .val (.int p3), .val (.int p4), .val (.int p5), .val (.int u5), .val (.int u6), .val (.int u7), .val (.int u8), .val (.int ((p4 &&& (2147483647 : Int32)) % (3 : Int32))), .val (.int u10), .val (.int u11), .val (.ref ca), .val (.ref b4), .val (.ref b9), .val (.ref b14), .val (.ref b19), .val (.int (0 : Int32)), .val (.int (0 : Int32))] [(.int (1 : Int32))])) (fun _ k => XS.goto X31.here hx rfl (pc0 := 298) (pc' := 302) rfl (hb hby at_298) (by decide) (by decide) k) ?_
              exact goRetIW (Q := fun v h L => v = some (.int 1) ∧ Mv h0 h [] L) X31 hx hS hk (t := .boolean) hret hlk rfl (by simp) (hb hby at_302) K (by decide) (by decide) e31 (⟨rfl, M21⟩)
      ·
        refine Go.of (T' := T21) (f' := (mkF m 228 #[.val (.int p1), .val (.int p2), .val (.int p3), .val (.int p4), .val (.int p5), .val (.int u5), .val (.int u6), .val (.int u7), .val (.int u8), .val (.int ((p4 &&& (2147483647 : Int32)) % (3 : Int32))), .val (.int u10), .val (.int u11), .val (.ref ca), .val (.ref b4), .val (.ref b9), .val (.ref b14), .val (.ref b19), .unset, .unset] [])) (fun _ k => XS.icmpYes X21.here hx rfl (pc0 := 214) (pc' := 228) rfl (hb hby at_214) rfl (feq hc214).2 (by decide) (by decide) k) ?_
        refine Go.of (T' := T21) (f' := (mkF m 229 #[.val (.int p1), .val (.int p2), .val (.int p3), .val (.int p4), .val (.int p5), .val (.int u5), .val (.int u6), .val (.int u7), .val (.int u8), .val (.int ((p4 &&& (2147483647 : Int32)) % (3 : Int32))), .val (.int u10), .val (.int u11), .val (.ref ca), .val (.ref b4), .val (.ref b9), .val (.ref b14), .val (.ref b19), .unset, .unset] [(.int (0 : Int32))])) (fun _ k => XS.iconst X21.here hx rfl (hb hby at_228) k) ?_
        refine Go.of (T' := T21) (f' := (mkF m 231 #[.val (.int p1), .val (.int p2), .val (.int p3), .val (.int p4), .val (.int p5), .val (.int u5), .val (.int u6), .val (.int u7), .val (.int u8), .val (.int ((p4 &&& (2147483647 : Int32)) % (3 : Int32))), .val (.int u10), .val (.int u11), .val (.ref ca), .val (.ref b4), .val (.ref b9), .val (.ref b14), .val (.ref b19), .val (.int (0 : Int32)), .unset] [])) (fun _ k => XS.istore X21.here hx rfl (hb hby at_229) rfl (l' := #[.val (.int p1), .val (.int p2), .val (.int p3), .val (.int p4), .val (.int p5), .val (.int u5), .val (.int u6), .val (.int u7), .val (.int u8), .val (.int ((p4 &&& (2147483647 : Int32)) % (3 : Int32))), .val (.int u10), .val (.int u11), .val (.ref ca), .val (.ref b4), .val (.ref b9), .val (.ref b14), .val (.ref b19), .val (.int (0 : Int32)), .unset]) rfl k) ?_
        refine Go.of (T' := T21) (f' := (mkF m 233 #[.val (.int p1), .val (.int p2), .val (.int p3), .val (.int p4), .val (.int p5), .val (.int u5), .val (.int u6), .val (.int u7), .val (.int u8), .val (.int ((p4 &&& (2147483647 : Int32)) % (3 : Int32))), .val (.int u10), .val (.int u11), .val (.ref ca), .val (.ref b4), .val (.ref b9), .val (.ref b14), .val (.ref b19), .val (.int (0 : Int32)), .unset] [(.int (0 : Int32))])) (fun _ k => XS.iload X21.here hx rfl (hb hby at_231) rfl k) ?_
        refine Go.of (T' := T21) (f' := (mkF m 262 #[.val (.int p1), .val (.int p2), .val (.int p3), .val (.int p4), .val (.int p5), .val (.int u5), .val (.int u6), .val (.int u7), .val (.int u8), .val (.int ((p4 &&& (2147483647 : Int32)) % (3 : Int32))), .val (.int u10), .val (.int u11), .val (.ref ca), .val (.ref b4), .val (.ref b9), .val (.ref b14), .val (.ref b19), .val (.int (0 : Int32)), .unset] [])) (fun _ k => XS.ifYes X21.here hx rfl (pc0 := 233) (pc' := 262) rfl (hb hby at_233) rfl (by decide) (by decide) (by decide) k) ?_
        refine Go.of (T' := T21) (f' := (mkF m 264 #[.val (.int p1), .val (.int p2), .val (.int p3), .val (.int p4), .val (.int p5), .val (.int u5), .val (.int u6), .val (.int u7), .val (.int u8), .val (.int ((p4 &&& (2147483647 : Int32)) % (3 : Int32))), .val (.int u10), .val (.int u11), .val (.ref ca), .val (.ref b4), .val (.ref b9), .val (.ref b14), .val (.ref b19), .val (.int (0 : Int32)), .unset] [(.ref ca)])) (fun _ k => XS.aload X21.here hx rfl (hb hby at_262) rfl rfl k) ?_
        obtain ⟨T32, X32, e32, st32⟩ := getS2 X21 hx hZ hown (host := "") (Or.inl (hw _ (List.mem_of_getElem? (i := 56) rfl))) Via.refl e21 Z_c3 (g := (mkF m 264 #[.val (.int p1), .val (.int p2), .val (.int p3), .val (.int p4), .val (.int p5), .val (.int u5), .val (.int u6), .val (.int u7), .val (.int u8), .val (.int ((p4 &&& (2147483647 : Int32)) % (3 : Int32))), .val (.int u10), .val (.int u11), .val (.ref ca), .val (.ref b4), .val (.ref b9), .val (.ref b14), .val (.ref b19), .val (.int (0 : Int32)), .unset] [(.ref ca)])) rfl (hb hby at_264)
        refine Go.of (T' := T32) (f' := (mkF m 267 #[.val (.int p1), .val (.int p2), .val (.int p3), .val (.int p4), .val (.int p5), .val (.int u5), .val (.int u6), .val (.int u7), .val (.int u8), .val (.int ((p4 &&& (2147483647 : Int32)) % (3 : Int32))), .val (.int u10), .val (.int u11), .val (.ref ca), .val (.ref b4), .val (.ref b9), .val (.ref b14), .val (.ref b19), .val (.int (0 : Int32)), .unset] [(.ref c3), (.ref ca)])) st32 ?_
        by_cases ha267 : ca = c3
        ·
          refine Go.of (T' := T32) (f' := (mkF m 278 #[.val (.int p1), .val (.int p2), .val (.int p3), .val (.int p4), .val (.int p5), .val (.int u5), .val (.int u6), .val (.int u7), .val (.int u8), .val (.int ((p4 &&& (2147483647 : Int32)) % (3 : Int32))), .val (.int u10), .val (.int u11), .val (.ref ca), .val (.ref b4), .val (.ref b9), .val (.ref b14), .val (.ref b19), .val (.int (0 : Int32)), .unset] [])) (fun _ k => Jvm.RoadKit.acmp (g := (mkF m 267 #[.val (.int p1), .val (.int p2), .val (.int p3), .val (.int p4), .val (.int p5), .val (.int u5), .val (.int u6), .val (.int u7), .val (.int u8), .val (.int ((p4 &&& (2147483647 : Int32)) % (3 : Int32))), .val (.int u10), .val (.int u11), .val (.ref ca), .val (.ref b4), .val (.ref b9), .val (.ref b14), .val (.ref b19), .val (.int (0 : Int32)), .unset] [(.ref c3), (.ref ca)])) X32 hx rfl rfl rfl (pc0 := 267) (pc' := 278) (same := true) rfl (hb hby at_267) rfl (decide_eq_true (congrArg Value.ref ha267)) (by decide) (by decide) k) ?_
          refine Go.of (T' := T32) (f' := (mkF m 279 #[.val (.int p1), .val (.int p2), .val (.int p3), .val (.int p4), .val (.int p5), .val (.int u5), .val (.int u6), .val (.int u7), .val (.int u8), .val (.int ((p4 &&& (2147483647 : Int32)) % (3 : Int32))), .val (.int u10), .val (.int u11), .val (.ref ca), .val (.ref b4), .val (.ref b9), .val (.ref b14), .val (.ref b19), .val (.int (0 : Int32)), .unset] [(.int (1 : Int32))])) (fun _ k => XS.iconst X32.here hx rfl (hb hby at_278) k) ?_
          refine Go.of (T' := T32) (f' := (mkF m 283 #[.val (.int p1), .val (.int p2), .val (.int p3), .val (.int p4), .val (.int p5), .val (.int u5), .val (.int u6), .val (.int u7), .val (.int u8), .val (.int ((p4 &&& (2147483647 : Int32)) % (3 : Int32))), .val (.int u10), .val (.int u11), .val (.ref ca), .val (.ref b4), .val (.ref b9), .val (.ref b14), .val (.ref b19), .val (.int (0 : Int32)), .unset] [(.int (1 : Int32))])) (fun _ k => XS.goto X32.here hx rfl (pc0 := 279) (pc' := 283) rfl (hb hby at_279) (by decide) (by decide) k) ?_
          refine Go.of (T' := T32) (f' := (mkF m 285 #[.val (.int p1), .val (.int p2), .val (.int p3), .val (.int p4), .val (.int p5), .val (.int u5), .val (.int u6), .val (.int u7), .val (.int u8), .val (.int ((p4 &&& (2147483647 : Int32)) % (3 : Int32))), .val (.int u10), .val (.int u11), .val (.ref ca), .val (.ref b4), .val (.ref b9), .val (.ref b14), .val (.ref b19), .val (.int (0 : Int32)), .val (.int (1 : Int32))] [])) (fun _ k => XS.istore X32.here hx rfl (hb hby at_283) rfl (l' := #[.val (.int p1), .val (.int p2), .val (.int p3), .val (.int p4), .val (.int p5), .val (.int u5), .val (.int u6), .val (.int u7), .val (.int u8), .val (.int ((p4 &&& (2147483647 : Int32)) % (3 : Int32))), .val (.int u10), .val (.int u11), .val (.ref ca), .val (.ref b4), .val (.ref b9), .val (.ref b14), .val (.ref b19), .val (.int (0 : Int32)), .val (.int (1 : Int32))]) rfl k) ?_
          refine Go.of (T' := T32) (f' := (mkF m 287 #[.val (.int p1), .val (.int p2), .val (.int p3), .val (.int p4), .val (.int p5), .val (.int u5), .val (.int u6), .val (.int u7), .val (.int u8), .val (.int ((p4 &&& (2147483647 : Int32)) % (3 : Int32))), .val (.int u10), .val (.int u11), .val (.ref ca), .val (.ref b4), .val (.ref b9), .val (.ref b14), .val (.ref b19), .val (.int (0 : Int32)), .val (.int (1 : Int32))] [(.ref b19)])) (fun _ k => XS.aload X32.here hx rfl (hb hby at_285) rfl rfl k) ?_
          refine Go.of (T' := T32) (f' := (mkF m 289 #[.val (.int p1), .val (.int p2), .val (.int p3), .val (.int p4), .val (.int p5), .val (.int u5), .val (.int u6), .val (.int u7), .val (.int u8), .val (.int ((p4 &&& (2147483647 : Int32)) % (3 : Int32))), .val (.int u10), .val (.int u11), .val (.ref ca), .val (.ref b4), .val (.ref b9), .val (.ref b14), .val (.ref b19), .val (.int (0 : Int32)), .val (.int (1 : Int32))] [(.ref b14), (.ref b19)])) (fun _ k => XS.aload X32.here hx rfl (hb hby at_287) rfl rfl k) ?_
          refine goV X32 hx hZ (y := (⟨"com/example/denormal/denormal/modelfile/Relationship", "linksMany", "(Ljava/lang/String;)Z"⟩ : MethodName)) (z := (⟨"com/example/denormal/denormal/modelfile/Relationship", "linksMany", "(Ljava/lang/String;)Z"⟩ : MethodName)) hown (hw _ (List.mem_of_getElem? (i := 60) rfl)) (hw _ (List.mem_of_getElem? (i := 61) rfl)) (notFace_of_selects (args := #[]) (mvT hZ (hw _ (List.mem_of_getElem? (i := 63) rfl)))) (hw _ (List.mem_of_getElem? (i := 63) rfl)) (hw _ (List.mem_of_getElem? (i := 62) rfl)) (by decide) (C := 0) (S := 0) ((rm_linksMany l Z a0 hw b19 b14 b9 ca t13 t18 [u10, u11] [u7, u8] of os zc h21 F_second_b19 F_cardinality_b19 S_b14 S_b9 E_ca F_of F_os hof hos Z_cs hz).bk (W := 0) hZ (hw _ (List.mem_of_getElem? (i := 64) rfl)) (hw _ (List.mem_of_getElem? (i := 40) rfl)) (by decide) (by decide)) e32 E_b19 (argsL := [(.ref b14)]) (rest := []) (by rw [hml]; rfl) (lenOf pd__Ljava_lang_String__Z rfl) rfl rfl (hb hby at_289) (Nat.le_of_eq rfl) (by decide) (by decide) ?_
          intro v33 T33 L33 X33 hQ33
          obtain ⟨nq33, e33, rfl⟩ := hQ33
          replace X33 := standNil X33 nq33
          show Go p e below P T33 (mkF m 292 #[.val (.int p1), .val (.int p2), .val (.int p3), .val (.int p4), .val (.int p5), .val (.int u5), .val (.int u6), .val (.int u7), .val (.int u8), .val (.int ((p4 &&& (2147483647 : Int32)) % (3 : Int32))), .val (.int u10), .val (.int u11), .val (.ref ca), .val (.ref b4), .val (.ref b9), .val (.ref b14), .val (.ref b19), .val (.int (0 : Int32)), .val (.int (1 : Int32))] [(.int (bi ((([u10, u11] : List Int32) = [u7, u8] ∧ os = (0 : Int32)) ∨ (¬ ([u10, u11] : List Int32) = [u7, u8] ∧ of = (0 : Int32)))))])
          refine Go.of (T' := T33) (f' := (mkF m 294 #[.val (.int p1), .val (.int p2), .val (.int p3), .val (.int p4), .val (.int p5), .val (.int u5), .val (.int u6), .val (.int u7), .val (.int u8), .val (.int ((p4 &&& (2147483647 : Int32)) % (3 : Int32))), .val (.int u10), .val (.int u11), .val (.ref ca), .val (.ref b4), .val (.ref b9), .val (.ref b14), .val (.ref b19), .val (.int (0 : Int32)), .val (.int (1 : Int32))] [(.int (1 : Int32)), (.int (bi ((([u10, u11] : List Int32) = [u7, u8] ∧ os = (0 : Int32)) ∨ (¬ ([u10, u11] : List Int32) = [u7, u8] ∧ of = (0 : Int32)))))])) (fun _ k => XS.iload X33.here hx rfl (hb hby at_292) rfl k) ?_
          have hc294 : (bi ((([u10, u11] : List Int32) = [u7, u8] ∧ os = (0 : Int32)) ∨ (¬ ([u10, u11] : List Int32) = [u7, u8] ∧ of = (0 : Int32)))) = (1 : Int32) := bi_t (Or.inr ⟨(fun q => by have q := two_eq.mp q; first | exact hc214 q.1 | exact hc221 q.2), (os0 hrel n12 n13 n14 n23 n24 n34).2.mpr (by first | exact Or.inl ha267 | exact Or.inr ha275)⟩)
          refine Go.of (T' := T33) (f' := (mkF m 297 #[.val (.int p1), .val (.int p2), .val (.int p3), .val (.int p4), .val (.int p5), .val (.int u5), .val (.int u6), .val (.int u7), .val (.int u8), .val (.int ((p4 &&& (2147483647 : Int32)) % (3 : Int32))), .val (.int u10), .val (.int u11), .val (.ref ca), .val (.ref b4), .val (.ref b9), .val (.ref b14), .val (.ref b19), .val (.int (0 : Int32)), .val (.int (1 : Int32))] [])) (fun _ k => XS.icmpNo X33.here hx rfl (hb hby at_294) rfl (teq hc294).2 k) ?_
          refine Go.of (T' := T33) (f' := (mkF m 298 #[.val (.int p1), .val (.int p2), .val (.int p3), .val (.int p4), .val (.int p5), .val (.int u5), .val (.int u6), .val (.int u7), .val (.int u8), .val (.int ((p4 &&& (2147483647 : Int32)) % (3 : Int32))), .val (.int u10), .val (.int u11), .val (.ref ca), .val (.ref b4), .val (.ref b9), .val (.ref b14), .val (.ref b19), .val (.int (0 : Int32)), .val (.int (1 : Int32))] [(.int (1 : Int32))])) (fun _ k => XS.iconst X33.here hx rfl (hb hby at_297) k) ?_
          refine Go.of (T' := T33) (f' := (mkF m 302 #[.val (.int p1), .val (.int p2), .val (.int p3), .val (.int p4), .val (.int p5), .val (.int u5), .val (.int u6), .val (.int u7), .val (.int u8), .val (.int ((p4 &&& (2147483647 : Int32)) % (3 : Int32))), .val (.int u10), .val (.int u11), .val (.ref ca), .val (.ref b4), .val (.ref b9), .val (.ref b14), .val (.ref b19), .val (.int (0 : Int32)), .val (.int (1 : Int32))] [(.int (1 : Int32))])) (fun _ k => XS.goto X33.here hx rfl (pc0 := 298) (pc' := 302) rfl (hb hby at_298) (by decide) (by decide) k) ?_
          exact goRetIW (Q := fun v h L => v = some (.int 1) ∧ Mv h0 h [] L) X33 hx hS hk (t := .boolean) hret hlk rfl (by simp) (hb hby at_302) K (by decide) (by decide) e33 (⟨rfl, M21⟩)
        ·
          refine Go.of (T' := T32) (f' := (mkF m 270 #[.val (.int p1), .val (.int p2), .val (.int p3), .val (.int p4), .val (.int p5), .val (.int u5), .val (.int u6), .val (.int u7), .val (.int u8), .val (.int ((p4 &&& (2147483647 : Int32)) % (3 : Int32))), .val (.int u10), .val (.int u11), .val (.ref ca), .val (.ref b4), .val (.ref b9), .val (.ref b14), .val (.ref b19), .val (.int (0 : Int32)), .unset] [])) (fun _ k => Jvm.RoadKit.acmp (g := (mkF m 267 #[.val (.int p1), .val (.int p2), .val (.int p3), .val (.int p4), .val (.int p5), .val (.int u5), .val (.int u6), .val (.int u7), .val (.int u8), .val (.int ((p4 &&& (2147483647 : Int32)) % (3 : Int32))), .val (.int u10), .val (.int u11), .val (.ref ca), .val (.ref b4), .val (.ref b9), .val (.ref b14), .val (.ref b19), .val (.int (0 : Int32)), .unset] [(.ref c3), (.ref ca)])) X32 hx rfl rfl rfl (pc0 := 267) (pc' := 270) (same := false) rfl (hb hby at_267) rfl (decide_eq_false fun q => ha267 (Value.ref.inj q)) (by decide) (by decide) k) ?_
          refine Go.of (T' := T32) (f' := (mkF m 272 #[.val (.int p1), .val (.int p2), .val (.int p3), .val (.int p4), .val (.int p5), .val (.int u5), .val (.int u6), .val (.int u7), .val (.int u8), .val (.int ((p4 &&& (2147483647 : Int32)) % (3 : Int32))), .val (.int u10), .val (.int u11), .val (.ref ca), .val (.ref b4), .val (.ref b9), .val (.ref b14), .val (.ref b19), .val (.int (0 : Int32)), .unset] [(.ref ca)])) (fun _ k => XS.aload X32.here hx rfl (hb hby at_270) rfl rfl k) ?_
          obtain ⟨T34, X34, e34, st34⟩ := getS2 X32 hx hZ hown (host := "") (Or.inl (hw _ (List.mem_of_getElem? (i := 58) rfl))) Via.refl e32 Z_c4 (g := (mkF m 272 #[.val (.int p1), .val (.int p2), .val (.int p3), .val (.int p4), .val (.int p5), .val (.int u5), .val (.int u6), .val (.int u7), .val (.int u8), .val (.int ((p4 &&& (2147483647 : Int32)) % (3 : Int32))), .val (.int u10), .val (.int u11), .val (.ref ca), .val (.ref b4), .val (.ref b9), .val (.ref b14), .val (.ref b19), .val (.int (0 : Int32)), .unset] [(.ref ca)])) rfl (hb hby at_272)
          refine Go.of (T' := T34) (f' := (mkF m 275 #[.val (.int p1), .val (.int p2), .val (.int p3), .val (.int p4), .val (.int p5), .val (.int u5), .val (.int u6), .val (.int u7), .val (.int u8), .val (.int ((p4 &&& (2147483647 : Int32)) % (3 : Int32))), .val (.int u10), .val (.int u11), .val (.ref ca), .val (.ref b4), .val (.ref b9), .val (.ref b14), .val (.ref b19), .val (.int (0 : Int32)), .unset] [(.ref c4), (.ref ca)])) st34 ?_
          by_cases ha275 : ca = c4
          ·
            refine Go.of (T' := T34) (f' := (mkF m 278 #[.val (.int p1), .val (.int p2), .val (.int p3), .val (.int p4), .val (.int p5), .val (.int u5), .val (.int u6), .val (.int u7), .val (.int u8), .val (.int ((p4 &&& (2147483647 : Int32)) % (3 : Int32))), .val (.int u10), .val (.int u11), .val (.ref ca), .val (.ref b4), .val (.ref b9), .val (.ref b14), .val (.ref b19), .val (.int (0 : Int32)), .unset] [])) (fun _ k => Jvm.RoadKit.acmp (g := (mkF m 275 #[.val (.int p1), .val (.int p2), .val (.int p3), .val (.int p4), .val (.int p5), .val (.int u5), .val (.int u6), .val (.int u7), .val (.int u8), .val (.int ((p4 &&& (2147483647 : Int32)) % (3 : Int32))), .val (.int u10), .val (.int u11), .val (.ref ca), .val (.ref b4), .val (.ref b9), .val (.ref b14), .val (.ref b19), .val (.int (0 : Int32)), .unset] [(.ref c4), (.ref ca)])) X34 hx rfl rfl rfl (pc0 := 275) (pc' := 278) (same := true) rfl (hb hby at_275) rfl (decide_eq_true (congrArg Value.ref ha275)) (by decide) (by decide) k) ?_
            refine Go.of (T' := T34) (f' := (mkF m 279 #[.val (.int p1), .val (.int p2), .val (.int p3), .val (.int p4), .val (.int p5), .val (.int u5), .val (.int u6), .val (.int u7), .val (.int u8), .val (.int ((p4 &&& (2147483647 : Int32)) % (3 : Int32))), .val (.int u10), .val (.int u11), .val (.ref ca), .val (.ref b4), .val (.ref b9), .val (.ref b14), .val (.ref b19), .val (.int (0 : Int32)), .unset] [(.int (1 : Int32))])) (fun _ k => XS.iconst X34.here hx rfl (hb hby at_278) k) ?_
            refine Go.of (T' := T34) (f' := (mkF m 283 #[.val (.int p1), .val (.int p2), .val (.int p3), .val (.int p4), .val (.int p5), .val (.int u5), .val (.int u6), .val (.int u7), .val (.int u8), .val (.int ((p4 &&& (2147483647 : Int32)) % (3 : Int32))), .val (.int u10), .val (.int u11), .val (.ref ca), .val (.ref b4), .val (.ref b9), .val (.ref b14), .val (.ref b19), .val (.int (0 : Int32)), .unset] [(.int (1 : Int32))])) (fun _ k => XS.goto X34.here hx rfl (pc0 := 279) (pc' := 283) rfl (hb hby at_279) (by decide) (by decide) k) ?_
            refine Go.of (T' := T34) (f' := (mkF m 285 #[.val (.int p1), .val (.int p2), .val (.int p3), .val (.int p4), .val (.int p5), .val (.int u5), .val (.int u6), .val (.int u7), .val (.int u8), .val (.int ((p4 &&& (2147483647 : Int32)) % (3 : Int32))), .val (.int u10), .val (.int u11), .val (.ref ca), .val (.ref b4), .val (.ref b9), .val (.ref b14), .val (.ref b19), .val (.int (0 : Int32)), .val (.int (1 : Int32))] [])) (fun _ k => XS.istore X34.here hx rfl (hb hby at_283) rfl (l' := #[.val (.int p1), .val (.int p2), .val (.int p3), .val (.int p4), .val (.int p5), .val (.int u5), .val (.int u6), .val (.int u7), .val (.int u8), .val (.int ((p4 &&& (2147483647 : Int32)) % (3 : Int32))), .val (.int u10), .val (.int u11), .val (.ref ca), .val (.ref b4), .val (.ref b9), .val (.ref b14), .val (.ref b19), .val (.int (0 : Int32)), .val (.int (1 : Int32))]) rfl k) ?_
            refine Go.of (T' := T34) (f' := (mkF m 287 #[.val (.int p1), .val (.int p2), .val (.int p3), .val (.int p4), .val (.int p5), .val (.int u5), .val (.int u6), .val (.int u7), .val (.int u8), .val (.int ((p4 &&& (2147483647 : Int32)) % (3 : Int32))), .val (.int u10), .val (.int u11), .val (.ref ca), .val (.ref b4), .val (.ref b9), .val (.ref b14), .val (.ref b19), .val (.int (0 : Int32)), .val (.int (1 : Int32))] [(.ref b19)])) (fun _ k => XS.aload X34.here hx rfl (hb hby at_285) rfl rfl k) ?_
            refine Go.of (T' := T34) (f' := (mkF m 289 #[.val (.int p1), .val (.int p2), .val (.int p3), .val (.int p4), .val (.int p5), .val (.int u5), .val (.int u6), .val (.int u7), .val (.int u8), .val (.int ((p4 &&& (2147483647 : Int32)) % (3 : Int32))), .val (.int u10), .val (.int u11), .val (.ref ca), .val (.ref b4), .val (.ref b9), .val (.ref b14), .val (.ref b19), .val (.int (0 : Int32)), .val (.int (1 : Int32))] [(.ref b14), (.ref b19)])) (fun _ k => XS.aload X34.here hx rfl (hb hby at_287) rfl rfl k) ?_
            refine goV X34 hx hZ (y := (⟨"com/example/denormal/denormal/modelfile/Relationship", "linksMany", "(Ljava/lang/String;)Z"⟩ : MethodName)) (z := (⟨"com/example/denormal/denormal/modelfile/Relationship", "linksMany", "(Ljava/lang/String;)Z"⟩ : MethodName)) hown (hw _ (List.mem_of_getElem? (i := 60) rfl)) (hw _ (List.mem_of_getElem? (i := 61) rfl)) (notFace_of_selects (args := #[]) (mvT hZ (hw _ (List.mem_of_getElem? (i := 63) rfl)))) (hw _ (List.mem_of_getElem? (i := 63) rfl)) (hw _ (List.mem_of_getElem? (i := 62) rfl)) (by decide) (C := 0) (S := 0) ((rm_linksMany l Z a0 hw b19 b14 b9 ca t13 t18 [u10, u11] [u7, u8] of os zc h21 F_second_b19 F_cardinality_b19 S_b14 S_b9 E_ca F_of F_os hof hos Z_cs hz).bk (W := 0) hZ (hw _ (List.mem_of_getElem? (i := 64) rfl)) (hw _ (List.mem_of_getElem? (i := 40) rfl)) (by decide) (by decide)) e34 E_b19 (argsL := [(.ref b14)]) (rest := []) (by rw [hml]; rfl) (lenOf pd__Ljava_lang_String__Z rfl) rfl rfl (hb hby at_289) (Nat.le_of_eq rfl) (by decide) (by decide) ?_
            intro v35 T35 L35 X35 hQ35
            obtain ⟨nq35, e35, rfl⟩ := hQ35
            replace X35 := standNil X35 nq35
            show Go p e below P T35 (mkF m 292 #[.val (.int p1), .val (.int p2), .val (.int p3), .val (.int p4), .val (.int p5), .val (.int u5), .val (.int u6), .val (.int u7), .val (.int u8), .val (.int ((p4 &&& (2147483647 : Int32)) % (3 : Int32))), .val (.int u10), .val (.int u11), .val (.ref ca), .val (.ref b4), .val (.ref b9), .val (.ref b14), .val (.ref b19), .val (.int (0 : Int32)), .val (.int (1 : Int32))] [(.int (bi ((([u10, u11] : List Int32) = [u7, u8] ∧ os = (0 : Int32)) ∨ (¬ ([u10, u11] : List Int32) = [u7, u8] ∧ of = (0 : Int32)))))])
            refine Go.of (T' := T35) (f' := (mkF m 294 #[.val (.int p1), .val (.int p2), .val (.int p3), .val (.int p4), .val (.int p5), .val (.int u5), .val (.int u6), .val (.int u7), .val (.int u8), .val (.int ((p4 &&& (2147483647 : Int32)) % (3 : Int32))), .val (.int u10), .val (.int u11), .val (.ref ca), .val (.ref b4), .val (.ref b9), .val (.ref b14), .val (.ref b19), .val (.int (0 : Int32)), .val (.int (1 : Int32))] [(.int (1 : Int32)), (.int (bi ((([u10, u11] : List Int32) = [u7, u8] ∧ os = (0 : Int32)) ∨ (¬ ([u10, u11] : List Int32) = [u7, u8] ∧ of = (0 : Int32)))))])) (fun _ k => XS.iload X35.here hx rfl (hb hby at_292) rfl k) ?_
            have hc294 : (bi ((([u10, u11] : List Int32) = [u7, u8] ∧ os = (0 : Int32)) ∨ (¬ ([u10, u11] : List Int32) = [u7, u8] ∧ of = (0 : Int32)))) = (1 : Int32) := bi_t (Or.inr ⟨(fun q => by have q := two_eq.mp q; first | exact hc214 q.1 | exact hc221 q.2), (os0 hrel n12 n13 n14 n23 n24 n34).2.mpr (by first | exact Or.inl ha267 | exact Or.inr ha275)⟩)
            refine Go.of (T' := T35) (f' := (mkF m 297 #[.val (.int p1), .val (.int p2), .val (.int p3), .val (.int p4), .val (.int p5), .val (.int u5), .val (.int u6), .val (.int u7), .val (.int u8), .val (.int ((p4 &&& (2147483647 : Int32)) % (3 : Int32))), .val (.int u10), .val (.int u11), .val (.ref ca), .val (.ref b4), .val (.ref b9), .val (.ref b14), .val (.ref b19), .val (.int (0 : Int32)), .val (.int (1 : Int32))] [])) (fun _ k => XS.icmpNo X35.here hx rfl (hb hby at_294) rfl (teq hc294).2 k) ?_
            refine Go.of (T' := T35) (f' := (mkF m 298 #[.val (.int p1), .val (.int p2), .val (.int p3), .val (.int p4), .val (.int p5), .val (.int u5), .val (.int u6), .val (.int u7), .val (.int u8), .val (.int ((p4 &&& (2147483647 : Int32)) % (3 : Int32))), .val (.int u10), .val (.int u11), .val (.ref ca), .val (.ref b4), .val (.ref b9), .val (.ref b14), .val (.ref b19), .val (.int (0 : Int32)), .val (.int (1 : Int32))] [(.int (1 : Int32))])) (fun _ k => XS.iconst X35.here hx rfl (hb hby at_297) k) ?_
            refine Go.of (T' := T35) (f' := (mkF m 302 #[.val (.int p1), .val (.int p2), .val (.int p3), .val (.int p4), .val (.int p5), .val (.int u5), .val (.int u6), .val (.int u7), .val (.int u8), .val (.int ((p4 &&& (2147483647 : Int32)) % (3 : Int32))), .val (.int u10), .val (.int u11), .val (.ref ca), .val (.ref b4), .val (.ref b9), .val (.ref b14), .val (.ref b19), .val (.int (0 : Int32)), .val (.int (1 : Int32))] [(.int (1 : Int32))])) (fun _ k => XS.goto X35.here hx rfl (pc0 := 298) (pc' := 302) rfl (hb hby at_298) (by decide) (by decide) k) ?_
            exact goRetIW (Q := fun v h L => v = some (.int 1) ∧ Mv h0 h [] L) X35 hx hS hk (t := .boolean) hret hlk rfl (by simp) (hb hby at_302) K (by decide) (by decide) e35 (⟨rfl, M21⟩)
          ·
            refine Go.of (T' := T34) (f' := (mkF m 282 #[.val (.int p1), .val (.int p2), .val (.int p3), .val (.int p4), .val (.int p5), .val (.int u5), .val (.int u6), .val (.int u7), .val (.int u8), .val (.int ((p4 &&& (2147483647 : Int32)) % (3 : Int32))), .val (.int u10), .val (.int u11), .val (.ref ca), .val (.ref b4), .val (.ref b9), .val (.ref b14), .val (.ref b19), .val (.int (0 : Int32)), .unset] [])) (fun _ k => Jvm.RoadKit.acmp (g := (mkF m 275 #[.val (.int p1), .val (.int p2), .val (.int p3), .val (.int p4), .val (.int p5), .val (.int u5), .val (.int u6), .val (.int u7), .val (.int u8), .val (.int ((p4 &&& (2147483647 : Int32)) % (3 : Int32))), .val (.int u10), .val (.int u11), .val (.ref ca), .val (.ref b4), .val (.ref b9), .val (.ref b14), .val (.ref b19), .val (.int (0 : Int32)), .unset] [(.ref c4), (.ref ca)])) X34 hx rfl rfl rfl (pc0 := 275) (pc' := 282) (same := false) rfl (hb hby at_275) rfl (decide_eq_false fun q => ha275 (Value.ref.inj q)) (by decide) (by decide) k) ?_
            refine Go.of (T' := T34) (f' := (mkF m 283 #[.val (.int p1), .val (.int p2), .val (.int p3), .val (.int p4), .val (.int p5), .val (.int u5), .val (.int u6), .val (.int u7), .val (.int u8), .val (.int ((p4 &&& (2147483647 : Int32)) % (3 : Int32))), .val (.int u10), .val (.int u11), .val (.ref ca), .val (.ref b4), .val (.ref b9), .val (.ref b14), .val (.ref b19), .val (.int (0 : Int32)), .unset] [(.int (0 : Int32))])) (fun _ k => XS.iconst X34.here hx rfl (hb hby at_282) k) ?_
            refine Go.of (T' := T34) (f' := (mkF m 285 #[.val (.int p1), .val (.int p2), .val (.int p3), .val (.int p4), .val (.int p5), .val (.int u5), .val (.int u6), .val (.int u7), .val (.int u8), .val (.int ((p4 &&& (2147483647 : Int32)) % (3 : Int32))), .val (.int u10), .val (.int u11), .val (.ref ca), .val (.ref b4), .val (.ref b9), .val (.ref b14), .val (.ref b19), .val (.int (0 : Int32)), .val (.int (0 : Int32))] [])) (fun _ k => XS.istore X34.here hx rfl (hb hby at_283) rfl (l' := #[.val (.int p1), .val (.int p2), .val (.int p3), .val (.int p4), .val (.int p5), .val (.int u5), .val (.int u6), .val (.int u7), .val (.int u8), .val (.int ((p4 &&& (2147483647 : Int32)) % (3 : Int32))), .val (.int u10), .val (.int u11), .val (.ref ca), .val (.ref b4), .val (.ref b9), .val (.ref b14), .val (.ref b19), .val (.int (0 : Int32)), .val (.int (0 : Int32))]) rfl k) ?_
            refine Go.of (T' := T34) (f' := (mkF m 287 #[.val (.int p1), .val (.int p2), .val (.int p3), .val (.int p4), .val (.int p5), .val (.int u5), .val (.int u6), .val (.int u7), .val (.int u8), .val (.int ((p4 &&& (2147483647 : Int32)) % (3 : Int32))), .val (.int u10), .val (.int u11), .val (.ref ca), .val (.ref b4), .val (.ref b9), .val (.ref b14), .val (.ref b19), .val (.int (0 : Int32)), .val (.int (0 : Int32))] [(.ref b19)])) (fun _ k => XS.aload X34.here hx rfl (hb hby at_285) rfl rfl k) ?_
            refine Go.of (T' := T34) (f' := (mkF m 289 #[.val (.int p1), .val (.int p2), .val (.int p3), .val (.int p4), .val (.int p5), .val (.int u5), .val (.int u6), .val (.int u7), .val (.int u8), .val (.int ((p4 &&& (2147483647 : Int32)) % (3 : Int32))), .val (.int u10), .val (.int u11), .val (.ref ca), .val (.ref b4), .val (.ref b9), .val (.ref b14), .val (.ref b19), .val (.int (0 : Int32)), .val (.int (0 : Int32))] [(.ref b14), (.ref b19)])) (fun _ k => XS.aload X34.here hx rfl (hb hby at_287) rfl rfl k) ?_
            refine goV X34 hx hZ (y := (⟨"com/example/denormal/denormal/modelfile/Relationship", "linksMany", "(Ljava/lang/String;)Z"⟩ : MethodName)) (z := (⟨"com/example/denormal/denormal/modelfile/Relationship", "linksMany", "(Ljava/lang/String;)Z"⟩ : MethodName)) hown (hw _ (List.mem_of_getElem? (i := 60) rfl)) (hw _ (List.mem_of_getElem? (i := 61) rfl)) (notFace_of_selects (args := #[]) (mvT hZ (hw _ (List.mem_of_getElem? (i := 63) rfl)))) (hw _ (List.mem_of_getElem? (i := 63) rfl)) (hw _ (List.mem_of_getElem? (i := 62) rfl)) (by decide) (C := 0) (S := 0) ((rm_linksMany l Z a0 hw b19 b14 b9 ca t13 t18 [u10, u11] [u7, u8] of os zc h21 F_second_b19 F_cardinality_b19 S_b14 S_b9 E_ca F_of F_os hof hos Z_cs hz).bk (W := 0) hZ (hw _ (List.mem_of_getElem? (i := 64) rfl)) (hw _ (List.mem_of_getElem? (i := 40) rfl)) (by decide) (by decide)) e34 E_b19 (argsL := [(.ref b14)]) (rest := []) (by rw [hml]; rfl) (lenOf pd__Ljava_lang_String__Z rfl) rfl rfl (hb hby at_289) (Nat.le_of_eq rfl) (by decide) (by decide) ?_
            intro v36 T36 L36 X36 hQ36
            obtain ⟨nq36, e36, rfl⟩ := hQ36
            replace X36 := standNil X36 nq36
            show Go p e below P T36 (mkF m 292 #[.val (.int p1), .val (.int p2), .val (.int p3), .val (.int p4), .val (.int p5), .val (.int u5), .val (.int u6), .val (.int u7), .val (.int u8), .val (.int ((p4 &&& (2147483647 : Int32)) % (3 : Int32))), .val (.int u10), .val (.int u11), .val (.ref ca), .val (.ref b4), .val (.ref b9), .val (.ref b14), .val (.ref b19), .val (.int (0 : Int32)), .val (.int (0 : Int32))] [(.int (bi ((([u10, u11] : List Int32) = [u7, u8] ∧ os = (0 : Int32)) ∨ (¬ ([u10, u11] : List Int32) = [u7, u8] ∧ of = (0 : Int32)))))])
            refine Go.of (T' := T36) (f' := (mkF m 294 #[.val (.int p1), .val (.int p2), .val (.int p3), .val (.int p4), .val (.int p5), .val (.int u5), .val (.int u6), .val (.int u7), .val (.int u8), .val (.int ((p4 &&& (2147483647 : Int32)) % (3 : Int32))), .val (.int u10), .val (.int u11), .val (.ref ca), .val (.ref b4), .val (.ref b9), .val (.ref b14), .val (.ref b19), .val (.int (0 : Int32)), .val (.int (0 : Int32))] [(.int (0 : Int32)), (.int (bi ((([u10, u11] : List Int32) = [u7, u8] ∧ os = (0 : Int32)) ∨ (¬ ([u10, u11] : List Int32) = [u7, u8] ∧ of = (0 : Int32)))))])) (fun _ k => XS.iload X36.here hx rfl (hb hby at_292) rfl k) ?_
            have hc294 : (bi ((([u10, u11] : List Int32) = [u7, u8] ∧ os = (0 : Int32)) ∨ (¬ ([u10, u11] : List Int32) = [u7, u8] ∧ of = (0 : Int32)))) = (0 : Int32) := bi_f (by rintro (⟨h1, h2⟩ | ⟨h1, h2⟩); exact (fun q => by have q := two_eq.mp q; first | exact hc214 q.1 | exact hc221 q.2) h1; exact ((os0 hrel n12 n13 n14 n23 n24 n34).2.mp h2).elim ha267 ha275)
            refine Go.of (T' := T36) (f' := (mkF m 297 #[.val (.int p1), .val (.int p2), .val (.int p3), .val (.int p4), .val (.int p5), .val (.int u5), .val (.int u6), .val (.int u7), .val (.int u8), .val (.int ((p4 &&& (2147483647 : Int32)) % (3 : Int32))), .val (.int u10), .val (.int u11), .val (.ref ca), .val (.ref b4), .val (.ref b9), .val (.ref b14), .val (.ref b19), .val (.int (0 : Int32)), .val (.int (0 : Int32))] [])) (fun _ k => XS.icmpNo X36.here hx rfl (hb hby at_294) rfl (teq hc294).2 k) ?_
            refine Go.of (T' := T36) (f' := (mkF m 298 #[.val (.int p1), .val (.int p2), .val (.int p3), .val (.int p4), .val (.int p5), .val (.int u5), .val (.int u6), .val (.int u7), .val (.int u8), .val (.int ((p4 &&& (2147483647 : Int32)) % (3 : Int32))), .val (.int u10), .val (.int u11), .val (.ref ca), .val (.ref b4), .val (.ref b9), .val (.ref b14), .val (.ref b19), .val (.int (0 : Int32)), .val (.int (0 : Int32))] [(.int (1 : Int32))])) (fun _ k => XS.iconst X36.here hx rfl (hb hby at_297) k) ?_
            refine Go.of (T' := T36) (f' := (mkF m 302 #[.val (.int p1), .val (.int p2), .val (.int p3), .val (.int p4), .val (.int p5), .val (.int u5), .val (.int u6), .val (.int u7), .val (.int u8), .val (.int ((p4 &&& (2147483647 : Int32)) % (3 : Int32))), .val (.int u10), .val (.int u11), .val (.ref ca), .val (.ref b4), .val (.ref b9), .val (.ref b14), .val (.ref b19), .val (.int (0 : Int32)), .val (.int (0 : Int32))] [(.int (1 : Int32))])) (fun _ k => XS.goto X36.here hx rfl (pc0 := 298) (pc' := 302) rfl (hb hby at_298) (by decide) (by decide) k) ?_
            exact goRetIW (Q := fun v h L => v = some (.int 1) ∧ Mv h0 h [] L) X36 hx hS hk (t := .boolean) hret hlk rfl (by simp) (hb hby at_302) K (by decide) (by decide) e36 (⟨rfl, M21⟩)
    refine Go.of (T' := s₁) (f' := (mkF m 68 #[.val (.int p1), .val (.int p2), .val (.int p3), .val (.int p4), .val (.int p5), .val (.int u5), .val (.int u6), .val (.int u7), .val (.int u8), .val (.int ((p4 &&& (2147483647 : Int32)) % (3 : Int32))), .unset, .unset, .unset, .unset, .unset, .unset, .unset, .unset, .unset] [(.int ((p4 &&& (2147483647 : Int32)) % (3 : Int32)))])) (fun _ k => XS.iload X0.here hx rfl (hb hby at_66) rfl k) ?_
    by_cases hc68 : ((p4 &&& (2147483647 : Int32)) % (3 : Int32)) = (0 : Int32)
    ·
      refine Go.of (T' := s₁) (f' := (mkF m 71 #[.val (.int p1), .val (.int p2), .val (.int p3), .val (.int p4), .val (.int p5), .val (.int u5), .val (.int u6), .val (.int u7), .val (.int u8), .val (.int ((p4 &&& (2147483647 : Int32)) % (3 : Int32))), .unset, .unset, .unset, .unset, .unset, .unset, .unset, .unset, .unset] [])) (fun _ k => XS.ifNo X0.here hx rfl (hb hby at_68) rfl ((if0 _ _).trans (teq hc68).2) k) ?_
      refine Go.of (T' := s₁) (f' := (mkF m 73 #[.val (.int p1), .val (.int p2), .val (.int p3), .val (.int p4), .val (.int p5), .val (.int u5), .val (.int u6), .val (.int u7), .val (.int u8), .val (.int ((p4 &&& (2147483647 : Int32)) % (3 : Int32))), .unset, .unset, .unset, .unset, .unset, .unset, .unset, .unset, .unset] [(.int u7)])) (fun _ k => XS.iload X0.here hx rfl (hb hby at_71) rfl k) ?_
      refine Go.of (T' := s₁) (f' := (mkF m 75 #[.val (.int p1), .val (.int p2), .val (.int p3), .val (.int p4), .val (.int p5), .val (.int u5), .val (.int u6), .val (.int u7), .val (.int u8), .val (.int ((p4 &&& (2147483647 : Int32)) % (3 : Int32))), .val (.int u7), .unset, .unset, .unset, .unset, .unset, .unset, .unset, .unset] [])) (fun _ k => XS.istore X0.here hx rfl (hb hby at_73) rfl (l' := #[.val (.int p1), .val (.int p2), .val (.int p3), .val (.int p4), .val (.int p5), .val (.int u5), .val (.int u6), .val (.int u7), .val (.int u8), .val (.int ((p4 &&& (2147483647 : Int32)) % (3 : Int32))), .val (.int u7), .unset, .unset, .unset, .unset, .unset, .unset, .unset, .unset]) rfl k) ?_
      refine Go.of (T' := s₁) (f' := (mkF m 77 #[.val (.int p1), .val (.int p2), .val (.int p3), .val (.int p4), .val (.int p5), .val (.int u5), .val (.int u6), .val (.int u7), .val (.int u8), .val (.int ((p4 &&& (2147483647 : Int32)) % (3 : Int32))), .val (.int u7), .unset, .unset, .unset, .unset, .unset, .unset, .unset, .unset] [(.int u8)])) (fun _ k => XS.iload X0.here hx rfl (hb hby at_75) rfl k) ?_
      refine Go.of (T' := s₁) (f' := (mkF m 79 #[.val (.int p1), .val (.int p2), .val (.int p3), .val (.int p4), .val (.int p5), .val (.int u5), .val (.int u6), .val (.int u7), .val (.int u8), .val (.int ((p4 &&& (2147483647 : Int32)) % (3 : Int32))), .val (.int u7), .val (.int u8), .unset, .unset, .unset, .unset, .unset, .unset, .unset] [])) (fun _ k => XS.istore X0.here hx rfl (hb hby at_77) rfl (l' := #[.val (.int p1), .val (.int p2), .val (.int p3), .val (.int p4), .val (.int p5), .val (.int u5), .val (.int u6), .val (.int u7), .val (.int u8), .val (.int ((p4 &&& (2147483647 : Int32)) % (3 : Int32))), .val (.int u7), .val (.int u8), .unset, .unset, .unset, .unset, .unset, .unset, .unset]) rfl k) ?_
      refine Go.of (T' := s₁) (f' := (mkF m 118 #[.val (.int p1), .val (.int p2), .val (.int p3), .val (.int p4), .val (.int p5), .val (.int u5), .val (.int u6), .val (.int u7), .val (.int u8), .val (.int ((p4 &&& (2147483647 : Int32)) % (3 : Int32))), .val (.int u7), .val (.int u8), .unset, .unset, .unset, .unset, .unset, .unset, .unset] [])) (fun _ k => XS.goto X0.here hx rfl (pc0 := 79) (pc' := 118) rfl (hb hby at_79) (by decide) (by decide) k) ?_
      exact J2 u7 u8 hu7 hu8
    ·
      refine Go.of (T' := s₁) (f' := (mkF m 82 #[.val (.int p1), .val (.int p2), .val (.int p3), .val (.int p4), .val (.int p5), .val (.int u5), .val (.int u6), .val (.int u7), .val (.int u8), .val (.int ((p4 &&& (2147483647 : Int32)) % (3 : Int32))), .unset, .unset, .unset, .unset, .unset, .unset, .unset, .unset, .unset] [])) (fun _ k => XS.ifYes X0.here hx rfl (pc0 := 68) (pc' := 82) rfl (hb hby at_68) rfl ((if0 _ _).trans (feq hc68).2) (by decide) (by decide) k) ?_
      refine Go.of (T' := s₁) (f' := (mkF m 84 #[.val (.int p1), .val (.int p2), .val (.int p3), .val (.int p4), .val (.int p5), .val (.int u5), .val (.int u6), .val (.int u7), .val (.int u8), .val (.int ((p4 &&& (2147483647 : Int32)) % (3 : Int32))), .unset, .unset, .unset, .unset, .unset, .unset, .unset, .unset, .unset] [(.int ((p4 &&& (2147483647 : Int32)) % (3 : Int32)))])) (fun _ k => XS.iload X0.here hx rfl (hb hby at_82) rfl k) ?_
      refine Go.of (T' := s₁) (f' := (mkF m 85 #[.val (.int p1), .val (.int p2), .val (.int p3), .val (.int p4), .val (.int p5), .val (.int u5), .val (.int u6), .val (.int u7), .val (.int u8), .val (.int ((p4 &&& (2147483647 : Int32)) % (3 : Int32))), .unset, .unset, .unset, .unset, .unset, .unset, .unset, .unset, .unset] [(.int (1 : Int32)), (.int ((p4 &&& (2147483647 : Int32)) % (3 : Int32)))])) (fun _ k => XS.iconst X0.here hx rfl (hb hby at_84) k) ?_
      by_cases hc85 : ((p4 &&& (2147483647 : Int32)) % (3 : Int32)) = (1 : Int32)
      ·
        refine Go.of (T' := s₁) (f' := (mkF m 88 #[.val (.int p1), .val (.int p2), .val (.int p3), .val (.int p4), .val (.int p5), .val (.int u5), .val (.int u6), .val (.int u7), .val (.int u8), .val (.int ((p4 &&& (2147483647 : Int32)) % (3 : Int32))), .unset, .unset, .unset, .unset, .unset, .unset, .unset, .unset, .unset] [])) (fun _ k => XS.icmpNo X0.here hx rfl (hb hby at_85) rfl (teq hc85).2 k) ?_
        refine Go.of (T' := s₁) (f' := (mkF m 90 #[.val (.int p1), .val (.int p2), .val (.int p3), .val (.int p4), .val (.int p5), .val (.int u5), .val (.int u6), .val (.int u7), .val (.int u8), .val (.int ((p4 &&& (2147483647 : Int32)) % (3 : Int32))), .unset, .unset, .unset, .unset, .unset, .unset, .unset, .unset, .unset] [(.int u5)])) (fun _ k => XS.iload X0.here hx rfl (hb hby at_88) rfl k) ?_
        refine Go.of (T' := s₁) (f' := (mkF m 92 #[.val (.int p1), .val (.int p2), .val (.int p3), .val (.int p4), .val (.int p5), .val (.int u5), .val (.int u6), .val (.int u7), .val (.int u8), .val (.int ((p4 &&& (2147483647 : Int32)) % (3 : Int32))), .val (.int u5), .unset, .unset, .unset, .unset, .unset, .unset, .unset, .unset] [])) (fun _ k => XS.istore X0.here hx rfl (hb hby at_90) rfl (l' := #[.val (.int p1), .val (.int p2), .val (.int p3), .val (.int p4), .val (.int p5), .val (.int u5), .val (.int u6), .val (.int u7), .val (.int u8), .val (.int ((p4 &&& (2147483647 : Int32)) % (3 : Int32))), .val (.int u5), .unset, .unset, .unset, .unset, .unset, .unset, .unset, .unset]) rfl k) ?_
        refine Go.of (T' := s₁) (f' := (mkF m 94 #[.val (.int p1), .val (.int p2), .val (.int p3), .val (.int p4), .val (.int p5), .val (.int u5), .val (.int u6), .val (.int u7), .val (.int u8), .val (.int ((p4 &&& (2147483647 : Int32)) % (3 : Int32))), .val (.int u5), .unset, .unset, .unset, .unset, .unset, .unset, .unset, .unset] [(.int u6)])) (fun _ k => XS.iload X0.here hx rfl (hb hby at_92) rfl k) ?_
        refine Go.of (T' := s₁) (f' := (mkF m 96 #[.val (.int p1), .val (.int p2), .val (.int p3), .val (.int p4), .val (.int p5), .val (.int u5), .val (.int u6), .val (.int u7), .val (.int u8), .val (.int ((p4 &&& (2147483647 : Int32)) % (3 : Int32))), .val (.int u5), .val (.int u6), .unset, .unset, .unset, .unset, .unset, .unset, .unset] [])) (fun _ k => XS.istore X0.here hx rfl (hb hby at_94) rfl (l' := #[.val (.int p1), .val (.int p2), .val (.int p3), .val (.int p4), .val (.int p5), .val (.int u5), .val (.int u6), .val (.int u7), .val (.int u8), .val (.int ((p4 &&& (2147483647 : Int32)) % (3 : Int32))), .val (.int u5), .val (.int u6), .unset, .unset, .unset, .unset, .unset, .unset, .unset]) rfl k) ?_
        refine Go.of (T' := s₁) (f' := (mkF m 118 #[.val (.int p1), .val (.int p2), .val (.int p3), .val (.int p4), .val (.int p5), .val (.int u5), .val (.int u6), .val (.int u7), .val (.int u8), .val (.int ((p4 &&& (2147483647 : Int32)) % (3 : Int32))), .val (.int u5), .val (.int u6), .unset, .unset, .unset, .unset, .unset, .unset, .unset] [])) (fun _ k => XS.goto X0.here hx rfl (pc0 := 96) (pc' := 118) rfl (hb hby at_96) (by decide) (by decide) k) ?_
        exact J2 u5 u6 hu5 hu6
      ·
        refine Go.of (T' := s₁) (f' := (mkF m 99 #[.val (.int p1), .val (.int p2), .val (.int p3), .val (.int p4), .val (.int p5), .val (.int u5), .val (.int u6), .val (.int u7), .val (.int u8), .val (.int ((p4 &&& (2147483647 : Int32)) % (3 : Int32))), .unset, .unset, .unset, .unset, .unset, .unset, .unset, .unset, .unset] [])) (fun _ k => XS.icmpYes X0.here hx rfl (pc0 := 85) (pc' := 99) rfl (hb hby at_85) rfl (feq hc85).2 (by decide) (by decide) k) ?_
        refine Go.of (T' := s₁) (f' := (mkF m 100 #[.val (.int p1), .val (.int p2), .val (.int p3), .val (.int p4), .val (.int p5), .val (.int u5), .val (.int u6), .val (.int u7), .val (.int u8), .val (.int ((p4 &&& (2147483647 : Int32)) % (3 : Int32))), .unset, .unset, .unset, .unset, .unset, .unset, .unset, .unset, .unset] [(.int p3)])) (fun _ k => XS.iloadN X0.here hx rfl (hb hby at_99) rfl k) ?_
        refine Go.of (T' := s₁) (f' := (mkF m 103 #[.val (.int p1), .val (.int p2), .val (.int p3), .val (.int p4), .val (.int p5), .val (.int u5), .val (.int u6), .val (.int u7), .val (.int u8), .val (.int ((p4 &&& (2147483647 : Int32)) % (3 : Int32))), .unset, .unset, .unset, .unset, .unset, .unset, .unset, .unset, .unset] [(.int (255 : Int32)), (.int p3)])) (fun _ k => XS.sipush X0.here hx rfl (hb hby at_100) k) ?_
        refine Go.of (T' := s₁) (f' := (mkF m 104 #[.val (.int p1), .val (.int p2), .val (.int p3), .val (.int p4), .val (.int p5), .val (.int u5), .val (.int u6), .val (.int u7), .val (.int u8), .val (.int ((p4 &&& (2147483647 : Int32)) % (3 : Int32))), .unset, .unset, .unset, .unset, .unset, .unset, .unset, .unset, .unset] [(.int (p3 &&& (255 : Int32)))])) (fun _ k => XS.iand X0.here hx rfl (hb hby at_103) rfl k) ?_
        refine Go.of (T' := s₁) (f' := (mkF m 105 #[.val (.int p1), .val (.int p2), .val (.int p3), .val (.int p4), .val (.int p5), .val (.int u5), .val (.int u6), .val (.int u7), .val (.int u8), .val (.int ((p4 &&& (2147483647 : Int32)) % (3 : Int32))), .unset, .unset, .unset, .unset, .unset, .unset, .unset, .unset, .unset] [(.int ((p3 &&& (255 : Int32)).toUInt32.toUInt16.toUInt32.toInt32))])) (fun _ k => XS.i2c X0.here hx rfl (hb hby at_104) rfl k) ?_
        refine Go.of (T' := s₁) (f' := (mkF m 107 #[.val (.int p1), .val (.int p2), .val (.int p3), .val (.int p4), .val (.int p5), .val (.int u5), .val (.int u6), .val (.int u7), .val (.int u8), .val (.int ((p4 &&& (2147483647 : Int32)) % (3 : Int32))), .val (.int ((p3 &&& (255 : Int32)).toUInt32.toUInt16.toUInt32.toInt32)), .unset, .unset, .unset, .unset, .unset, .unset, .unset, .unset] [])) (fun _ k => XS.istore X0.here hx rfl (hb hby at_105) rfl (l' := #[.val (.int p1), .val (.int p2), .val (.int p3), .val (.int p4), .val (.int p5), .val (.int u5), .val (.int u6), .val (.int u7), .val (.int u8), .val (.int ((p4 &&& (2147483647 : Int32)) % (3 : Int32))), .val (.int ((p3 &&& (255 : Int32)).toUInt32.toUInt16.toUInt32.toInt32)), .unset, .unset, .unset, .unset, .unset, .unset, .unset, .unset]) rfl k) ?_
        refine Go.of (T' := s₁) (f' := (mkF m 108 #[.val (.int p1), .val (.int p2), .val (.int p3), .val (.int p4), .val (.int p5), .val (.int u5), .val (.int u6), .val (.int u7), .val (.int u8), .val (.int ((p4 &&& (2147483647 : Int32)) % (3 : Int32))), .val (.int ((p3 &&& (255 : Int32)).toUInt32.toUInt16.toUInt32.toInt32)), .unset, .unset, .unset, .unset, .unset, .unset, .unset, .unset] [(.int p3)])) (fun _ k => XS.iloadN X0.here hx rfl (hb hby at_107) rfl k) ?_
        refine Go.of (T' := s₁) (f' := (mkF m 110 #[.val (.int p1), .val (.int p2), .val (.int p3), .val (.int p4), .val (.int p5), .val (.int u5), .val (.int u6), .val (.int u7), .val (.int u8), .val (.int ((p4 &&& (2147483647 : Int32)) % (3 : Int32))), .val (.int ((p3 &&& (255 : Int32)).toUInt32.toUInt16.toUInt32.toInt32)), .unset, .unset, .unset, .unset, .unset, .unset, .unset, .unset] [(.int (8 : Int32)), (.int p3)])) (fun _ k => XS.bipush X0.here hx rfl (hb hby at_108) k) ?_
        refine Go.of (T' := s₁) (f' := (mkF m 111 #[.val (.int p1), .val (.int p2), .val (.int p3), .val (.int p4), .val (.int p5), .val (.int u5), .val (.int u6), .val (.int u7), .val (.int u8), .val (.int ((p4 &&& (2147483647 : Int32)) % (3 : Int32))), .val (.int ((p3 &&& (255 : Int32)).toUInt32.toUInt16.toUInt32.toInt32)), .unset, .unset, .unset, .unset, .unset, .unset, .unset, .unset] [(.int ((p3.toUInt32 >>> ((8 : Int32) &&& 31).toUInt32).toInt32))])) (fun _ k => XS.iushr X0.here hx rfl (hb hby at_110) rfl k) ?_
        refine Go.of (T' := s₁) (f' := (mkF m 114 #[.val (.int p1), .val (.int p2), .val (.int p3), .val (.int p4), .val (.int p5), .val (.int u5), .val (.int u6), .val (.int u7), .val (.int u8), .val (.int ((p4 &&& (2147483647 : Int32)) % (3 : Int32))), .val (.int ((p3 &&& (255 : Int32)).toUInt32.toUInt16.toUInt32.toInt32)), .unset, .unset, .unset, .unset, .unset, .unset, .unset, .unset] [(.int (255 : Int32)), (.int ((p3.toUInt32 >>> ((8 : Int32) &&& 31).toUInt32).toInt32))])) (fun _ k => XS.sipush X0.here hx rfl (hb hby at_111) k) ?_
        refine Go.of (T' := s₁) (f' := (mkF m 115 #[.val (.int p1), .val (.int p2), .val (.int p3), .val (.int p4), .val (.int p5), .val (.int u5), .val (.int u6), .val (.int u7), .val (.int u8), .val (.int ((p4 &&& (2147483647 : Int32)) % (3 : Int32))), .val (.int ((p3 &&& (255 : Int32)).toUInt32.toUInt16.toUInt32.toInt32)), .unset, .unset, .unset, .unset, .unset, .unset, .unset, .unset] [(.int (((p3.toUInt32 >>> ((8 : Int32) &&& 31).toUInt32).toInt32) &&& (255 : Int32)))])) (fun _ k => XS.iand X0.here hx rfl (hb hby at_114) rfl k) ?_
        refine Go.of (T' := s₁) (f' := (mkF m 116 #[.val (.int p1), .val (.int p2), .val (.int p3), .val (.int p4), .val (.int p5), .val (.int u5), .val (.int u6), .val (.int u7), .val (.int u8), .val (.int ((p4 &&& (2147483647 : Int32)) % (3 : Int32))), .val (.int ((p3 &&& (255 : Int32)).toUInt32.toUInt16.toUInt32.toInt32)), .unset, .unset, .unset, .unset, .unset, .unset, .unset, .unset] [(.int ((((p3.toUInt32 >>> ((8 : Int32) &&& 31).toUInt32).toInt32) &&& (255 : Int32)).toUInt32.toUInt16.toUInt32.toInt32))])) (fun _ k => XS.i2c X0.here hx rfl (hb hby at_115) rfl k) ?_
        refine Go.of (T' := s₁) (f' := (mkF m 118 #[.val (.int p1), .val (.int p2), .val (.int p3), .val (.int p4), .val (.int p5), .val (.int u5), .val (.int u6), .val (.int u7), .val (.int u8), .val (.int ((p4 &&& (2147483647 : Int32)) % (3 : Int32))), .val (.int ((p3 &&& (255 : Int32)).toUInt32.toUInt16.toUInt32.toInt32)), .val (.int ((((p3.toUInt32 >>> ((8 : Int32) &&& 31).toUInt32).toInt32) &&& (255 : Int32)).toUInt32.toUInt16.toUInt32.toInt32)), .unset, .unset, .unset, .unset, .unset, .unset, .unset] [])) (fun _ k => XS.istore X0.here hx rfl (hb hby at_116) rfl (l' := #[.val (.int p1), .val (.int p2), .val (.int p3), .val (.int p4), .val (.int p5), .val (.int u5), .val (.int u6), .val (.int u7), .val (.int u8), .val (.int ((p4 &&& (2147483647 : Int32)) % (3 : Int32))), .val (.int ((p3 &&& (255 : Int32)).toUInt32.toUInt16.toUInt32.toInt32)), .val (.int ((((p3.toUInt32 >>> ((8 : Int32) &&& 31).toUInt32).toInt32) &&& (255 : Int32)).toUInt32.toUInt16.toUInt32.toInt32)), .unset, .unset, .unset, .unset, .unset, .unset, .unset]) rfl k) ?_
        exact J2 ((p3 &&& (255 : Int32)).toUInt32.toUInt16.toUInt32.toInt32) ((((p3.toUInt32 >>> ((8 : Int32) &&& 31).toUInt32).toInt32) &&& (255 : Int32)).toUInt32.toUInt16.toUInt32.toInt32) (m255 _) (m255 _)
  refine Go.of (T' := s₁) (f' := (mkF m 21 #[.val (.int p1), .val (.int p2), .val (.int p3), .val (.int p4), .val (.int p5), .val (.int u5), .val (.int u6), .unset, .unset, .unset, .unset, .unset, .unset, .unset, .unset, .unset, .unset, .unset, .unset] [(.int p5)])) (fun _ k => XS.iload X0.here hx rfl (hb hby at_19) rfl k) ?_
  refine Go.of (T' := s₁) (f' := (mkF m 22 #[.val (.int p1), .val (.int p2), .val (.int p3), .val (.int p4), .val (.int p5), .val (.int u5), .val (.int u6), .unset, .unset, .unset, .unset, .unset, .unset, .unset, .unset, .unset, .unset, .unset, .unset] [(.int (2 : Int32)), (.int p5)])) (fun _ k => XS.iconst X0.here hx rfl (hb hby at_21) k) ?_
  refine Go.of (T' := s₁) (f' := (mkF m 23 #[.val (.int p1), .val (.int p2), .val (.int p3), .val (.int p4), .val (.int p5), .val (.int u5), .val (.int u6), .unset, .unset, .unset, .unset, .unset, .unset, .unset, .unset, .unset, .unset, .unset, .unset] [(.int ((p5.toUInt32 >>> ((2 : Int32) &&& 31).toUInt32).toInt32))])) (fun _ k => XS.iushr X0.here hx rfl (hb hby at_22) rfl k) ?_
  refine Go.of (T' := s₁) (f' := (mkF m 24 #[.val (.int p1), .val (.int p2), .val (.int p3), .val (.int p4), .val (.int p5), .val (.int u5), .val (.int u6), .unset, .unset, .unset, .unset, .unset, .unset, .unset, .unset, .unset, .unset, .unset, .unset] [(.int (1 : Int32)), (.int ((p5.toUInt32 >>> ((2 : Int32) &&& 31).toUInt32).toInt32))])) (fun _ k => XS.iconst X0.here hx rfl (hb hby at_23) k) ?_
  refine Go.of (T' := s₁) (f' := (mkF m 25 #[.val (.int p1), .val (.int p2), .val (.int p3), .val (.int p4), .val (.int p5), .val (.int u5), .val (.int u6), .unset, .unset, .unset, .unset, .unset, .unset, .unset, .unset, .unset, .unset, .unset, .unset] [(.int (((p5.toUInt32 >>> ((2 : Int32) &&& 31).toUInt32).toInt32) &&& (1 : Int32)))])) (fun _ k => XS.iand X0.here hx rfl (hb hby at_24) rfl k) ?_
  by_cases hc25 : (((p5.toUInt32 >>> ((2 : Int32) &&& 31).toUInt32).toInt32) &&& (1 : Int32)) = (0 : Int32)
  ·
    refine Go.of (T' := s₁) (f' := (mkF m 39 #[.val (.int p1), .val (.int p2), .val (.int p3), .val (.int p4), .val (.int p5), .val (.int u5), .val (.int u6), .unset, .unset, .unset, .unset, .unset, .unset, .unset, .unset, .unset, .unset, .unset, .unset] [])) (fun _ k => XS.ifYes X0.here hx rfl (pc0 := 25) (pc' := 39) rfl (hb hby at_25) rfl ((if0 _ _).trans (teq hc25).1) (by decide) (by decide) k) ?_
    refine Go.of (T' := s₁) (f' := (mkF m 40 #[.val (.int p1), .val (.int p2), .val (.int p3), .val (.int p4), .val (.int p5), .val (.int u5), .val (.int u6), .unset, .unset, .unset, .unset, .unset, .unset, .unset, .unset, .unset, .unset, .unset, .unset] [(.int p2)])) (fun _ k => XS.iloadN X0.here hx rfl (hb hby at_39) rfl k) ?_
    refine Go.of (T' := s₁) (f' := (mkF m 43 #[.val (.int p1), .val (.int p2), .val (.int p3), .val (.int p4), .val (.int p5), .val (.int u5), .val (.int u6), .unset, .unset, .unset, .unset, .unset, .unset, .unset, .unset, .unset, .unset, .unset, .unset] [(.int (255 : Int32)), (.int p2)])) (fun _ k => XS.sipush X0.here hx rfl (hb hby at_40) k) ?_
    refine Go.of (T' := s₁) (f' := (mkF m 44 #[.val (.int p1), .val (.int p2), .val (.int p3), .val (.int p4), .val (.int p5), .val (.int u5), .val (.int u6), .unset, .unset, .unset, .unset, .unset, .unset, .unset, .unset, .unset, .unset, .unset, .unset] [(.int (p2 &&& (255 : Int32)))])) (fun _ k => XS.iand X0.here hx rfl (hb hby at_43) rfl k) ?_
    refine Go.of (T' := s₁) (f' := (mkF m 45 #[.val (.int p1), .val (.int p2), .val (.int p3), .val (.int p4), .val (.int p5), .val (.int u5), .val (.int u6), .unset, .unset, .unset, .unset, .unset, .unset, .unset, .unset, .unset, .unset, .unset, .unset] [(.int ((p2 &&& (255 : Int32)).toUInt32.toUInt16.toUInt32.toInt32))])) (fun _ k => XS.i2c X0.here hx rfl (hb hby at_44) rfl k) ?_
    refine Go.of (T' := s₁) (f' := (mkF m 47 #[.val (.int p1), .val (.int p2), .val (.int p3), .val (.int p4), .val (.int p5), .val (.int u5), .val (.int u6), .val (.int ((p2 &&& (255 : Int32)).toUInt32.toUInt16.toUInt32.toInt32)), .unset, .unset, .unset, .unset, .unset, .unset, .unset, .unset, .unset, .unset, .unset] [])) (fun _ k => XS.istore X0.here hx rfl (hb hby at_45) rfl (l' := #[.val (.int p1), .val (.int p2), .val (.int p3), .val (.int p4), .val (.int p5), .val (.int u5), .val (.int u6), .val (.int ((p2 &&& (255 : Int32)).toUInt32.toUInt16.toUInt32.toInt32)), .unset, .unset, .unset, .unset, .unset, .unset, .unset, .unset, .unset, .unset, .unset]) rfl k) ?_
    refine Go.of (T' := s₁) (f' := (mkF m 48 #[.val (.int p1), .val (.int p2), .val (.int p3), .val (.int p4), .val (.int p5), .val (.int u5), .val (.int u6), .val (.int ((p2 &&& (255 : Int32)).toUInt32.toUInt16.toUInt32.toInt32)), .unset, .unset, .unset, .unset, .unset, .unset, .unset, .unset, .unset, .unset, .unset] [(.int p2)])) (fun _ k => XS.iloadN X0.here hx rfl (hb hby at_47) rfl k) ?_
    refine Go.of (T' := s₁) (f' := (mkF m 50 #[.val (.int p1), .val (.int p2), .val (.int p3), .val (.int p4), .val (.int p5), .val (.int u5), .val (.int u6), .val (.int ((p2 &&& (255 : Int32)).toUInt32.toUInt16.toUInt32.toInt32)), .unset, .unset, .unset, .unset, .unset, .unset, .unset, .unset, .unset, .unset, .unset] [(.int (8 : Int32)), (.int p2)])) (fun _ k => XS.bipush X0.here hx rfl (hb hby at_48) k) ?_
    refine Go.of (T' := s₁) (f' := (mkF m 51 #[.val (.int p1), .val (.int p2), .val (.int p3), .val (.int p4), .val (.int p5), .val (.int u5), .val (.int u6), .val (.int ((p2 &&& (255 : Int32)).toUInt32.toUInt16.toUInt32.toInt32)), .unset, .unset, .unset, .unset, .unset, .unset, .unset, .unset, .unset, .unset, .unset] [(.int ((p2.toUInt32 >>> ((8 : Int32) &&& 31).toUInt32).toInt32))])) (fun _ k => XS.iushr X0.here hx rfl (hb hby at_50) rfl k) ?_
    refine Go.of (T' := s₁) (f' := (mkF m 54 #[.val (.int p1), .val (.int p2), .val (.int p3), .val (.int p4), .val (.int p5), .val (.int u5), .val (.int u6), .val (.int ((p2 &&& (255 : Int32)).toUInt32.toUInt16.toUInt32.toInt32)), .unset, .unset, .unset, .unset, .unset, .unset, .unset, .unset, .unset, .unset, .unset] [(.int (255 : Int32)), (.int ((p2.toUInt32 >>> ((8 : Int32) &&& 31).toUInt32).toInt32))])) (fun _ k => XS.sipush X0.here hx rfl (hb hby at_51) k) ?_
    refine Go.of (T' := s₁) (f' := (mkF m 55 #[.val (.int p1), .val (.int p2), .val (.int p3), .val (.int p4), .val (.int p5), .val (.int u5), .val (.int u6), .val (.int ((p2 &&& (255 : Int32)).toUInt32.toUInt16.toUInt32.toInt32)), .unset, .unset, .unset, .unset, .unset, .unset, .unset, .unset, .unset, .unset, .unset] [(.int (((p2.toUInt32 >>> ((8 : Int32) &&& 31).toUInt32).toInt32) &&& (255 : Int32)))])) (fun _ k => XS.iand X0.here hx rfl (hb hby at_54) rfl k) ?_
    refine Go.of (T' := s₁) (f' := (mkF m 56 #[.val (.int p1), .val (.int p2), .val (.int p3), .val (.int p4), .val (.int p5), .val (.int u5), .val (.int u6), .val (.int ((p2 &&& (255 : Int32)).toUInt32.toUInt16.toUInt32.toInt32)), .unset, .unset, .unset, .unset, .unset, .unset, .unset, .unset, .unset, .unset, .unset] [(.int ((((p2.toUInt32 >>> ((8 : Int32) &&& 31).toUInt32).toInt32) &&& (255 : Int32)).toUInt32.toUInt16.toUInt32.toInt32))])) (fun _ k => XS.i2c X0.here hx rfl (hb hby at_55) rfl k) ?_
    refine Go.of (T' := s₁) (f' := (mkF m 58 #[.val (.int p1), .val (.int p2), .val (.int p3), .val (.int p4), .val (.int p5), .val (.int u5), .val (.int u6), .val (.int ((p2 &&& (255 : Int32)).toUInt32.toUInt16.toUInt32.toInt32)), .val (.int ((((p2.toUInt32 >>> ((8 : Int32) &&& 31).toUInt32).toInt32) &&& (255 : Int32)).toUInt32.toUInt16.toUInt32.toInt32)), .unset, .unset, .unset, .unset, .unset, .unset, .unset, .unset, .unset, .unset] [])) (fun _ k => XS.istore X0.here hx rfl (hb hby at_56) rfl (l' := #[.val (.int p1), .val (.int p2), .val (.int p3), .val (.int p4), .val (.int p5), .val (.int u5), .val (.int u6), .val (.int ((p2 &&& (255 : Int32)).toUInt32.toUInt16.toUInt32.toInt32)), .val (.int ((((p2.toUInt32 >>> ((8 : Int32) &&& 31).toUInt32).toInt32) &&& (255 : Int32)).toUInt32.toUInt16.toUInt32.toInt32)), .unset, .unset, .unset, .unset, .unset, .unset, .unset, .unset, .unset, .unset]) rfl k) ?_
    exact J1 ((p2 &&& (255 : Int32)).toUInt32.toUInt16.toUInt32.toInt32) ((((p2.toUInt32 >>> ((8 : Int32) &&& 31).toUInt32).toInt32) &&& (255 : Int32)).toUInt32.toUInt16.toUInt32.toInt32) (m255 _) (m255 _)
  ·
    refine Go.of (T' := s₁) (f' := (mkF m 28 #[.val (.int p1), .val (.int p2), .val (.int p3), .val (.int p4), .val (.int p5), .val (.int u5), .val (.int u6), .unset, .unset, .unset, .unset, .unset, .unset, .unset, .unset, .unset, .unset, .unset, .unset] [])) (fun _ k => XS.ifNo X0.here hx rfl (hb hby at_25) rfl ((if0 _ _).trans (feq hc25).1) k) ?_
    refine Go.of (T' := s₁) (f' := (mkF m 30 #[.val (.int p1), .val (.int p2), .val (.int p3), .val (.int p4), .val (.int p5), .val (.int u5), .val (.int u6), .unset, .unset, .unset, .unset, .unset, .unset, .unset, .unset, .unset, .unset, .unset, .unset] [(.int u5)])) (fun _ k => XS.iload X0.here hx rfl (hb hby at_28) rfl k) ?_
    refine Go.of (T' := s₁) (f' := (mkF m 32 #[.val (.int p1), .val (.int p2), .val (.int p3), .val (.int p4), .val (.int p5), .val (.int u5), .val (.int u6), .val (.int u5), .unset, .unset, .unset, .unset, .unset, .unset, .unset, .unset, .unset, .unset, .unset] [])) (fun _ k => XS.istore X0.here hx rfl (hb hby at_30) rfl (l' := #[.val (.int p1), .val (.int p2), .val (.int p3), .val (.int p4), .val (.int p5), .val (.int u5), .val (.int u6), .val (.int u5), .unset, .unset, .unset, .unset, .unset, .unset, .unset, .unset, .unset, .unset, .unset]) rfl k) ?_
    refine Go.of (T' := s₁) (f' := (mkF m 34 #[.val (.int p1), .val (.int p2), .val (.int p3), .val (.int p4), .val (.int p5), .val (.int u5), .val (.int u6), .val (.int u5), .unset, .unset, .unset, .unset, .unset, .unset, .unset, .unset, .unset, .unset, .unset] [(.int u6)])) (fun _ k => XS.iload X0.here hx rfl (hb hby at_32) rfl k) ?_
    refine Go.of (T' := s₁) (f' := (mkF m 36 #[.val (.int p1), .val (.int p2), .val (.int p3), .val (.int p4), .val (.int p5), .val (.int u5), .val (.int u6), .val (.int u5), .val (.int u6), .unset, .unset, .unset, .unset, .unset, .unset, .unset, .unset, .unset, .unset] [])) (fun _ k => XS.istore X0.here hx rfl (hb hby at_34) rfl (l' := #[.val (.int p1), .val (.int p2), .val (.int p3), .val (.int p4), .val (.int p5), .val (.int u5), .val (.int u6), .val (.int u5), .val (.int u6), .unset, .unset, .unset, .unset, .unset, .unset, .unset, .unset, .unset, .unset]) rfl k) ?_
    refine Go.of (T' := s₁) (f' := (mkF m 58 #[.val (.int p1), .val (.int p2), .val (.int p3), .val (.int p4), .val (.int p5), .val (.int u5), .val (.int u6), .val (.int u5), .val (.int u6), .unset, .unset, .unset, .unset, .unset, .unset, .unset, .unset, .unset, .unset] [])) (fun _ k => XS.goto X0.here hx rfl (pc0 := 36) (pc' := 58) rfl (hb hby at_36) (by decide) (by decide) k) ?_
    exact J1 u5 u6 hu5 hu6
set_option maxRecDepth 65536 in
set_option maxHeartbeats 40000000 in
theorem comes_1 {Post : Tables → Env → Array Value → State → Outcome → State → Prop} (hpost : ∀ tb e args s v u, (limb_1_1.after args s (.returned v) u = true ∧ limb_1_2.after args s (.returned v) u = true ∧ True) → ReturnedEndW s (.returned v) u (Jvm.fieldLocs frame_1_writes args s ++ Jvm.arrayLocs frame_1_arrays args s ++ Jvm.staticLocs frame_1_statics s) 32 1152 → Post tb e args s (.returned v) u) :
    ArmFor flags0 classFile x code maxLocals ret World_1 tables_1 room_1 Calls_1 rest_1 Pre_1 Post := by
  intro l hfl _ _ p e ha hc hk s m args below hf hA hF happ hP
  obtain ⟨hcalls, hrest, hpre⟩ := hP
  obtain ⟨-, -, -, hnamed, -, -, -, hat⟩ := (Spec.applies_iff hf).mp happ
  obtain ⟨hg, hn⟩ := and_e (Cond.before_iff.mp (show (Jvm.Cond.and given_1 narrow_1).before args s = true from hpre))
  obtain ⟨g1, g2⟩ := and_e hg
  obtain ⟨g3, g4⟩ := and_e g2
  obtain ⟨g5, g6⟩ := and_e g4
  obtain ⟨g7, g8⟩ := and_e g6
  obtain ⟨g9, g10⟩ := and_e g8
  obtain ⟨w0, w1, w2, w3, w4, rfl⟩ : ∃ w0 w1 w2 w3 w4 : Value, args = #[w0, w1, w2, w3, w4] := by
    have hs : args.size = 5 := by simpa [Cond.value, given_1] using g1
    obtain ⟨L⟩ := args
    match L, hs with
    | [w0, w1, w2, w3, w4], _ => exact ⟨w0, w1, w2, w3, w4, rfl⟩
  have hw := fun d (hd : d ∈ tables_1) => atoms_spec (ws := Jvm.Cond.code x code maxLocals ret :: tables_1) hat d (List.mem_cons_of_mem _ hd)
  have hfit : Fit s := fun {y c} hc i hi => by
    obtain ⟨ha, rfl⟩ := Array.getElem?_eq_some_iff.mp hc
    have q := List.all_eq_true.mp ((Array.all_eq_true_iff_forall_mem.mp hF) _ (Array.getElem_mem ha)) i (List.mem_range.mpr hi)
    simpa [Array.getElem?_eq_getElem hi] using q
  obtain ⟨hsets, hown0⟩ := atoms_of _ (rest_1_c_eq ▸ (show rest_1_c.before _ s = true from hrest))
  have hr0 := Cond.before_iff.mp hown0
  obtain ⟨i0, ei0⟩ := is_v g3
  obtain rfl : w0 = (.int i0) := Option.some.inj ei0
  obtain ⟨i1, ei1⟩ := is_v g5
  obtain rfl : w1 = (.int i1) := Option.some.inj ei1
  obtain ⟨i2, ei2⟩ := is_v g7
  obtain rfl : w2 = (.int i2) := Option.some.inj ei2
  obtain ⟨i3, ei3⟩ := is_v g9
  obtain rfl : w3 = (.int i3) := Option.some.inj ei3
  obtain ⟨i4, ei4⟩ := is_v g10
  obtain rfl : w4 = (.int i4) := Option.some.inj ei4
  have n3 := not_v (Cond.before_iff.mp (hsets _ (List.mem_of_getElem? (i := 2) rfl)))
  obtain ⟨zc, ezc⟩ := is_v (Cond.before_iff.mp (hsets _ (List.mem_of_getElem? (i := 1) rfl)))
  have Z_cs : Sta s s.heap "java/lang/String" "COMPACT_STRINGS" "Z" (.int zc) := Sta.start ezc (Or.inl (hsets _ (List.mem_of_getElem? (i := 0) rfl)))
  have hz : ¬ (zc = (0 : Int32)) := gotF (Cond.eq_ints ezc (Term.int_eval (0))) n3
  obtain ⟨nn1a, nn1b⟩ := and_e hn
  obtain ⟨nn2a, nn2b⟩ := and_e nn1b
  obtain ⟨nn3a, nn3b⟩ := and_e nn2b
  obtain ⟨nn4a, nn4b⟩ := and_e nn3b
  obtain ⟨nn5a, nn5b⟩ := and_e nn4b
  obtain ⟨nn6a, nn6b⟩ := and_e nn5b
  obtain ⟨nn7a, nn7b⟩ := and_e nn6b
  obtain ⟨nn8a, nn8b⟩ := and_e nn7b
  obtain ⟨nn9a, nn9b⟩ := and_e nn8b
  obtain ⟨nn10a, nn10b⟩ := and_e nn9b
  obtain ⟨nn11a, nn11b⟩ := and_e nn10b
  obtain ⟨nn12a, nn12b⟩ := and_e nn11b
  obtain ⟨nn13a, nn13b⟩ := and_e nn12b
  obtain ⟨nn14a, nn14b⟩ := and_e nn13b
  obtain ⟨nn15a, nn15b⟩ := and_e nn14b
  obtain ⟨c1, ec1⟩ := exa_v nn1a
  have Z_c1 : Sta s s.heap "com/example/denormal/denormal/modelfile/Cardinality" "ONE_TO_ONE" "Lcom/example/denormal/denormal/modelfile/Cardinality;" (.ref c1) := Sta.start ec1 (Or.inr ⟨(hw _ (List.mem_of_getElem? (i := 6) rfl)), (hw _ (List.mem_of_getElem? (i := 7) rfl))⟩)
  have E_c1 := Exa.start ec1 nn1a
  have Fo_c1 := eq_int_v nn7a
  rw [fld_at ec1] at Fo_c1
  replace Fo_c1 := Fld.start Fo_c1
  have Fs_c1 := eq_int_v nn14a
  rw [fld_at ec1] at Fs_c1
  replace Fs_c1 := Fld.start Fs_c1
  have or_c1 := eq_int_v nn3a
  rw [fld_at ec1] at or_c1
  replace or_c1 := Fld.start or_c1
  obtain ⟨c2, ec2⟩ := exa_v nn8a
  have Z_c2 : Sta s s.heap "com/example/denormal/denormal/modelfile/Cardinality" "ONE_TO_MANY" "Lcom/example/denormal/denormal/modelfile/Cardinality;" (.ref c2) := Sta.start ec2 (Or.inr ⟨(hw _ (List.mem_of_getElem? (i := 6) rfl)), (hw _ (List.mem_of_getElem? (i := 83) rfl))⟩)
  have E_c2 := Exa.start ec2 nn8a
  have Fo_c2 := eq_int_v nn11a
  rw [fld_at ec2] at Fo_c2
  replace Fo_c2 := Fld.start Fo_c2
  have Fs_c2 := eq_int_v nn13a
  rw [fld_at ec2] at Fs_c2
  replace Fs_c2 := Fld.start Fs_c2
  have or_c2 := eq_int_v nn9a
  rw [fld_at ec2] at or_c2
  replace or_c2 := Fld.start or_c2
  obtain ⟨c3, ec3⟩ := exa_v nn2a
  have Z_c3 : Sta s s.heap "com/example/denormal/denormal/modelfile/Cardinality" "MANY_TO_ONE" "Lcom/example/denormal/denormal/modelfile/Cardinality;" (.ref c3) := Sta.start ec3 (Or.inr ⟨(hw _ (List.mem_of_getElem? (i := 6) rfl)), (hw _ (List.mem_of_getElem? (i := 57) rfl))⟩)
  have E_c3 := Exa.start ec3 nn2a
  have Fo_c3 := eq_int_v nn15a
  rw [fld_at ec3] at Fo_c3
  replace Fo_c3 := Fld.start Fo_c3
  have Fs_c3 := eq_int_v nn15b
  rw [fld_at ec3] at Fs_c3
  replace Fs_c3 := Fld.start Fs_c3
  have or_c3 := eq_int_v nn4a
  rw [fld_at ec3] at or_c3
  replace or_c3 := Fld.start or_c3
  obtain ⟨c4, ec4⟩ := exa_v nn5a
  have Z_c4 : Sta s s.heap "com/example/denormal/denormal/modelfile/Cardinality" "MANY_TO_MANY" "Lcom/example/denormal/denormal/modelfile/Cardinality;" (.ref c4) := Sta.start ec4 (Or.inr ⟨(hw _ (List.mem_of_getElem? (i := 6) rfl)), (hw _ (List.mem_of_getElem? (i := 59) rfl))⟩)
  have E_c4 := Exa.start ec4 nn5a
  have Fo_c4 := eq_int_v nn12a
  rw [fld_at ec4] at Fo_c4
  replace Fo_c4 := Fld.start Fo_c4
  have Fs_c4 := eq_int_v nn10a
  rw [fld_at ec4] at Fs_c4
  replace Fs_c4 := Fld.start Fs_c4
  have or_c4 := eq_int_v nn6a
  rw [fld_at ec4] at or_c4
  replace or_c4 := Fld.start or_c4
  have n12 : c1 ≠ c2 := Fld.ne or_c1 or_c2 (by decide)
  have n13 : c1 ≠ c3 := Fld.ne or_c1 or_c3 (by decide)
  have n14 : c1 ≠ c4 := Fld.ne or_c1 or_c4 (by decide)
  have n23 : c2 ≠ c3 := Fld.ne or_c2 or_c3 (by decide)
  have n24 : c2 ≠ c4 := Fld.ne or_c2 or_c4 (by decide)
  have n34 : c3 ≠ c4 := Fld.ne or_c3 or_c4 (by decide)
  obtain ⟨n, o, h1, h2, h3, _, L, rfl, ⟨rfl, M⟩, hq⟩ := rm_law l s _ hw i0 i1 i2 i3 i4 zc c1 c2 c3 c4 s.heap Z_cs hz Z_c1 E_c1 Fo_c1 Fs_c1 Z_c2 E_c2 Fo_c2 Fs_c2 Z_c3 E_c3 Fo_c3 Fs_c3 Z_c4 E_c4 Fo_c4 Fs_c4 n12 n13 n14 n23 n24 n34 tables_1 p e ha hc hk s m _ below hf ((Spec.applies_iff_loose hf).mp happ).1 ⟨rfl, State.Warmed39.refl s, rfl⟩ trivial
  refine ⟨n, _, h1, h2, h3, hpost _ _ _ _ _ _ ⟨Cond.after_iff.mpr rfl, Cond.after_iff.mpr (eq_i res_at (Term.int_eval (1)) rfl), trivial⟩ ⟨hq.1, hq.2.1, hq.2.2.1, (hq.2.2.2.sift fun y hy => Or.inr (M.fr y hy)).mono (by decide) (by decide)⟩⟩
theorem main_1_1 : Claimed_1_1 := comes_1 fun _ _ _ _ _ _ h hF => ⟨h.1, hF⟩
theorem main_1_2 : Claimed_1_2 := comes_1 fun _ _ _ _ _ _ h hF => ⟨h.2.1, hF⟩
end Jvm.Pilot.@@N@@
namespace Jvm.Pilot.@@N@@
open Jvm Jvm.ClassFile Sem Op Lib Jvm.Free Jvm.Stand Jvm.Pilot.@@N@@.Jvm.D
/-! MADE BY PROGRAM (witnessworld.py) out of the Statement's table words and the real class files: 22 classes; the members and pool entries that the words name. The judged class is class 1, her method 2. -/
namespace start1
open Jvm.ClassFile
def u (s : String) : CpInfo := .utf8 (stringToUtf16 s)
/-- a pool by its gaps: so many unusable entries, then the entry; so many at the end -/
def gap : Nat → List CpInfo → List CpInfo
  | 0, r => r
  | n + 1, r => .unusable :: gap n r
def poolList (es : List (Nat × CpInfo)) (last : Nat) : List CpInfo := es.foldr (fun e r => gap e.1 (e.2 :: r)) (gap last [])
def pool (es : List (Nat × CpInfo)) (last : Nat) : Array CpInfo := ⟨poolList es last⟩
def fileOf (pool : Array CpInfo) (this : Nat) (attrs : Array Attribute := #[]) (ms : Array MethodInfo := #[]) (fl : Nat := 33) (sup : Nat := 0) (ifs : Array Nat := #[]) (fds : Array FieldInfo := #[]) : ClassFile where
  minorVersion := 0
  majorVersion := 65
  constantPool := pool
  accessFlags := fl
  thisClass := this
  superClass := sup
  interfaces := ifs
  fields := fds
  methods := ms
  attributes := attrs
def plain (name : String) (sup : Option ClassId) : Class where
  name := name
  kind := .ordinary
  loader := none
  accessFlags := 33
  super := sup
  interfaces := #[]
  cf := none
  fields := #[]
  methods := #[]
  instanceTypes := #[]
  staticTypes := #[]
  resolved := #[]
  callSites := []
  init := .initialized
  statics := none
  mirror := none

def pool0 : Array CpInfo := pool [(5, u "<init>"), (0, u "()V"), (1, .class_ 10), (1, u "java/lang/Object")] 113

def k0c0 : Code := { maxStack := 0, maxLocals := 1, code := object_method_1_code, exceptionTable := #[], attributes := #[] }
def k0m0 : Method := { name := "<init>", desc := "()V", sig := { parameters := [], returnType := none }, accessFlags := 1, code := some k0c0 }
/-- java/lang/Object -/
def k0 : Class := { plain "java/lang/Object" none with
  accessFlags := 33
  interfaces := #[]
  cf := some (fileOf pool0 8 #[] #[{ accessFlags := 1, nameIndex := 5, descriptorIndex := 6, attributes := #[] }] 33 0 #[] #[])
  fields := #[]
  methods := #[k0m0]
  instanceTypes := #[]
  staticTypes := #[]
  resolved := Array.replicate 124 none
  statics := none }

def pool1 : Array CpInfo := pool [(2, .class_ 4), (1, u "java/lang/Object"), (0, u "<init>"), (0, u "()V"), (0, .fieldref 8 9), (0, .class_ 10), (0, .nameAndType 11 12), (0, u "com/example/denormal/denormal/modelfile/Cardinality"), (0, u "ONE_TO_ONE"), (0, u "Lcom/example/denormal/denormal/modelfile/Cardinality;"), (0, .fieldref 8 14), (0, .nameAndType 15 12), (0, u "ONE_TO_MANY"), (0, .fieldref 8 17), (0, .nameAndType 18 12), (0, u "MANY_TO_ONE"), (0, .fieldref 8 20), (0, .nameAndType 21 12), (0, u "MANY_TO_MANY"), (0, .integer 2147483647), (0, .methodref 24 25), (0, .class_ 26), (0, .nameAndType 27 28), (0, u "com/example/denormal/denormal/modelfile/RelationshipLinksManyPinLaw"), (0, u "cardinalityOf"), (0, u "(I)Lcom/example/denormal/denormal/modelfile/Cardinality;"), (0, .class_ 30), (0, u "java/lang/String"), (0, .methodref 29 32), (0, .nameAndType 5 33), (0, u "([C)V"), (0, .class_ 35), (0, u "com/example/denormal/denormal/modelfile/Relationship"), (0, .string 37), (0, u "r"), (0, .methodref 34 39), (0, .nameAndType 5 40), (0, u "(Ljava/lang/String;Ljava/lang/String;Ljava/lang/String;Lcom/example/denormal/denormal/modelfile/Cardinality;)V"), (0, .methodref 34 42), (0, .nameAndType 43 44), (0, u "linksMany"), (0, u "(Ljava/lang/String;)Z"), (3, u "law"), (0, u "(IIIII)Z")] 2

def k1m0 : Method := { name := "<init>", desc := "()V", sig := { parameters := [], returnType := none }, accessFlags := 1, code := none }
def k1c1 : Code := { maxStack := 2, maxLocals := 1, code := method_2_code, exceptionTable := #[], attributes := #[] }
def k1m1 : Method := { name := "cardinalityOf", desc := "(I)Lcom/example/denormal/denormal/modelfile/Cardinality;", sig := { parameters := [.int], returnType := some (.object "com/example/denormal/denormal/modelfile/Cardinality") }, accessFlags := 10, code := some k1c1 }
def k1c2 : Code := { maxStack := 6, maxLocals := 19, code := code, exceptionTable := #[], attributes := #[] }
def k1m2 : Method := { name := "law", desc := "(IIIII)Z", sig := { parameters := [.int, .int, .int, .int, .int], returnType := some .boolean }, accessFlags := 9, code := some k1c2 }
/-- com/example/denormal/denormal/modelfile/RelationshipLinksManyPinLaw -/
def k1 : Class := { plain "com/example/denormal/denormal/modelfile/RelationshipLinksManyPinLaw" (some 0) with
  accessFlags := 49
  interfaces := #[]
  cf := some (fileOf pool1 24 #[] #[{ accessFlags := 1, nameIndex := 5, descriptorIndex := 6, attributes := #[] }, { accessFlags := 10, nameIndex := 27, descriptorIndex := 28, attributes := #[] }, { accessFlags := 9, nameIndex := 48, descriptorIndex := 49, attributes := #[] }] 49 2 #[] #[])
  fields := #[]
  methods := #[k1m0, k1m1, k1m2]
  instanceTypes := #[]
  staticTypes := #[]
  resolved := Array.replicate 52 none
  statics := none }

def pool2 : Array CpInfo := pool [(1, .class_ 2), (0, u "java/lang/constant/Constable"), (0, .class_ 4), (0, u "java/lang/Object")] 6

/-- java/lang/constant/Constable -/
def k2 : Class := { plain "java/lang/constant/Constable" (some 0) with
  accessFlags := 1537
  interfaces := #[]
  cf := some (fileOf pool2 1 #[] #[] 1537 3 #[] #[])
  fields := #[]
  methods := #[]
  instanceTypes := #[]
  staticTypes := #[]
  resolved := Array.replicate 11 none
  statics := none }

def pool3 : Array CpInfo := pool [(1, .class_ 2), (0, u "java/lang/Comparable"), (0, .class_ 4), (0, u "java/lang/Object")] 7

/-- java/lang/Comparable -/
def k3 : Class := { plain "java/lang/Comparable" (some 0) with
  accessFlags := 1537
  interfaces := #[]
  cf := some (fileOf pool3 1 #[] #[] 1537 3 #[] #[])
  fields := #[]
  methods := #[]
  instanceTypes := #[]
  staticTypes := #[]
  resolved := Array.replicate 12 none
  statics := none }

def pool4 : Array CpInfo := pool [(1, .class_ 2), (0, u "java/io/Serializable"), (0, .class_ 4), (0, u "java/lang/Object")] 2

/-- java/io/Serializable -/
def k4 : Class := { plain "java/io/Serializable" (some 0) with
  accessFlags := 1537
  interfaces := #[]
  cf := some (fileOf pool4 1 #[] #[] 1537 3 #[] #[])
  fields := #[]
  methods := #[]
  instanceTypes := #[]
  staticTypes := #[]
  resolved := Array.replicate 7 none
  statics := none }

def pool5 : Array CpInfo := pool [(2, .class_ 4), (1, u "java/lang/Enum"), (0, u "name"), (0, u "Ljava/lang/String;"), (2, u "ordinal"), (0, u "I"), (1, .class_ 14), (1, u "java/lang/Object"), (4, u "hash"), (86, .class_ 108), (1, u "java/lang/Enum$EnumDesc"), (2, .class_ 112), (0, u "java/lang/constant/Constable"), (0, .class_ 114), (0, u "java/lang/Comparable"), (0, .class_ 116), (0, u "java/io/Serializable")] 87

/-- java/lang/Enum -/
def k5 : Class := { plain "java/lang/Enum" (some 0) with
  accessFlags := 1057
  interfaces := #[2, 3, 4]
  cf := some (fileOf pool5 2 #[.nestMembers #[106]] #[] 1057 12 #[111, 113, 115] #[{ accessFlags := 18, nameIndex := 5, descriptorIndex := 6, attributes := #[] }, { accessFlags := 18, nameIndex := 9, descriptorIndex := 10, attributes := #[] }, { accessFlags := 2, nameIndex := 19, descriptorIndex := 10, attributes := #[] }])
  fields := #[{ name := "name", type := (.object "java/lang/String"), accessFlags := 18, slot := 0, constantValue := 0 }, { name := "ordinal", type := .int, accessFlags := 18, slot := 1, constantValue := 0 }, { name := "hash", type := .int, accessFlags := 2, slot := 2, constantValue := 0 }]
  methods := #[]
  instanceTypes := #[(.object "java/lang/String"), .int, .int]
  staticTypes := #[]
  resolved := Array.replicate 204 none
  statics := none }

def pool6 : Array CpInfo := pool [(1, .class_ 2), (0, u "com/example/denormal/denormal/modelfile/Cardinality"), (2, u "ONE_TO_ONE"), (0, u "Lcom/example/denormal/denormal/modelfile/Cardinality;"), (2, u "ONE_TO_MANY"), (2, u "MANY_TO_ONE"), (2, u "MANY_TO_MANY"), (2, u "$VALUES"), (0, u "[Lcom/example/denormal/denormal/modelfile/Cardinality;"), (6, .class_ 28), (1, u "java/lang/Enum"), (8, u "written"), (0, u "Ljava/lang/String;"), (0, .fieldref 1 40), (0, .nameAndType 41 42), (0, u "isOneFirst"), (0, u "Z"), (0, .fieldref 1 44), (0, .nameAndType 45 42), (0, u "isOneSecond"), (54, u "()Z")] 29

def k6c0 : Code := { maxStack := 1, maxLocals := 1, code := prog_4_method_4_code, exceptionTable := #[], attributes := #[] }
def k6m0 : Method := { name := "isOneFirst", desc := "()Z", sig := { parameters := [], returnType := some .boolean }, accessFlags := 1, code := some k6c0 }
def k6c1 : Code := { maxStack := 1, maxLocals := 1, code := prog_4_method_5_code, exceptionTable := #[], attributes := #[] }
def k6m1 : Method := { name := "isOneSecond", desc := "()Z", sig := { parameters := [], returnType := some .boolean }, accessFlags := 1, code := some k6c1 }
/-- com/example/denormal/denormal/modelfile/Cardinality -/
def k6 : Class := { plain "com/example/denormal/denormal/modelfile/Cardinality" (some 5) with
  accessFlags := 16433
  interfaces := #[]
  cf := some (fileOf pool6 1 #[] #[{ accessFlags := 1, nameIndex := 41, descriptorIndex := 100, attributes := #[] }, { accessFlags := 1, nameIndex := 45, descriptorIndex := 100, attributes := #[] }] 16433 26 #[] #[{ accessFlags := 16409, nameIndex := 5, descriptorIndex := 6, attributes := #[] }, { accessFlags := 16409, nameIndex := 9, descriptorIndex := 6, attributes := #[] }, { accessFlags := 16409, nameIndex := 12, descriptorIndex := 6, attributes := #[] }, { accessFlags := 16409, nameIndex := 15, descriptorIndex := 6, attributes := #[] }, { accessFlags := 18, nameIndex := 37, descriptorIndex := 38, attributes := #[] }, { accessFlags := 18, nameIndex := 41, descriptorIndex := 42, attributes := #[] }, { accessFlags := 18, nameIndex := 45, descriptorIndex := 42, attributes := #[] }, { accessFlags := 4122, nameIndex := 18, descriptorIndex := 19, attributes := #[] }])
  fields := #[{ name := "ONE_TO_ONE", type := (.object "com/example/denormal/denormal/modelfile/Cardinality"), accessFlags := 16409, slot := 0, constantValue := 0 }, { name := "ONE_TO_MANY", type := (.object "com/example/denormal/denormal/modelfile/Cardinality"), accessFlags := 16409, slot := 1, constantValue := 0 }, { name := "MANY_TO_ONE", type := (.object "com/example/denormal/denormal/modelfile/Cardinality"), accessFlags := 16409, slot := 2, constantValue := 0 }, { name := "MANY_TO_MANY", type := (.object "com/example/denormal/denormal/modelfile/Cardinality"), accessFlags := 16409, slot := 3, constantValue := 0 }, { name := "written", type := (.object "java/lang/String"), accessFlags := 18, slot := 3, constantValue := 0 }, { name := "isOneFirst", type := .boolean, accessFlags := 18, slot := 4, constantValue := 0 }, { name := "isOneSecond", type := .boolean, accessFlags := 18, slot := 5, constantValue := 0 }, { name := "$VALUES", type := (.array (.object "com/example/denormal/denormal/modelfile/Cardinality")), accessFlags := 4122, slot := 4, constantValue := 0 }]
  methods := #[k6m0, k6m1]
  instanceTypes := #[(.object "java/lang/String"), .int, .int, (.object "java/lang/String"), .boolean, .boolean]
  staticTypes := #[(.object "com/example/denormal/denormal/modelfile/Cardinality"), (.object "com/example/denormal/denormal/modelfile/Cardinality"), (.object "com/example/denormal/denormal/modelfile/Cardinality"), (.object "com/example/denormal/denormal/modelfile/Cardinality"), (.array (.object "com/example/denormal/denormal/modelfile/Cardinality"))]
  resolved := Array.replicate 130 none
  statics := some 0 }

def pool7 : Array CpInfo := pool [(2, .class_ 4), (1, u "java/lang/CharSequence"), (42, .class_ 48), (0, u "java/lang/CharSequence$1CodePointIterator"), (10, .class_ 60), (0, u "java/lang/CharSequence$1CharIterator"), (5, .class_ 67), (0, u "java/lang/Object")] 63

/-- java/lang/CharSequence -/
def k7 : Class := { plain "java/lang/CharSequence" (some 0) with
  accessFlags := 1537
  interfaces := #[]
  cf := some (fileOf pool7 2 #[.nestMembers #[47, 59]] #[] 1537 66 #[] #[])
  fields := #[]
  methods := #[]
  instanceTypes := #[]
  staticTypes := #[]
  resolved := Array.replicate 131 none
  statics := none }

def pool8 : Array CpInfo := pool [(1, .class_ 2), (0, u "java/lang/constant/ConstantDesc"), (0, .class_ 4), (0, u "java/lang/Object")] 32

/-- java/lang/constant/ConstantDesc -/
def k8 : Class := { plain "java/lang/constant/ConstantDesc" (some 0) with
  accessFlags := 1537
  interfaces := #[]
  cf := some (fileOf pool8 1 #[] #[] 1537 3 #[] #[])
  fields := #[]
  methods := #[]
  instanceTypes := #[]
  staticTypes := #[]
  resolved := Array.replicate 37 none
  statics := none }

def pool9 : Array CpInfo := pool [(1, .methodref 2 3), (0, .class_ 4), (0, .nameAndType 5 6), (0, u "java/lang/Object"), (0, u "<init>"), (0, u "()V"), (2, .fieldref 10 11), (0, .class_ 12), (0, .nameAndType 13 14), (0, u "java/lang/String"), (0, u "value"), (0, u "[B"), (0, .fieldref 10 16), (0, .nameAndType 17 18), (0, u "coder"), (0, u "B"), (2, u "hash"), (0, u "I"), (2, u "hashIsZero"), (0, u "Z"), (0, .methodref 10 28), (0, .nameAndType 5 29), (0, u "([CIILjava/lang/Void;)V"), (8, .fieldref 10 39), (0, .nameAndType 40 26), (0, u "COMPACT_STRINGS"), (1, .class_ 44), (1, u "java/lang/StringUTF16"), (0, u "compress"), (1, .methodref 42 48), (0, .nameAndType 49 50), (0, u "coderFromArrayLen"), (0, u "([BI)B"), (56, .class_ 109), (1, u "java/lang/StringLatin1"), (67, .methodref 42 178), (0, .nameAndType 45 179), (0, u "([CII)[B"), (361, .methodref 107 542), (0, .nameAndType 543 544), (0, u "equals"), (0, u "([B[B)Z"), (28, u "(Ljava/lang/Object;)Z"), (1, .class_ 576), (0, u "java/lang/CharSequence"), (22, u "CASE_INSENSITIVE_ORDER"), (0, u "Ljava/util/Comparator;"), (409, u "([C)V"), (90, u "serialPersistentFields"), (0, u "[Ljava/io/ObjectStreamField;"), (0, .class_ 1104), (0, u "java/lang/String$CaseInsensitiveComparator"), (1, .class_ 1107), (0, u "java/io/Serializable"), (0, .class_ 1109), (0, u "java/lang/Comparable"), (0, .class_ 1111), (0, u "java/lang/constant/Constable"), (0, .class_ 1113), (0, u "java/lang/constant/ConstantDesc"), (2, u "serialVersionUID"), (0, u "J"), (3, u "REPL"), (0, u "C"), (2, u "LATIN1"), (1, u "UTF16")] 323

def k9m0 : Method := { name := "<init>", desc := "()V", sig := { parameters := [], returnType := none }, accessFlags := 1, code := none }
def k9c1 : Code := { maxStack := 5, maxLocals := 2, code := jdk_42_method_3_code, exceptionTable := #[], attributes := #[] }
def k9m1 : Method := { name := "<init>", desc := "([C)V", sig := { parameters := [(.array .char)], returnType := none }, accessFlags := 1, code := some k9c1 }
def k9c2 : Code := { maxStack := 2, maxLocals := 3, code := jdk_42_method_66_code, exceptionTable := #[], attributes := #[] }
def k9m2 : Method := { name := "equals", desc := "(Ljava/lang/Object;)Z", sig := { parameters := [(.object "java/lang/Object")], returnType := some .boolean }, accessFlags := 1, code := some k9c2 }
def k9c3 : Code := { maxStack := 4, maxLocals := 6, code := jdk_42_method_149_code, exceptionTable := #[], attributes := #[] }
def k9m3 : Method := { name := "<init>", desc := "([CIILjava/lang/Void;)V", sig := { parameters := [(.array .char), .int, .int, (.object "java/lang/Void")], returnType := none }, accessFlags := 2, code := some k9c3 }
/-- java/lang/String -/
def k9 : Class := { plain "java/lang/String" (some 0) with
  accessFlags := 49
  interfaces := #[4, 3, 7, 2, 8]
  cf := some (fileOf pool9 10 #[.nestMembers #[1103]] #[{ accessFlags := 1, nameIndex := 5, descriptorIndex := 6, attributes := #[] }, { accessFlags := 1, nameIndex := 5, descriptorIndex := 1010, attributes := #[] }, { accessFlags := 1, nameIndex := 543, descriptorIndex := 573, attributes := #[] }, { accessFlags := 2, nameIndex := 5, descriptorIndex := 29, attributes := #[] }] 49 2 #[1106, 1108, 575, 1110, 1112] #[{ accessFlags := 18, nameIndex := 13, descriptorIndex := 14, attributes := #[] }, { accessFlags := 18, nameIndex := 17, descriptorIndex := 18, attributes := #[] }, { accessFlags := 2, nameIndex := 21, descriptorIndex := 22, attributes := #[] }, { accessFlags := 2, nameIndex := 25, descriptorIndex := 26, attributes := #[] }, { accessFlags := 26, nameIndex := 1116, descriptorIndex := 1117, attributes := #[] }, { accessFlags := 24, nameIndex := 40, descriptorIndex := 26, attributes := #[] }, { accessFlags := 26, nameIndex := 1101, descriptorIndex := 1102, attributes := #[] }, { accessFlags := 26, nameIndex := 1121, descriptorIndex := 1122, attributes := #[] }, { accessFlags := 25, nameIndex := 599, descriptorIndex := 600, attributes := #[] }, { accessFlags := 24, nameIndex := 1125, descriptorIndex := 18, attributes := #[] }, { accessFlags := 24, nameIndex := 1127, descriptorIndex := 18, attributes := #[] }])
  fields := #[{ name := "value", type := (.array .byte), accessFlags := 18, slot := 0, constantValue := 0 }, { name := "coder", type := .byte, accessFlags := 18, slot := 1, constantValue := 0 }, { name := "hash", type := .int, accessFlags := 2, slot := 2, constantValue := 0 }, { name := "hashIsZero", type := .boolean, accessFlags := 2, slot := 3, constantValue := 0 }, { name := "serialVersionUID", type := .long, accessFlags := 26, slot := 0, constantValue := 0 }, { name := "COMPACT_STRINGS", type := .boolean, accessFlags := 24, slot := 1, constantValue := 0 }, { name := "serialPersistentFields", type := (.array (.object "java/io/ObjectStreamField")), accessFlags := 26, slot := 2, constantValue := 0 }, { name := "REPL", type := .char, accessFlags := 26, slot := 3, constantValue := 0 }, { name := "CASE_INSENSITIVE_ORDER", type := (.object "java/util/Comparator"), accessFlags := 25, slot := 4, constantValue := 0 }, { name := "LATIN1", type := .byte, accessFlags := 24, slot := 5, constantValue := 0 }, { name := "UTF16", type := .byte, accessFlags := 24, slot := 6, constantValue := 0 }]
  methods := #[k9m0, k9m1, k9m2, k9m3]
  instanceTypes := #[(.array .byte), .byte, .int, .boolean]
  staticTypes := #[.long, .boolean, (.array (.object "java/io/ObjectStreamField")), .char, (.object "java/util/Comparator"), .byte, .byte]
  resolved := Array.replicate 1451 none
  statics := some 1 }

def pool10 : Array CpInfo := pool [(6, .class_ 8), (1, u "java/lang/Object"), (0, u "<init>"), (0, u "()V"), (1, .class_ 14), (1, u "java/lang/StringUTF16"), (31, u "$assertionsDisabled"), (0, u "Z"), (13, u "HI_BYTE_SHIFT"), (0, u "I"), (2, u "LO_BYTE_SHIFT"), (49, .methodref 12 116), (0, .nameAndType 117 118), (0, u "compress"), (0, u "([CI[BII)I"), (3, u "([CII)[B"), (138, u "coderFromArrayLen"), (0, u "([BI)B"), (106, .class_ 371), (1, u "java/lang/StringUTF16$LinesSpliterator"), (58, u "MAX_LENGTH"), (196, .class_ 628), (0, u "java/lang/StringUTF16$CodePointsSpliterator"), (0, .class_ 630), (0, u "java/lang/StringUTF16$CharsSpliterator")] 4

def k10m0 : Method := { name := "<init>", desc := "()V", sig := { parameters := [], returnType := none }, accessFlags := 0, code := none }
def k10c1 : Code := { maxStack := 2, maxLocals := 2, code := jdk_52_method_15_code, exceptionTable := #[], attributes := #[] }
def k10m1 : Method := { name := "coderFromArrayLen", desc := "([BI)B", sig := { parameters := [(.array .byte), .int], returnType := some .byte }, accessFlags := 8, code := some k10c1 }
def k10c2 : Code := { maxStack := 5, maxLocals := 6, code := jdk_52_method_16_code, exceptionTable := #[], attributes := #[] }
def k10m2 : Method := { name := "compress", desc := "([CII)[B", sig := { parameters := [(.array .char), .int, .int], returnType := some (.array .byte) }, accessFlags := 9, code := some k10c2 }
def k10c3 : Code := { maxStack := 3, maxLocals := 7, code := jdk_52_method_21_code, exceptionTable := #[], attributes := #[] }
def k10m3 : Method := { name := "compress", desc := "([CI[BII)I", sig := { parameters := [(.array .char), .int, (.array .byte), .int, .int], returnType := some .int }, accessFlags := 9, code := some k10c3 }
/-- java/lang/StringUTF16 -/
def k10 : Class := { plain "java/lang/StringUTF16" (some 0) with
  accessFlags := 48
  interfaces := #[]
  cf := some (fileOf pool10 12 #[.nestMembers #[627, 629, 369]] #[{ accessFlags := 0, nameIndex := 9, descriptorIndex := 10, attributes := #[] }, { accessFlags := 8, nameIndex := 261, descriptorIndex := 262, attributes := #[] }, { accessFlags := 9, nameIndex := 117, descriptorIndex := 122, attributes := #[] }, { accessFlags := 9, nameIndex := 117, descriptorIndex := 118, attributes := #[] }] 48 6 #[] #[{ accessFlags := 26, nameIndex := 61, descriptorIndex := 62, attributes := #[] }, { accessFlags := 26, nameIndex := 65, descriptorIndex := 62, attributes := #[] }, { accessFlags := 24, nameIndex := 430, descriptorIndex := 62, attributes := #[] }, { accessFlags := 4120, nameIndex := 46, descriptorIndex := 47, attributes := #[] }])
  fields := #[{ name := "HI_BYTE_SHIFT", type := .int, accessFlags := 26, slot := 0, constantValue := 0 }, { name := "LO_BYTE_SHIFT", type := .int, accessFlags := 26, slot := 1, constantValue := 0 }, { name := "MAX_LENGTH", type := .int, accessFlags := 24, slot := 2, constantValue := 0 }, { name := "$assertionsDisabled", type := .boolean, accessFlags := 4120, slot := 3, constantValue := 0 }]
  methods := #[k10m0, k10m1, k10m2, k10m3]
  instanceTypes := #[]
  staticTypes := #[.int, .int, .int, .boolean]
  resolved := Array.replicate 635 none
  statics := none }

def pool11 : Array CpInfo := pool [(1, .methodref 2 3), (0, .class_ 4), (0, .nameAndType 5 6), (0, u "java/lang/Object"), (0, u "<init>"), (0, u "()V"), (0, .fieldref 8 9), (0, .class_ 10), (0, .nameAndType 11 12), (0, u "com/example/denormal/denormal/modelfile/Relationship"), (0, u "name"), (0, u "Ljava/lang/String;"), (0, .fieldref 8 14), (0, .nameAndType 15 12), (0, u "first"), (0, .fieldref 8 17), (0, .nameAndType 18 12), (0, u "second"), (0, .fieldref 8 20), (0, .nameAndType 21 22), (0, u "cardinality"), (0, u "Lcom/example/denormal/denormal/modelfile/Cardinality;"), (0, .methodref 24 25), (0, .class_ 26), (0, .nameAndType 27 28), (0, u "java/lang/String"), (0, u "equals"), (0, u "(Ljava/lang/Object;)Z"), (0, .methodref 30 31), (0, .class_ 32), (0, .nameAndType 33 34), (0, u "com/example/denormal/denormal/modelfile/Cardinality"), (0, u "isOneSecond"), (0, u "()Z"), (0, .methodref 30 36), (0, .nameAndType 37 34), (0, u "isOneFirst"), (6, u "(Ljava/lang/String;Ljava/lang/String;Ljava/lang/String;Lcom/example/denormal/denormal/modelfile/Cardinality;)V"), (7, u "linksMany"), (0, u "(Ljava/lang/String;)Z")] 3

def k11c0 : Code := { maxStack := 2, maxLocals := 5, code := prog_7_method_1_code, exceptionTable := #[], attributes := #[] }
def k11m0 : Method := { name := "<init>", desc := "(Ljava/lang/String;Ljava/lang/String;Ljava/lang/String;Lcom/example/denormal/denormal/modelfile/Cardinality;)V", sig := { parameters := [(.object "java/lang/String"), (.object "java/lang/String"), (.object "java/lang/String"), (.object "com/example/denormal/denormal/modelfile/Cardinality")], returnType := none }, accessFlags := 0, code := some k11c0 }
def k11c1 : Code := { maxStack := 2, maxLocals := 2, code := prog_7_method_7_code, exceptionTable := #[], attributes := #[] }
def k11m1 : Method := { name := "linksMany", desc := "(Ljava/lang/String;)Z", sig := { parameters := [(.object "java/lang/String")], returnType := some .boolean }, accessFlags := 0, code := some k11c1 }
/-- com/example/denormal/denormal/modelfile/Relationship -/
def k11 : Class := { plain "com/example/denormal/denormal/modelfile/Relationship" (some 0) with
  accessFlags := 49
  interfaces := #[]
  cf := some (fileOf pool11 8 #[] #[{ accessFlags := 0, nameIndex := 5, descriptorIndex := 44, attributes := #[] }, { accessFlags := 0, nameIndex := 52, descriptorIndex := 53, attributes := #[] }] 49 2 #[] #[{ accessFlags := 18, nameIndex := 11, descriptorIndex := 12, attributes := #[] }, { accessFlags := 18, nameIndex := 15, descriptorIndex := 12, attributes := #[] }, { accessFlags := 18, nameIndex := 18, descriptorIndex := 12, attributes := #[] }, { accessFlags := 18, nameIndex := 21, descriptorIndex := 22, attributes := #[] }])
  fields := #[{ name := "name", type := (.object "java/lang/String"), accessFlags := 18, slot := 0, constantValue := 0 }, { name := "first", type := (.object "java/lang/String"), accessFlags := 18, slot := 1, constantValue := 0 }, { name := "second", type := (.object "java/lang/String"), accessFlags := 18, slot := 2, constantValue := 0 }, { name := "cardinality", type := (.object "com/example/denormal/denormal/modelfile/Cardinality"), accessFlags := 18, slot := 3, constantValue := 0 }]
  methods := #[k11m0, k11m1]
  instanceTypes := #[(.object "java/lang/String"), (.object "java/lang/String"), (.object "java/lang/String"), (.object "com/example/denormal/denormal/modelfile/Cardinality")]
  staticTypes := #[]
  resolved := Array.replicate 57 none
  statics := none }

def pool12 : Array CpInfo := pool [(4, .class_ 6), (1, u "java/lang/Object"), (0, u "<init>"), (0, u "()V"), (5, .class_ 16), (1, u "java/lang/StringLatin1"), (104, u "$assertionsDisabled"), (0, u "Z"), (98, .class_ 223), (1, u "java/lang/StringLatin1$LinesSpliterator"), (57, u "equals"), (0, u "([B[B)Z"), (107, .class_ 391), (0, u "java/lang/StringLatin1$CharsSpliterator")] 3

def k12m0 : Method := { name := "<init>", desc := "()V", sig := { parameters := [], returnType := none }, accessFlags := 0, code := none }
def k12c1 : Code := { maxStack := 3, maxLocals := 3, code := jdk_43_method_13_code, exceptionTable := #[], attributes := #[] }
def k12m1 : Method := { name := "equals", desc := "([B[B)Z", sig := { parameters := [(.array .byte), (.array .byte)], returnType := some .boolean }, accessFlags := 9, code := some k12c1 }
/-- java/lang/StringLatin1 -/
def k12 : Class := { plain "java/lang/StringLatin1" (some 0) with
  accessFlags := 48
  interfaces := #[]
  cf := some (fileOf pool12 14 #[.nestMembers #[390, 221]] #[{ accessFlags := 0, nameIndex := 7, descriptorIndex := 8, attributes := #[] }, { accessFlags := 9, nameIndex := 281, descriptorIndex := 282, attributes := #[] }] 48 4 #[] #[{ accessFlags := 4120, nameIndex := 121, descriptorIndex := 122, attributes := #[] }])
  fields := #[{ name := "$assertionsDisabled", type := .boolean, accessFlags := 4120, slot := 0, constantValue := 0 }]
  methods := #[k12m0, k12m1]
  instanceTypes := #[]
  staticTypes := #[.boolean]
  resolved := Array.replicate 395 none
  statics := none }

def pool13 : Array CpInfo := pool [(2, .class_ 4), (1, u "java/lang/Object"), (0, u "<init>"), (0, u "()V"), (17, .class_ 26), (1, u "jdk/internal/util/Preconditions"), (28, .class_ 56), (0, u "jdk/internal/util/Preconditions$4"), (57, .class_ 115), (0, u "jdk/internal/util/Preconditions$1"), (7, u "SIOOBE_FORMATTER"), (0, u "Ljava/util/function/BiFunction;"), (0, .class_ 126), (0, u "jdk/internal/util/Preconditions$2"), (3, u "AIOOBE_FORMATTER"), (0, .class_ 132), (0, u "jdk/internal/util/Preconditions$3"), (3, u "IOOBE_FORMATTER")] 57

def k13m0 : Method := { name := "<init>", desc := "()V", sig := { parameters := [], returnType := none }, accessFlags := 1, code := none }
/-- jdk/internal/util/Preconditions -/
def k13 : Class := { plain "jdk/internal/util/Preconditions" (some 0) with
  accessFlags := 33
  interfaces := #[]
  cf := some (fileOf pool13 24 #[.nestMembers #[55, 131, 125, 114]] #[{ accessFlags := 1, nameIndex := 5, descriptorIndex := 6, attributes := #[] }] 33 2 #[] #[{ accessFlags := 25, nameIndex := 123, descriptorIndex := 124, attributes := #[] }, { accessFlags := 25, nameIndex := 130, descriptorIndex := 124, attributes := #[] }, { accessFlags := 25, nameIndex := 136, descriptorIndex := 124, attributes := #[] }])
  fields := #[{ name := "SIOOBE_FORMATTER", type := (.object "java/util/function/BiFunction"), accessFlags := 25, slot := 0, constantValue := 0 }, { name := "AIOOBE_FORMATTER", type := (.object "java/util/function/BiFunction"), accessFlags := 25, slot := 1, constantValue := 0 }, { name := "IOOBE_FORMATTER", type := (.object "java/util/function/BiFunction"), accessFlags := 25, slot := 2, constantValue := 0 }]
  methods := #[k13m0]
  instanceTypes := #[]
  staticTypes := #[(.object "java/util/function/BiFunction"), (.object "java/util/function/BiFunction"), (.object "java/util/function/BiFunction")]
  resolved := Array.replicate 194 none
  statics := some 2 }

def pool14 : Array CpInfo := pool [(9, u "<init>"), (6, .class_ 18), (1, u "java/lang/Object"), (0, u "()V"), (1, .class_ 23), (1, u "jdk/internal/util/ArraysSupport"), (0, u "LOG2_ARRAY_LONG_INDEX_SCALE"), (0, u "I"), (2, u "U"), (0, u "Ljdk/internal/misc/Unsafe;"), (8, u "BIG_ENDIAN"), (0, u "Z"), (8, u "LOG2_BYTE_BIT_SIZE"), (4, u "LOG2_ARRAY_INT_INDEX_SCALE"), (54, u "JLA"), (0, u "Ljdk/internal/access/JavaLangAccess;"), (11, u "LOG2_ARRAY_BOOLEAN_INDEX_SCALE"), (9, u "LOG2_ARRAY_BYTE_INDEX_SCALE"), (5, u "LOG2_ARRAY_CHAR_INDEX_SCALE"), (5, u "LOG2_ARRAY_SHORT_INDEX_SCALE"), (18, u "LOG2_ARRAY_FLOAT_INDEX_SCALE"), (24, u "LOG2_ARRAY_DOUBLE_INDEX_SCALE"), (89, u "T_BOOLEAN"), (2, u "T_CHAR"), (1, u "T_FLOAT"), (1, u "T_DOUBLE"), (1, u "T_BYTE"), (1, u "T_SHORT"), (1, u "T_INT"), (1, u "T_LONG"), (1, u "SOFT_MAX_ARRAY_LENGTH")] 83

def k14m0 : Method := { name := "<init>", desc := "()V", sig := { parameters := [], returnType := none }, accessFlags := 2, code := none }
/-- jdk/internal/util/ArraysSupport -/
def k14 : Class := { plain "jdk/internal/util/ArraysSupport" (some 0) with
  accessFlags := 33
  interfaces := #[]
  cf := some (fileOf pool14 21 #[] #[{ accessFlags := 2, nameIndex := 9, descriptorIndex := 19, attributes := #[] }] 33 16 #[] #[{ accessFlags := 24, nameIndex := 28, descriptorIndex := 29, attributes := #[] }, { accessFlags := 26, nameIndex := 38, descriptorIndex := 39, attributes := #[] }, { accessFlags := 25, nameIndex := 121, descriptorIndex := 25, attributes := #[] }, { accessFlags := 25, nameIndex := 131, descriptorIndex := 25, attributes := #[] }, { accessFlags := 25, nameIndex := 137, descriptorIndex := 25, attributes := #[] }, { accessFlags := 25, nameIndex := 143, descriptorIndex := 25, attributes := #[] }, { accessFlags := 25, nameIndex := 53, descriptorIndex := 25, attributes := #[] }, { accessFlags := 25, nameIndex := 24, descriptorIndex := 25, attributes := #[] }, { accessFlags := 25, nameIndex := 162, descriptorIndex := 25, attributes := #[] }, { accessFlags := 25, nameIndex := 187, descriptorIndex := 25, attributes := #[] }, { accessFlags := 26, nameIndex := 48, descriptorIndex := 25, attributes := #[] }, { accessFlags := 25, nameIndex := 277, descriptorIndex := 25, attributes := #[] }, { accessFlags := 25, nameIndex := 280, descriptorIndex := 25, attributes := #[] }, { accessFlags := 25, nameIndex := 282, descriptorIndex := 25, attributes := #[] }, { accessFlags := 25, nameIndex := 284, descriptorIndex := 25, attributes := #[] }, { accessFlags := 25, nameIndex := 286, descriptorIndex := 25, attributes := #[] }, { accessFlags := 25, nameIndex := 288, descriptorIndex := 25, attributes := #[] }, { accessFlags := 25, nameIndex := 290, descriptorIndex := 25, attributes := #[] }, { accessFlags := 25, nameIndex := 292, descriptorIndex := 25, attributes := #[] }, { accessFlags := 26, nameIndex := 108, descriptorIndex := 109, attributes := #[] }, { accessFlags := 25, nameIndex := 294, descriptorIndex := 25, attributes := #[] }])
  fields := #[{ name := "U", type := (.object "jdk/internal/misc/Unsafe"), accessFlags := 24, slot := 0, constantValue := 0 }, { name := "BIG_ENDIAN", type := .boolean, accessFlags := 26, slot := 1, constantValue := 0 }, { name := "LOG2_ARRAY_BOOLEAN_INDEX_SCALE", type := .int, accessFlags := 25, slot := 2, constantValue := 0 }, { name := "LOG2_ARRAY_BYTE_INDEX_SCALE", type := .int, accessFlags := 25, slot := 3, constantValue := 0 }, { name := "LOG2_ARRAY_CHAR_INDEX_SCALE", type := .int, accessFlags := 25, slot := 4, constantValue := 0 }, { name := "LOG2_ARRAY_SHORT_INDEX_SCALE", type := .int, accessFlags := 25, slot := 5, constantValue := 0 }, { name := "LOG2_ARRAY_INT_INDEX_SCALE", type := .int, accessFlags := 25, slot := 6, constantValue := 0 }, { name := "LOG2_ARRAY_LONG_INDEX_SCALE", type := .int, accessFlags := 25, slot := 7, constantValue := 0 }, { name := "LOG2_ARRAY_FLOAT_INDEX_SCALE", type := .int, accessFlags := 25, slot := 8, constantValue := 0 }, { name := "LOG2_ARRAY_DOUBLE_INDEX_SCALE", type := .int, accessFlags := 25, slot := 9, constantValue := 0 }, { name := "LOG2_BYTE_BIT_SIZE", type := .int, accessFlags := 26, slot := 10, constantValue := 0 }, { name := "T_BOOLEAN", type := .int, accessFlags := 25, slot := 11, constantValue := 0 }, { name := "T_CHAR", type := .int, accessFlags := 25, slot := 12, constantValue := 0 }, { name := "T_FLOAT", type := .int, accessFlags := 25, slot := 13, constantValue := 0 }, { name := "T_DOUBLE", type := .int, accessFlags := 25, slot := 14, constantValue := 0 }, { name := "T_BYTE", type := .int, accessFlags := 25, slot := 15, constantValue := 0 }, { name := "T_SHORT", type := .int, accessFlags := 25, slot := 16, constantValue := 0 }, { name := "T_INT", type := .int, accessFlags := 25, slot := 17, constantValue := 0 }, { name := "T_LONG", type := .int, accessFlags := 25, slot := 18, constantValue := 0 }, { name := "JLA", type := (.object "jdk/internal/access/JavaLangAccess"), accessFlags := 26, slot := 19, constantValue := 0 }, { name := "SOFT_MAX_ARRAY_LENGTH", type := .int, accessFlags := 25, slot := 20, constantValue := 0 }]
  methods := #[k14m0]
  instanceTypes := #[]
  staticTypes := #[(.object "jdk/internal/misc/Unsafe"), .boolean, .int, .int, .int, .int, .int, .int, .int, .int, .int, .int, .int, .int, .int, .int, .int, .int, .int, (.object "jdk/internal/access/JavaLangAccess"), .int]
  resolved := Array.replicate 378 none
  statics := none }

def pool15 : Array CpInfo := pool [(1, u "java/lang/Cloneable"), (0, .class_ 1), (0, u "java/lang/Object"), (0, .class_ 3)] 3

/-- java/lang/Cloneable -/
def k15 : Class := { plain "java/lang/Cloneable" (some 0) with
  accessFlags := 1537
  interfaces := #[]
  cf := some (fileOf pool15 2 #[] #[] 1537 4 #[] #[])
  fields := #[]
  methods := #[]
  instanceTypes := #[]
  staticTypes := #[]
  resolved := Array.replicate 8 none
  statics := none }

/-- the primitive byte -/
def k16 : Class := { plain "byte" none with kind := .primitive 'B', accessFlags := 0x411 }
/-- [B -/
def k17 : Class := { plain "[B" (some 0) with kind := .array 16 .byte, interfaces := #[15, 4], accessFlags := 1041 }

/-- the primitive char -/
def k18 : Class := { plain "char" none with kind := .primitive 'C', accessFlags := 0x411 }
/-- [C -/
def k19 : Class := { plain "[C" (some 0) with kind := .array 18 .char, interfaces := #[15, 4], accessFlags := 1041 }

/-- the primitive int -/
def k20 : Class := { plain "int" none with kind := .primitive 'I', accessFlags := 0x411 }
/-- [I -/
def k21 : Class := { plain "[I" (some 0) with kind := .array 20 .int, interfaces := #[15, 4], accessFlags := 1041 }

def heap : Heap := #[{ cls := 6, slots := #[.ref 3, .ref 4, .ref 5, .ref 6, .null], vm := .statics 6 },
  { cls := 9, slots := #[.long 0, .int 1, .null, .int 0, .null, .int 0, .int 0], vm := .statics 9 },
  { cls := 13, slots := #[.null, .null, .null], vm := .statics 13 },
  { cls := 6, slots := #[.null, .int 0, .int 0, .null, .int 1, .int 1], vm := .none },
  { cls := 6, slots := #[.null, .int 1, .int 0, .null, .int 1, .int 0], vm := .none },
  { cls := 6, slots := #[.null, .int 2, .int 0, .null, .int 0, .int 1], vm := .none },
  { cls := 6, slots := #[.null, .int 3, .int 0, .null, .int 0, .int 0], vm := .none }]
def classes : Array Class := #[k0, k1, k2, k3, k4, k5, k6, k7, k8, k9, k10, k11, k12, k13, k14, k15, k16, k17, k18, k19, k20, k21]
def interned : List (Array UInt16 × Addr) := []
def slotsUsed : Nat := 39
def theMethod : MethodId := ⟨1, 2⟩
def args0 : Array Value := #[.int 5, .int 6, .int 7, .int 8, .int 9]
def aboutOver (below : List Frame) : State where
  vm := { classes := classes, interned := interned.toArray }
  heap := heap
  slotsUsed := slotsUsed
  threads := #[{ frames := .invoking theMethod args0 :: below }]
def below0 : List Frame := [.native { method := ⟨0, 0⟩, args := #[] }]
def about1 : State := aboutOver below0
def p0 : Program := .bare "" "" ""
def e0 : Env := launch0.env 0 0 0
theorem w_frames : about1.frames = Frame.invoking theMethod args0 :: below0 := rfl
set_option maxRecDepth 65536 in
theorem w_args : argsFit about1.vm theMethod args0 = true := by decide +kernel
set_option maxRecDepth 65536 in
theorem w_heap : heapFits about1 = true := by decide +kernel
set_option maxRecDepth 65536 in
theorem w_runnable : about1.curStatus? = some .runnable := by decide +kernel
set_option maxRecDepth 65536 in
theorem w_alone : about1.alone = true := by decide +kernel
set_option maxRecDepth 65536 in
theorem w_named : about1.methodNamed? x = some theMethod := by decide +kernel
set_option maxRecDepth 65536 in
theorem w_hears : about1.hears theMethod below0 = true := by decide +kernel
set_option maxRecDepth 65536 in
theorem w_ripe : about1.ripe theMethod args0 below0 = true := by decide +kernel
theorem w_running : about1.status = .running := rfl
set_option maxRecDepth 65536 in
theorem w_room : about1.hasRoom e0.platform room_1 = true :=
  launch0.hasRoom_least _ room_1 (by decide +kernel) (by decide +kernel) (by decide +kernel) (by decide +kernel) (by decide +kernel) (by decide +kernel)
theorem allAtoms_all (ts : List Jvm.Cond) (a : Array Jvm.Value) (st : Jvm.State) : (allAtoms ts).before a st = ts.all (fun c => c.before a st) := by
  induction ts with
  | nil => rfl
  | cons c t ih =>
    show (Jvm.Cond.and c (allAtoms t)).before a st = _
    rw [Jvm.Cond.before_and, ih, List.all_cons]
def words1 : List Jvm.Cond := Jvm.Cond.code x code maxLocals ret :: tables_1
/-- a 'code' word, met by the world's own term for the bytes: nothing is compared byte by byte -/
theorem code_word {y : MethodName} {bytes : ByteArray} {mx : Nat} {rt : Option FieldType} {a : Array Value} {s : State} {m : MethodId} {meth : Method} {c : Code} (h1 : s.methodNamed? y = some m) (h2 : s.vm.method? m = some meth) (h3 : meth.code = some c) (h4 : c.code = bytes)
    (h5 : (c.maxLocals == mx && c.exceptionTable.isEmpty && decide (c.maxStack ≤ mostOperands) && decide (meth.sig.returnType = rt) && !meth.locks && decide (parseMethodDescriptor y.desc = some meth.sig)) = true) : (Jvm.Cond.code y bytes mx rt).before a s = true := by
  simp only [Bool.and_eq_true, beq_iff_eq, Bool.not_eq_true', decide_eq_true_eq] at h5
  obtain ⟨⟨⟨⟨⟨g1, g2⟩, g3⟩, g4⟩, g5⟩, g6⟩ := h5
  simp [Cond.before, Cond.holds, Cond.value, h1, h2, h3, h4, g1, g2, g3, g4, g5, g6]
def isCode : Jvm.Cond → Bool
  | .code _ _ _ _ => true
  | _ => false
theorem all_split {L : List Jvm.Cond} {P : Jvm.Cond → Bool} (h1 : L.all (fun c => isCode c || P c) = true) (h2 : ∀ c ∈ L.filter isCode, P c = true) : L.all P = true := by
  refine List.all_eq_true.mpr fun c hc => ?_
  have h := List.all_eq_true.mp h1 c hc
  rcases Bool.eq_false_or_eq_true (isCode c) with hi | hi
  · exact h2 c (List.mem_filter.mpr ⟨hc, hi⟩)
  · simpa [hi] using h
set_option maxRecDepth 65536 in
theorem w_c0 : (Jvm.Cond.code x code maxLocals ret).before args0 about1 = true := code_word (m := ⟨1, 2⟩) (meth := k1m2) (c := k1c2) (by decide +kernel) rfl rfl rfl (by decide +kernel)
set_option maxRecDepth 65536 in
theorem w_c1 : (Jvm.Cond.code ({ cls := "com/example/denormal/denormal/modelfile/RelationshipLinksManyPinLaw", name := "cardinalityOf", desc := "(I)Lcom/example/denormal/denormal/modelfile/Cardinality;" } : Jvm.MethodName) method_2_code (1 : Nat) (Option.some (Jvm.ClassFile.FieldType.object "com/example/denormal/denormal/modelfile/Cardinality"))).before args0 about1 = true := code_word (m := ⟨1, 1⟩) (meth := k1m1) (c := k1c1) (by decide +kernel) rfl rfl rfl (by decide +kernel)
set_option maxRecDepth 65536 in
theorem w_c2 : (Jvm.Cond.code ({ cls := "java/lang/String", name := "<init>", desc := "([C)V" } : Jvm.MethodName) jdk_42_method_3_code (2 : Nat) (Option.none : Option Jvm.ClassFile.FieldType)).before args0 about1 = true := code_word (m := ⟨9, 1⟩) (meth := k9m1) (c := k9c1) (by decide +kernel) rfl rfl rfl (by decide +kernel)
set_option maxRecDepth 65536 in
theorem w_c3 : (Jvm.Cond.code ({ cls := "java/lang/String", name := "<init>", desc := "([CIILjava/lang/Void;)V" } : Jvm.MethodName) jdk_42_method_149_code (6 : Nat) (Option.none : Option Jvm.ClassFile.FieldType)).before args0 about1 = true := code_word (m := ⟨9, 3⟩) (meth := k9m3) (c := k9c3) (by decide +kernel) rfl rfl rfl (by decide +kernel)
set_option maxRecDepth 65536 in
theorem w_c4 : (Jvm.Cond.code ({ cls := "java/lang/Object", name := "<init>", desc := "()V" } : Jvm.MethodName) object_method_1_code (1 : Nat) (Option.none : Option Jvm.ClassFile.FieldType)).before args0 about1 = true := code_word (m := ⟨0, 0⟩) (meth := k0m0) (c := k0c0) (by decide +kernel) rfl rfl rfl (by decide +kernel)
set_option maxRecDepth 65536 in
theorem w_c5 : (Jvm.Cond.code ({ cls := "java/lang/StringUTF16", name := "compress", desc := "([CII)[B" } : Jvm.MethodName) jdk_52_method_16_code (6 : Nat) (Option.some (Jvm.ClassFile.FieldType.array Jvm.ClassFile.FieldType.byte))).before args0 about1 = true := code_word (m := ⟨10, 2⟩) (meth := k10m2) (c := k10c2) (by decide +kernel) rfl rfl rfl (by decide +kernel)
set_option maxRecDepth 65536 in
theorem w_c6 : (Jvm.Cond.code ({ cls := "java/lang/StringUTF16", name := "compress", desc := "([CI[BII)I" } : Jvm.MethodName) jdk_52_method_21_code (7 : Nat) (Option.some Jvm.ClassFile.FieldType.int)).before args0 about1 = true := code_word (m := ⟨10, 3⟩) (meth := k10m3) (c := k10c3) (by decide +kernel) rfl rfl rfl (by decide +kernel)
set_option maxRecDepth 65536 in
theorem w_c7 : (Jvm.Cond.code ({ cls := "java/lang/StringUTF16", name := "coderFromArrayLen", desc := "([BI)B" } : Jvm.MethodName) jdk_52_method_15_code (2 : Nat) (Option.some Jvm.ClassFile.FieldType.byte)).before args0 about1 = true := code_word (m := ⟨10, 1⟩) (meth := k10m1) (c := k10c1) (by decide +kernel) rfl rfl rfl (by decide +kernel)
set_option maxRecDepth 65536 in
theorem w_c8 : (Jvm.Cond.code ({ cls := "com/example/denormal/denormal/modelfile/Relationship", name := "<init>", desc := "(Ljava/lang/String;Ljava/lang/String;Ljava/lang/String;Lcom/example/denormal/denormal/modelfile/Cardinality;)V" } : Jvm.MethodName) prog_7_method_1_code (5 : Nat) (Option.none : Option Jvm.ClassFile.FieldType)).before args0 about1 = true := code_word (m := ⟨11, 0⟩) (meth := k11m0) (c := k11c0) (by decide +kernel) rfl rfl rfl (by decide +kernel)
set_option maxRecDepth 65536 in
theorem w_c9 : (Jvm.Cond.code ({ cls := "com/example/denormal/denormal/modelfile/Relationship", name := "linksMany", desc := "(Ljava/lang/String;)Z" } : Jvm.MethodName) prog_7_method_7_code (2 : Nat) (Option.some Jvm.ClassFile.FieldType.boolean)).before args0 about1 = true := code_word (m := ⟨11, 1⟩) (meth := k11m1) (c := k11c1) (by decide +kernel) rfl rfl rfl (by decide +kernel)
set_option maxRecDepth 65536 in
theorem w_c10 : (Jvm.Cond.code ({ cls := "java/lang/String", name := "equals", desc := "(Ljava/lang/Object;)Z" } : Jvm.MethodName) jdk_42_method_66_code (3 : Nat) (Option.some Jvm.ClassFile.FieldType.boolean)).before args0 about1 = true := code_word (m := ⟨9, 2⟩) (meth := k9m2) (c := k9c2) (by decide +kernel) rfl rfl rfl (by decide +kernel)
set_option maxRecDepth 65536 in
theorem w_c11 : (Jvm.Cond.code ({ cls := "java/lang/StringLatin1", name := "equals", desc := "([B[B)Z" } : Jvm.MethodName) jdk_43_method_13_code (3 : Nat) (Option.some Jvm.ClassFile.FieldType.boolean)).before args0 about1 = true := code_word (m := ⟨12, 1⟩) (meth := k12m1) (c := k12c1) (by decide +kernel) rfl rfl rfl (by decide +kernel)
set_option maxRecDepth 65536 in
theorem w_c12 : (Jvm.Cond.code ({ cls := "com/example/denormal/denormal/modelfile/Cardinality", name := "isOneFirst", desc := "()Z" } : Jvm.MethodName) prog_4_method_4_code (1 : Nat) (Option.some Jvm.ClassFile.FieldType.boolean)).before args0 about1 = true := code_word (m := ⟨6, 0⟩) (meth := k6m0) (c := k6c0) (by decide +kernel) rfl rfl rfl (by decide +kernel)
set_option maxRecDepth 65536 in
theorem w_c13 : (Jvm.Cond.code ({ cls := "com/example/denormal/denormal/modelfile/Cardinality", name := "isOneSecond", desc := "()Z" } : Jvm.MethodName) prog_4_method_5_code (1 : Nat) (Option.some Jvm.ClassFile.FieldType.boolean)).before args0 about1 = true := code_word (m := ⟨6, 1⟩) (meth := k6m1) (c := k6c1) (by decide +kernel) rfl rfl rfl (by decide +kernel)
def codes1 : List Jvm.Cond := [Jvm.Cond.code x code maxLocals ret, Jvm.Cond.code ({ cls := "com/example/denormal/denormal/modelfile/RelationshipLinksManyPinLaw", name := "cardinalityOf", desc := "(I)Lcom/example/denormal/denormal/modelfile/Cardinality;" } : Jvm.MethodName) method_2_code (1 : Nat) (Option.some (Jvm.ClassFile.FieldType.object "com/example/denormal/denormal/modelfile/Cardinality")), Jvm.Cond.code ({ cls := "java/lang/String", name := "<init>", desc := "([C)V" } : Jvm.MethodName) jdk_42_method_3_code (2 : Nat) (Option.none : Option Jvm.ClassFile.FieldType), Jvm.Cond.code ({ cls := "java/lang/String", name := "<init>", desc := "([CIILjava/lang/Void;)V" } : Jvm.MethodName) jdk_42_method_149_code (6 : Nat) (Option.none : Option Jvm.ClassFile.FieldType), Jvm.Cond.code ({ cls := "java/lang/Object", name := "<init>", desc := "()V" } : Jvm.MethodName) object_method_1_code (1 : Nat) (Option.none : Option Jvm.ClassFile.FieldType), Jvm.Cond.code ({ cls := "java/lang/StringUTF16", name := "compress", desc := "([CII)[B" } : Jvm.MethodName) jdk_52_method_16_code (6 : Nat) (Option.some (Jvm.ClassFile.FieldType.array Jvm.ClassFile.FieldType.byte)), Jvm.Cond.code ({ cls := "java/lang/StringUTF16", name := "compress", desc := "([CI[BII)I" } : Jvm.MethodName) jdk_52_method_21_code (7 : Nat) (Option.some Jvm.ClassFile.FieldType.int), Jvm.Cond.code ({ cls := "java/lang/StringUTF16", name := "coderFromArrayLen", desc := "([BI)B" } : Jvm.MethodName) jdk_52_method_15_code (2 : Nat) (Option.some Jvm.ClassFile.FieldType.byte), Jvm.Cond.code ({ cls := "com/example/denormal/denormal/modelfile/Relationship", name := "<init>", desc := "(Ljava/lang/String;Ljava/lang/String;Ljava/lang/String;Lcom/example/denormal/denormal/modelfile/Cardinality;)V" } : Jvm.MethodName) prog_7_method_1_code (5 : Nat) (Option.none : Option Jvm.ClassFile.FieldType), Jvm.Cond.code ({ cls := "com/example/denormal/denormal/modelfile/Relationship", name := "linksMany", desc := "(Ljava/lang/String;)Z" } : Jvm.MethodName) prog_7_method_7_code (2 : Nat) (Option.some Jvm.ClassFile.FieldType.boolean), Jvm.Cond.code ({ cls := "java/lang/String", name := "equals", desc := "(Ljava/lang/Object;)Z" } : Jvm.MethodName) jdk_42_method_66_code (3 : Nat) (Option.some Jvm.ClassFile.FieldType.boolean), Jvm.Cond.code ({ cls := "java/lang/StringLatin1", name := "equals", desc := "([B[B)Z" } : Jvm.MethodName) jdk_43_method_13_code (3 : Nat) (Option.some Jvm.ClassFile.FieldType.boolean), Jvm.Cond.code ({ cls := "com/example/denormal/denormal/modelfile/Cardinality", name := "isOneFirst", desc := "()Z" } : Jvm.MethodName) prog_4_method_4_code (1 : Nat) (Option.some Jvm.ClassFile.FieldType.boolean), Jvm.Cond.code ({ cls := "com/example/denormal/denormal/modelfile/Cardinality", name := "isOneSecond", desc := "()Z" } : Jvm.MethodName) prog_4_method_5_code (1 : Nat) (Option.some Jvm.ClassFile.FieldType.boolean)]
set_option maxRecDepth 65536 in
theorem codes_eq : words1.filter isCode = codes1 := rfl
theorem w_codes : ∀ c ∈ words1.filter isCode, c.before args0 about1 = true := by
  rw [codes_eq]
  intro c hc
  simp only [codes1, List.mem_cons, List.not_mem_nil, or_false] at hc
  rcases hc with rfl | rfl | rfl | rfl | rfl | rfl | rfl | rfl | rfl | rfl | rfl | rfl | rfl | rfl
  · exact w_c0
  · exact w_c1
  · exact w_c2
  · exact w_c3
  · exact w_c4
  · exact w_c5
  · exact w_c6
  · exact w_c7
  · exact w_c8
  · exact w_c9
  · exact w_c10
  · exact w_c11
  · exact w_c12
  · exact w_c13
set_option maxRecDepth 65536 in
theorem w_t1 : (words1.take 24).all (fun c => isCode c || c.before args0 about1) = true := by decide +kernel
set_option maxRecDepth 65536 in
theorem w_t2 : ((words1.drop 24).take 24).all (fun c => isCode c || c.before args0 about1) = true := by decide +kernel
set_option maxRecDepth 65536 in
theorem w_t3 : (((words1.drop 24).drop 24).take 24).all (fun c => isCode c || c.before args0 about1) = true := by decide +kernel
set_option maxRecDepth 65536 in
theorem w_t4 : (((words1.drop 24).drop 24).drop 24).all (fun c => isCode c || c.before args0 about1) = true := by decide +kernel
theorem w_tables : (allAtoms (Jvm.Cond.code x code maxLocals ret :: tables_1)).before args0 about1 = true := by
  rw [allAtoms_all]
  show words1.all (fun c => c.before args0 about1) = true
  refine all_split ?_ w_codes
  rw [← List.take_append_drop 24 words1, List.all_append, w_t1, ← List.take_append_drop 24 (words1.drop 24), List.all_append, w_t2, ← List.take_append_drop 24 ((words1.drop 24).drop 24), List.all_append, w_t3, w_t4]
  rfl
set_option maxRecDepth 65536 in
theorem w_rest : rest_1_c.before args0 about1 = true := by decide +kernel
set_option maxRecDepth 65536 in
theorem w_case : (Jvm.Cond.and given_1 narrow_1).before args0 about1 = true := by decide +kernel
theorem w_applies : (headSpec (Jvm.Cond.code x code maxLocals ret :: tables_1) room_1).applies x e0.platform about1 = true :=
  (Spec.applies_iff w_frames).mpr ⟨w_running, w_runnable, w_alone, w_named, w_hears, w_ripe, w_room, w_tables⟩
theorem atStart : AtStart classFile x code maxLocals ret World_1 tables_1 room_1 Calls_1 rest_1 Pre_1 launch0 p0 e0 about1 theMethod args0 below0 :=
  ⟨lists_1, trivial, launch0.admits_env _ _ _, launch0.least_env, fairChoices_fair.cas, fairChoices_fair.clock, w_frames, w_args, w_heap, w_applies, trivial, w_rest, w_case⟩
end start1
theorem witness_1 : WitnessClaimed_1 := ⟨start1.p0, start1.e0, start1.about1, start1.theMethod, start1.args0, start1.below0, start1.atStart⟩
end Jvm.Pilot.@@N@@
