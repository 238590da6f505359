/-
  SEAT b6603759aM. PLAIN: fields of bits, the setting of a field, the insertion into a list of offsets. No Go here.
-/
import Derived.Test.Qxb6603759aModsPlain
namespace Go.Proofs.Qxb6603759aMods.Plain

/-- the number whose bits are those of f from p on, b of them -/
def fieldTo (f : Nat → Nat) (p : Nat) : Nat → Nat
  | 0 => 0
  | b + 1 => if wbit f (p + b) = true then fieldTo f p b ||| 2 ^ b else fieldTo f p b

theorem fieldTo_bit (f : Nat → Nat) (p b j : Nat) : (fieldTo f p b).testBit j = (decide (j < b) && wbit f (p + j)) := by
  induction b with
  | zero => simp [fieldTo]
  | succ b ih =>
    unfold fieldTo
    by_cases h : wbit f (p + b) = true
    · rw [if_pos h, Nat.testBit_or, ih, Nat.testBit_two_pow]
      by_cases e : j = b
      · subst e; simp [h]
      · have e1 : decide (b = j) = false := by simp; omega
        have e2 : decide (j < b + 1) = decide (j < b) := by simp; omega
        rw [e1, e2]; simp
    · rw [if_neg h, ih]
      by_cases e : j = b
      · subst e
        have : wbit f (p + j) = false := by simpa using h
        simp [this]
      · have e2 : decide (j < b + 1) = decide (j < b) := by simp; omega
        rw [e2]

theorem fieldTo_lt (f : Nat → Nat) (p b : Nat) (hb : b ≤ 64) : fieldTo f p b < 2 ^ 64 := by
  refine Nat.lt_of_lt_of_le (?_ : fieldTo f p b < 2 ^ b) (Nat.pow_le_pow_right (by decide) hb)
  refine Nat.lt_pow_two_of_testBit _ (fun i hi => ?_)
  rw [fieldTo_bit]
  have : ¬ i < b := by omega
  simp [this]

theorem fieldTo_congr (f g : Nat → Nat) (p q b : Nat) (h : ∀ j, j < b → wbit f (p + j) = wbit g (q + j)) : fieldTo f p b = fieldTo g q b := by
  refine Nat.eq_of_testBit_eq (fun j => ?_)
  rw [fieldTo_bit, fieldTo_bit]
  by_cases e : j < b
  · simp [e, h j e]
  · simp [e]

theorem fieldTo_eq (f : Nat → Nat) (p b o : Nat) (ho : o < 2 ^ b) (h : ∀ j, j < b → wbit f (p + j) = o.testBit j) : fieldTo f p b = o := by
  refine Nat.eq_of_testBit_eq (fun j => ?_)
  rw [fieldTo_bit]
  by_cases e : j < b
  · simp [e, h j e]
  · have : o.testBit j = false := Nat.testBit_lt_two_pow (Nat.lt_of_lt_of_le ho (Nat.pow_le_pow_right (by decide) (by omega)))
    simp [e, this]

/-- x with the bits of m struck -/
def strike (x m : Nat) : Nat := x &&& (18446744073709551615 - m)

theorem strike_bit (x m j : Nat) (hx : x < 2 ^ 64) (hm : m < 2 ^ 64) : (strike x m).testBit j = (x.testBit j && !m.testBit j) := by
  have e : 18446744073709551615 - m = 2 ^ 64 - (m + 1) := by omega
  rw [strike, e, Nat.testBit_and, Nat.testBit_two_pow_sub_succ hm]
  by_cases hj : j < 64
  · simp [hj]
  · rw [high_bit x j hx (by omega)]; simp

theorem strike_lt (x m : Nat) (hx : x < 2 ^ 64) : strike x m < 2 ^ 64 := Nat.lt_of_le_of_lt Nat.and_le_left hx

/-- what setOffset leaves at word i -/
def setF (f : Nat → Nat) (at_ wd o : Nat) (i : Nat) : Nat :=
  if i = at_ / 64 then strike (f i) ((2 ^ wd - 1) * 2 ^ (at_ % 64) % 2 ^ 64) ||| (o * 2 ^ (at_ % 64) % 2 ^ 64)
  else if i = at_ / 64 + 1 ∧ 64 < at_ % 64 + wd then strike (f i) ((2 ^ wd - 1) / 2 ^ (64 - at_ % 64)) ||| (o / 2 ^ (64 - at_ % 64))
  else f i

theorem mask_lt (wd : Nat) (hw : wd < 64) : 2 ^ wd - 1 < 2 ^ 64 := by
  have h1 : 2 ^ wd ≤ 2 ^ 64 := Nat.pow_le_pow_right (by decide) (by omega)
  have h2 : 0 < 2 ^ wd := Nat.two_pow_pos _
  omega

theorem setF_fits (f : Nat → Nat) (at_ wd o : Nat) (hf : Fits f) (ho : o < 2 ^ wd) (hw : wd < 64) : Fits (setF f at_ wd o) := by
  intro i
  have h1 : 2 ^ wd ≤ 2 ^ 64 := Nat.pow_le_pow_right (by decide) (by omega)
  unfold setF
  split
  · exact or_lt _ _ (strike_lt _ _ (hf _)) (Nat.mod_lt _ (by decide))
  · split
    · exact or_lt _ _ (strike_lt _ _ (hf _)) (Nat.lt_of_le_of_lt (Nat.div_le_self _ _) (by omega))
    · exact hf _

theorem small_bit (o wd j : Nat) (ho : o < 2 ^ wd) (hj : wd ≤ j) : o.testBit j = false :=
  Nat.testBit_lt_two_pow (Nat.lt_of_lt_of_le ho (Nat.pow_le_pow_right (by decide) hj))

theorem setF_bit (f : Nat → Nat) (at_ wd o k : Nat) (hf : Fits f) (ho : o < 2 ^ wd) (hw : wd < 64) :
    wbit (setF f at_ wd o) k = if at_ ≤ k ∧ k < at_ + wd then o.testBit (k - at_) else wbit f k := by
  have hk64 : k % 64 < 64 := Nat.mod_lt _ (by decide)
  unfold wbit setF
  by_cases h1 : k / 64 = at_ / 64
  · rw [if_pos h1, Nat.testBit_or, strike_bit _ _ _ (hf _) (Nat.mod_lt _ (by decide)), shl_bit _ _ _ hk64, shl_bit _ _ _ hk64, Nat.testBit_two_pow_sub_one]
    by_cases h2 : at_ ≤ k
    · have a1 : at_ % 64 ≤ k % 64 := by omega
      have e1 : k % 64 - at_ % 64 = k - at_ := by omega
      rw [e1]
      by_cases h3 : k < at_ + wd
      · rw [if_pos ⟨h2, h3⟩]
        have : k - at_ < wd := by omega
        simp [a1, this]
      · rw [if_neg (by omega)]
        have h4 : ¬ k - at_ < wd := by omega
        rw [small_bit o wd _ ho (by omega)]
        simp [h4]
    · have a1 : ¬ at_ % 64 ≤ k % 64 := by omega
      rw [if_neg (by omega)]
      simp [a1]
  · rw [if_neg h1]
    by_cases h2 : k / 64 = at_ / 64 + 1 ∧ 64 < at_ % 64 + wd
    · rw [if_pos h2, Nat.testBit_or, shr_bit, strike_bit _ _ _ (hf _) (Nat.lt_of_le_of_lt (Nat.div_le_self _ _) (mask_lt wd hw)), shr_bit, Nat.testBit_two_pow_sub_one]
      have e1 : k % 64 + (64 - at_ % 64) = k - at_ := by omega
      rw [e1]
      by_cases h3 : k < at_ + wd
      · rw [if_pos ⟨by omega, h3⟩]
        have : k - at_ < wd := by omega
        simp [this]
      · rw [if_neg (by omega), small_bit o wd _ ho (by omega)]
        have h4 : ¬ k - at_ < wd := by omega
        simp [h4]
    · rw [if_neg h2, if_neg (by omega)]

/-- what insert leaves of the words of a leaf of offsets -/
def insF (f : Nat → Nat) (p n wd o : Nat) : Nat → Nat :=
  setF (shiftAt f (p * wd / 64) ((n * wd + wd - 1) / 64 + 1) (p * wd % 64) wd) (p * wd) wd o

theorem insF_fits (f : Nat → Nat) (p n wd o : Nat) (hf : Fits f) (ho : o < 2 ^ wd) (hw : wd < 64) : Fits (insF f p n wd o) := setF_fits _ _ _ _ (shiftAt_fits _ _ _ _ _ hf) ho hw

theorem insF_bit (f : Nat → Nat) (p n wd o k : Nat) (hf : Fits f) (ho : o < 2 ^ wd) (h0 : 0 < wd) (hw : wd < 64) (hp : p ≤ n) (hz : ∀ k, n * wd ≤ k → k < ((n * wd + wd - 1) / 64 + 1) * 64 → wbit f k = false) :
    wbit (insF f p n wd o) k =
      if k < p * wd then wbit f k else if k < p * wd + wd then o.testBit (k - p * wd) else if k < (n + 1) * wd then wbit f (k - wd) else if k < ((n * wd + wd - 1) / 64 + 1) * 64 then false else wbit f k := by
  have hpn : p * wd ≤ n * wd := Nat.mul_le_mul_right _ hp
  have hn1 : (n + 1) * wd = n * wd + wd := Nat.succ_mul _ _
  rw [insF, setF_bit _ _ _ _ _ (shiftAt_fits _ _ _ _ _ hf) ho hw, shift_bit f (p * wd) wd _ k hf h0 hw, hn1]
  by_cases c1 : k < p * wd
  · rw [if_neg (by omega), if_pos c1, if_pos c1]
  · rw [if_neg c1, if_neg c1]
    by_cases c2 : k < p * wd + wd
    · rw [if_pos (by omega), if_pos c2]
    · rw [if_neg (by omega), if_neg c2, if_neg (by omega)]
      by_cases c3 : k < n * wd + wd
      · rw [if_pos c3, if_pos (by omega)]
      · rw [if_neg c3]
        by_cases c4 : k < ((n * wd + wd - 1) / 64 + 1) * 64
        · rw [if_pos c4, if_pos c4]
          exact hz (k - wd) (by omega) (by omega)
        · rw [if_neg c4, if_neg c4]

/-- THE FIELDS AFTER AN INSERTION. -/
theorem insF_field (f : Nat → Nat) (p n wd o j : Nat) (hf : Fits f) (ho : o < 2 ^ wd) (h0 : 0 < wd) (hw : wd < 64) (hp : p ≤ n) (hz : ∀ k, n * wd ≤ k → k < ((n * wd + wd - 1) / 64 + 1) * 64 → wbit f k = false) (hj : j ≤ n) :
    fieldTo (insF f p n wd o) (j * wd) wd = if j < p then fieldTo f (j * wd) wd else if j = p then o else fieldTo f ((j - 1) * wd) wd := by
  have hjn : j * wd ≤ n * wd := Nat.mul_le_mul_right _ hj
  have hn1 : (n + 1) * wd = n * wd + wd := Nat.succ_mul _ _
  by_cases c1 : j < p
  · rw [if_pos c1]
    refine fieldTo_congr _ _ _ _ _ (fun i hi => ?_)
    have : (j + 1) * wd ≤ p * wd := Nat.mul_le_mul_right _ c1
    have e : (j + 1) * wd = j * wd + wd := Nat.succ_mul _ _
    rw [insF_bit f p n wd o _ hf ho h0 hw hp hz, if_pos (by omega)]
  · rw [if_neg c1]
    by_cases c2 : j = p
    · subst c2
      rw [if_pos rfl]
      refine fieldTo_eq _ _ _ _ ho (fun i hi => ?_)
      rw [insF_bit f j n wd o _ hf ho h0 hw hp hz, if_neg (by omega), if_pos (by omega)]
      congr 1; omega
    · rw [if_neg c2]
      refine fieldTo_congr _ _ _ _ _ (fun i hi => ?_)
      obtain ⟨q, rfl⟩ : ∃ q, j = q + 1 := ⟨j - 1, by omega⟩
      have : p * wd ≤ q * wd := Nat.mul_le_mul_right _ (by omega)
      have e : (q + 1) * wd = q * wd + wd := Nat.succ_mul _ _
      rw [insF_bit f p n wd o _ hf ho h0 hw hp hz, if_neg (by omega), if_neg (by omega), if_pos (by omega)]
      congr 1; rw [Nat.add_sub_cancel]; omega

/-- .. and nothing behind them -/
theorem insF_tail (f : Nat → Nat) (p n wd o k N : Nat) (hf : Fits f) (ho : o < 2 ^ wd) (h0 : 0 < wd) (hw : wd < 64) (hp : p ≤ n) (hz : ∀ k, n * wd ≤ k → k < N → wbit f k = false) (hN : ((n * wd + wd - 1) / 64 + 1) * 64 ≤ N) (hk : (n + 1) * wd ≤ k) (hkN : k < N) :
    wbit (insF f p n wd o) k = false := by
  have hpn : p * wd ≤ n * wd := Nat.mul_le_mul_right _ hp
  have hn1 : (n + 1) * wd = n * wd + wd := Nat.succ_mul _ _
  rw [insF_bit f p n wd o k hf ho h0 hw hp (fun k h1 h2 => hz k h1 (by omega)), if_neg (by omega), if_neg (by omega), if_neg (by omega)]
  split
  · rfl
  · exact hz k (by omega) hkN

/-- a bit set in a leaf of bits -/
def orF (f : Nat → Nat) (o : Nat) (i : Nat) : Nat := if i = o / 64 then f i ||| 2 ^ (o % 64) else f i

theorem orF_bit (f : Nat → Nat) (o k : Nat) : wbit (orF f o) k = (wbit f k || decide (k = o)) := by
  unfold wbit orF
  by_cases h : k / 64 = o / 64
  · rw [if_pos h, Nat.testBit_or, Nat.testBit_two_pow]
    have : decide (o % 64 = k % 64) = decide (k = o) := by simp; omega
    rw [this]
  · rw [if_neg h]
    have : ¬ k = o := by intro e; exact h (by rw [e])
    simp [this]

theorem orF_fits (f : Nat → Nat) (o : Nat) (hf : Fits f) : Fits (orF f o) := by
  intro i
  unfold orF; split
  · exact or_lt _ _ (hf _) (Nat.pow_lt_pow_right (by decide) (by omega))
  · exact hf _

end Go.Proofs.Qxb6603759aMods.Plain
