namespace Go.Proofs.Qxb6603759aMods.Plain

/-- Bit k of a row of words, counted from the lowest bit of word 0. -/
def wbit (f : Nat → Nat) (k : Nat) : Bool := (f (k / 64)).testBit (k % 64)

/-- Each word fits 64 bits. -/
def Fits (f : Nat → Nat) : Prop := ∀ i, f i < 2 ^ 64

/-- what shiftUp leaves at word i: 'a' the word of 'from', 'e' the end word, m = from % 64, s = by -/
def keepOf (x m : Nat) : Nat := x &&& (2 ^ m - 1)
def clearOf (x m : Nat) : Nat := x &&& (2 ^ 64 - 1 - keepOf x m)
def maskAt (f : Nat → Nat) (a m : Nat) (i : Nat) : Nat := if i = a then clearOf (f a) m else f i
def shiftAt (f : Nat → Nat) (a e m s : Nat) (i : Nat) : Nat :=
  if i < a ∨ e ≤ i then f i
  else if i = a then (clearOf (f a) m * 2 ^ s % 2 ^ 64) ||| keepOf (f a) m
  else (f i * 2 ^ s % 2 ^ 64) ||| (maskAt f a m (i - 1) / 2 ^ (64 - s))

theorem keep_bit (x m j : Nat) : (keepOf x m).testBit j = (x.testBit j && decide (j < m)) := by
  rw [keepOf, Nat.testBit_and, Nat.testBit_two_pow_sub_one]

theorem keep_lt (x m : Nat) (h : x < 2 ^ 64) : keepOf x m < 2 ^ 64 := Nat.lt_of_le_of_lt Nat.and_le_left h

theorem clear_bit (x m j : Nat) (h : x < 2 ^ 64) : (clearOf x m).testBit j = (x.testBit j && decide (m ≤ j)) := by
  have hk := keep_lt x m h
  have e : 2 ^ 64 - 1 - keepOf x m = 2 ^ 64 - (keepOf x m + 1) := by omega
  rw [clearOf, e, Nat.testBit_and, Nat.testBit_two_pow_sub_succ hk, keep_bit]
  by_cases hj : j < 64
  · by_cases hm : j < m
    · have : ¬ m ≤ j := by omega
      cases x.testBit j <;> simp [hj, hm, this]
    · have : m ≤ j := by omega
      simp [hj, hm, this]
  · have : x.testBit j = false := Nat.testBit_lt_two_pow (Nat.lt_of_lt_of_le h (Nat.pow_le_pow_right (by decide) (by omega)))
    simp [this]

theorem clear_lt (x m : Nat) (h : x < 2 ^ 64) : clearOf x m < 2 ^ 64 := Nat.lt_of_le_of_lt Nat.and_le_left h

theorem shl_bit (x s j : Nat) (hj : j < 64) : (x * 2 ^ s % 2 ^ 64).testBit j = (decide (s ≤ j) && x.testBit (j - s)) := by
  rw [Nat.testBit_mod_two_pow, ← Nat.shiftLeft_eq, Nat.testBit_shiftLeft]
  simp [hj]

theorem shr_bit (x s j : Nat) : (x / 2 ^ s).testBit j = x.testBit (j + s) := by
  rw [← Nat.shiftRight_eq_div_pow, Nat.testBit_shiftRight, Nat.add_comm]

theorem high_bit (x j : Nat) (h : x < 2 ^ 64) (hj : 64 ≤ j) : x.testBit j = false :=
  Nat.testBit_lt_two_pow (Nat.lt_of_lt_of_le h (Nat.pow_le_pow_right (by decide) hj))

theorem or_lt (a b : Nat) (ha : a < 2 ^ 64) (hb : b < 2 ^ 64) : a ||| b < 2 ^ 64 := Nat.or_lt_two_pow ha hb

theorem shiftAt_fits (f : Nat → Nat) (a e m s : Nat) (hf : Fits f) : Fits (shiftAt f a e m s) := by
  intro i
  unfold shiftAt
  split
  · exact hf i
  · split
    · exact or_lt _ _ (Nat.mod_lt _ (by decide)) (keep_lt _ _ (hf _))
    · refine or_lt _ _ (Nat.mod_lt _ (by decide)) (Nat.lt_of_le_of_lt (Nat.div_le_self _ _) ?_)
      unfold maskAt; split
      · exact clear_lt _ _ (hf _)
      · exact hf _

/-- THE LAW OF shiftUp, bit by bit. -/
theorem shift_bit (f : Nat → Nat) (fr s e k : Nat) (hf : Fits f) (h0 : 0 < s) (hs : s < 64) :
    wbit (shiftAt f (fr / 64) e (fr % 64) s) k =
      if k < fr then wbit f k else if fr / 64 < e ∧ k < fr + s ∧ k < e * 64 then false else if k < e * 64 then wbit f (k - s) else wbit f k := by
  have hk64 : k % 64 < 64 := Nat.mod_lt _ (by decide)
  unfold wbit shiftAt
  by_cases h1 : k / 64 < fr / 64 ∨ e ≤ k / 64
  · rw [if_pos h1]
    by_cases h2 : k < fr
    · rw [if_pos h2]
    · rw [if_neg h2, if_neg (by omega), if_neg (by omega)]
  · rw [if_neg h1]
    by_cases h2 : k / 64 = fr / 64
    · rw [if_pos h2, Nat.testBit_or, shl_bit _ _ _ hk64, clear_bit _ _ _ (hf _), keep_bit, ← h2]
      by_cases h3 : k < fr
      · have a1 : k % 64 < fr % 64 := by omega
        have a2 : ¬ (fr % 64 ≤ k % 64 - s) := by omega
        simp [h3, a1, a2]
      · have a1 : ¬ k % 64 < fr % 64 := by omega
        rw [if_neg h3]
        by_cases h4 : k < fr + s
        · rw [if_pos (by omega)]
          by_cases a2 : s ≤ k % 64
          · have a3 : ¬ (fr % 64 ≤ k % 64 - s) := by omega
            simp [a1, a3]
          · simp [a1, a2]
        · rw [if_neg (by omega), if_pos (by omega)]
          have a2 : s ≤ k % 64 := by omega
          have a3 : fr % 64 ≤ k % 64 - s := by omega
          have e1 : (k - s) / 64 = k / 64 := by omega
          have e2 : (k - s) % 64 = k % 64 - s := by omega
          simp [a1, a2, a3, e1, e2]
    · rw [if_neg h2, Nat.testBit_or, shl_bit _ _ _ hk64, shr_bit, if_neg (by omega)]
      have hlt : maskAt f (fr / 64) (fr % 64) (k / 64 - 1) < 2 ^ 64 := by
        unfold maskAt; split
        · exact clear_lt _ _ (hf _)
        · exact hf _
      by_cases a2 : s ≤ k % 64
      · rw [high_bit _ _ hlt (by omega)]
        have e1 : (k - s) / 64 = k / 64 := by omega
        have e2 : (k - s) % 64 = k % 64 - s := by omega
        rw [if_neg (by omega), if_pos (by omega)]
        simp [a2, e1, e2]
      · have e1 : (k - s) / 64 = k / 64 - 1 := by omega
        have e2 : (k - s) % 64 = k % 64 + (64 - s) := by omega
        have e3 : (decide (s ≤ k % 64) && (f (k / 64)).testBit (k % 64 - s)) = false := by simp [a2]
        rw [e3, Bool.false_or, e1, e2]
        unfold maskAt
        by_cases h5 : k / 64 - 1 = fr / 64
        · rw [if_pos h5, clear_bit _ _ _ (hf _), h5]
          by_cases h6 : k < fr + s
          · rw [if_pos (by omega)]
            have : ¬ (fr % 64 ≤ k % 64 + (64 - s)) := by omega
            simp [this]
          · rw [if_neg (by omega), if_pos (by omega)]
            have : (fr % 64 ≤ k % 64 + (64 - s)) := by omega
            simp [this]
        · rw [if_neg h5, if_neg (by omega), if_pos (by omega)]

theorem maskAt_fits (f : Nat → Nat) (a m : Nat) (hf : Fits f) : Fits (maskAt f a m) := by
  intro i
  unfold maskAt; split
  · exact clear_lt _ _ (hf _)
  · exact hf _

/-- what lies in the row while shiftUp's loop stands at j: the words above a + j are done, word a is cleared of what is kept -/
def shMid (f : Nat → Nat) (a e m s j : Nat) (i : Nat) : Nat := if i = a then clearOf (f a) m else if a < i ∧ i ≤ a + j then f i else shiftAt f a e m s i

theorem shMid_x (f : Nat → Nat) (a e m s j : Nat) : shMid f a e m s (j + 1) (a + (j + 1)) = f (a + (j + 1)) := by
  unfold shMid; rw [if_neg (by omega), if_pos (by omega)]

theorem shMid_y (f : Nat → Nat) (a e m s j : Nat) : shMid f a e m s (j + 1) (a + j) = maskAt f a m (a + j) := by
  unfold shMid maskAt
  by_cases h : a + j = a
  · rw [if_pos h, if_pos h]
  · rw [if_neg h, if_neg h, if_pos (by omega)]

theorem shMid_step (f : Nat → Nat) (a e m s j i : Nat) (hj : a + (j + 1) < e) :
    (if i = a + (j + 1) then (f (a + (j + 1)) * 2 ^ s % 2 ^ 64) ||| (maskAt f a m (a + j) / 2 ^ (64 - s)) else shMid f a e m s (j + 1) i) = shMid f a e m s j i := by
  by_cases h : i = a + (j + 1)
  · subst h
    rw [if_pos rfl]
    unfold shMid shiftAt
    rw [if_neg (by omega), if_neg (by omega), if_neg (by omega), if_neg (by omega)]
    rfl
  · rw [if_neg h]
    unfold shMid
    by_cases h1 : i = a
    · rw [if_pos h1, if_pos h1]
    · rw [if_neg h1, if_neg h1]
      by_cases h2 : a < i ∧ i ≤ a + j
      · rw [if_pos h2, if_pos (by omega)]
      · rw [if_neg h2, if_neg (by omega)]

theorem shMid_start (f : Nat → Nat) (a e m s j i : Nat) (he : e = a + j + 1) : (if i = a then clearOf (f a) m else f i) = shMid f a e m s j i := by
  unfold shMid
  by_cases h1 : i = a
  · rw [if_pos h1, if_pos h1]
  · rw [if_neg h1, if_neg h1]
    by_cases h2 : a < i ∧ i ≤ a + j
    · rw [if_pos h2]
    · rw [if_neg h2, shiftAt, if_pos (by omega)]

theorem shMid_end (f : Nat → Nat) (a e m s i : Nat) (he : a < e) : (if i = a then (clearOf (f a) m * 2 ^ s % 2 ^ 64) ||| keepOf (f a) m else shMid f a e m s 0 i) = shiftAt f a e m s i := by
  by_cases h1 : i = a
  · subst h1
    rw [if_pos rfl, shiftAt, if_neg (by omega), if_pos rfl]
  · rw [if_neg h1, shMid, if_neg h1, if_neg (by omega)]

end Go.Proofs.Qxb6603759aMods.Plain
