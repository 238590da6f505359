/-
  SEAT b6603777aM. PLAIN: what fill gives out. No Go here.
-/
namespace Go.Proofs.Qxb6603777aMods.Plain

/-- WHAT fillDomain LETS BY: caps of 0 or more; the order names members, each at most once. -/
structure Dom (m n : Nat) (o : Nat → Nat) (cf : Nat → Int) : Prop where
  cap : ∀ i, i < n → 0 ≤ cf i ∧ cf i ≤ 2147483647
  lt : ∀ k, k < m → o k < n
  inj : ∀ j k, j < m → k < m → o j = o k → j = k

/-- what is left before the kth in order takes -/
def fillL (bd : Int) (o : Nat → Nat) (cf : Nat → Int) : Nat → Int
  | 0 => bd
  | k + 1 => fillL bd o cf k - min (cf (o k)) (fillL bd o cf k)
/-- the parts when k in order have taken -/
def fillP (bd : Int) (o : Nat → Nat) (cf : Nat → Int) : Nat → Nat → Int
  | 0 => fun _ => 0
  | k + 1 => fun i => if i = o k then min (cf (o k)) (fillL bd o cf k) else fillP bd o cf k i

theorem fillP_succ (bd : Int) (o : Nat → Nat) (cf : Nat → Int) (k i : Nat) : fillP bd o cf (k + 1) i = if i = o k then min (cf (o k)) (fillL bd o cf k) else fillP bd o cf k i := rfl

/-- the sum of the first n -/
def sumTo (f : Nat → Int) : Nat → Int
  | 0 => 0
  | n + 1 => sumTo f n + f n

theorem sumTo_congr {f g : Nat → Int} {n : Nat} (h : ∀ i, i < n → f i = g i) : sumTo f n = sumTo g n := by
  induction n with
  | zero => rfl
  | succ n ih => rw [sumTo, sumTo, ih (fun i hi => h i (by omega)), h n (by omega)]

theorem sumTo_set (f : Nat → Int) (n j : Nat) (v : Int) (hj : j < n) : sumTo (fun i => if i = j then v else f i) n = sumTo f n - f j + v := by
  induction n with
  | zero => omega
  | succ n ih =>
    rw [sumTo, sumTo]
    by_cases h : j = n
    · subst h
      have e : sumTo (fun i => if i = j then v else f i) j = sumTo f j := sumTo_congr (fun i hi => by rw [if_neg (by omega)])
      rw [e, if_pos rfl]; omega
    · rw [ih (by omega)]
      have e : (if n = j then v else f n) = f n := if_neg (by omega)
      rw [e]; omega

theorem sumTo_zero (n : Nat) : sumTo (fun _ => 0) n = 0 := by
  induction n with
  | zero => rfl
  | succ n ih => rw [sumTo, ih]; rfl

theorem fillP_not (bd : Int) (o : Nat → Nat) (cf : Nat → Int) (k i : Nat) (h : ∀ j, j < k → o j ≠ i) : fillP bd o cf k i = 0 := by
  induction k with
  | zero => rfl
  | succ k ih =>
    rw [fillP_succ, if_neg (fun e => h k (by omega) e.symm)]
    exact ih (fun j hj => h j (by omega))

theorem fillP_at {m n : Nat} {o : Nat → Nat} {cf : Nat → Int} (d : Dom m n o cf) (bd : Int) (K k : Nat) (hk : k < K) (hK : K ≤ m) : fillP bd o cf K (o k) = min (cf (o k)) (fillL bd o cf k) := by
  induction K with
  | zero => omega
  | succ K ih =>
    rw [fillP_succ]
    by_cases h : k = K
    · subst h; rw [if_pos rfl]
    · rw [if_neg (fun e => h (d.inj k K (by omega) (by omega) e))]
      exact ih (by omega) (by omega)

theorem fillL_nonneg {m n : Nat} {o : Nat → Nat} {cf : Nat → Int} (d : Dom m n o cf) (bd : Int) (hb : 0 ≤ bd) (k : Nat) (hk : k ≤ m) : 0 ≤ fillL bd o cf k ∧ fillL bd o cf k ≤ bd := by
  induction k with
  | zero => exact ⟨hb, Int.le_refl _⟩
  | succ k ih =>
    have := ih (by omega)
    have hc := d.cap (o k) (d.lt k (by omega))
    rw [fillL]
    omega

theorem fillL_neg {m n : Nat} {o : Nat → Nat} {cf : Nat → Int} (d : Dom m n o cf) (bd : Int) (hb : bd < 0) (k : Nat) (hk : k ≤ m) : fillL bd o cf k = if k = 0 then bd else 0 := by
  induction k with
  | zero => rfl
  | succ k ih =>
    have h1 := ih (by omega)
    have hc := d.cap (o k) (d.lt k (by omega))
    rw [fillL, h1]
    by_cases e : k = 0
    · simp [e]; subst e; omega
    · simp [e]; omega

theorem fillL_range {m n : Nat} {o : Nat → Nat} {cf : Nat → Int} (d : Dom m n o cf) (bd : Int) (h1 : -2147483648 ≤ bd) (h2 : bd ≤ 2147483647) (k : Nat) (hk : k ≤ m) : -2147483648 ≤ fillL bd o cf k ∧ fillL bd o cf k ≤ 2147483647 := by
  by_cases hb : 0 ≤ bd
  · have := fillL_nonneg d bd hb k hk; omega
  · rw [fillL_neg d bd (by omega) k hk]; split <;> omega

/-- the parts and what is left add up to the bound -/
theorem fill_sum {m n : Nat} {o : Nat → Nat} {cf : Nat → Int} (d : Dom m n o cf) (bd : Int) (k : Nat) (hk : k ≤ m) : sumTo (fillP bd o cf k) n + fillL bd o cf k = bd := by
  induction k with
  | zero => show sumTo (fun _ => 0) n + bd = bd; rw [sumTo_zero]; omega
  | succ k ih =>
    have h1 := ih (by omega)
    have hz : fillP bd o cf k (o k) = 0 := fillP_not bd o cf k (o k) (fun j hj e => by have := d.inj j k (by omega) (by omega) e; omega)
    have e : sumTo (fillP bd o cf (k + 1)) n = sumTo (fillP bd o cf k) n - fillP bd o cf k (o k) + min (cf (o k)) (fillL bd o cf k) := sumTo_set _ n (o k) _ (d.lt k (by omega))
    rw [e, hz, fillL]; omega

/-- every member: in the order, or not -/
theorem in_or (m : Nat) (o : Nat → Nat) (i : Nat) : (∃ k, k < m ∧ o k = i) ∨ ∀ j, j < m → o j ≠ i := by
  induction m with
  | zero => exact .inr (fun j hj => absurd hj (by omega))
  | succ m ih =>
    rcases ih with ⟨k, hk, e⟩ | h
    · exact .inl ⟨k, by omega, e⟩
    · by_cases e : o m = i
      · exact .inl ⟨m, by omega, e⟩
      · exact .inr (fun j hj => by by_cases hjm : j = m
                                   · rw [hjm]; exact e
                                   · exact h j (by omega))

theorem fillP_range {m n : Nat} {o : Nat → Nat} {cf : Nat → Int} (d : Dom m n o cf) (bd : Int) (hb : 0 ≤ bd) (i : Nat) (hi : i < n) : 0 ≤ fillP bd o cf m i ∧ fillP bd o cf m i ≤ cf i := by
  rcases in_or m o i with ⟨k, hk, rfl⟩ | h
  · rw [fillP_at d bd m k hk (Nat.le_refl _)]
    have := fillL_nonneg d bd hb k (by omega)
    have := d.cap (o k) hi
    omega
  · rw [fillP_not bd o cf m i h]
    have := d.cap i hi
    omega

theorem fillP_i32 {m n : Nat} {o : Nat → Nat} {cf : Nat → Int} (d : Dom m n o cf) (bd : Int) (h1 : -2147483648 ≤ bd) (h2 : bd ≤ 2147483647) (K : Nat) (hK : K ≤ m) (i : Nat) : -2147483648 ≤ fillP bd o cf K i ∧ fillP bd o cf K i ≤ 2147483647 := by
  rcases in_or K o i with ⟨k, hk, rfl⟩ | h
  · rw [fillP_at d bd K k hk hK]
    have := fillL_range d bd h1 h2 k (by omega)
    have := d.cap (o k) (d.lt k (by omega))
    omega
  · rw [fillP_not bd o cf K i h]; omega

/-- a member gets something only when the one before it is full -/
theorem fill_full {m n : Nat} {o : Nat → Nat} {cf : Nat → Int} (d : Dom m n o cf) (bd : Int) (k : Nat) (hk : k + 1 < m) (h : 0 < fillP bd o cf m (o (k + 1))) : fillP bd o cf m (o k) = cf (o k) := by
  rw [fillP_at d bd m (k + 1) hk (Nat.le_refl _), fillL] at h
  rw [fillP_at d bd m k (by omega) (Nat.le_refl _)]
  omega

theorem fillL_mono_k {m n : Nat} {o : Nat → Nat} {cf : Nat → Int} (d : Dom m n o cf) (bd : Int) (hb : 0 ≤ bd) (j k : Nat) (hjk : j ≤ k) (hk : k ≤ m) : fillL bd o cf k ≤ fillL bd o cf j := by
  induction k with
  | zero => have : j = 0 := by omega
            subst this; exact Int.le_refl _
  | succ k ih =>
    by_cases e : j = k + 1
    · subst e; exact Int.le_refl _
    · have h1 := ih (by omega) (by omega)
      have h2 := fillL_nonneg d bd hb k (by omega)
      have h3 := d.cap (o k) (d.lt k (by omega))
      rw [fillL]; omega

/-- something is left only when all are full -/
theorem fill_left {m n : Nat} {o : Nat → Nat} {cf : Nat → Int} (d : Dom m n o cf) (bd : Int) (hb : 0 ≤ bd) (h : 0 < fillL bd o cf m) (k : Nat) (hk : k < m) : fillP bd o cf m (o k) = cf (o k) := by
  rw [fillP_at d bd m k hk (Nat.le_refl _)]
  have h1 := fillL_mono_k d bd hb (k + 1) m (by omega) (Nat.le_refl _)
  rw [fillL] at h1
  omega

theorem fillL_mono (o : Nat → Nat) (cf : Nat → Int) (b1 b2 : Int) (h : b1 ≤ b2) (k : Nat) : fillL b1 o cf k ≤ fillL b2 o cf k := by
  induction k with
  | zero => exact h
  | succ k ih => rw [fillL, fillL]; omega

theorem fillP_mono (o : Nat → Nat) (cf : Nat → Int) (b1 b2 : Int) (h : b1 ≤ b2) (k i : Nat) : fillP b1 o cf k i ≤ fillP b2 o cf k i := by
  induction k with
  | zero => exact Int.le_refl _
  | succ k ih =>
    rw [fillP_succ, fillP_succ]
    by_cases e : i = o k
    · simp only [if_pos e]
      have := fillL_mono o cf b1 b2 h k
      omega
    · simp only [if_neg e]; exact ih

/-- the caps of those ahead -/
def ahead (o : Nat → Nat) (cf : Nat → Int) : Nat → Int
  | 0 => 0
  | k + 1 => ahead o cf k + cf (o k)

theorem ahead_range {m n : Nat} {o : Nat → Nat} {cf : Nat → Int} (d : Dom m n o cf) (k : Nat) (hk : k ≤ m) : 0 ≤ ahead o cf k ∧ ahead o cf k ≤ 2147483647 * (k : Int) := by
  induction k with
  | zero => exact ⟨Int.le_refl _, by simp [ahead]⟩
  | succ k ih =>
    have h1 := ih (by omega)
    have h3 := d.cap (o k) (d.lt k (by omega))
    rw [ahead]; omega

theorem fillL_ahead {m n : Nat} {o : Nat → Nat} {cf : Nat → Int} (d : Dom m n o cf) (bd : Int) (hb : 0 ≤ bd) (k : Nat) (hk : k ≤ m) : fillL bd o cf k = max 0 (bd - ahead o cf k) := by
  induction k with
  | zero => show bd = max 0 (bd - 0); omega
  | succ k ih =>
    have h1 := ih (by omega)
    have h3 := d.cap (o k) (d.lt k (by omega))
    have h4 := ahead_range d k (by omega)
    rw [fillL, ahead, h1]; omega

theorem fillP_neg {m n : Nat} {o : Nat → Nat} {cf : Nat → Int} (d : Dom m n o cf) (bd : Int) (hb : bd < 0) (i : Nat) : fillP bd o cf m i = if 0 < m ∧ i = o 0 then bd else 0 := by
  rcases in_or m o i with ⟨k, hk, rfl⟩ | h
  · rw [fillP_at d bd m k hk (Nat.le_refl _), fillL_neg d bd hb k (by omega)]
    have h3 := d.cap (o k) (d.lt k hk)
    by_cases e : k = 0
    · subst e; rw [if_pos rfl, if_pos ⟨hk, rfl⟩]; omega
    · rw [if_neg e, if_neg (fun h => e (d.inj k 0 hk h.1 h.2))]; omega
  · rw [fillP_not bd o cf m i h]
    by_cases e : 0 < m ∧ i = o 0
    · exact absurd e.2.symm (h 0 e.1)
    · rw [if_neg e]

end Go.Proofs.Qxb6603777aMods.Plain
