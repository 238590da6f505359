/-
  SEAT b6603777aM. PLAIN: what divide gives out, by rounds and by a threshold. No Go here.
-/
import Derived.Test.Qxb6603777aModsPlain
namespace Go.Proofs.Qxb6603777aMods.Plain

theorem sumTo_add (f g : Nat → Int) (n : Nat) : sumTo (fun i => f i + g i) n = sumTo f n + sumTo g n := by
  induction n with
  | zero => rfl
  | succ n ih => rw [sumTo, sumTo, sumTo, ih]; omega

theorem sumTo_le {f g : Nat → Int} {n : Nat} (h : ∀ i, i < n → f i ≤ g i) : sumTo f n ≤ sumTo g n := by
  induction n with
  | zero => exact Int.le_refl _
  | succ n ih =>
    have h1 := ih (fun i hi => h i (by omega))
    have h2 := h n (by omega)
    rw [sumTo, sumTo]; omega

theorem sumTo_nonneg {f : Nat → Int} {n : Nat} (h : ∀ i, i < n → 0 ≤ f i) : 0 ≤ sumTo f n := by
  induction n with
  | zero => exact Int.le_refl _
  | succ n ih =>
    have h1 := ih (fun i hi => h i (by omega))
    have h2 := h n (by omega)
    rw [sumTo]; omega

theorem sumTo_mono {f : Nat → Int} {k n : Nat} (h : ∀ i, i < n → 0 ≤ f i) (hk : k ≤ n) : sumTo f k ≤ sumTo f n := by
  induction n with
  | zero => have : k = 0 := by omega
            subst this; exact Int.le_refl _
  | succ n ih =>
    by_cases e : k = n + 1
    · subst e; exact Int.le_refl _
    · have h1 := ih (fun i hi => h i (by omega)) (by omega)
      have h2 := h n (by omega)
      rw [sumTo]; omega

theorem sumTo_one {f : Nat → Int} {n : Nat} (h : ∀ i, i < n → 0 ≤ f i) (i : Nat) (hi : i < n) : f i ≤ sumTo f n := by
  have h1 := sumTo_mono (k := i + 1) h (by omega)
  have h2 := sumTo_nonneg (n := i) (f := f) (fun j hj => h j (by omega))
  rw [sumTo] at h1; omega

/-- sums of terms each at most the other's that add up alike are alike, term by term -/
theorem sumTo_eq {f g : Nat → Int} {n : Nat} (h : ∀ i, i < n → f i ≤ g i) (e : sumTo g n ≤ sumTo f n) : ∀ i, i < n → f i = g i := by
  induction n with
  | zero => intro i hi; omega
  | succ n ih =>
    have h1 := sumTo_le (f := f) (g := g) (n := n) (fun i hi => h i (by omega))
    have h2 := h n (by omega)
    rw [sumTo, sumTo] at e
    intro i hi
    by_cases ei : i = n
    · subst ei; omega
    · exact ih (fun i hi => h i (by omega)) (by omega) i (by omega)

/-- what r full rounds give out -/
def taken (rm : Nat → Int) (r : Int) (m : Nat) : Int := sumTo (fun k => min (rm k) r) m
/-- how many of the first j have room for more than r -/
def cnt (rm : Nat → Int) (r : Int) (j : Nat) : Int := sumTo (fun k => if r < rm k then 1 else 0) j

theorem cnt_succ (rm : Nat → Int) (r : Int) (j : Nat) : cnt rm r (j + 1) = cnt rm r j + if r < rm j then 1 else 0 := rfl
theorem taken_succ (rm : Nat → Int) (r : Int) (j : Nat) : taken rm r (j + 1) = taken rm r j + min (rm j) r := rfl

theorem cnt_nonneg (rm : Nat → Int) (r : Int) (j : Nat) : 0 ≤ cnt rm r j := sumTo_nonneg (fun i _ => by split <;> omega)
theorem cnt_mono (rm : Nat → Int) (r : Int) {j k : Nat} (h : j ≤ k) : cnt rm r j ≤ cnt rm r k := sumTo_mono (fun i _ => by split <;> omega) h

theorem taken_next (rm : Nat → Int) (r : Int) (m : Nat) : taken rm (r + 1) m = taken rm r m + cnt rm r m := by
  induction m with
  | zero => rfl
  | succ m ih => rw [taken_succ, taken_succ, cnt_succ, ih]; split <;> omega

theorem taken_mono (rm : Nat → Int) (m : Nat) {r s : Int} (h : r ≤ s) : taken rm r m ≤ taken rm s m := sumTo_le (fun i _ => by omega)

/-- THE THRESHOLD: the most full rounds that L0 can pay for. -/
structure IsLo (rm : Nat → Int) (m : Nat) (L0 lo : Int) : Prop where
  nonneg : 0 ≤ lo
  le : lo ≤ L0
  pays : taken rm lo m ≤ L0
  most : lo = L0 ∨ L0 < taken rm (lo + 1) m

theorem IsLo.ge {rm : Nat → Int} {m : Nat} {L0 lo r : Int} (h : IsLo rm m L0 lo) (h1 : r ≤ L0) (h2 : taken rm r m ≤ L0) : r ≤ lo := by
  rcases h.most with e | e
  · omega
  · by_cases c : r ≤ lo
    · exact c
    · have := taken_mono rm m (show lo + 1 ≤ r by omega)
      omega

/-- what the kth got when lo is the threshold -/
def fin (rm : Nat → Int) (L0 lo : Int) (m : Nat) (k : Nat) : Int := min (rm k) lo + if lo < rm k ∧ cnt rm lo k < L0 - taken rm lo m then 1 else 0

/-- what the kth got: r full rounds, and the first j of the next, which began with L left -/
def giv (rm : Nat → Int) (r L : Int) (j k : Nat) : Int := min (rm k) r + if k < j ∧ r < rm k ∧ cnt rm r k < L then 1 else 0

theorem giv_zero (rm : Nat → Int) (r L : Int) (k : Nat) : giv rm r L 0 k = min (rm k) r := by
  rw [giv, if_neg (by omega)]; omega

/-- ALL IS GIVEN OUT: the rounds stand where the threshold says. -/
theorem giv_done {rm : Nat → Int} {m : Nat} {L0 lo r L : Int} (hlo : IsLo rm m L0 lo) (hL : L = L0 - taken rm r m) (h0 : 0 ≤ L) (hr : r ≤ taken rm r m) (j : Nat) (hj : j ≤ m) (hc : L ≤ cnt rm r j) (k : Nat) (hk : k < m) : giv rm r L j k = fin rm L0 lo m k := by
  have hcm := cnt_mono rm r hj
  have hrl : r ≤ lo := hlo.ge (by omega) (by omega)
  by_cases z : L = 0
  · have h1 : taken rm lo m ≤ taken rm r m := by have := hlo.pays; omega
    have h2 := taken_mono rm m hrl
    have h3 := sumTo_eq (f := fun k => min (rm k) r) (g := fun k => min (rm k) lo) (n := m) (fun i _ => by show min _ _ ≤ min _ _; omega) h1 k hk
    have h3' : min (rm k) r = min (rm k) lo := h3
    have h4 := cnt_nonneg rm r k
    have h5 := cnt_nonneg rm lo k
    rw [giv, fin, if_neg (by omega), if_neg (by omega)]; omega
  · by_cases c : cnt rm r m = L
    · have h6 := taken_next rm r m
      have h7 : r + 1 ≤ lo := hlo.ge (by omega) (by omega)
      have h1 : taken rm lo m ≤ taken rm (r + 1) m := by have := hlo.pays; omega
      have h2 := taken_mono rm m h7
      have h3 : min (rm k) (r + 1) = min (rm k) lo := sumTo_eq (f := fun k => min (rm k) (r + 1)) (g := fun k => min (rm k) lo) (n := m) (fun i _ => by show min _ _ ≤ min _ _; omega) h1 k hk
      have h5 := cnt_nonneg rm lo k
      have e2 : fin rm L0 lo m k = min (rm k) lo := by rw [fin, if_neg (by omega)]; omega
      rw [e2, giv, ← h3]
      by_cases hkj : k < j
      · by_cases hrk : r < rm k
        · have h8 := cnt_mono rm r (show k + 1 ≤ m by omega)
          rw [cnt_succ, if_pos hrk] at h8
          rw [if_pos ⟨hkj, hrk, by omega⟩]; omega
        · rw [if_neg (by omega)]; omega
      · rw [if_neg (by omega)]
        by_cases hrk : r < rm k
        · have h8 := cnt_mono rm r (show k + 1 ≤ m by omega)
          have h9 := cnt_mono rm r (show j ≤ k by omega)
          rw [cnt_succ, if_pos hrk] at h8
          omega
        · omega
    · have h6 := taken_next rm r m
      have h7 : lo = r := by
        by_cases e : r + 1 ≤ lo
        · have := taken_mono rm m e
          have := hlo.pays
          omega
        · omega
      subst h7
      rw [giv, fin, ← hL]
      by_cases hkj : k < j
      · by_cases hrk : lo < rm k ∧ cnt rm lo k < L
        · rw [if_pos hrk, if_pos ⟨hkj, hrk.1, hrk.2⟩]
        · rw [if_neg hrk, if_neg (fun h => hrk ⟨h.2.1, h.2.2⟩)]
      · have h9 := cnt_mono rm lo (show j ≤ k by omega)
        rw [if_neg (by omega), if_neg (by omega)]

/-- A FULL ROUND is one round more. -/
theorem giv_full {rm : Nat → Int} {m : Nat} {r L : Int} (hc : cnt rm r m ≤ L) (k : Nat) (hk : k < m) (L' : Int) : giv rm r L m k = giv rm (r + 1) L' 0 k := by
  rw [giv_zero, giv]
  by_cases hrk : r < rm k
  · have h8 := cnt_mono rm r (show k + 1 ≤ m by omega)
    rw [cnt_succ, if_pos hrk] at h8
    rw [if_pos ⟨hk, hrk, by omega⟩]; omega
  · rw [if_neg (by omega)]; omega

theorem cnt_zero {rm : Nat → Int} {m : Nat} {r : Int} (hc : cnt rm r m = 0) (k : Nat) (hk : k < m) : rm k ≤ r := by
  have h8 := cnt_mono rm r (show k + 1 ≤ m by omega)
  have h9 := cnt_nonneg rm r k
  rw [cnt_succ] at h8
  by_cases c : r < rm k
  · rw [if_pos c] at h8; omega
  · omega

/-- NOBODY HAS ROOM: the rounds stand where the threshold says. -/
theorem giv_none {rm : Nat → Int} {m : Nat} {L0 lo r L : Int} (hlo : IsLo rm m L0 lo) (hL : L = L0 - taken rm r m) (h0 : 0 ≤ L) (hr : r ≤ taken rm r m) (hc : cnt rm r m = 0) (k : Nat) (hk : k < m) (j : Nat) : giv rm r L j k = fin rm L0 lo m k := by
  have hrl : r ≤ lo := hlo.ge (by omega) (by omega)
  have h1 := cnt_zero hc k hk
  rw [giv, fin, if_neg (by omega), if_neg (by omega)]; omega

/-- ONE STEP of a round -/
theorem giv_skip (rm : Nat → Int) (r L : Int) (j k : Nat) (h : rm j ≤ r ∨ L ≤ cnt rm r j) : giv rm r L (j + 1) k = giv rm r L j k := by
  rw [giv, giv]
  by_cases e : k = j
  · subst e; rw [if_neg (by omega), if_neg (by omega)]
  · by_cases c : k < j ∧ r < rm k ∧ cnt rm r k < L
    · rw [if_pos c, if_pos ⟨by omega, c.2.1, c.2.2⟩]
    · rw [if_neg c, if_neg (fun h => c ⟨by omega, h.2.1, h.2.2⟩)]
theorem giv_other (rm : Nat → Int) (r L : Int) (j k : Nat) (e : k ≠ j) : giv rm r L (j + 1) k = giv rm r L j k := by
  rw [giv, giv]
  by_cases c : k < j ∧ r < rm k ∧ cnt rm r k < L
  · rw [if_pos c, if_pos ⟨by omega, c.2.1, c.2.2⟩]
  · rw [if_neg c, if_neg (fun h => c ⟨by omega, h.2.1, h.2.2⟩)]
theorem giv_old (rm : Nat → Int) (r L : Int) (j k : Nat) (h : j ≤ k) : giv rm r L j k = min (rm k) r := by
  rw [giv, if_neg (by omega)]; omega
theorem giv_new (rm : Nat → Int) (r L : Int) (j : Nat) (h1 : r < rm j) (h2 : cnt rm r j < L) : giv rm r L (j + 1) j = r + 1 := by
  rw [giv, if_pos ⟨by omega, h1, h2⟩]; omega

/-- what the members have: what they began with, and what the kth in order got -/
def put (base : Nat → Int) (o : Nat → Nat) (gv : Nat → Int) : Nat → Nat → Int
  | 0 => base
  | k + 1 => fun i => if i = o k then base i + gv k else put base o gv k i

theorem put_succ (base : Nat → Int) (o : Nat → Nat) (gv : Nat → Int) (k i : Nat) : put base o gv (k + 1) i = if i = o k then base i + gv k else put base o gv k i := rfl

/-- the order names members, each at most once -/
structure Ord (m n : Nat) (o : Nat → Nat) : Prop where
  lt : ∀ k, k < m → o k < n
  inj : ∀ j k, j < m → k < m → o j = o k → j = k

theorem put_not (base : Nat → Int) (o : Nat → Nat) (gv : Nat → Int) (k i : Nat) (h : ∀ j, j < k → o j ≠ i) : put base o gv k i = base i := by
  induction k with
  | zero => rfl
  | succ k ih =>
    rw [put_succ, if_neg (fun e => h k (by omega) e.symm)]
    exact ih (fun j hj => h j (by omega))

theorem put_at {m n : Nat} {o : Nat → Nat} (d : Ord m n o) (base gv : Nat → Int) (K k : Nat) (hk : k < K) (hK : K ≤ m) : put base o gv K (o k) = base (o k) + gv k := by
  induction K with
  | zero => omega
  | succ K ih =>
    rw [put_succ]
    by_cases h : k = K
    · subst h; rw [if_pos rfl]
    · rw [if_neg (fun e => h (d.inj k K (by omega) (by omega) e))]
      exact ih (by omega) (by omega)

theorem put_congr {m n : Nat} {o : Nat → Nat} (d : Ord m n o) (base : Nat → Int) {g1 g2 : Nat → Int} (h : ∀ k, k < m → g1 k = g2 k) (i : Nat) : put base o g1 m i = put base o g2 m i := by
  rcases in_or m o i with ⟨k, hk, rfl⟩ | hn
  · rw [put_at d _ _ m k hk (Nat.le_refl _), put_at d _ _ m k hk (Nat.le_refl _), h k hk]
  · rw [put_not _ _ _ _ _ hn, put_not _ _ _ _ _ hn]

theorem put_set {m n : Nat} {o : Nat → Nat} (d : Ord m n o) (base : Nat → Int) {g1 g2 : Nat → Int} (j : Nat) (hj : j < m) (v : Int) (hv : v = base (o j) + g2 j) (h : ∀ k, k < m → k ≠ j → g2 k = g1 k) (i : Nat) : (if i = o j then v else put base o g1 m i) = put base o g2 m i := by
  by_cases e : i = o j
  · subst e; rw [if_pos rfl, put_at d _ _ m j hj (Nat.le_refl _), hv]
  · rw [if_neg e]
    rcases in_or m o i with ⟨k, hk, rfl⟩ | hn
    · rw [put_at d _ _ m k hk (Nat.le_refl _), put_at d _ _ m k hk (Nat.le_refl _), h k hk (fun x => e (by rw [x]))]
    · rw [put_not _ _ _ _ _ hn, put_not _ _ _ _ _ hn]

theorem put_sum {m n : Nat} {o : Nat → Nat} (d : Ord m n o) (base gv : Nat → Int) (k : Nat) (hk : k ≤ m) : sumTo (put base o gv k) n = sumTo base n + sumTo gv k := by
  induction k with
  | zero => rw [sumTo]; show sumTo base n = _; omega
  | succ k ih =>
    have h1 := ih (by omega)
    have hz : put base o gv k (o k) = base (o k) := put_not base o gv k (o k) (fun j hj e => by have := d.inj j k (by omega) (by omega) e; omega)
    have e0 : sumTo (put base o gv (k + 1)) n = sumTo (fun i => if i = o k then base (o k) + gv k else put base o gv k i) n := sumTo_congr (fun i _ => by
      rw [put_succ]
      by_cases e : i = o k
      · subst e; rfl
      · rw [if_neg e, if_neg e])
    have e : sumTo (put base o gv (k + 1)) n = sumTo (put base o gv k) n - put base o gv k (o k) + (base (o k) + gv k) := by rw [e0]; exact sumTo_set _ n (o k) _ (d.lt k (by omega))
    rw [e, hz, h1, sumTo]; omega

theorem sumTo_const (c : Int) (n : Nat) : sumTo (fun _ => c) n = c * (n : Int) := by
  induction n with
  | zero => simp [sumTo]
  | succ n ih => rw [sumTo, ih, Int.natCast_succ, Int.mul_add, Int.mul_one]

/-- n names, each at most once, among n members: every member is named -/
theorem named {n : Nat} {o : Nat → Nat} (d : Ord n n o) (i : Nat) (hi : i < n) : ∃ k, k < n ∧ o k = i := by
  rcases in_or n o i with h | h
  · exact h
  · exfalso
    have h1 := put_sum d (fun _ => 0) (fun _ => 1) n (Nat.le_refl _)
    rw [sumTo_const, sumTo_const] at h1
    have h2 : ∀ j, j < n → put (fun _ => 0) o (fun _ => 1) n j ≤ (fun _ => (1 : Int)) j := by
      intro j hj
      show _ ≤ (1 : Int)
      rcases in_or n o j with ⟨k, hk, rfl⟩ | hn
      · rw [put_at d _ _ n k hk (Nat.le_refl _)]; omega
      · rw [put_not _ _ _ _ _ hn]; omega
    have h3 := sumTo_eq h2 (by rw [sumTo_const]; omega) i hi
    rw [put_not _ _ _ _ _ h] at h3
    exact absurd h3 (by decide)

/-- WHAT IS GIVEN OUT IN ALL. -/
theorem fin_cnt (rm : Nat → Int) (lo R : Int) (hR : 0 ≤ R) (m : Nat) : sumTo (fun k => if lo < rm k ∧ cnt rm lo k < R then 1 else 0) m = min R (cnt rm lo m) := by
  induction m with
  | zero => show (0 : Int) = min R 0; omega
  | succ m ih =>
    rw [sumTo, ih, cnt_succ]
    by_cases c : lo < rm m
    · by_cases c2 : cnt rm lo m < R
      · rw [if_pos ⟨c, c2⟩, if_pos c]; omega
      · rw [if_neg (fun h => c2 h.2), if_pos c]; omega
    · rw [if_neg (fun h => c h.1), if_neg c]; omega

theorem fin_sum {rm : Nat → Int} {m : Nat} {L0 lo : Int} (hlo : IsLo rm m L0 lo) (hrm : ∀ k, k < m → 0 ≤ rm k) : sumTo (fin rm L0 lo m) m = min L0 (sumTo rm m) := by
  have h1 : sumTo (fin rm L0 lo m) m = taken rm lo m + min (L0 - taken rm lo m) (cnt rm lo m) := by
    rw [← fin_cnt rm lo (L0 - taken rm lo m) (by have := hlo.pays; omega) m, taken, ← sumTo_add]
    exact sumTo_congr (fun i _ => rfl)
  have h2 := taken_next rm lo m
  have h3 : ∀ s, taken rm s m ≤ sumTo rm m := fun s => sumTo_le (fun i _ => by omega)
  have h4 := cnt_nonneg rm lo m
  have h5 := hlo.pays
  have h6 := h3 (lo + 1)
  rw [h1]
  rcases hlo.most with e | e
  · by_cases c : cnt rm lo m = 0
    · have h7 : taken rm lo m = sumTo rm m := sumTo_congr (fun k hk => by have := cnt_zero c k hk; omega)
      omega
    · have h8 : lo ≤ taken rm lo m := by
        by_cases z : ∃ k, k < m ∧ lo < rm k
        · obtain ⟨k, hk, hz⟩ := z
          have := sumTo_one (f := fun k => min (rm k) lo) (n := m) (fun i hi => by have := hrm i hi; have := hlo.nonneg; show 0 ≤ min _ _; omega) k hk
          have h9 : min (rm k) lo ≤ taken rm lo m := this
          omega
        · exfalso
          apply c
          have : cnt rm lo m = sumTo (fun _ => 0) m := sumTo_congr (fun k hk => by rw [if_neg (fun h => z ⟨k, hk, h⟩)])
          rw [this, sumTo_zero]
      omega
  · omega

/-- somebody has room for more than lo: lo rounds cost at least lo -/
theorem taken_ge {rm : Nat → Int} {m : Nat} {lo : Int} (hrm : ∀ k, k < m → 0 ≤ rm k) (h0 : 0 ≤ lo) (k : Nat) (hk : k < m) (hz : lo < rm k) : lo ≤ taken rm lo m := by
  have h9 : min (rm k) lo ≤ taken rm lo m := sumTo_one (f := fun k => min (rm k) lo) (n := m) (fun i hi => by have := hrm i hi; show 0 ≤ min _ _; omega) k hk
  omega

theorem taken_nonneg {rm : Nat → Int} {m : Nat} {r : Int} (hrm : ∀ k, k < m → 0 ≤ rm k) (h0 : 0 ≤ r) : 0 ≤ taken rm r m :=
  sumTo_nonneg (fun i hi => by have := hrm i hi; omega)

/-! ### the shares -/
/-- the floored share -/
def share (bd T : Int) (wf : Nat → Int) (i : Nat) : Int := if 0 < T then bd * wf i / T else 0

theorem share_nonneg {bd T : Int} {wf : Nat → Int} (hb : 0 ≤ bd) (i : Nat) (hw : 0 ≤ wf i) : 0 ≤ share bd T wf i := by
  rw [share]; split
  · exact Int.ediv_nonneg (Int.mul_nonneg hb hw) (by omega)
  · omega

theorem sum_mul (T : Int) (f : Nat → Int) (n : Nat) : sumTo (fun i => T * f i) n = T * sumTo f n := by
  induction n with
  | zero => simp [sumTo]
  | succ n ih => rw [sumTo, sumTo, ih, Int.mul_add]

theorem share_sum {bd : Int} {wf : Nat → Int} {n : Nat} (hb : 0 ≤ bd) : sumTo (share bd (sumTo wf n) wf) n ≤ bd := by
  by_cases hT : 0 < sumTo wf n
  · have h1 : sumTo (fun i => sumTo wf n * share bd (sumTo wf n) wf i) n ≤ sumTo (fun i => bd * wf i) n := sumTo_le (fun i _ => by
      rw [share, if_pos hT]
      exact Int.mul_ediv_self_le (by omega))
    rw [sum_mul, sum_mul, Int.mul_comm bd] at h1
    exact Int.le_of_mul_le_mul_left h1 hT
  · have h1 : sumTo (share bd (sumTo wf n) wf) n = sumTo (fun _ => 0) n := sumTo_congr (fun i _ => by rw [share, if_neg hT])
    rw [h1, sumTo_zero]; exact hb

/-- less than one apiece is left -/
theorem share_left {bd : Int} {wf : Nat → Int} {n : Nat} (hT : 0 < sumTo wf n) (hn : 0 < n) : bd - sumTo (share bd (sumTo wf n) wf) n < (n : Int) := by
  have h1 : sumTo (fun i => bd * wf i) n ≤ sumTo (fun i => sumTo wf n * (share bd (sumTo wf n) wf i + 1) + (-1)) n := sumTo_le (fun i _ => by
      rw [share, if_pos hT]
      have h2 := Int.lt_mul_ediv_self_add (x := bd * wf i) hT
      rw [Int.mul_add, Int.mul_one]
      omega)
  rw [sumTo_add, sum_mul, sum_mul, sumTo_add, sumTo_const, sumTo_const] at h1
  have h3 : sumTo wf n * bd < sumTo wf n * (sumTo (share bd (sumTo wf n) wf) n + 1 * (n : Int)) := by rw [Int.mul_comm bd] at h1; omega
  have h4 := Int.lt_of_mul_lt_mul_left h3 (by omega)
  omega

end Go.Proofs.Qxb6603777aMods.Plain
