/-
  SEAT b6603759aM. PLAIN: the union of two packings of bits. No Go here.
-/
import Derived.Test.Qxb6603759aModsPlain
namespace Go.Proofs.Qxb6603759aMods.Plain

/-- one word more of f, laid into g from the bit 'at_' on: the store into the word it begins in .. -/
def absLo (g f : Nat → Nat) (at_ i : Nat) (j : Nat) : Nat := if j = at_ / 64 + i then g j ||| (f i * 2 ^ (at_ % 64) % 2 ^ 64) else g j
/-- .. and, where it does not begin at a word's head, into the next. -/
def absHi (g f : Nat → Nat) (at_ i : Nat) (j : Nat) : Nat := if j = at_ / 64 + i + 1 then g j ||| (f i / 2 ^ (64 - at_ % 64)) else g j
def absOne (g f : Nat → Nat) (at_ i : Nat) : Nat → Nat := if 0 < at_ % 64 then absHi (absLo g f at_ i) f at_ i else absLo g f at_ i
/-- the first i words of f laid into g from the bit 'at_' on -/
def absTo (g f : Nat → Nat) (at_ : Nat) : Nat → Nat → Nat
  | 0 => g
  | i + 1 => absOne (absTo g f at_ i) f at_ i

theorem absLo_fits (g f : Nat → Nat) (at_ i : Nat) (hg : Fits g) : Fits (absLo g f at_ i) := by
  intro j; unfold absLo; split
  · exact or_lt _ _ (hg _) (Nat.mod_lt _ (by decide))
  · exact hg _
theorem absHi_fits (g f : Nat → Nat) (at_ i : Nat) (hg : Fits g) (hf : Fits f) : Fits (absHi g f at_ i) := by
  intro j; unfold absHi; split
  · exact or_lt _ _ (hg _) (Nat.lt_of_le_of_lt (Nat.div_le_self _ _) (hf _))
  · exact hg _
theorem absOne_fits (g f : Nat → Nat) (at_ i : Nat) (hg : Fits g) (hf : Fits f) : Fits (absOne g f at_ i) := by
  unfold absOne; split
  · exact absHi_fits _ _ _ _ (absLo_fits _ _ _ _ hg) hf
  · exact absLo_fits _ _ _ _ hg
theorem absTo_fits (g f : Nat → Nat) (at_ i : Nat) (hg : Fits g) (hf : Fits f) : Fits (absTo g f at_ i) := by
  induction i with
  | zero => exact hg
  | succ i ih => exact absOne_fits _ _ _ _ ih hf

theorem absLo_bit (g f : Nat → Nat) (at_ i k : Nat) : wbit (absLo g f at_ i) k = (wbit g k || (decide (k / 64 = at_ / 64 + i) && (decide (at_ % 64 ≤ k % 64) && (f i).testBit (k % 64 - at_ % 64)))) := by
  unfold wbit absLo
  by_cases h : k / 64 = at_ / 64 + i
  · rw [if_pos h, Nat.testBit_or, shl_bit _ _ _ (Nat.mod_lt _ (by decide))]; simp [h]
  · rw [if_neg h]; simp [h]

theorem absHi_bit (g f : Nat → Nat) (at_ i k : Nat) : wbit (absHi g f at_ i) k = (wbit g k || (decide (k / 64 = at_ / 64 + i + 1) && (f i).testBit (k % 64 + (64 - at_ % 64)))) := by
  unfold wbit absHi
  by_cases h : k / 64 = at_ / 64 + i + 1
  · rw [if_pos h, Nat.testBit_or, shr_bit]; simp [h]
  · rw [if_neg h]; simp [h]

theorem absOne_bit (g f : Nat → Nat) (at_ i k : Nat) (hf : Fits f) : wbit (absOne g f at_ i) k = (wbit g k || (decide (at_ + 64 * i ≤ k ∧ k < at_ + 64 * i + 64) && wbit f (k - at_))) := by
  have hk := Nat.mod_lt k (show 0 < 64 by decide)
  have ha := Nat.mod_lt at_ (show 0 < 64 by decide)
  by_cases h1 : at_ + 64 * i ≤ k ∧ k < at_ + 64 * i + 64
  · have e1 : (k - at_) / 64 = i := by omega
    by_cases h2 : k / 64 = at_ / 64 + i
    · have e2 : (k - at_) % 64 = k % 64 - at_ % 64 := by omega
      have e3 : at_ % 64 ≤ k % 64 := by omega
      have e4 : ¬ k / 64 = at_ / 64 + i + 1 := by omega
      have e5 : wbit f (k - at_) = (f i).testBit (k % 64 - at_ % 64) := by unfold wbit; rw [e1, e2]
      unfold absOne; split
      · rw [absHi_bit, absLo_bit, e5]; simp [h1, h2, e3]
      · rw [absLo_bit, e5]; simp [h1, h2, e3]
    · have e2 : (k - at_) % 64 = k % 64 + (64 - at_ % 64) := by omega
      have e3 : k / 64 = at_ / 64 + i + 1 := by omega
      have e4 : 0 < at_ % 64 := by omega
      have e5 : wbit f (k - at_) = (f i).testBit (k % 64 + (64 - at_ % 64)) := by unfold wbit; rw [e1, e2]
      unfold absOne; rw [if_pos e4, absHi_bit, absLo_bit, e5]; simp [h1, e3]
  · have e0 : (decide (at_ + 64 * i ≤ k ∧ k < at_ + 64 * i + 64) && wbit f (k - at_)) = false := by simp [h1]
    rw [e0, Bool.or_false]
    have e1 : (decide (k / 64 = at_ / 64 + i) && (decide (at_ % 64 ≤ k % 64) && (f i).testBit (k % 64 - at_ % 64))) = false := by
      by_cases a1 : k / 64 = at_ / 64 + i
      · by_cases a2 : at_ % 64 ≤ k % 64
        · exact absurd ⟨by omega, by omega⟩ h1
        · simp [a2]
      · simp [a1]
    have e2 : 0 < at_ % 64 → (decide (k / 64 = at_ / 64 + i + 1) && (f i).testBit (k % 64 + (64 - at_ % 64))) = false := by
      intro a0
      by_cases a1 : k / 64 = at_ / 64 + i + 1
      · rw [high_bit (f i) _ (hf i) (by omega)]; simp
      · simp [a1]
    unfold absOne; split
    · rw [absHi_bit, absLo_bit, e1, e2 ‹_›]; simp
    · rw [absLo_bit, e1]; simp

theorem absTo_bit (g f : Nat → Nat) (at_ i k : Nat) (hf : Fits f) : wbit (absTo g f at_ i) k = (wbit g k || (decide (at_ ≤ k ∧ k - at_ < 64 * i) && wbit f (k - at_))) := by
  induction i with
  | zero => simp [absTo]
  | succ i ih =>
    rw [absTo, absOne_bit _ _ _ _ _ hf, ih]
    by_cases h1 : at_ ≤ k ∧ k - at_ < 64 * i
    · have h2 : ¬ (at_ + 64 * i ≤ k ∧ k < at_ + 64 * i + 64) := by omega
      have h3 : at_ ≤ k ∧ k - at_ < 64 * (i + 1) := by omega
      rw [decide_eq_true h1, decide_eq_false h2, decide_eq_true h3]; simp
    · rw [decide_eq_false h1]
      by_cases h2 : at_ + 64 * i ≤ k ∧ k < at_ + 64 * i + 64
      · have h3 : at_ ≤ k ∧ k - at_ < 64 * (i + 1) := by omega
        rw [decide_eq_true h2, decide_eq_true h3]; simp
      · have h3 : ¬ (at_ ≤ k ∧ k - at_ < 64 * (i + 1)) := by omega
        rw [decide_eq_false h2, decide_eq_false h3]; simp

/-- what zzHeldAt answers -/
def held (f : Nat → Nat) (n d j : Nat) : Bool := decide (d ≤ j ∧ j - d < 64 * n) && wbit f (j - d)

/-- the words that absorb makes -/
def absF (fl fq : Nat → Nat) (nl nq dl dq : Nat) : Nat → Nat := absTo (absTo (fun _ => 0) fl dl nl) fq dq nq

theorem zero_fits : Fits (fun _ => 0) := fun _ => show (0 : Nat) < 2 ^ 64 by decide

theorem absF_fits (fl fq : Nat → Nat) (nl nq dl dq : Nat) (hl : Fits fl) (hq : Fits fq) : Fits (absF fl fq nl nq dl dq) := absTo_fits _ _ _ _ (absTo_fits _ _ _ _ zero_fits hl) hq

theorem absF_bit (fl fq : Nat → Nat) (nl nq dl dq k : Nat) (hl : Fits fl) (hq : Fits fq) : wbit (absF fl fq nl nq dl dq) k = (held fl nl dl k || held fq nq dq k) := by
  unfold absF held
  rw [absTo_bit _ _ _ _ _ hq, absTo_bit _ _ _ _ _ hl]
  have : wbit (fun _ => 0) k = false := by simp [wbit]
  rw [this, Bool.false_or]

end Go.Proofs.Qxb6603759aMods.Plain
