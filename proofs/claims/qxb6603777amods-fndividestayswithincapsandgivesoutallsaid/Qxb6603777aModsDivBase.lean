/-
  SEAT b6603777aM. WHAT THE WALKS OF divide AND divideModel SHARE.
-/
import Derived.Test.Qxb6603777aModsDivDom
import Derived.Test.Qxb6603777aModsPlainShare
namespace Go.Proofs.Qxb6603777aMods
open Go.RowKit Plain

/-- THE SHARES AS THE WALKS WANT THEM. -/
structure Based (nil : Bool) (bd T : Int) (n : Nat) (wf cf B : Nat → Int) : Prop where
  tot : sumTo wf n = T
  T0 : 0 ≤ T
  T1 : T ≤ 140737488355328
  len : n ≤ 65536
  bd0 : 0 ≤ bd
  bd1 : bd ≤ 2147483647
  eq : ∀ i, i < n → B i = if nil then share bd T wf i else min (share bd T wf i) (cf i)
  nonneg : ∀ i, i < n → 0 ≤ B i
  le : ∀ i, i < n → B i ≤ bd
  sum : ∀ k, k ≤ n → 0 ≤ sumTo B k ∧ sumTo B k ≤ bd
  left : ∀ i, i < n → B i + (bd - sumTo B n) ≤ bd
  prod : ∀ i, i < n → 0 ≤ bd * wf i ∧ bd * wf i ≤ 4611686018427387904
  share : ∀ i, i < n → 0 ≤ Plain.share bd T wf i ∧ Plain.share bd T wf i ≤ bd
  pre : ∀ k, k ≤ n → 0 ≤ sumTo wf k ∧ sumTo wf k ≤ 140737488355328
  wts : ∀ i, i < n → 0 ≤ wf i ∧ wf i ≤ 2147483648
  caps : nil = false → ∀ i, i < n → 0 ≤ cf i ∧ cf i ≤ 2147483647

theorem based_of {nil : Bool} {bd : Int} {n : Nat} {wf cf : Nat → Int} (h : Shares nil bd n wf cf) : Based nil bd (sumTo wf n) n wf cf (base nil bd (sumTo wf n) wf cf) :=
  ⟨rfl, (h.tot n (Nat.le_refl _)).1, (h.tot n (Nat.le_refl _)).2, h.hn, h.hbd.1, h.hbd.2, fun _ _ => rfl, h.base_nonneg, h.base_i32, h.base_sum, h.base_left, h.prod, h.share_range, h.tot, h.wts, h.caps⟩

/-- no weight: no share -/
theorem Based.none {nil : Bool} {bd : Int} {n : Nat} {wf cf B : Nat → Int} (h : Based nil bd 0 n wf cf B) (i : Nat) (hi : i < n) : B i = 0 := by
  have h1 : Plain.share bd 0 wf i = 0 := by rw [Plain.share, if_neg (by omega)]
  rw [h.eq i hi, h1]
  cases nil with
  | true => rfl
  | false => have := h.caps rfl i hi; show min 0 _ = (0 : Int); omega
theorem Based.noSum {nil : Bool} {bd : Int} {n : Nat} {wf cf B : Nat → Int} (h : Based nil bd 0 n wf cf B) (k : Nat) (hk : k ≤ n) : sumTo B k = 0 := by
  rw [← sumTo_zero k]; exact sumTo_congr (fun i hi => h.none i (by omega))

theorem PartSt.congr {w wr : World} {n : Nat} {p q : Nat → Int} (h : PartSt w wr n p) (e : ∀ i, i < n → p i = q i) : PartSt w wr n q :=
  ⟨h.below, h.size, h.row.congr (fun j hj => by rw [e j hj])⟩
theorem PartSt.drewN {w wr : World} {n : Nat} {p : Nat → Int} (h : PartSt w wr n p) (k : Nat) : PartSt w (wr.drewN k) n p :=
  ⟨belowDrewN h.below k, h.size, rowIs_drewN h.row k⟩

/-- the parts up to the kth -/
def upTo (B : Nat → Int) (k i : Nat) : Int := if i < k then B i else 0
theorem upTo_zero (B : Nat → Int) (i : Nat) : upTo B 0 i = 0 := if_neg (by omega)
theorem upTo_all (B : Nat → Int) (n i : Nat) (h : i < n) : upTo B n i = B i := if_pos h
theorem upTo_succ (B : Nat → Int) (k j : Nat) : (if j = k then B k else upTo B k j) = upTo B (k + 1) j := by
  unfold upTo
  by_cases e : j = k
  · subst e; rw [if_pos rfl, if_pos (by omega)]
  · rw [if_neg e]
    by_cases h : j < k
    · rw [if_pos h, if_pos (by omega)]
    · rw [if_neg h, if_neg (by omega)]

end Go.Proofs.Qxb6603777aMods
