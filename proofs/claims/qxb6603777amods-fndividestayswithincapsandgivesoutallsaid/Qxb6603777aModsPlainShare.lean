/-
  SEAT b6603777aM. PLAIN: the shares that divide begins with, and the room that is left. No Go here.
-/
import Derived.Test.Qxb6603777aModsPlainDiv
namespace Go.Proofs.Qxb6603777aMods.Plain

/-- what a member begins with: its floored share, held to its cap -/
def base (nil : Bool) (bd T : Int) (wf cf : Nat → Int) (i : Nat) : Int := if nil then share bd T wf i else min (share bd T wf i) (cf i)
/-- the room of the kth in order -/
def room (nil : Bool) (cf b : Nat → Int) (o : Nat → Nat) (k : Nat) : Int := if nil then 1099511627776 else cf (o k) - b (o k)

/-- WHAT THE WALKS NEED TO KNOW OF THE SHARES. -/
structure Shares (nil : Bool) (bd : Int) (n : Nat) (wf cf : Nat → Int) : Prop where
  hbd : 0 ≤ bd ∧ bd ≤ 2147483647
  hn : n ≤ 65536
  wts : ∀ i, i < n → 0 ≤ wf i ∧ wf i ≤ 2147483648
  caps : nil = false → ∀ i, i < n → 0 ≤ cf i ∧ cf i ≤ 2147483647

theorem Shares.tot {nil : Bool} {bd : Int} {n : Nat} {wf cf : Nat → Int} (h : Shares nil bd n wf cf) (k : Nat) (hk : k ≤ n) : 0 ≤ sumTo wf k ∧ sumTo wf k ≤ 140737488355328 := by
  refine ⟨sumTo_nonneg (fun i hi => (h.wts i (by omega)).1), ?_⟩
  have h1 : sumTo wf k ≤ sumTo (fun _ => 2147483648) k := sumTo_le (fun i hi => (h.wts i (by omega)).2)
  have h2 := sumTo_const 2147483648 k
  have := h.hn
  omega

theorem Shares.base_nonneg {nil : Bool} {bd : Int} {n : Nat} {wf cf : Nat → Int} (h : Shares nil bd n wf cf) (i : Nat) (hi : i < n) : 0 ≤ base nil bd (sumTo wf n) wf cf i := by
  have h1 := share_nonneg (T := sumTo wf n) h.hbd.1 i (h.wts i hi).1
  cases nil with
  | true => exact h1
  | false =>
    have := h.caps rfl i hi
    show 0 ≤ min _ _
    omega

theorem Shares.base_le {nil : Bool} {bd : Int} {n : Nat} {wf cf : Nat → Int} (_h : Shares nil bd n wf cf) (i : Nat) : base nil bd (sumTo wf n) wf cf i ≤ share bd (sumTo wf n) wf i := by
  cases nil with
  | true => exact Int.le_refl _
  | false => show min _ _ ≤ _; omega

theorem Shares.base_sum {nil : Bool} {bd : Int} {n : Nat} {wf cf : Nat → Int} (h : Shares nil bd n wf cf) (k : Nat) (hk : k ≤ n) : 0 ≤ sumTo (base nil bd (sumTo wf n) wf cf) k ∧ sumTo (base nil bd (sumTo wf n) wf cf) k ≤ bd := by
  refine ⟨sumTo_nonneg (fun i hi => h.base_nonneg i (by omega)), ?_⟩
  have h1 := sumTo_mono (f := base nil bd (sumTo wf n) wf cf) (fun i hi => h.base_nonneg i hi) hk
  have h2 : sumTo (base nil bd (sumTo wf n) wf cf) n ≤ sumTo (share bd (sumTo wf n) wf) n := sumTo_le (fun i _ => h.base_le i)
  have h3 := share_sum (wf := wf) (n := n) h.hbd.1
  omega

theorem Shares.base_i32 {nil : Bool} {bd : Int} {n : Nat} {wf cf : Nat → Int} (h : Shares nil bd n wf cf) (i : Nat) (hi : i < n) : base nil bd (sumTo wf n) wf cf i ≤ bd := by
  have h1 := sumTo_one (f := base nil bd (sumTo wf n) wf cf) (fun i hi => h.base_nonneg i hi) i hi
  have h2 := h.base_sum n (Nat.le_refl _)
  omega

/-- a member's share and all that is left fit the bound -/
theorem Shares.base_left {nil : Bool} {bd : Int} {n : Nat} {wf cf : Nat → Int} (h : Shares nil bd n wf cf) (i : Nat) (hi : i < n) : base nil bd (sumTo wf n) wf cf i + (bd - sumTo (base nil bd (sumTo wf n) wf cf) n) ≤ bd := by
  have h1 := sumTo_one (f := base nil bd (sumTo wf n) wf cf) (fun i hi => h.base_nonneg i hi) i hi
  omega

theorem Shares.share_range {nil : Bool} {bd : Int} {n : Nat} {wf cf : Nat → Int} (h : Shares nil bd n wf cf) (i : Nat) (hi : i < n) : 0 ≤ share bd (sumTo wf n) wf i ∧ share bd (sumTo wf n) wf i ≤ bd := by
  have h0 : ∀ i, i < n → 0 ≤ share bd (sumTo wf n) wf i := fun i hi => share_nonneg h.hbd.1 i (h.wts i hi).1
  have h1 := sumTo_one (f := share bd (sumTo wf n) wf) h0 i hi
  have h3 := share_sum (wf := wf) (n := n) h.hbd.1
  have h4 := h0 i hi
  omega

theorem room_nonneg (nil : Bool) (bd T : Int) (wf cf : Nat → Int) (o : Nat → Nat) (k : Nat) : 0 ≤ room nil cf (base nil bd T wf cf) o k := by
  cases nil with
  | true => show (0 : Int) ≤ 1099511627776; omega
  | false => show 0 ≤ cf (o k) - min _ _; omega

/-- the product of the bound and a weight -/
theorem Shares.prod {nil : Bool} {bd : Int} {n : Nat} {wf cf : Nat → Int} (h : Shares nil bd n wf cf) (i : Nat) (hi : i < n) : 0 ≤ bd * wf i ∧ bd * wf i ≤ 4611686018427387904 := by
  have h1 := h.hbd
  have h2 := h.wts i hi
  refine ⟨Int.mul_nonneg h1.1 h2.1, ?_⟩
  have h3 : bd * wf i ≤ 2147483647 * wf i := Int.mul_le_mul_of_nonneg_right h1.2 h2.1
  omega

end Go.Proofs.Qxb6603777aMods.Plain
