/-
  SEAT b6603777aM. THE BOUNDS ON LENGTHS (8, 14, 15), and what the laws on fill share.
-/
import Derived.Test.Qxb6603777aModsFill
namespace Go.Proofs.Qxb6603777aMods
open Go.RowKit Plain

theorem bytes_prefix (bd : Int) (a1 a2 : Option Addr) (m c1 n c2 : Nat) (w : World) (hm : m ≤ 9223372036854775807) (hn : n ≤ 9223372036854775807) :
    Calls Trym.prog 8 #[.int .i32 bd, .slice a1 m c1, .slice a2 n c2] w fun e w' => e = .returned (.bool (decide (m + n ≤ 1048576))) ∧ w' = w := by
  by_cases h : m + n ≤ 1048576
  · go_enter Trym.func8, Trym.ntmps8
    go_wp2
    go_ret
    exact ⟨ret_bool (by simp [h]), rfl⟩
  · by_cases h1 : m ≤ 1048576
    · by_cases h2 : n ≤ 1048576
      · go_enter Trym.func8, Trym.ntmps8
        go_wp2
        go_ret
        exact ⟨ret_bool (by simp [h]), rfl⟩
      · go_enter Trym.func8, Trym.ntmps8
        go_wp2
        go_ret
        exact ⟨ret_bool (by simp [h]), rfl⟩
    · go_enter Trym.func8, Trym.ntmps8
      go_wp2
      go_ret
      exact ⟨ret_bool (by simp [h]), rfl⟩

theorem bytes_keeps (bd : Int) (a1 a2 : Option Addr) (m c1 n c2 : Nat) (w : World) (hm : m ≤ 9223372036854775807) (hn : n ≤ 9223372036854775807) :
    Calls Trym.prog 14 #[.int .i32 bd, .slice a1 m c1, .slice a2 n c2] w fun e w' => e = .returned (.bool (decide (m + n ≤ 1048576))) ∧ w' = w := by
  by_cases h : m + n ≤ 1048576
  · go_enter Trym.func14, Trym.ntmps14
    go_wp2
    go_ret
    exact ⟨ret_bool (by simp [h]), rfl⟩
  · by_cases h1 : m ≤ 1048576
    · by_cases h2 : n ≤ 1048576
      · go_enter Trym.func14, Trym.ntmps14
        go_wp2
        go_ret
        exact ⟨ret_bool (by simp [h]), rfl⟩
      · go_enter Trym.func14, Trym.ntmps14
        go_wp2
        go_ret
        exact ⟨ret_bool (by simp [h]), rfl⟩
    · go_enter Trym.func14, Trym.ntmps14
      go_wp2
      go_ret
      exact ⟨ret_bool (by simp [h]), rfl⟩

theorem bytes_mono (bd bd2 : Int) (a1 a2 : Option Addr) (m c1 n c2 : Nat) (w : World) (hm : m ≤ 9223372036854775807) (hn : n ≤ 9223372036854775807) :
    Calls Trym.prog 15 #[.int .i32 bd, .int .i32 bd2, .slice a1 m c1, .slice a2 n c2] w fun e w' => e = .returned (.bool (decide (m + n ≤ 1048576))) ∧ w' = w := by
  by_cases h : m + n ≤ 1048576
  · go_enter Trym.func15, Trym.ntmps15
    go_wp2
    go_ret
    exact ⟨ret_bool (by simp [h]), rfl⟩
  · by_cases h1 : m ≤ 1048576
    · by_cases h2 : n ≤ 1048576
      · go_enter Trym.func15, Trym.ntmps15
        go_wp2
        go_ret
        exact ⟨ret_bool (by simp [h]), rfl⟩
      · go_enter Trym.func15, Trym.ntmps15
        go_wp2
        go_ret
        exact ⟨ret_bool (by simp [h]), rfl⟩
    · go_enter Trym.func15, Trym.ntmps15
      go_wp2
      go_ret
      exact ⟨ret_bool (by simp [h]), rfl⟩

theorem sumTo_range (f : Nat → Int) (n : Nat) (h : ∀ i, -2147483648 ≤ f i ∧ f i ≤ 2147483647) : -2147483648 * (n : Int) ≤ sumTo f n ∧ sumTo f n ≤ 2147483647 * (n : Int) := by
  induction n with
  | zero => exact ⟨by simp [sumTo], by simp [sumTo]⟩
  | succ n ih =>
    have := h n
    rw [sumTo]; omega

/-- FROM fillDomain's YES TO THE PLAIN DOMAIN. -/
theorem dom_of {m n : Nat} {of cf : Nat → Int} (h1 : ∀ i, i < n → 0 ≤ cf i) (h2 : OrdOk of n m) (h3 : ∀ i, InKind .i32 (cf i)) : Dom m n (fun k => (of k).toNat) cf ∧ ∀ k, k < m → of k = (((of k).toNat : Nat) : Int) := by
  have e : ∀ k, k < m → of k = (((of k).toNat : Nat) : Int) := fun k hk => (Int.toNat_of_nonneg (h2.lt k hk).1).symm
  refine ⟨⟨fun i hi => ⟨h1 i hi, (h3 i).2⟩, fun k hk => ?_, fun j k hj hk he => ?_⟩, e⟩
  · have := (h2.lt k hk).2
    have := e k hk
    omega
  · refine h2.inj j k hj hk ?_
    rw [e j hj, e k hk]
    exact congrArg Int.ofNat he

end Go.Proofs.Qxb6603777aMods
