/-
  SEAT b6603759aM. THE WALK OF THE LAW FnShiftUpMatchesBitModel (3): it returns true and writes nothing that was there.
-/
import Derived.Test.Qxb6603759aModsShift
namespace Go.Proofs.Qxb6603759aMods
open Go.RowKit Plain

theorem bytes_shift (a : Option Addr) (n c : Nat) (x y z : Int) (w : World) (hn : n ≤ 9223372036854775807) : Calls Trym.prog 7 #[.slice a n c, .int .i64 x, .int .i64 y, .int .i64 z] w fun e w' => e = .returned (.bool (decide (n ≤ 1048576))) ∧ w' = w := by
  by_cases h : n ≤ 1048576
  · go_enter Trym.func7, Trym.ntmps7
    go_wp2
    go_ret
    exact ⟨ret_bool (by simp [h]), rfl⟩
  · go_enter Trym.func7, Trym.ntmps7
    go_wp2
    go_ret
    exact ⟨ret_bool (by simp [h]), rfl⟩

/-- the law's own answer at bit k -/
theorem shift_want (f : Nat → Nat) (fr to s k : Nat) (hf : Fits f) (h1 : fr < to) (h2 : 0 < s) (h3 : s < 64) :
    wbit (shiftAt f (fr / 64) ((to + s - 1) / 64 + 1) (fr % 64) s) k =
      if k < fr then wbit f k else if k < fr + s then false else if k < ((to + s - 1) / 64 + 1) * 64 then wbit f (k - s) else wbit f k := by
  rw [shift_bit f fr s _ k hf h2 h3]
  by_cases c1 : k < fr
  · rw [if_pos c1, if_pos c1]
  · rw [if_neg c1, if_neg c1]
    by_cases c2 : k < fr + s
    · rw [if_pos c2, if_pos (by omega)]
    · rw [if_neg c2, if_neg (by omega)]

set_option maxHeartbeats 800000 in
theorem shift_law (b off n c fr to s : Nat) (f : Nat → Nat) (w : World) (hn : n ≤ 131072) (hf : Fits f) (h1 : fr < to) (h2 : 0 < s) (h3 : s < 64) (h4 : to + s ≤ 64 * n) (hc : ∀ i, i < n → w.cell? ⟨b, off + i, none⟩ = some (wv f i)) :
    Calls Trym.prog 3 #[.slice (some ⟨b, off, none⟩) n c, .int .i64 fr, .int .i64 to, .int .i64 s] w fun e w' => e = .returned (.bool true) ∧ Below w.heap.size w w' := by
  have hd : decide (n ≤ 1048576) = true := by simp; omega
  have hbw : b < w.heap.size := World.block_lt_of_cell? _ _ (hc 0 (by omega))
  go_enter Trym.func3, Trym.ntmps3
  go_wp2_with fail
  refine (bytes_shift _ n c _ _ _ w (by omega)).mono ?_
  rintro e w' ⟨rfl, rfl⟩
  rw [hd]
  go_wp2_with fail
  refine (clone_some ⟨b, off, none⟩ b off n c f _ (by omega) (fun _ => rfl) hc).mono ?_
  rintro e w1 ⟨rfl, hC⟩
  go_wp2_with fail
  have hr1 : w1.rowIs w'.heap.size 27 n (wv f) := hC.row.congr (fun i hi => by rw [if_pos hi])
  have hb1 := hC.below
  clear hC
  refine (zzshift_any _ n n fr to s f w1 (by omega) hf (by omega) h2 h3 h4 hr1 (Nat.le_refl _)).mono ?_
  rintro e w2 ⟨rfl, ho, hr2⟩
  have hb2 : Below w'.heap.size w' w2 := hb1.trans (ho.below (Nat.le_refl _))
  have hc2 : ∀ i, i < n → w2.cell? ⟨b, off + i, none⟩ = some (wv f i) := fun i hi => by rw [hb2.cell (p := ⟨b, off + i, none⟩) hbw]; exact hc i hi
  have hg2 : ∀ i, i < n → w2.cell? ⟨w'.heap.size, 0 + i, none⟩ = some (wv (shiftAt f (fr / 64) ((to + s - 1) / 64 + 1) (fr % 64) s) i) := fun i hi => by rw [Nat.zero_add]; exact hr2.cell hi
  have hfit := shiftAt_fits f (fr / 64) ((to + s - 1) / 64 + 1) (fr % 64) s hf
  have hW := fun k => shift_want f fr to s k hf h1 h2 h3
  have HW : Hid (∀ k, wbit (shiftAt f (fr / 64) ((to + s - 1) / 64 + 1) (fr % 64) s) k = if k < fr then wbit f k else if k < fr + s then false else if k < ((to + s - 1) / 64 + 1) * 64 then wbit f (k - s) else wbit f k) := hW
  generalize shiftAt f (fr / 64) ((to + s - 1) / 64 + 1) (fr % 64) s = g at *
  clear hr1 hr2 ho hb1 hc hW hd
  go_wp2_with fail
  go_loopg [11] (64 * n) (fun gh i wr => ∃ k : Nat, k ≤ 64 * n ∧ gh = 64 * n - k ∧ i = .int .i64 k ∧ wr = w2)
  case atStart => exact ⟨0, Nat.zero_le _, rfl, rfl, rfl⟩
  case round =>
    obtain ⟨k, hk, rfl, rfl, rfl⟩ := hrel
    by_cases hlt : k < 64 * n
    · by_cases c1 : k < fr
      · go_wp2_with fail
        refine (bit_any b off n c k f _ hlt (by omega) hf hc2).mono ?_
        rintro e w3 ⟨rfl, rfl⟩
        go_wp2_with fail
        refine (bit_any _ 0 n n k g _ hlt (by omega) hfit hg2).mono ?_
        rintro e w4 ⟨rfl, rfl⟩
        have hww : (wbit g k == wbit f k) = true := by rw [HW.out k, if_pos c1]; try simp
        go_wp2
        go_roundg (64 * n - (k + 1))
        case measure => go_light; omega
        case rel => exact ⟨k + 1, by omega, rfl, by go_num, rfl⟩
      by_cases c2 : k < fr + s
      · go_wp2_with fail
        refine (bit_any _ 0 n n k g _ hlt (by omega) hfit hg2).mono ?_
        rintro e w4 ⟨rfl, rfl⟩
        have hww : wbit g k = false := by rw [HW.out k, if_neg c1, if_pos c2]; try simp
        go_wp2
        go_roundg (64 * n - (k + 1))
        case measure => go_light; omega
        case rel => exact ⟨k + 1, by omega, rfl, by go_num, rfl⟩
      by_cases c3 : k < ((to + s - 1) / 64 + 1) * 64
      · go_wp2_with fail
        rw [show ((k : Int) - (s : Int)) = ((k - s : Nat) : Int) from by omega]
        refine (bit_any b off n c (k - s) f _ (by omega) (by omega) hf hc2).mono ?_
        rintro e w3 ⟨rfl, rfl⟩
        go_wp2_with fail
        refine (bit_any _ 0 n n k g _ hlt (by omega) hfit hg2).mono ?_
        rintro e w4 ⟨rfl, rfl⟩
        have hww : (wbit g k == wbit f (k - s)) = true := by rw [HW.out k, if_neg c1, if_neg c2, if_pos c3]; try simp
        go_wp2
        go_roundg (64 * n - (k + 1))
        case measure => go_light; omega
        case rel => exact ⟨k + 1, by omega, rfl, by go_num, rfl⟩
      · go_wp2_with fail
        refine (bit_any b off n c k f _ hlt (by omega) hf hc2).mono ?_
        rintro e w3 ⟨rfl, rfl⟩
        go_wp2_with fail
        refine (bit_any _ 0 n n k g _ hlt (by omega) hfit hg2).mono ?_
        rintro e w4 ⟨rfl, rfl⟩
        have hww : (wbit g k == wbit f k) = true := by rw [HW.out k, if_neg c1, if_neg c2, if_neg c3]; try simp
        go_wp2
        go_roundg (64 * n - (k + 1))
        case measure => go_light; omega
        case rel => exact ⟨k + 1, by omega, rfl, by go_num, rfl⟩
    · go_wp2
      go_ret
      exact ⟨rfl, hb2⟩

end Go.Proofs.Qxb6603759aMods
