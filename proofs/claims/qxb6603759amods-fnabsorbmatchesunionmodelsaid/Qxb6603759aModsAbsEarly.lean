/-
  SEAT b6603759aM. THE LAW FnAbsorbMatchesUnionModel (6): the ways on which it answers true at once.
-/
import Derived.Test.Qxb6603759aModsAbsLawWide
namespace Go.Proofs.Qxb6603759aMods
open Go.RowKit Plain

set_option maxRecDepth 100000 in
set_option maxHeartbeats 3200000 in
/-- too long a slice, or a width below 0 -/
theorem abs_early1 (lo hi ba fi la ad n nl nh wd lo' hi' ba' fi' la' ad' n' nl' nh' wd' : Int) (a1 a2 : Option Addr) (n1 c1 n2 c2 : Nat) (w : World) (hl1 : n1 ≤ 9223372036854775807) (hl2 : n2 ≤ 9223372036854775807) (h : 65536 < n1 ∨ 65536 < n2 ∨ wd' < 0) :
    Calls Trym.prog 6 #[.agg #[.int .u64 lo, .int .u64 hi, .int .u64 ba, .int .u64 fi, .int .u64 la, .int .u64 ad, .int .i64 n, .int .u64 nl, .int .u64 nh, .int .i64 wd, .slice a1 n1 c1], .agg #[.int .u64 lo', .int .u64 hi', .int .u64 ba', .int .u64 fi', .int .u64 la', .int .u64 ad', .int .i64 n', .int .u64 nl', .int .u64 nh', .int .i64 wd', .slice a2 n2 c2]] w fun e w' => e = .returned (.bool true) ∧ Below w.heap.size w w' := by
  by_cases c0 : n1 + n2 ≤ 1048576
  · have hd : decide (n1 + n2 ≤ 1048576) = true := by simp; omega
    by_cases d1 : 65536 < n1
    · clear h
      have hx0 := box_two w (boxF lo hi ba fi la ad n nl nh wd (.slice a1 n1 c1)) (boxF lo' hi' ba' fi' la' ad' n' nl' nh' wd' (.slice a2 n2 c2)) #[.int .u64 lo, .int .u64 hi, .int .u64 ba, .int .u64 fi, .int .u64 la, .int .u64 ad, .int .i64 n, .int .u64 nl, .int .u64 nh, .int .i64 wd, .slice a1 n1 c1] #[.int .u64 lo', .int .u64 hi', .int .u64 ba', .int .u64 fi', .int .u64 la', .int .u64 ad', .int .i64 n', .int .u64 nl', .int .u64 nh', .int .i64 wd', .slice a2 n2 c2] (box_new w lo hi ba fi la ad n nl nh wd (.slice a1 n1 c1)) (fun w => box_new w lo' hi' ba' fi' la' ad' n' nl' nh' wd' (.slice a2 n2 c2))
      obtain ⟨hxl0, hxq0, hbb0⟩ := hx0
      go_enter Trym.func6, Trym.ntmps6
      go_wp2_with fail
      refine (bytes_absorb lo hi ba fi la ad n nl nh wd lo' hi' ba' fi' la' ad' n' nl' nh' wd' _ _ n1 c1 n2 c2 _ (by omega) (by omega)).mono ?_
      rintro e w1 ⟨rfl, hB1⟩
      rw [hd]
      have hz1 : w.heap.size + 2 ≤ w1.heap.size := by have := hB1.size; simp at this; omega
      have hxl1 := rowIs_below hB1 (by simp; omega) hxl0
      have hxq1 := rowIs_below hB1 (by simp) hxq0
      have hbb1 : Below w.heap.size w w1 := hbb0.trans (hB1.mono (by simp; omega))
      clear hB1 hbb0 hxl0 hxq0 hd
      obtain ⟨x0, x1, x2, x3, x4, x5, x6, x7, x8, x9, x10⟩ := box_cells hxl1
      obtain ⟨y0, y1, y2, y3, y4, y5, y6, y7, y8, y9, y10⟩ := box_cells hxq1
      go_wp2
      go_ret
      exact ⟨rfl, hbb1⟩
    by_cases d2 : 65536 < n2
    · clear h
      have hx0 := box_two w (boxF lo hi ba fi la ad n nl nh wd (.slice a1 n1 c1)) (boxF lo' hi' ba' fi' la' ad' n' nl' nh' wd' (.slice a2 n2 c2)) #[.int .u64 lo, .int .u64 hi, .int .u64 ba, .int .u64 fi, .int .u64 la, .int .u64 ad, .int .i64 n, .int .u64 nl, .int .u64 nh, .int .i64 wd, .slice a1 n1 c1] #[.int .u64 lo', .int .u64 hi', .int .u64 ba', .int .u64 fi', .int .u64 la', .int .u64 ad', .int .i64 n', .int .u64 nl', .int .u64 nh', .int .i64 wd', .slice a2 n2 c2] (box_new w lo hi ba fi la ad n nl nh wd (.slice a1 n1 c1)) (fun w => box_new w lo' hi' ba' fi' la' ad' n' nl' nh' wd' (.slice a2 n2 c2))
      obtain ⟨hxl0, hxq0, hbb0⟩ := hx0
      go_enter Trym.func6, Trym.ntmps6
      go_wp2_with fail
      refine (bytes_absorb lo hi ba fi la ad n nl nh wd lo' hi' ba' fi' la' ad' n' nl' nh' wd' _ _ n1 c1 n2 c2 _ (by omega) (by omega)).mono ?_
      rintro e w1 ⟨rfl, hB1⟩
      rw [hd]
      have hz1 : w.heap.size + 2 ≤ w1.heap.size := by have := hB1.size; simp at this; omega
      have hxl1 := rowIs_below hB1 (by simp; omega) hxl0
      have hxq1 := rowIs_below hB1 (by simp) hxq0
      have hbb1 : Below w.heap.size w w1 := hbb0.trans (hB1.mono (by simp; omega))
      clear hB1 hbb0 hxl0 hxq0 hd
      obtain ⟨x0, x1, x2, x3, x4, x5, x6, x7, x8, x9, x10⟩ := box_cells hxl1
      obtain ⟨y0, y1, y2, y3, y4, y5, y6, y7, y8, y9, y10⟩ := box_cells hxq1
      go_wp2
      go_ret
      exact ⟨rfl, hbb1⟩
    have d3 : wd' < 0 := by omega
    clear h
    have hx0 := box_two w (boxF lo hi ba fi la ad n nl nh wd (.slice a1 n1 c1)) (boxF lo' hi' ba' fi' la' ad' n' nl' nh' wd' (.slice a2 n2 c2)) #[.int .u64 lo, .int .u64 hi, .int .u64 ba, .int .u64 fi, .int .u64 la, .int .u64 ad, .int .i64 n, .int .u64 nl, .int .u64 nh, .int .i64 wd, .slice a1 n1 c1] #[.int .u64 lo', .int .u64 hi', .int .u64 ba', .int .u64 fi', .int .u64 la', .int .u64 ad', .int .i64 n', .int .u64 nl', .int .u64 nh', .int .i64 wd', .slice a2 n2 c2] (box_new w lo hi ba fi la ad n nl nh wd (.slice a1 n1 c1)) (fun w => box_new w lo' hi' ba' fi' la' ad' n' nl' nh' wd' (.slice a2 n2 c2))
    obtain ⟨hxl0, hxq0, hbb0⟩ := hx0
    go_enter Trym.func6, Trym.ntmps6
    go_wp2_with fail
    refine (bytes_absorb lo hi ba fi la ad n nl nh wd lo' hi' ba' fi' la' ad' n' nl' nh' wd' _ _ n1 c1 n2 c2 _ (by omega) (by omega)).mono ?_
    rintro e w1 ⟨rfl, hB1⟩
    rw [hd]
    have hz1 : w.heap.size + 2 ≤ w1.heap.size := by have := hB1.size; simp at this; omega
    have hxl1 := rowIs_below hB1 (by simp; omega) hxl0
    have hxq1 := rowIs_below hB1 (by simp) hxq0
    have hbb1 : Below w.heap.size w w1 := hbb0.trans (hB1.mono (by simp; omega))
    clear hB1 hbb0 hxl0 hxq0 hd
    obtain ⟨x0, x1, x2, x3, x4, x5, x6, x7, x8, x9, x10⟩ := box_cells hxl1
    obtain ⟨y0, y1, y2, y3, y4, y5, y6, y7, y8, y9, y10⟩ := box_cells hxq1
    go_wp2
    go_ret
    exact ⟨rfl, hbb1⟩
  · have hd : decide (n1 + n2 ≤ 1048576) = false := by simp; omega
    clear h
    have hx0 := box_two w (boxF lo hi ba fi la ad n nl nh wd (.slice a1 n1 c1)) (boxF lo' hi' ba' fi' la' ad' n' nl' nh' wd' (.slice a2 n2 c2)) #[.int .u64 lo, .int .u64 hi, .int .u64 ba, .int .u64 fi, .int .u64 la, .int .u64 ad, .int .i64 n, .int .u64 nl, .int .u64 nh, .int .i64 wd, .slice a1 n1 c1] #[.int .u64 lo', .int .u64 hi', .int .u64 ba', .int .u64 fi', .int .u64 la', .int .u64 ad', .int .i64 n', .int .u64 nl', .int .u64 nh', .int .i64 wd', .slice a2 n2 c2] (box_new w lo hi ba fi la ad n nl nh wd (.slice a1 n1 c1)) (fun w => box_new w lo' hi' ba' fi' la' ad' n' nl' nh' wd' (.slice a2 n2 c2))
    obtain ⟨hxl0, hxq0, hbb0⟩ := hx0
    go_enter Trym.func6, Trym.ntmps6
    go_wp2_with fail
    refine (bytes_absorb lo hi ba fi la ad n nl nh wd lo' hi' ba' fi' la' ad' n' nl' nh' wd' _ _ n1 c1 n2 c2 _ (by omega) (by omega)).mono ?_
    rintro e w1 ⟨rfl, hB1⟩
    rw [hd]
    have hz1 : w.heap.size + 2 ≤ w1.heap.size := by have := hB1.size; simp at this; omega
    have hxl1 := rowIs_below hB1 (by simp; omega) hxl0
    have hxq1 := rowIs_below hB1 (by simp) hxq0
    have hbb1 : Below w.heap.size w w1 := hbb0.trans (hB1.mono (by simp; omega))
    clear hB1 hbb0 hxl0 hxq0 hd
    obtain ⟨x0, x1, x2, x3, x4, x5, x6, x7, x8, x9, x10⟩ := box_cells hxl1
    obtain ⟨y0, y1, y2, y3, y4, y5, y6, y7, y8, y9, y10⟩ := box_cells hxq1
    go_wp2
    go_ret
    exact ⟨rfl, hbb1⟩

set_option maxRecDepth 100000 in
set_option maxHeartbeats 3200000 in
/-- q a leaf of bits; l none, or one of the two without words -/
theorem abs_early2 (lo hi ba fi la ad n nl nh wd lo' hi' ba' fi' la' ad' n' nl' nh' : Int) (a1 a2 : Option Addr) (n1 c1 n2 c2 : Nat) (w : World) (hl1 : n1 ≤ 65536) (hl2 : n2 ≤ 65536) (h : wd ≠ 0 ∨ n1 = 0 ∨ n2 = 0) :
    Calls Trym.prog 6 #[.agg #[.int .u64 lo, .int .u64 hi, .int .u64 ba, .int .u64 fi, .int .u64 la, .int .u64 ad, .int .i64 n, .int .u64 nl, .int .u64 nh, .int .i64 wd, .slice a1 n1 c1], .agg #[.int .u64 lo', .int .u64 hi', .int .u64 ba', .int .u64 fi', .int .u64 la', .int .u64 ad', .int .i64 n', .int .u64 nl', .int .u64 nh', .int .i64 0, .slice a2 n2 c2]] w fun e w' => e = .returned (.bool true) ∧ Below w.heap.size w w' := by
  have hd : decide (n1 + n2 ≤ 1048576) = true := by simp; omega
  by_cases d1 : wd = 0
  · subst d1
    by_cases d2 : n1 = 0
    · have d2' : ((n1 : Int) == 0) = true := by simp [d2]
      clear h d2
      have hx0 := box_two w (boxF lo hi ba fi la ad n nl nh 0 (.slice a1 n1 c1)) (boxF lo' hi' ba' fi' la' ad' n' nl' nh' 0 (.slice a2 n2 c2)) #[.int .u64 lo, .int .u64 hi, .int .u64 ba, .int .u64 fi, .int .u64 la, .int .u64 ad, .int .i64 n, .int .u64 nl, .int .u64 nh, .int .i64 0, .slice a1 n1 c1] #[.int .u64 lo', .int .u64 hi', .int .u64 ba', .int .u64 fi', .int .u64 la', .int .u64 ad', .int .i64 n', .int .u64 nl', .int .u64 nh', .int .i64 0, .slice a2 n2 c2] (box_new w lo hi ba fi la ad n nl nh 0 (.slice a1 n1 c1)) (fun w => box_new w lo' hi' ba' fi' la' ad' n' nl' nh' 0 (.slice a2 n2 c2))
      obtain ⟨hxl0, hxq0, hbb0⟩ := hx0
      go_enter Trym.func6, Trym.ntmps6
      go_wp2_with fail
      refine (bytes_absorb lo hi ba fi la ad n nl nh 0 lo' hi' ba' fi' la' ad' n' nl' nh' 0 _ _ n1 c1 n2 c2 _ (by omega) (by omega)).mono ?_
      rintro e w1 ⟨rfl, hB1⟩
      rw [hd]
      have hz1 : w.heap.size + 2 ≤ w1.heap.size := by have := hB1.size; simp at this; omega
      have hxl1 := rowIs_below hB1 (by simp; omega) hxl0
      have hxq1 := rowIs_below hB1 (by simp) hxq0
      have hbb1 : Below w.heap.size w w1 := hbb0.trans (hB1.mono (by simp; omega))
      clear hB1 hbb0 hxl0 hxq0 hd
      obtain ⟨x0, x1, x2, x3, x4, x5, x6, x7, x8, x9, x10⟩ := box_cells hxl1
      obtain ⟨y0, y1, y2, y3, y4, y5, y6, y7, y8, y9, y10⟩ := box_cells hxq1
      go_wp2
      go_ret
      exact ⟨rfl, hbb1⟩
    have d3 : ((n2 : Int) == 0) = true := by simp; omega
    have d2' : ((n1 : Int) == 0) = false := by simp; omega
    clear h d2
    have hx0 := box_two w (boxF lo hi ba fi la ad n nl nh 0 (.slice a1 n1 c1)) (boxF lo' hi' ba' fi' la' ad' n' nl' nh' 0 (.slice a2 n2 c2)) #[.int .u64 lo, .int .u64 hi, .int .u64 ba, .int .u64 fi, .int .u64 la, .int .u64 ad, .int .i64 n, .int .u64 nl, .int .u64 nh, .int .i64 0, .slice a1 n1 c1] #[.int .u64 lo', .int .u64 hi', .int .u64 ba', .int .u64 fi', .int .u64 la', .int .u64 ad', .int .i64 n', .int .u64 nl', .int .u64 nh', .int .i64 0, .slice a2 n2 c2] (box_new w lo hi ba fi la ad n nl nh 0 (.slice a1 n1 c1)) (fun w => box_new w lo' hi' ba' fi' la' ad' n' nl' nh' 0 (.slice a2 n2 c2))
    obtain ⟨hxl0, hxq0, hbb0⟩ := hx0
    go_enter Trym.func6, Trym.ntmps6
    go_wp2_with fail
    refine (bytes_absorb lo hi ba fi la ad n nl nh 0 lo' hi' ba' fi' la' ad' n' nl' nh' 0 _ _ n1 c1 n2 c2 _ (by omega) (by omega)).mono ?_
    rintro e w1 ⟨rfl, hB1⟩
    rw [hd]
    have hz1 : w.heap.size + 2 ≤ w1.heap.size := by have := hB1.size; simp at this; omega
    have hxl1 := rowIs_below hB1 (by simp; omega) hxl0
    have hxq1 := rowIs_below hB1 (by simp) hxq0
    have hbb1 : Below w.heap.size w w1 := hbb0.trans (hB1.mono (by simp; omega))
    clear hB1 hbb0 hxl0 hxq0 hd
    obtain ⟨x0, x1, x2, x3, x4, x5, x6, x7, x8, x9, x10⟩ := box_cells hxl1
    obtain ⟨y0, y1, y2, y3, y4, y5, y6, y7, y8, y9, y10⟩ := box_cells hxq1
    go_wp2
    go_ret
    exact ⟨rfl, hbb1⟩
  · have d1' : (wd == 0) = false := by simp; omega
    clear h
    have hx0 := box_two w (boxF lo hi ba fi la ad n nl nh wd (.slice a1 n1 c1)) (boxF lo' hi' ba' fi' la' ad' n' nl' nh' 0 (.slice a2 n2 c2)) #[.int .u64 lo, .int .u64 hi, .int .u64 ba, .int .u64 fi, .int .u64 la, .int .u64 ad, .int .i64 n, .int .u64 nl, .int .u64 nh, .int .i64 wd, .slice a1 n1 c1] #[.int .u64 lo', .int .u64 hi', .int .u64 ba', .int .u64 fi', .int .u64 la', .int .u64 ad', .int .i64 n', .int .u64 nl', .int .u64 nh', .int .i64 0, .slice a2 n2 c2] (box_new w lo hi ba fi la ad n nl nh wd (.slice a1 n1 c1)) (fun w => box_new w lo' hi' ba' fi' la' ad' n' nl' nh' 0 (.slice a2 n2 c2))
    obtain ⟨hxl0, hxq0, hbb0⟩ := hx0
    go_enter Trym.func6, Trym.ntmps6
    go_wp2_with fail
    refine (bytes_absorb lo hi ba fi la ad n nl nh wd lo' hi' ba' fi' la' ad' n' nl' nh' 0 _ _ n1 c1 n2 c2 _ (by omega) (by omega)).mono ?_
    rintro e w1 ⟨rfl, hB1⟩
    rw [hd]
    have hz1 : w.heap.size + 2 ≤ w1.heap.size := by have := hB1.size; simp at this; omega
    have hxl1 := rowIs_below hB1 (by simp; omega) hxl0
    have hxq1 := rowIs_below hB1 (by simp) hxq0
    have hbb1 : Below w.heap.size w w1 := hbb0.trans (hB1.mono (by simp; omega))
    clear hB1 hbb0 hxl0 hxq0 hd
    obtain ⟨x0, x1, x2, x3, x4, x5, x6, x7, x8, x9, x10⟩ := box_cells hxl1
    obtain ⟨y0, y1, y2, y3, y4, y5, y6, y7, y8, y9, y10⟩ := box_cells hxq1
    go_wp2
    go_ret
    exact ⟨rfl, hbb1⟩

set_option maxRecDepth 100000 in
set_option maxHeartbeats 3200000 in
/-- two leaves of bits, one of which has no top -/
theorem abs_early3 (lo hi ba fi la ad n nl nh lo' hi' ba' fi' la' ad' n' nl' nh' : Int) (a1 a2 : Option Addr) (n1 c1 n2 c2 : Nat) (w : World) (hn1 : 0 < n1) (hl1 : n1 ≤ 65536) (hn2 : 0 < n2) (hl2 : n2 ≤ 65536) (h : 18446744073709551615 - (64 * (n1 : Int) - 1) < ba ∨ 18446744073709551615 - (64 * (n2 : Int) - 1) < ba') :
    Calls Trym.prog 6 #[.agg #[.int .u64 lo, .int .u64 hi, .int .u64 ba, .int .u64 fi, .int .u64 la, .int .u64 ad, .int .i64 n, .int .u64 nl, .int .u64 nh, .int .i64 0, .slice a1 n1 c1], .agg #[.int .u64 lo', .int .u64 hi', .int .u64 ba', .int .u64 fi', .int .u64 la', .int .u64 ad', .int .i64 n', .int .u64 nl', .int .u64 nh', .int .i64 0, .slice a2 n2 c2]] w fun e w' => e = .returned (.bool true) ∧ Below w.heap.size w w' := by
  have hd : decide (n1 + n2 ≤ 1048576) = true := by simp; omega
  have z1 : ((n1 : Int) == 0) = false := by simp; omega
  have z2 : ((n2 : Int) == 0) = false := by simp; omega
  by_cases d1 : 18446744073709551615 - (64 * (n1 : Int) - 1) < ba
  · clear h
    have hx0 := box_two w (boxF lo hi ba fi la ad n nl nh 0 (.slice a1 n1 c1)) (boxF lo' hi' ba' fi' la' ad' n' nl' nh' 0 (.slice a2 n2 c2)) #[.int .u64 lo, .int .u64 hi, .int .u64 ba, .int .u64 fi, .int .u64 la, .int .u64 ad, .int .i64 n, .int .u64 nl, .int .u64 nh, .int .i64 0, .slice a1 n1 c1] #[.int .u64 lo', .int .u64 hi', .int .u64 ba', .int .u64 fi', .int .u64 la', .int .u64 ad', .int .i64 n', .int .u64 nl', .int .u64 nh', .int .i64 0, .slice a2 n2 c2] (box_new w lo hi ba fi la ad n nl nh 0 (.slice a1 n1 c1)) (fun w => box_new w lo' hi' ba' fi' la' ad' n' nl' nh' 0 (.slice a2 n2 c2))
    obtain ⟨hxl0, hxq0, hbb0⟩ := hx0
    go_enter Trym.func6, Trym.ntmps6
    go_wp2_with fail
    refine (bytes_absorb lo hi ba fi la ad n nl nh 0 lo' hi' ba' fi' la' ad' n' nl' nh' 0 _ _ n1 c1 n2 c2 _ (by omega) (by omega)).mono ?_
    rintro e w1 ⟨rfl, hB1⟩
    rw [hd]
    have hz1 : w.heap.size + 2 ≤ w1.heap.size := by have := hB1.size; simp at this; omega
    have hxl1 := rowIs_below hB1 (by simp; omega) hxl0
    have hxq1 := rowIs_below hB1 (by simp) hxq0
    have hbb1 : Below w.heap.size w w1 := hbb0.trans (hB1.mono (by simp; omega))
    clear hB1 hbb0 hxl0 hxq0 hd
    obtain ⟨x0, x1, x2, x3, x4, x5, x6, x7, x8, x9, x10⟩ := box_cells hxl1
    obtain ⟨y0, y1, y2, y3, y4, y5, y6, y7, y8, y9, y10⟩ := box_cells hxq1
    go_wp2
    go_ret
    exact ⟨rfl, hbb1⟩
  · have d2 : 18446744073709551615 - (64 * (n2 : Int) - 1) < ba' := by omega
    clear h
    have hx0 := box_two w (boxF lo hi ba fi la ad n nl nh 0 (.slice a1 n1 c1)) (boxF lo' hi' ba' fi' la' ad' n' nl' nh' 0 (.slice a2 n2 c2)) #[.int .u64 lo, .int .u64 hi, .int .u64 ba, .int .u64 fi, .int .u64 la, .int .u64 ad, .int .i64 n, .int .u64 nl, .int .u64 nh, .int .i64 0, .slice a1 n1 c1] #[.int .u64 lo', .int .u64 hi', .int .u64 ba', .int .u64 fi', .int .u64 la', .int .u64 ad', .int .i64 n', .int .u64 nl', .int .u64 nh', .int .i64 0, .slice a2 n2 c2] (box_new w lo hi ba fi la ad n nl nh 0 (.slice a1 n1 c1)) (fun w => box_new w lo' hi' ba' fi' la' ad' n' nl' nh' 0 (.slice a2 n2 c2))
    obtain ⟨hxl0, hxq0, hbb0⟩ := hx0
    go_enter Trym.func6, Trym.ntmps6
    go_wp2_with fail
    refine (bytes_absorb lo hi ba fi la ad n nl nh 0 lo' hi' ba' fi' la' ad' n' nl' nh' 0 _ _ n1 c1 n2 c2 _ (by omega) (by omega)).mono ?_
    rintro e w1 ⟨rfl, hB1⟩
    rw [hd]
    have hz1 : w.heap.size + 2 ≤ w1.heap.size := by have := hB1.size; simp at this; omega
    have hxl1 := rowIs_below hB1 (by simp; omega) hxl0
    have hxq1 := rowIs_below hB1 (by simp) hxq0
    have hbb1 : Below w.heap.size w w1 := hbb0.trans (hB1.mono (by simp; omega))
    clear hB1 hbb0 hxl0 hxq0 hd
    obtain ⟨x0, x1, x2, x3, x4, x5, x6, x7, x8, x9, x10⟩ := box_cells hxl1
    obtain ⟨y0, y1, y2, y3, y4, y5, y6, y7, y8, y9, y10⟩ := box_cells hxq1
    go_wp2
    go_ret
    exact ⟨rfl, hbb1⟩

end Go.Proofs.Qxb6603759aMods
