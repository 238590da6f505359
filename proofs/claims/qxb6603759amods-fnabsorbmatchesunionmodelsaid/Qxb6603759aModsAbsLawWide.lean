/-
  SEAT b6603759aM. THE LAW FnAbsorbMatchesUnionModel (6).
-/
import Derived.Test.Qxb6603759aModsAbsorb
namespace Go.Proofs.Qxb6603759aMods
open Go.RowKit Plain

theorem Words.below {w w' : World} {a : Option Addr} {n c b off : Nat} {f : Nat → Nat} (h : Words w a n c b off f) (hb : Below w.heap.size w w') : Words w' a n c b off f :=
  ⟨h.len, h.cap, h.fits, h.nil, h.addr, fun i hi => by rw [hb.cell (p := ⟨b, off + i, none⟩) (World.block_lt_of_cell? _ _ (h.cell i hi))]; exact h.cell i hi⟩

theorem zzabsorb_of {a0 a1 : Value} {w : World} {r : Bool} {R : World → Prop} (h : Calls Trym.prog 29 #[a0, a1] w fun e w' => e = .returned (.bool r) ∧ R w') :
    Calls Trym.prog 20 #[a0, a1] w fun e w' => e = .returned (.bool r) ∧ R w' := by
  go_enter Trym.func20, Trym.ntmps20
  go_wp2_with fail
  refine h.mono ?_
  rintro e w' ⟨rfl, hp⟩
  go_wp2
  go_ret
  exact ⟨rfl, hp⟩

/-- BOTH BOXES OF THE LAW's ARGUMENTS. -/
theorem box_two (w : World) (g1 g2 : Nat → Value) (c1 c2 : Array Value) (h1 : (w.alloc (.cells c1 29)).rowIs w.heap.size 29 11 g1) (h2 : ∀ w : World, (w.alloc (.cells c2 29)).rowIs w.heap.size 29 11 g2) :
    ((w.alloc (.cells c1 29)).alloc (.cells c2 29)).rowIs w.heap.size 29 11 g1 ∧ ((w.alloc (.cells c1 29)).alloc (.cells c2 29)).rowIs (w.heap.size + 1) 29 11 g2 ∧ Below w.heap.size w ((w.alloc (.cells c1 29)).alloc (.cells c2 29)) := by
  refine ⟨h1.alloc _, ?_, ((Below.refl _ _).alloc (Nat.le_refl _) _).alloc (by simp) _⟩
  have h := h2 (w.alloc (.cells c1 29))
  rwa [show (w.alloc (.cells c1 29)).heap.size = w.heap.size + 1 from by simp] at h

set_option maxRecDepth 100000 in
set_option maxHeartbeats 3200000 in
/-- q is a leaf of offsets: absorb refuses, and neither leaf turns. -/
theorem abs_law_wide (lo hi ba fi la ad n nl nh wd lo' hi' ba' fi' la' ad' n' nl' nh' wd' : Int) (a1 a2 : Option Addr) (n1 c1 n2 c2 b1 o1 b2 o2 : Nat) (f1 f2 : Nat → Nat) (w : World) (hn1 : n1 ≤ 65536) (hn2 : n2 ≤ 65536) (hw1 : Words w a1 n1 c1 b1 o1 f1) (hw2 : Words w a2 n2 c2 b2 o2 f2) (hwd : 0 < wd') :
    Calls Trym.prog 6 #[.agg #[.int .u64 lo, .int .u64 hi, .int .u64 ba, .int .u64 fi, .int .u64 la, .int .u64 ad, .int .i64 n, .int .u64 nl, .int .u64 nh, .int .i64 wd, .slice a1 n1 c1], .agg #[.int .u64 lo', .int .u64 hi', .int .u64 ba', .int .u64 fi', .int .u64 la', .int .u64 ad', .int .i64 n', .int .u64 nl', .int .u64 nh', .int .i64 wd', .slice a2 n2 c2]] w fun e w' => e = .returned (.bool true) ∧ Below w.heap.size w w' := by
  have hd : decide (n1 + n2 ≤ 1048576) = true := by simp; omega
  have hx0 := box_two w (boxF lo hi ba fi la ad n nl nh wd (.slice a1 n1 c1)) (boxF lo' hi' ba' fi' la' ad' n' nl' nh' wd' (.slice a2 n2 c2)) #[.int .u64 lo, .int .u64 hi, .int .u64 ba, .int .u64 fi, .int .u64 la, .int .u64 ad, .int .i64 n, .int .u64 nl, .int .u64 nh, .int .i64 wd, .slice a1 n1 c1] #[.int .u64 lo', .int .u64 hi', .int .u64 ba', .int .u64 fi', .int .u64 la', .int .u64 ad', .int .i64 n', .int .u64 nl', .int .u64 nh', .int .i64 wd', .slice a2 n2 c2] (box_new w lo hi ba fi la ad n nl nh wd (.slice a1 n1 c1)) (fun w => box_new w lo' hi' ba' fi' la' ad' n' nl' nh' wd' (.slice a2 n2 c2))
  obtain ⟨hxl0, hxq0, hbb0⟩ := hx0
  go_enter Trym.func6, Trym.ntmps6
  go_wp2_with fail
  refine (bytes_absorb lo hi ba fi la ad n nl nh wd lo' hi' ba' fi' la' ad' n' nl' nh' wd' _ _ n1 c1 n2 c2 _ (by omega) (by omega)).mono ?_
  rintro e w1 ⟨rfl, hB1⟩
  rw [hd]
  have hz1 : w.heap.size + 2 ≤ w1.heap.size := by have := hB1.size; simp at this; omega
  have hxl1 := rowIs_below hB1 (by simp; omega) hxl0
  have hxq1 := rowIs_below hB1 (by simp) hxq0
  have hbb1 : Below w.heap.size w w1 := hbb0.trans (hB1.mono (by simp; omega))
  clear hB1 hbb0 hxl0 hxq0 hd
  obtain ⟨x0, x1, x2, x3, x4, x5, x6, x7, x8, x9, x10⟩ := box_cells hxl1
  obtain ⟨y0, y1, y2, y3, y4, y5, y6, y7, y8, y9, y10⟩ := box_cells hxq1
  go_wp2_with fail
  refine (make_any lo hi ba fi la ad n nl nh wd a1 n1 c1 b1 o1 f1 w1 (by omega) (hw1.below hbb1)).mono ?_
  rintro e w2 ⟨bl, bp, a1', c1', rfl, hM⟩
  have hxl2 := rowIs_below hM.below (by omega) hxl1
  have hxq2 := rowIs_below hM.below (by omega) hxq1
  have hbb2 : Below w.heap.size w w2 := hbb1.trans (hM.below.mono (by omega))
  have hl2 := hM.leaf
  have ht2 := hM.twin
  have hz2 : w1.heap.size ≤ w2.heap.size := hM.below.size
  have hlb := hM.lb
  clear hM hxl1 hxq1 x0 x1 x2 x3 x4 x5 x6 x7 x8 x9 x10 y0 y1 y2 y3 y4 y5 y6 y7 y8 y9 y10 hbb1
  obtain ⟨y0, y1, y2, y3, y4, y5, y6, y7, y8, y9, y10⟩ := box_cells hxq2
  go_wp2_with fail
  refine (make_any lo' hi' ba' fi' la' ad' n' nl' nh' wd' a2 n2 c2 b2 o2 f2 w2 (by omega) (hw2.below hbb2)).mono ?_
  rintro e w3 ⟨bl', bp', a2', c2', rfl, hM⟩
  have hxl3 := rowIs_below hM.below (by omega) hxl2
  have hxq3 := rowIs_below hM.below (by omega) hxq2
  have hbb3 : Below w.heap.size w w3 := hbb2.trans (hM.below.mono (by omega))
  have hl3 := rowIs_below hM.below hl2.lt hl2
  have hq3 := hM.leaf
  have ht3 := ht2.below hM.below
  have hu3 := hM.twin
  have hz3 : w2.heap.size ≤ w3.heap.size := hM.below.size
  clear hM hxl2 hxq2 y0 y1 y2 y3 y4 y5 y6 y7 y8 y9 y10 hbb2 hl2 ht2 hw1 hw2
  go_wp2_with fail
  refine (zzabsorb_of (R := fun w' => w' = w3) (absorb_wide bl bl' lo' hi' ba' fi' la' ad' n' nl' nh' wd' _ w3 hwd hq3)).mono ?_
  rintro e w4 ⟨rfl, rfl⟩
  go_wp2_with fail
  refine (read_any bl lo hi ba fi la ad n nl nh wd a1' n1 c1' _ hl3).mono ?_
  rintro e w5 ⟨rfl, hB5⟩
  go_wp2_with fail
  have hz5 : w4.heap.size ≤ w5.heap.size := hB5.size
  have hg6 := box_new w5 lo hi ba fi la ad n nl nh wd (.slice a1' n1 c1')
  have hB6 : Below w4.heap.size w4 _ := (hB5.alloc hz5 (.cells #[.int .u64 lo, .int .u64 hi, .int .u64 ba, .int .u64 fi, .int .u64 la, .int .u64 ad, .int .i64 n, .int .u64 nl, .int .u64 nh, .int .i64 wd, .slice a1' n1 c1'] 29))
  have hz6 : w5.heap.size < (w5.alloc (.cells #[.int .u64 lo, .int .u64 hi, .int .u64 ba, .int .u64 fi, .int .u64 la, .int .u64 ad, .int .i64 n, .int .u64 nl, .int .u64 nh, .int .i64 wd, .slice a1' n1 c1'] 29)).heap.size := by simp
  generalize w5.alloc (.cells #[.int .u64 lo, .int .u64 hi, .int .u64 ba, .int .u64 fi, .int .u64 la, .int .u64 ad, .int .i64 n, .int .u64 nl, .int .u64 nh, .int .i64 wd, .slice a1' n1 c1'] 29) = w6 at hg6 hB6 hz6 ⊢
  have hxl6 := rowIs_below hB6 (by omega) hxl3
  have hxq6 := rowIs_below hB6 (by omega) hxq3
  have hbb6 : Below w.heap.size w w6 := hbb3.trans (hB6.mono (by omega))
  have hq6 := rowIs_below hB6 hq3.lt hq3
  have ht6 := ht3.below hB6
  have hu6 := hu3.below hB6
  clear hxl3 hxq3 hbb3 hq3 ht3 hu3 hl3 hB5 hB6
  refine (read_any bl' lo' hi' ba' fi' la' ad' n' nl' nh' wd' a2' n2 c2' _ hq6).mono ?_
  rintro e w7 ⟨rfl, hB7⟩
  have hz7 : w6.heap.size ≤ w7.heap.size := hB7.size
  have hg8 := box_new w7 lo' hi' ba' fi' la' ad' n' nl' nh' wd' (.slice a2' n2 c2')
  have hB8 : Below w6.heap.size w6 _ := (hB7.alloc hz7 (.cells #[.int .u64 lo', .int .u64 hi', .int .u64 ba', .int .u64 fi', .int .u64 la', .int .u64 ad', .int .i64 n', .int .u64 nl', .int .u64 nh', .int .i64 wd', .slice a2' n2 c2'] 29))
  have hz8 : w7.heap.size < (w7.alloc (.cells #[.int .u64 lo', .int .u64 hi', .int .u64 ba', .int .u64 fi', .int .u64 la', .int .u64 ad', .int .i64 n', .int .u64 nl', .int .u64 nh', .int .i64 wd', .slice a2' n2 c2'] 29)).heap.size := by simp
  have hxl8 := rowIs_below hB8 (by omega) hxl6
  have hxq8 := rowIs_below hB8 (by omega) hxq6
  have hgl8 := rowIs_below hB8 hz6 hg6
  have hbb8 : Below w.heap.size w _ := hbb6.trans (hB8.mono (by omega))
  have ht8 := ht6.below hB8
  have hu8 := hu6.below hB8
  clear hxl6 hxq6 hbb6 hq6 ht6 hu6 hg6 hB7 hB8
  obtain ⟨x0, x1, x2, x3, x4, x5, x6, x7, x8, x9, x10⟩ := box_cells hxl8
  obtain ⟨g0, g1, g2, g3, g4, g5, g6, g7, g8, g9, g10⟩ := box_cells hgl8
  go_wp2_with fail
  refine (sameLeaf_any lo hi ba fi la ad n nl nh wd a1' a1 n1 c1' c1 bp 0 b1 o1 f1 _ (by omega) ht8).mono ?_
  rintro e w9 ⟨rfl, hB9⟩
  have hxq9 := rowIs_below hB9 (by omega) hxq8
  have hgq9 := rowIs_below hB9 hz8 hg8
  have hu9 := hu8.below hB9
  have hbb9 : Below w.heap.size w w9 := hbb8.trans (hB9.mono (by omega))
  have hz9 := hB9.size
  clear x0 x1 x2 x3 x4 x5 x6 x7 x8 x9 x10 g0 g1 g2 g3 g4 g5 g6 g7 g8 g9 g10 hxl8 hxq8 hgl8 hg8 hbb8 ht8 hu8 hB9
  obtain ⟨x0, x1, x2, x3, x4, x5, x6, x7, x8, x9, x10⟩ := box_cells hxq9
  obtain ⟨g0, g1, g2, g3, g4, g5, g6, g7, g8, g9, g10⟩ := box_cells hgq9
  go_wp2_with fail
  refine (sameLeaf_any lo' hi' ba' fi' la' ad' n' nl' nh' wd' a2' a2 n2 c2' c2 bp' 0 b2 o2 f2 _ (by omega) hu9).mono ?_
  rintro e w10 ⟨rfl, hB10⟩
  go_wp2
  go_ret
  exact ⟨rfl, hbb9.trans (hB10.mono (by omega))⟩
end Go.Proofs.Qxb6603759aMods
