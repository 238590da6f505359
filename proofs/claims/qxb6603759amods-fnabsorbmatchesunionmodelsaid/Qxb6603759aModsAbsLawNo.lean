/-
  SEAT b6603759aM. THE LAW FnAbsorbMatchesUnionModel (6): two leaves of bits that absorb refuses to join.
-/
import Derived.Test.Qxb6603759aModsAbsLawWide
namespace Go.Proofs.Qxb6603759aMods
open Go.RowKit Plain

set_option maxRecDepth 100000 in
set_option maxHeartbeats 3200000 in
theorem abs_law_no1 (lo hi fi la ad n nl nh lo' hi' fi' la' ad' n' nl' nh' : Int) (a1 a2 : Option Addr) (n1 c1 n2 c2 b1 o1 b2 o2 lb qb base top LT QT D W : Nat) (f1 f2 : Nat → Nat) (w : World) (hn1 : 0 < n1) (hn1' : n1 ≤ 65536) (hn2 : 0 < n2) (hn2' : n2 ≤ 65536) (hw1 : Words w a1 n1 c1 b1 o1 f1) (hw2 : Words w a2 n2 c2 b2 o2 f2)
    (hLT : (lb : Int) + 64 * (n1 : Int) - 1 = (LT : Int)) (hQT : (qb : Int) + 64 * (n2 : Int) - 1 = (QT : Int)) (hLT' : LT < 18446744073709551616) (hQT' : QT < 18446744073709551616)
    (hbase : (if qb < lb then (qb : Int) else (lb : Int)) = (base : Int)) (htop : (if LT < QT then (QT : Int) else (LT : Int)) = (top : Int)) (hD : (top : Int) - (base : Int) = (D : Int)) (hW : (D : Int) / 64 + 1 = (W : Int)) (htp : top < 18446744073709551616) (hno : 32768 ≤ D) :
    Calls Trym.prog 6 #[.agg #[.int .u64 lo, .int .u64 hi, .int .u64 lb, .int .u64 fi, .int .u64 la, .int .u64 ad, .int .i64 n, .int .u64 nl, .int .u64 nh, .int .i64 0, .slice a1 n1 c1], .agg #[.int .u64 lo', .int .u64 hi', .int .u64 qb, .int .u64 fi', .int .u64 la', .int .u64 ad', .int .i64 n', .int .u64 nl', .int .u64 nh', .int .i64 0, .slice a2 n2 c2]] w fun e w' => e = .returned (.bool true) ∧ Below w.heap.size w w' := by
  have HNO : Hid (32768 ≤ D ∨ D < 32768 ∧ n1 + n2 + 16 < W) := .inl hno
  have HNO1 : Hid (32768 ≤ D) := hno
  clear hno
  have hd : decide (n1 + n2 ≤ 1048576) = true := by simp; omega
  have hmin : min (lb : Int) (qb : Int) = (base : Int) := by split at hbase <;> omega
  have hmax : max (LT : Int) (QT : Int) = (top : Int) := by split at htop <;> omega
  have HMIN : Hid (min (lb : Int) (qb : Int) = (base : Int)) := hmin
  have HMAX : Hid (max (LT : Int) (QT : Int) = (top : Int)) := hmax
  have HLT : Hid ((lb : Int) + 64 * (n1 : Int) - 1 = (LT : Int)) := hLT
  have HQT : Hid ((qb : Int) + 64 * (n2 : Int) - 1 = (QT : Int)) := hQT
  have HBASE : Hid ((if qb < lb then (qb : Int) else (lb : Int)) = (base : Int)) := hbase
  have HTOP : Hid ((if LT < QT then (QT : Int) else (LT : Int)) = (top : Int)) := htop
  have HD : Hid ((top : Int) - (base : Int) = (D : Int)) := hD
  have HW : Hid ((D : Int) / 64 + 1 = (W : Int)) := hW
  have hL2 : (lb : Int) + (64 * (n1 : Int) - 1) = (LT : Int) := by omega
  have hQ2 : (qb : Int) + (64 * (n2 : Int) - 1) = (QT : Int) := by omega
  have e1 : (lb : Int) ≤ 18446744073709551615 - (64 * (n1 : Int) - 1) := by omega
  have e2 : (qb : Int) ≤ 18446744073709551615 - (64 * (n2 : Int) - 1) := by omega
  have z1 : ((n1 : Int) == 0) = false := by simp; omega
  have z2 : ((n2 : Int) == 0) = false := by simp; omega
  clear hmin hmax hLT hQT hbase htop
  have hx0 := box_two w (boxF lo hi lb fi la ad n nl nh 0 (.slice a1 n1 c1)) (boxF lo' hi' qb fi' la' ad' n' nl' nh' 0 (.slice a2 n2 c2)) #[.int .u64 lo, .int .u64 hi, .int .u64 lb, .int .u64 fi, .int .u64 la, .int .u64 ad, .int .i64 n, .int .u64 nl, .int .u64 nh, .int .i64 0, .slice a1 n1 c1] #[.int .u64 lo', .int .u64 hi', .int .u64 qb, .int .u64 fi', .int .u64 la', .int .u64 ad', .int .i64 n', .int .u64 nl', .int .u64 nh', .int .i64 0, .slice a2 n2 c2] (box_new w lo hi lb fi la ad n nl nh 0 (.slice a1 n1 c1)) (fun w => box_new w lo' hi' qb fi' la' ad' n' nl' nh' 0 (.slice a2 n2 c2))
  obtain ⟨hxl0, hxq0, hbb0⟩ := hx0
  go_enter Trym.func6, Trym.ntmps6
  go_wp2_with fail
  refine (bytes_absorb lo hi lb fi la ad n nl nh 0 lo' hi' qb fi' la' ad' n' nl' nh' 0 _ _ n1 c1 n2 c2 _ (by omega) (by omega)).mono ?_
  rintro e w1 ⟨rfl, hB1⟩
  rw [hd]
  have hz1 : w.heap.size + 2 ≤ w1.heap.size := by have := hB1.size; simp at this; omega
  have hxl1 := rowIs_below hB1 (by simp; omega) hxl0
  have hxq1 := rowIs_below hB1 (by simp) hxq0
  have hbb1 : Below w.heap.size w w1 := hbb0.trans (hB1.mono (by simp; omega))
  clear hB1 hbb0 hxl0 hxq0 hd
  obtain ⟨x0, x1, x2, x3, x4, x5, x6, x7, x8, x9, x10⟩ := box_cells hxl1
  obtain ⟨y0, y1, y2, y3, y4, y5, y6, y7, y8, y9, y10⟩ := box_cells hxq1
  go_wp2_with fail
  refine (minU_any _ _ _).mono ?_
  rintro e w2 ⟨rfl, rfl⟩
  rw [HMIN.out]
  go_wp2_with fail
  refine (maxOf_any _ _ _).mono ?_
  rintro e w3 ⟨rfl, rfl⟩
  rw [HMAX.out]
  have hnd : decide ((D : Int) < 32768) = false := by have := HNO1.out; simp; omega
  go_wp2_with fail
  refine (make_any lo hi lb fi la ad n nl nh 0 a1 n1 c1 b1 o1 f1 _ (by omega) (hw1.below hbb1)).mono ?_
  rintro e w4 ⟨bl, bp, a1', c1', rfl, hM⟩
  have hxl4 := rowIs_below hM.below (by omega) hxl1
  have hxq4 := rowIs_below hM.below (by omega) hxq1
  have hbb4 : Below w.heap.size w w4 := hbb1.trans (hM.below.mono (by omega))
  have hl4 := hM.leaf
  have ht4 := hM.twin
  have hz4 : w3.heap.size ≤ w4.heap.size := hM.below.size
  clear hM hxl1 hxq1 x0 x1 x2 x3 x4 x5 x6 x7 x8 x9 x10 y0 y1 y2 y3 y4 y5 y6 y7 y8 y9 y10 hbb1 hL2 hQ2 e1 e2 z1 z2
  obtain ⟨y0, y1, y2, y3, y4, y5, y6, y7, y8, y9, y10⟩ := box_cells hxq4
  go_wp2_with fail
  refine (make_any lo' hi' qb fi' la' ad' n' nl' nh' 0 a2 n2 c2 b2 o2 f2 w4 (by omega) (hw2.below hbb4)).mono ?_
  rintro e w5 ⟨bl', bp', a2', c2', rfl, hM⟩
  have hxl5 := rowIs_below hM.below (by omega) hxl4
  have hxq5 := rowIs_below hM.below (by omega) hxq4
  have hbb5 : Below w.heap.size w w5 := hbb4.trans (hM.below.mono (by omega))
  have hl5 := rowIs_below hM.below hl4.lt hl4
  have hq5 := hM.leaf
  have ht5 := ht4.below hM.below
  have hu5 := hM.twin
  have hz5 : w4.heap.size ≤ w5.heap.size := hM.below.size
  clear hM hxl4 hxq4 y0 y1 y2 y3 y4 y5 y6 y7 y8 y9 y10 hbb4 hl4 ht4 hw1 hw2 hD hW
  go_wp2_with fail
  refine (zzabsorb_of (R := fun w' => ∃ nq, w' = w5.drewN nq) (absorb_no bl bl' lb qb n1 n2 base top LT QT D W a1' a2' c1' c2' lo hi fi la ad n nl nh lo' hi' fi' la' ad' n' nl' nh' w5 hl5 hq5 hn1 hn1' hn2 hn2' HLT.out HQT.out hLT' hQT' HBASE.out HTOP.out HD.out HW.out htp HNO.out)).mono ?_
  rintro e w6 ⟨rfl, nq, rfl⟩
  go_wp2_with fail
  refine (read_any bl lo hi lb fi la ad n nl nh 0 a1' n1 c1' _ (rowIs_drewN hl5 nq)).mono ?_
  rintro e w7 ⟨rfl, hB7⟩
  go_wp2_with fail
  have hz7 : w5.heap.size ≤ w7.heap.size := hB7.size
  have hB7' : Below w5.heap.size w5 w7 := (belowDrewN (Below.refl _ _) nq).trans hB7
  have hg8 := box_new w7 lo hi lb fi la ad n nl nh 0 (.slice a1' n1 c1')
  have hB8 : Below w5.heap.size w5 _ := (hB7'.alloc hz7 (.cells #[.int .u64 lo, .int .u64 hi, .int .u64 lb, .int .u64 fi, .int .u64 la, .int .u64 ad, .int .i64 n, .int .u64 nl, .int .u64 nh, .int .i64 0, .slice a1' n1 c1'] 29))
  have hz8 : w7.heap.size < (w7.alloc (.cells #[.int .u64 lo, .int .u64 hi, .int .u64 lb, .int .u64 fi, .int .u64 la, .int .u64 ad, .int .i64 n, .int .u64 nl, .int .u64 nh, .int .i64 0, .slice a1' n1 c1'] 29)).heap.size := by simp
  generalize w7.alloc (.cells #[.int .u64 lo, .int .u64 hi, .int .u64 lb, .int .u64 fi, .int .u64 la, .int .u64 ad, .int .i64 n, .int .u64 nl, .int .u64 nh, .int .i64 0, .slice a1' n1 c1'] 29) = w8 at hg8 hB8 hz8 ⊢
  have hxl8 := rowIs_below hB8 (by omega) hxl5
  have hxq8 := rowIs_below hB8 (by omega) hxq5
  have hbb8 : Below w.heap.size w w8 := hbb5.trans (hB8.mono (by omega))
  have hq8 := rowIs_below hB8 hq5.lt hq5
  have ht8 := ht5.below hB8
  have hu8 := hu5.below hB8
  clear hxl5 hxq5 hbb5 hq5 ht5 hu5 hl5 hB7 hB7' hB8
  refine (read_any bl' lo' hi' qb fi' la' ad' n' nl' nh' 0 a2' n2 c2' _ hq8).mono ?_
  rintro e w9 ⟨rfl, hB9⟩
  have hz9 : w8.heap.size ≤ w9.heap.size := hB9.size
  have hg10 := box_new w9 lo' hi' qb fi' la' ad' n' nl' nh' 0 (.slice a2' n2 c2')
  have hB10 : Below w8.heap.size w8 _ := (hB9.alloc hz9 (.cells #[.int .u64 lo', .int .u64 hi', .int .u64 qb, .int .u64 fi', .int .u64 la', .int .u64 ad', .int .i64 n', .int .u64 nl', .int .u64 nh', .int .i64 0, .slice a2' n2 c2'] 29))
  have hz10 : w9.heap.size < (w9.alloc (.cells #[.int .u64 lo', .int .u64 hi', .int .u64 qb, .int .u64 fi', .int .u64 la', .int .u64 ad', .int .i64 n', .int .u64 nl', .int .u64 nh', .int .i64 0, .slice a2' n2 c2'] 29)).heap.size := by simp
  have hxl10 := rowIs_below hB10 (by omega) hxl8
  have hxq10 := rowIs_below hB10 (by omega) hxq8
  have hgl10 := rowIs_below hB10 hz8 hg8
  have hbb10 : Below w.heap.size w _ := hbb8.trans (hB10.mono (by omega))
  have ht10 := ht8.below hB10
  have hu10 := hu8.below hB10
  clear hxl8 hxq8 hbb8 hq8 ht8 hu8 hg8 hB9 hB10
  obtain ⟨x0, x1, x2, x3, x4, x5, x6, x7, x8, x9, x10⟩ := box_cells hxl10
  obtain ⟨g0, g1, g2, g3, g4, g5, g6, g7, g8, g9, g10⟩ := box_cells hgl10
  go_wp2_with fail
  refine (sameLeaf_any lo hi lb fi la ad n nl nh 0 a1' a1 n1 c1' c1 bp 0 b1 o1 f1 _ (by omega) ht10).mono ?_
  rintro e w11 ⟨rfl, hB11⟩
  have hxq11 := rowIs_below hB11 (by omega) hxq10
  have hgq11 := rowIs_below hB11 hz10 hg10
  have hu11 := hu10.below hB11
  have hbb11 : Below w.heap.size w w11 := hbb10.trans (hB11.mono (by omega))
  have hz11 := hB11.size
  clear x0 x1 x2 x3 x4 x5 x6 x7 x8 x9 x10 g0 g1 g2 g3 g4 g5 g6 g7 g8 g9 g10 hxl10 hxq10 hgl10 hg10 hbb10 ht10 hu10 hB11
  obtain ⟨x0, x1, x2, x3, x4, x5, x6, x7, x8, x9, x10⟩ := box_cells hxq11
  obtain ⟨g0, g1, g2, g3, g4, g5, g6, g7, g8, g9, g10⟩ := box_cells hgq11
  go_wp2_with fail
  refine (sameLeaf_any lo' hi' qb fi' la' ad' n' nl' nh' 0 a2' a2 n2 c2' c2 bp' 0 b2 o2 f2 _ (by omega) hu11).mono ?_
  rintro e w12 ⟨rfl, hB12⟩
  go_wp2
  go_ret
  exact ⟨rfl, hbb11.trans (hB12.mono (by omega))⟩

set_option maxRecDepth 100000 in
set_option maxHeartbeats 3200000 in
theorem abs_law_no2 (lo hi fi la ad n nl nh lo' hi' fi' la' ad' n' nl' nh' : Int) (a1 a2 : Option Addr) (n1 c1 n2 c2 b1 o1 b2 o2 lb qb base top LT QT D W : Nat) (f1 f2 : Nat → Nat) (w : World) (hn1 : 0 < n1) (hn1' : n1 ≤ 65536) (hn2 : 0 < n2) (hn2' : n2 ≤ 65536) (hw1 : Words w a1 n1 c1 b1 o1 f1) (hw2 : Words w a2 n2 c2 b2 o2 f2)
    (hLT : (lb : Int) + 64 * (n1 : Int) - 1 = (LT : Int)) (hQT : (qb : Int) + 64 * (n2 : Int) - 1 = (QT : Int)) (hLT' : LT < 18446744073709551616) (hQT' : QT < 18446744073709551616)
    (hbase : (if qb < lb then (qb : Int) else (lb : Int)) = (base : Int)) (htop : (if LT < QT then (QT : Int) else (LT : Int)) = (top : Int)) (hD : (top : Int) - (base : Int) = (D : Int)) (hW : (D : Int) / 64 + 1 = (W : Int)) (htp : top < 18446744073709551616) (hno : D < 32768) (hno2 : n1 + n2 + 16 < W) :
    Calls Trym.prog 6 #[.agg #[.int .u64 lo, .int .u64 hi, .int .u64 lb, .int .u64 fi, .int .u64 la, .int .u64 ad, .int .i64 n, .int .u64 nl, .int .u64 nh, .int .i64 0, .slice a1 n1 c1], .agg #[.int .u64 lo', .int .u64 hi', .int .u64 qb, .int .u64 fi', .int .u64 la', .int .u64 ad', .int .i64 n', .int .u64 nl', .int .u64 nh', .int .i64 0, .slice a2 n2 c2]] w fun e w' => e = .returned (.bool true) ∧ Below w.heap.size w w' := by
  have HNO : Hid (32768 ≤ D ∨ D < 32768 ∧ n1 + n2 + 16 < W) := .inr ⟨hno, hno2⟩
  have HNO2 : Hid (D < 32768 ∧ n1 + n2 + 16 < W) := ⟨hno, hno2⟩
  clear hno hno2
  have hd : decide (n1 + n2 ≤ 1048576) = true := by simp; omega
  have hmin : min (lb : Int) (qb : Int) = (base : Int) := by split at hbase <;> omega
  have hmax : max (LT : Int) (QT : Int) = (top : Int) := by split at htop <;> omega
  have HMIN : Hid (min (lb : Int) (qb : Int) = (base : Int)) := hmin
  have HMAX : Hid (max (LT : Int) (QT : Int) = (top : Int)) := hmax
  have HLT : Hid ((lb : Int) + 64 * (n1 : Int) - 1 = (LT : Int)) := hLT
  have HQT : Hid ((qb : Int) + 64 * (n2 : Int) - 1 = (QT : Int)) := hQT
  have HBASE : Hid ((if qb < lb then (qb : Int) else (lb : Int)) = (base : Int)) := hbase
  have HTOP : Hid ((if LT < QT then (QT : Int) else (LT : Int)) = (top : Int)) := htop
  have HD : Hid ((top : Int) - (base : Int) = (D : Int)) := hD
  have HW : Hid ((D : Int) / 64 + 1 = (W : Int)) := hW
  have hL2 : (lb : Int) + (64 * (n1 : Int) - 1) = (LT : Int) := by omega
  have hQ2 : (qb : Int) + (64 * (n2 : Int) - 1) = (QT : Int) := by omega
  have e1 : (lb : Int) ≤ 18446744073709551615 - (64 * (n1 : Int) - 1) := by omega
  have e2 : (qb : Int) ≤ 18446744073709551615 - (64 * (n2 : Int) - 1) := by omega
  have z1 : ((n1 : Int) == 0) = false := by simp; omega
  have z2 : ((n2 : Int) == 0) = false := by simp; omega
  clear hmin hmax hLT hQT hbase htop
  have hx0 := box_two w (boxF lo hi lb fi la ad n nl nh 0 (.slice a1 n1 c1)) (boxF lo' hi' qb fi' la' ad' n' nl' nh' 0 (.slice a2 n2 c2)) #[.int .u64 lo, .int .u64 hi, .int .u64 lb, .int .u64 fi, .int .u64 la, .int .u64 ad, .int .i64 n, .int .u64 nl, .int .u64 nh, .int .i64 0, .slice a1 n1 c1] #[.int .u64 lo', .int .u64 hi', .int .u64 qb, .int .u64 fi', .int .u64 la', .int .u64 ad', .int .i64 n', .int .u64 nl', .int .u64 nh', .int .i64 0, .slice a2 n2 c2] (box_new w lo hi lb fi la ad n nl nh 0 (.slice a1 n1 c1)) (fun w => box_new w lo' hi' qb fi' la' ad' n' nl' nh' 0 (.slice a2 n2 c2))
  obtain ⟨hxl0, hxq0, hbb0⟩ := hx0
  go_enter Trym.func6, Trym.ntmps6
  go_wp2_with fail
  refine (bytes_absorb lo hi lb fi la ad n nl nh 0 lo' hi' qb fi' la' ad' n' nl' nh' 0 _ _ n1 c1 n2 c2 _ (by omega) (by omega)).mono ?_
  rintro e w1 ⟨rfl, hB1⟩
  rw [hd]
  have hz1 : w.heap.size + 2 ≤ w1.heap.size := by have := hB1.size; simp at this; omega
  have hxl1 := rowIs_below hB1 (by simp; omega) hxl0
  have hxq1 := rowIs_below hB1 (by simp) hxq0
  have hbb1 : Below w.heap.size w w1 := hbb0.trans (hB1.mono (by simp; omega))
  clear hB1 hbb0 hxl0 hxq0 hd
  obtain ⟨x0, x1, x2, x3, x4, x5, x6, x7, x8, x9, x10⟩ := box_cells hxl1
  obtain ⟨y0, y1, y2, y3, y4, y5, y6, y7, y8, y9, y10⟩ := box_cells hxq1
  go_wp2_with fail
  refine (minU_any _ _ _).mono ?_
  rintro e w2 ⟨rfl, rfl⟩
  rw [HMIN.out]
  go_wp2_with fail
  refine (maxOf_any _ _ _).mono ?_
  rintro e w3 ⟨rfl, rfl⟩
  rw [HMAX.out]
  have hnd : decide ((D : Int) < 32768) = true := by have := HNO2.out; simp; omega
  have hnw : (n1 : Int) + (n2 : Int) + 16 < (W : Int) := by have := HNO2.out; omega
  go_wp2_with fail
  refine (make_any lo hi lb fi la ad n nl nh 0 a1 n1 c1 b1 o1 f1 _ (by omega) (hw1.below hbb1)).mono ?_
  rintro e w4 ⟨bl, bp, a1', c1', rfl, hM⟩
  have hxl4 := rowIs_below hM.below (by omega) hxl1
  have hxq4 := rowIs_below hM.below (by omega) hxq1
  have hbb4 : Below w.heap.size w w4 := hbb1.trans (hM.below.mono (by omega))
  have hl4 := hM.leaf
  have ht4 := hM.twin
  have hz4 : w3.heap.size ≤ w4.heap.size := hM.below.size
  clear hM hxl1 hxq1 x0 x1 x2 x3 x4 x5 x6 x7 x8 x9 x10 y0 y1 y2 y3 y4 y5 y6 y7 y8 y9 y10 hbb1 hL2 hQ2 e1 e2 z1 z2
  obtain ⟨y0, y1, y2, y3, y4, y5, y6, y7, y8, y9, y10⟩ := box_cells hxq4
  go_wp2_with fail
  refine (make_any lo' hi' qb fi' la' ad' n' nl' nh' 0 a2 n2 c2 b2 o2 f2 w4 (by omega) (hw2.below hbb4)).mono ?_
  rintro e w5 ⟨bl', bp', a2', c2', rfl, hM⟩
  have hxl5 := rowIs_below hM.below (by omega) hxl4
  have hxq5 := rowIs_below hM.below (by omega) hxq4
  have hbb5 : Below w.heap.size w w5 := hbb4.trans (hM.below.mono (by omega))
  have hl5 := rowIs_below hM.below hl4.lt hl4
  have hq5 := hM.leaf
  have ht5 := ht4.below hM.below
  have hu5 := hM.twin
  have hz5 : w4.heap.size ≤ w5.heap.size := hM.below.size
  clear hM hxl4 hxq4 y0 y1 y2 y3 y4 y5 y6 y7 y8 y9 y10 hbb4 hl4 ht4 hw1 hw2 hD hW
  go_wp2_with fail
  refine (zzabsorb_of (R := fun w' => ∃ nq, w' = w5.drewN nq) (absorb_no bl bl' lb qb n1 n2 base top LT QT D W a1' a2' c1' c2' lo hi fi la ad n nl nh lo' hi' fi' la' ad' n' nl' nh' w5 hl5 hq5 hn1 hn1' hn2 hn2' HLT.out HQT.out hLT' hQT' HBASE.out HTOP.out HD.out HW.out htp HNO.out)).mono ?_
  rintro e w6 ⟨rfl, nq, rfl⟩
  go_wp2_with fail
  refine (read_any bl lo hi lb fi la ad n nl nh 0 a1' n1 c1' _ (rowIs_drewN hl5 nq)).mono ?_
  rintro e w7 ⟨rfl, hB7⟩
  go_wp2_with fail
  have hz7 : w5.heap.size ≤ w7.heap.size := hB7.size
  have hB7' : Below w5.heap.size w5 w7 := (belowDrewN (Below.refl _ _) nq).trans hB7
  have hg8 := box_new w7 lo hi lb fi la ad n nl nh 0 (.slice a1' n1 c1')
  have hB8 : Below w5.heap.size w5 _ := (hB7'.alloc hz7 (.cells #[.int .u64 lo, .int .u64 hi, .int .u64 lb, .int .u64 fi, .int .u64 la, .int .u64 ad, .int .i64 n, .int .u64 nl, .int .u64 nh, .int .i64 0, .slice a1' n1 c1'] 29))
  have hz8 : w7.heap.size < (w7.alloc (.cells #[.int .u64 lo, .int .u64 hi, .int .u64 lb, .int .u64 fi, .int .u64 la, .int .u64 ad, .int .i64 n, .int .u64 nl, .int .u64 nh, .int .i64 0, .slice a1' n1 c1'] 29)).heap.size := by simp
  generalize w7.alloc (.cells #[.int .u64 lo, .int .u64 hi, .int .u64 lb, .int .u64 fi, .int .u64 la, .int .u64 ad, .int .i64 n, .int .u64 nl, .int .u64 nh, .int .i64 0, .slice a1' n1 c1'] 29) = w8 at hg8 hB8 hz8 ⊢
  have hxl8 := rowIs_below hB8 (by omega) hxl5
  have hxq8 := rowIs_below hB8 (by omega) hxq5
  have hbb8 : Below w.heap.size w w8 := hbb5.trans (hB8.mono (by omega))
  have hq8 := rowIs_below hB8 hq5.lt hq5
  have ht8 := ht5.below hB8
  have hu8 := hu5.below hB8
  clear hxl5 hxq5 hbb5 hq5 ht5 hu5 hl5 hB7 hB7' hB8
  refine (read_any bl' lo' hi' qb fi' la' ad' n' nl' nh' 0 a2' n2 c2' _ hq8).mono ?_
  rintro e w9 ⟨rfl, hB9⟩
  have hz9 : w8.heap.size ≤ w9.heap.size := hB9.size
  have hg10 := box_new w9 lo' hi' qb fi' la' ad' n' nl' nh' 0 (.slice a2' n2 c2')
  have hB10 : Below w8.heap.size w8 _ := (hB9.alloc hz9 (.cells #[.int .u64 lo', .int .u64 hi', .int .u64 qb, .int .u64 fi', .int .u64 la', .int .u64 ad', .int .i64 n', .int .u64 nl', .int .u64 nh', .int .i64 0, .slice a2' n2 c2'] 29))
  have hz10 : w9.heap.size < (w9.alloc (.cells #[.int .u64 lo', .int .u64 hi', .int .u64 qb, .int .u64 fi', .int .u64 la', .int .u64 ad', .int .i64 n', .int .u64 nl', .int .u64 nh', .int .i64 0, .slice a2' n2 c2'] 29)).heap.size := by simp
  have hxl10 := rowIs_below hB10 (by omega) hxl8
  have hxq10 := rowIs_below hB10 (by omega) hxq8
  have hgl10 := rowIs_below hB10 hz8 hg8
  have hbb10 : Below w.heap.size w _ := hbb8.trans (hB10.mono (by omega))
  have ht10 := ht8.below hB10
  have hu10 := hu8.below hB10
  clear hxl8 hxq8 hbb8 hq8 ht8 hu8 hg8 hB9 hB10
  obtain ⟨x0, x1, x2, x3, x4, x5, x6, x7, x8, x9, x10⟩ := box_cells hxl10
  obtain ⟨g0, g1, g2, g3, g4, g5, g6, g7, g8, g9, g10⟩ := box_cells hgl10
  go_wp2_with fail
  refine (sameLeaf_any lo hi lb fi la ad n nl nh 0 a1' a1 n1 c1' c1 bp 0 b1 o1 f1 _ (by omega) ht10).mono ?_
  rintro e w11 ⟨rfl, hB11⟩
  have hxq11 := rowIs_below hB11 (by omega) hxq10
  have hgq11 := rowIs_below hB11 hz10 hg10
  have hu11 := hu10.below hB11
  have hbb11 : Below w.heap.size w w11 := hbb10.trans (hB11.mono (by omega))
  have hz11 := hB11.size
  clear x0 x1 x2 x3 x4 x5 x6 x7 x8 x9 x10 g0 g1 g2 g3 g4 g5 g6 g7 g8 g9 g10 hxl10 hxq10 hgl10 hg10 hbb10 ht10 hu10 hB11
  obtain ⟨x0, x1, x2, x3, x4, x5, x6, x7, x8, x9, x10⟩ := box_cells hxq11
  obtain ⟨g0, g1, g2, g3, g4, g5, g6, g7, g8, g9, g10⟩ := box_cells hgq11
  go_wp2_with fail
  refine (sameLeaf_any lo' hi' qb fi' la' ad' n' nl' nh' 0 a2' a2 n2 c2' c2 bp' 0 b2 o2 f2 _ (by omega) hu11).mono ?_
  rintro e w12 ⟨rfl, hB12⟩
  go_wp2
  go_ret
  exact ⟨rfl, hbb11.trans (hB12.mono (by omega))⟩

end Go.Proofs.Qxb6603759aMods
