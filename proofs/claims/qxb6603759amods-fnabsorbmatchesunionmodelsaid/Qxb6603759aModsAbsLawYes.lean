/-
  SEAT b6603759aM. THE LAW FnAbsorbMatchesUnionModel (6): two leaves of bits that absorb joins.
-/
import Derived.Test.Qxb6603759aModsAbsLawNo
namespace Go.Proofs.Qxb6603759aMods
open Go.RowKit Plain

theorem if_min (a b : Int) : (if b < a then b else a) = min a b := by split <;> omega
theorem if_max (a b : Int) : (if a < b then b else a) = max a b := by split <;> omega

/-- WHAT THE LAW's LAST LOOP READS. -/
structure Got2 (w wr : World) (bx by_ gx b1 o1 n1 c1 b2 o2 n2 c2 bn W : Nat) (f1 f2 g : Nat → Nat) : Prop where
  l : wr.cell? ⟨bx, 10, none⟩ = some (.slice (some ⟨b1, o1, none⟩) n1 c1)
  q : wr.cell? ⟨by_, 10, none⟩ = some (.slice (some ⟨b2, o2, none⟩) n2 c2)
  got : wr.cell? ⟨gx, 10, none⟩ = some (.slice (some ⟨bn, 0, none⟩) W W)
  w1 : ∀ i, i < n1 → wr.cell? ⟨b1, o1 + i, none⟩ = some (wv f1 i)
  w2 : ∀ i, i < n2 → wr.cell? ⟨b2, o2 + i, none⟩ = some (wv f2 i)
  wn : ∀ i, i < W → wr.cell? ⟨bn, 0 + i, none⟩ = some (wv g i)
  below : Below w.heap.size w wr

set_option maxRecDepth 100000 in
set_option maxHeartbeats 6400000 in
theorem abs_law_yes (lo hi fi la ad n nl nh lo' hi' fi' la' ad' n' nl' nh' : Int) (n1 c1 n2 c2 b1 o1 b2 o2 lb qb base top LT QT D W dl dq : Nat) (f1 f2 : Nat → Nat) (w : World) (hn1 : 0 < n1) (hn1' : n1 ≤ 65536) (hn2 : 0 < n2) (hn2' : n2 ≤ 65536) (hw1 : Words w (some ⟨b1, o1, none⟩) n1 c1 b1 o1 f1) (hw2 : Words w (some ⟨b2, o2, none⟩) n2 c2 b2 o2 f2)
    (hLT : (lb : Int) + 64 * (n1 : Int) - 1 = (LT : Int)) (hQT : (qb : Int) + 64 * (n2 : Int) - 1 = (QT : Int)) (hLT' : LT < 18446744073709551616) (hQT' : QT < 18446744073709551616)
    (hbase : (if qb < lb then (qb : Int) else (lb : Int)) = (base : Int)) (htop : (if LT < QT then (QT : Int) else (LT : Int)) = (top : Int)) (hD : (top : Int) - (base : Int) = (D : Int)) (hW : (D : Int) / 64 + 1 = (W : Int)) (htp : top < 18446744073709551616) (hdl : (lb : Int) - (base : Int) = (dl : Int)) (hdq : (qb : Int) - (base : Int) = (dq : Int)) (hyes : D < 32768) (hyes2 : W ≤ n1 + n2 + 16) :
    Calls Trym.prog 6 #[.agg #[.int .u64 lo, .int .u64 hi, .int .u64 lb, .int .u64 fi, .int .u64 la, .int .u64 ad, .int .i64 n, .int .u64 nl, .int .u64 nh, .int .i64 0, .slice (some ⟨b1, o1, none⟩) n1 c1], .agg #[.int .u64 lo', .int .u64 hi', .int .u64 qb, .int .u64 fi', .int .u64 la', .int .u64 ad', .int .i64 n', .int .u64 nl', .int .u64 nh', .int .i64 0, .slice (some ⟨b2, o2, none⟩) n2 c2]] w fun e w' => e = .returned (.bool true) ∧ Below w.heap.size w w' := by
  have HY1 : Hid (D < 32768 ∧ W ≤ n1 + n2 + 16) := ⟨hyes, hyes2⟩
  have HDL : Hid ((lb : Int) - (base : Int) = (dl : Int)) := hdl
  have HDQ : Hid ((qb : Int) - (base : Int) = (dq : Int)) := hdq
  clear hyes hyes2 hdl hdq
  have hd : decide (n1 + n2 ≤ 1048576) = true := by simp; omega
  have hmin : min (lb : Int) (qb : Int) = (base : Int) := by split at hbase <;> omega
  have hmax : max (LT : Int) (QT : Int) = (top : Int) := by split at htop <;> omega
  have HMIN : Hid (min (lb : Int) (qb : Int) = (base : Int)) := hmin
  have HMAX : Hid (max (LT : Int) (QT : Int) = (top : Int)) := hmax
  have HLT : Hid ((lb : Int) + 64 * (n1 : Int) - 1 = (LT : Int)) := hLT
  have HQT : Hid ((qb : Int) + 64 * (n2 : Int) - 1 = (QT : Int)) := hQT
  have HBASE : Hid ((if qb < lb then (qb : Int) else (lb : Int)) = (base : Int)) := hbase
  have HTOP : Hid ((if LT < QT then (QT : Int) else (LT : Int)) = (top : Int)) := htop
  have HD : Hid ((top : Int) - (base : Int) = (D : Int)) := hD
  have HW : Hid ((D : Int) / 64 + 1 = (W : Int)) := hW
  have hL2 : (lb : Int) + (64 * (n1 : Int) - 1) = (LT : Int) := by omega
  have hQ2 : (qb : Int) + (64 * (n2 : Int) - 1) = (QT : Int) := by omega
  have e1 : (lb : Int) ≤ 18446744073709551615 - (64 * (n1 : Int) - 1) := by omega
  have e2 : (qb : Int) ≤ 18446744073709551615 - (64 * (n2 : Int) - 1) := by omega
  have z1 : ((n1 : Int) == 0) = false := by simp; omega
  have z2 : ((n2 : Int) == 0) = false := by simp; omega
  clear hmin hmax hLT hQT hbase htop
  have hx0 := box_two w (boxF lo hi lb fi la ad n nl nh 0 (.slice (some ⟨b1, o1, none⟩) n1 c1)) (boxF lo' hi' qb fi' la' ad' n' nl' nh' 0 (.slice (some ⟨b2, o2, none⟩) n2 c2)) #[.int .u64 lo, .int .u64 hi, .int .u64 lb, .int .u64 fi, .int .u64 la, .int .u64 ad, .int .i64 n, .int .u64 nl, .int .u64 nh, .int .i64 0, .slice (some ⟨b1, o1, none⟩) n1 c1] #[.int .u64 lo', .int .u64 hi', .int .u64 qb, .int .u64 fi', .int .u64 la', .int .u64 ad', .int .i64 n', .int .u64 nl', .int .u64 nh', .int .i64 0, .slice (some ⟨b2, o2, none⟩) n2 c2] (box_new w lo hi lb fi la ad n nl nh 0 (.slice (some ⟨b1, o1, none⟩) n1 c1)) (fun w => box_new w lo' hi' qb fi' la' ad' n' nl' nh' 0 (.slice (some ⟨b2, o2, none⟩) n2 c2))
  obtain ⟨hxl0, hxq0, hbb0⟩ := hx0
  go_enter Trym.func6, Trym.ntmps6
  go_wp2_with fail
  refine (bytes_absorb lo hi lb fi la ad n nl nh 0 lo' hi' qb fi' la' ad' n' nl' nh' 0 _ _ n1 c1 n2 c2 _ (by omega) (by omega)).mono ?_
  rintro e w1 ⟨rfl, hB1⟩
  rw [hd]
  have hz1 : w.heap.size + 2 ≤ w1.heap.size := by have := hB1.size; simp at this; omega
  have hxl1 := rowIs_below hB1 (by simp; omega) hxl0
  have hxq1 := rowIs_below hB1 (by simp) hxq0
  have hbb1 : Below w.heap.size w w1 := hbb0.trans (hB1.mono (by simp; omega))
  clear hB1 hbb0 hxl0 hxq0 hd
  obtain ⟨x0, x1, x2, x3, x4, x5, x6, x7, x8, x9, x10⟩ := box_cells hxl1
  obtain ⟨y0, y1, y2, y3, y4, y5, y6, y7, y8, y9, y10⟩ := box_cells hxq1
  go_wp2_with fail
  refine (minU_any _ _ _).mono ?_
  rintro e w2 ⟨rfl, rfl⟩
  rw [HMIN.out]
  go_wp2_with fail
  refine (maxOf_any _ _ _).mono ?_
  rintro e w3 ⟨rfl, rfl⟩
  rw [HMAX.out]
  have hnd : decide ((D : Int) < 32768) = true := by have := HY1.out; simp; omega
  have hnw : (W : Int) ≤ (n1 : Int) + (n2 : Int) + 16 := by have := HY1.out; omega
  have hnw2 : decide ((n1 : Int) + (n2 : Int) + 16 < (W : Int)) = false := by have := HY1.out; simp; omega
  go_wp2_with fail
  have hwl := hw1.below hbb1
  refine (make_some lo hi lb fi la ad n nl nh 0 ⟨b1, o1, none⟩ b1 o1 n1 c1 f1 _ (by omega) (fun _ => rfl) hwl.cell).mono ?_
  rintro e w4 ⟨rfl, hM⟩
  have hxl4 := rowIs_below hM.below (by omega) hxl1
  have hxq4 := rowIs_below hM.below (by omega) hxq1
  have hbb4 : Below w.heap.size w w4 := hbb1.trans (hM.below.mono (by omega))
  have hb34 := hM.below
  have hl4 := hM.leaf
  have hp4 := hM.row
  have hz4 : w4.heap.size = w3.heap.size + 3 := hM.size
  clear hM hxl1 hxq1 x0 x1 x2 x3 x4 x5 x6 x7 x8 x9 x10 y0 y1 y2 y3 y4 y5 y6 y7 y8 y9 y10 hbb1 hL2 hQ2 e1 e2 z1 z2 hwl
  have hz4a : w3.heap.size + 3 ≤ w4.heap.size := by omega
  have HZ4 : Hid (w4.heap.size = w3.heap.size + 3) := hz4
  clear hz4
  obtain ⟨y0, y1, y2, y3, y4, y5, y6, y7, y8, y9, y10⟩ := box_cells hxq4
  have hwq := hw2.below hbb4
  go_wp2_with fail
  refine (make_some lo' hi' qb fi' la' ad' n' nl' nh' 0 ⟨b2, o2, none⟩ b2 o2 n2 c2 f2 w4 (by omega) (fun _ => rfl) hwq.cell).mono ?_
  rintro e w5 ⟨rfl, hM⟩
  have hxl5 := rowIs_below hM.below (by omega) hxl4
  have hxq5 := rowIs_below hM.below (by omega) hxq4
  have hbb5 : Below w.heap.size w w5 := hbb4.trans (hM.below.mono (by omega))
  have hl5 := rowIs_below hM.below hl4.lt hl4
  have hp5 := rowIs_below hM.below hp4.lt hp4
  have hq5 := hM.leaf
  have hr5 := hM.row
  have hz5 : w4.heap.size + 3 ≤ w5.heap.size := by have := hM.size; omega
  clear hM hxl4 hxq4 y0 y1 y2 y3 y4 y5 y6 y7 y8 y9 y10 hbb4 hl4 hp4 hwq hb34
  go_wp2_with fail
  refine (zzabsorb_of (absorb_yes _ _ _ _ lb qb n1 n2 base top LT QT D W dl dq f1 f2 lo hi fi la ad n nl nh lo' hi' fi' la' ad' n' nl' nh' (min lo lo') (max hi hi') (min fi fi') (max la la') w5 hl5 hq5 hp5 hr5 hw1.fits hw2.fits (by omega) hn1 hn1' hn2 hn2' HLT.out HQT.out hLT' hQT' HBASE.out HTOP.out HD.out HW.out htp HDL.out HDQ.out HY1.out.1 HY1.out.2 (if_min _ _) (if_max _ _) (if_min _ _) (if_max _ _) w3.heap.size (by omega) (by omega) (by omega))).mono ?_
  rintro e w6 ⟨rfl, hB6, hl6, hq6, hr6⟩
  have hxl6 := rowIs_below hB6 (by omega) hxl5
  have hxq6 := rowIs_below hB6 (by omega) hxq5
  have hbb6 : Below w.heap.size w w6 := hbb5.trans (hB6.mono (by omega))
  have hz6 := hB6.size
  clear hxl5 hxq5 hl5 hp5 hq5 hr5 hbb5 hB6
  go_wp2_with fail
  refine (read_any _ (min lo lo') (max hi hi') base (min fi fi') (max la la') ad (wrap64 (n + n')) nl nh 0 _ W W _ hl6).mono ?_
  rintro e w7 ⟨rfl, hB7⟩
  go_wp2_with fail
  have hz7 : w6.heap.size ≤ w7.heap.size := hB7.size
  have hg8 := box_new w7 (min lo lo') (max hi hi') base (min fi fi') (max la la') ad (wrap64 (n + n')) nl nh 0 (.slice (some ⟨w5.heap.size, 0, none⟩) W W)
  have hB8 : Below w6.heap.size w6 _ := (hB7.alloc hz7 (.cells #[.int .u64 (min lo lo'), .int .u64 (max hi hi'), .int .u64 base, .int .u64 (min fi fi'), .int .u64 (max la la'), .int .u64 ad, .int .i64 (wrap64 (n + n')), .int .u64 nl, .int .u64 nh, .int .i64 0, .slice (some ⟨w5.heap.size, 0, none⟩) W W] 29))
  have hz8 : w7.heap.size < (w7.alloc (.cells #[.int .u64 (min lo lo'), .int .u64 (max hi hi'), .int .u64 base, .int .u64 (min fi fi'), .int .u64 (max la la'), .int .u64 ad, .int .i64 (wrap64 (n + n')), .int .u64 nl, .int .u64 nh, .int .i64 0, .slice (some ⟨w5.heap.size, 0, none⟩) W W] 29)).heap.size := by simp
  generalize w7.alloc (.cells #[.int .u64 (min lo lo'), .int .u64 (max hi hi'), .int .u64 base, .int .u64 (min fi fi'), .int .u64 (max la la'), .int .u64 ad, .int .i64 (wrap64 (n + n')), .int .u64 nl, .int .u64 nh, .int .i64 0, .slice (some ⟨w5.heap.size, 0, none⟩) W W] 29) = w8 at hg8 hB8 hz8 ⊢
  have hxl8 := rowIs_below hB8 (by omega) hxl6
  have hxq8 := rowIs_below hB8 (by omega) hxq6
  have hbb8 : Below w.heap.size w w8 := hbb6.trans (hB8.mono (by omega))
  have hq8 := rowIs_below hB8 hq6.lt hq6
  have hr8 := rowIs_below hB8 hr6.lt hr6
  clear hxl6 hxq6 hbb6 hq6 hl6 hr6 hB7 hB8
  refine (read_any _ 0 0 0 0 0 0 0 0 0 0 none 0 0 _ hq8).mono ?_
  rintro e w9 ⟨rfl, hB9⟩
  have hz9 : w8.heap.size ≤ w9.heap.size := hB9.size
  have hg10 := box_new w9 0 0 0 0 0 0 0 0 0 0 (.slice none 0 0)
  have hB10 : Below w8.heap.size w8 _ := (hB9.alloc hz9 (.cells #[.int .u64 0, .int .u64 0, .int .u64 0, .int .u64 0, .int .u64 0, .int .u64 0, .int .i64 0, .int .u64 0, .int .u64 0, .int .i64 0, .slice none 0 0] 29))
  have hxl10 := rowIs_below hB10 (by omega) hxl8
  have hxq10 := rowIs_below hB10 (by omega) hxq8
  have hgl10 := rowIs_below hB10 hz8 hg8
  have hr10 := rowIs_below hB10 hr8.lt hr8
  have hbb10 : Below w.heap.size w _ := hbb8.trans (hB10.mono (by omega))
  clear hxl8 hxq8 hbb8 hq8 hg8 hr8 hB9 hB10
  obtain ⟨x0, x1, x2, x3, x4, x5, x6, x7, x8, x9, x10⟩ := box_cells hxl10
  obtain ⟨y0, y1, y2, y3, y4, y5, y6, y7, y8, y9, y10⟩ := box_cells hxq10
  obtain ⟨g0, g1, g2, g3, g4, g5, g6, g7, g8, g9, g10⟩ := box_cells hgl10
  obtain ⟨k0, k1, k2, k3, k4, k5, k6, k7, k8, k9, k10⟩ := box_cells hg10
  have hnn := fun (w : World) (a : Option Addr) (n c : Nat) => run_neq_slice_nil_any (P := Trym.prog) w 22 27 a n c 0 0 Trym.underlying22
  go_wp2_with fail
  clear x0 x1 x2 x3 x4 x5 x6 x7 x8 x9 x10 y0 y1 y2 y3 y4 y5 y6 y7 y8 y9 y10 g0 g1 g2 g3 g4 g5 g6 g7 g8 g9 g10 k0 k1 k2 k3 k4 k5 k6 k7 k8 k9 k10 hnn hg10
  generalize w9.alloc (.cells #[.int .u64 0, .int .u64 0, .int .u64 0, .int .u64 0, .int .u64 0, .int .u64 0, .int .i64 0, .int .u64 0, .int .u64 0, .int .i64 0, .slice none 0 0] 29) = w10 at hxl10 hxq10 hgl10 hr10 hbb10 ⊢
  as_aux_lemma =>
    obtain ⟨x0, x1, x2, x3, x4, x5, x6, x7, x8, x9, x10⟩ := box_cells hxl10
    obtain ⟨y0, y1, y2, y3, y4, y5, y6, y7, y8, y9, y10⟩ := box_cells hxq10
    obtain ⟨g0, g1, g2, g3, g4, g5, g6, g7, g8, g9, g10⟩ := box_cells hgl10
    have hdl := HDL.out
    have hdq := HDQ.out
    go_quiet ((first | (go_at_call 15; exact Calls.quiet_of_same (minU_any _ _ _)) | (go_at_call 22; exact Calls.quiet_of_same (maxOf_any _ _ _))))
    go_wp2_with fail
    have hxl11 := rowIs_drewN hxl10 nq
    have hxq11 := rowIs_drewN hxq10 nq
    have hgl11 := rowIs_drewN hgl10 nq
    have hr11 := rowIs_drewN hr10 nq
    have hbb11 := belowDrewN hbb10 nq
    clear x0 x1 x2 x3 x4 x5 x6 x7 x8 x9 x10 y0 y1 y2 y3 y4 y5 y6 y7 y8 y9 y10 g0 g1 g2 g3 g4 g5 g6 g7 g8 g9 g10 hxl10 hxq10 hgl10 hr10 hbb10
    generalize w10.drewN nq = w11 at hxl11 hxq11 hgl11 hr11 hbb11 ⊢
    as_aux_lemma =>
      obtain ⟨x0, x1, x2, x3, x4, x5, x6, x7, x8, x9, x10⟩ := box_cells hxl11
      obtain ⟨y0, y1, y2, y3, y4, y5, y6, y7, y8, y9, y10⟩ := box_cells hxq11
      obtain ⟨g0, g1, g2, g3, g4, g5, g6, g7, g8, g9, g10⟩ := box_cells hgl11
      go_quiet ((first | (go_at_call 15; exact Calls.quiet_of_same (minU_any _ _ _)) | (go_at_call 22; exact Calls.quiet_of_same (maxOf_any _ _ _))))
      go_wp2_with fail
      have hwl := hw1.below hbb11
      have hwq := hw2.below hbb11
      have hG : Got2 w (w11.drewN nq) w.heap.size (w.heap.size + 1) w7.heap.size b1 o1 n1 c1 b2 o2 n2 c2 w5.heap.size W f1 f2 (absF f1 f2 n1 n2 dl dq) := ⟨x10, y10, g10, hwl.cell, hwq.cell, fun i hi => by rw [Nat.zero_add]; exact hr11.cell hi, belowDrewN hbb11 nq⟩
      have hfl := hw1.fits
      have hfq := hw2.fits
      have hfg := absF_fits f1 f2 n1 n2 dl dq hfl hfq
      have HB : Hid (∀ k, wbit (absF f1 f2 n1 n2 dl dq) k = (held f1 n1 dl k || held f2 n2 dq k)) := fun k => absF_bit f1 f2 n1 n2 dl dq k hfl hfq
      have hWb : (W : Int) ≤ 131088 := by have := HY1.out; omega
      have hdl' : Hid (dl < 18446744073709551616) := by unfold Hid; have := HLT.out; have := HDL.out; omega
      have hdq' : Hid (dq < 18446744073709551616) := by unfold Hid; have := HQT.out; have := HDQ.out; omega
      generalize absF f1 f2 n1 n2 dl dq = g at hG hfg HB
      clear x0 x1 x2 x3 x4 x5 x6 x7 x8 x9 x10 y0 y1 y2 y3 y4 y5 y6 y7 y8 y9 y10 g0 g1 g2 g3 g4 g5 g6 g7 g8 g9 g10 hxl11 hxq11 hgl11 hr11 hbb11 hwl hwq hdl hdq hD hW hw1 hw2 hnd hnw hnw2 hLT' hQT' htp
      go_loopg [28] (64 * W) (fun gh i wr => ∃ k : Nat, k ≤ 64 * W ∧ gh = 64 * W - k ∧ i = .int .u64 k ∧ Got2 w wr w.heap.size (w.heap.size + 1) w7.heap.size b1 o1 n1 c1 b2 o2 n2 c2 w5.heap.size W f1 f2 g)
      case atStart => exact ⟨0, Nat.zero_le _, rfl, rfl, hG⟩
      case round =>
      clear hG
      obtain ⟨k, hk, rfl, rfl, hG⟩ := hrel
      have r1 := hG.l
      have r2 := hG.q
      have r3 := hG.got
      by_cases hlt : k < 64 * W
      · go_wp2_with fail
        refine (heldAt_any b1 o1 n1 c1 dl k f1 _ (by omega) hdl'.out (by omega) hfl hG.w1).mono ?_
        rintro e w12 ⟨rfl, rfl⟩
        by_cases hh : held f1 n1 dl k = true
        · have hgk : wbit g k = true := by rw [HB.out k, hh]; rfl
          rw [hh]
          go_wp2_with fail
          refine (bitU_any _ 0 W W k g _ hlt (by omega) hfg hG.wn).mono ?_
          rintro e w14 ⟨rfl, rfl⟩
          go_wp2
          go_roundg (64 * W - (k + 1))
          case measure => go_light; omega
          case rel => exact ⟨k + 1, by omega, rfl, by go_num, hG⟩
        have hh' : held f1 n1 dl k = false := by simpa using hh
        rw [hh']
        go_wp2_with fail
        refine (heldAt_any b2 o2 n2 c2 dq k f2 _ (by omega) hdq'.out (by omega) hfq hG.w2).mono ?_
        rintro e w13 ⟨rfl, rfl⟩
        have hgk : wbit g k = held f2 n2 dq k := by rw [HB.out k, hh']; rfl
        clear hh hh'
        go_wp2_with fail
        refine (bitU_any _ 0 W W k g _ hlt (by omega) hfg hG.wn).mono ?_
        rintro e w14 ⟨rfl, rfl⟩
        go_wp2
        go_roundg (64 * W - (k + 1))
        case measure => go_light; omega
        case rel => exact ⟨k + 1, by omega, rfl, by go_num, hG⟩
      · go_wp2
        go_ret
        exact ⟨rfl, hG.below⟩
end Go.Proofs.Qxb6603759aMods
