/-
  SEAT b6603759aM. THE LAW FnInsertMatchesListModel (4) AT A LEAF OF OFFSETS.
-/
import Derived.Test.Qxb6603759aModsInsLawBits
namespace Go.Proofs.Qxb6603759aMods
open Go.RowKit Plain

theorem got_ex {w wx : World} {bx gx b off len c bp : Nat} {f g : Nat → Nat} (h : Got w wx bx gx b off len c bp f g) : ∃ bp', Got w wx bx gx b off len c bp' f g := ⟨bp, h⟩

theorem pow_of (wd : Nat) (hw : wd < 64) : IntKind.u64.wrap (2 ^ wd) = ((2 ^ wd : Nat) : Int) := by
  have h1 : 2 ^ wd ≤ 2 ^ 63 := Nat.pow_le_pow_right (by decide) (by omega)
  have e2 : (2 : Int) ^ wd = ((2 ^ wd : Nat) : Int) := by simp
  rw [e2, IntKind.wrap_u64]
  generalize 2 ^ wd = q at *
  omega

set_option maxRecDepth 100000 in
set_option maxHeartbeats 6400000 in
theorem insert_law_wide (lo hi ba fi la ad nl nh : Int) (b off len c o wd N p T q1 q2 q3 : Nat) (u : Int) (f : Nat → Nat) (w : World) (hl : len ≤ 131072) (hf : Fits f) (hu1 : u < 18446744073709551616) (hb0 : 0 ≤ ba) (hb1 : ba ≤ u) (hou : u - ba = (o : Int)) (hw0 : 0 < wd) (hw : wd < 64) (hN : N ≤ 64 * len) (hp : p ≤ N)
    (hq1 : (p : Int) * (wd : Int) = (q1 : Int)) (hq2 : (N : Int) * (wd : Int) = (q2 : Int)) (hq3 : ((N : Int) + 1) * (wd : Int) = (q3 : Int)) (hq : q3 ≤ 64 * len) (HT : Hid (T = 2 ^ wd)) (hoT : o < T) (hc : ∀ i, i < len → w.cell? ⟨b, off + i, none⟩ = some (wv f i)) :
    Calls Trym.prog 4 #[.agg #[.int .u64 lo, .int .u64 hi, .int .u64 ba, .int .u64 fi, .int .u64 la, .int .u64 ad, .int .i64 N, .int .u64 nl, .int .u64 nh, .int .i64 wd, .slice (some ⟨b, off, none⟩) len c], .int .i64 p, .int .u64 u] w fun e w' => e = .returned (.bool true) ∧ Below w.heap.size w w' := by
  have hd : decide (len ≤ 1048576) = true := by simp; omega
  have HQ1 : Hid (p * wd = q1) := by unfold Hid; exact_mod_cast hq1
  have HQ2 : Hid (N * wd = q2) := by unfold Hid; exact_mod_cast hq2
  have hq32 : q3 = q2 + wd := by have h3 : (N + 1) * wd = q3 := by exact_mod_cast hq3
                                 rw [Nat.succ_mul, HQ2.out] at h3; omega
  have hq12 : q1 ≤ q2 := by rw [← HQ1.out, ← HQ2.out]; exact Nat.mul_le_mul_right _ hp
  have HQ3 : Hid (q3 = q2 + wd) := hq32
  have hq3a : q2 + wd ≤ 64 * len := by omega
  have hq3b : 0 < q3 := by omega
  clear hq32
  have hT1 : IntKind.u64.wrap (2 ^ wd) = (T : Int) := by rw [HT.out]; exact pow_of wd hw
  have hTo : decide (T ≤ o) = false := by simp; omega
  have hbw : b < w.heap.size := World.block_lt_of_cell? _ _ (hc 0 (by omega))
  have hx0 := box_new w lo hi ba fi la ad N nl nh wd (.slice (some ⟨b, off, none⟩) len c)
  have hbb0 : Below w.heap.size w _ := (Below.refl w.heap.size w).alloc (Nat.le_refl _) (.cells #[.int .u64 lo, .int .u64 hi, .int .u64 ba, .int .u64 fi, .int .u64 la, .int .u64 ad, .int .i64 N, .int .u64 nl, .int .u64 nh, .int .i64 wd, .slice (some ⟨b, off, none⟩) len c] 29)
  go_enter Trym.func4, Trym.ntmps4
  go_wp2_with fail
  refine (bytes_insert lo hi ba fi la ad N nl nh wd _ len c p u _ (by omega)).mono ?_
  rintro e w1 ⟨rfl, hB1⟩
  rw [hd]
  have hz1 : w.heap.size < w1.heap.size := by have := hB1.size; simp at this; omega
  have hx1 := rowIs_below hB1 (by simp) hx0
  have hbb1 : Below w.heap.size w w1 := hbb0.trans (hB1.mono (by simp))
  have hc1 : ∀ i, i < len → w1.cell? ⟨b, off + i, none⟩ = some (wv f i) := fun i hi => by rw [hbb1.cell (p := ⟨b, off + i, none⟩) hbw]; exact hc i hi
  clear hB1 hbb0 hx0 hd
  obtain ⟨x0, x1, x2, x3, x4, x5, x6, x7, x8, x9, x10⟩ := box_cells hx1
  go_wp2_with fail
  go_loopg [10] (64 * len - q2) (fun gh i wr => ∃ k : Nat, q2 ≤ k ∧ k ≤ 64 * len ∧ gh = 64 * len - k ∧ i = .int .i64 k ∧ (∀ j, q2 ≤ j → j < k → wbit f j = false) ∧ wr = w1)
  case atStart => exact ⟨q2, Nat.le_refl _, by omega, by omega, rfl, fun j h1 h2 => absurd h2 (by omega), rfl⟩
  case round =>
  obtain ⟨k, hk0, hk, rfl, rfl, hzero, rfl⟩ := hrel
  by_cases hlt : k < 64 * len
  · go_wp2_with fail
    refine (bit_any b off len c k f _ hlt (by omega) hf hc1).mono ?_
    rintro e w2 ⟨rfl, rfl⟩
    by_cases hb : wbit f k = true
    · go_wp2
      go_ret
      exact ⟨rfl, hbb1⟩
    · have hb' : wbit f k = false := by simpa using hb
      have HZ : Hid (∀ j, q2 ≤ j → j < k → wbit f j = false) := hzero
      clear hzero hb
      go_wp2
      go_roundg (64 * len - (k + 1))
      case measure => go_light; omega
      case rel => exact ⟨k + 1, by omega, by omega, rfl, by go_num, fun j h1 h2 => by
        by_cases e : j = k
        · rw [e]; exact hb'
        · exact HZ.out j h1 (by omega), rfl⟩
  obtain rfl : k = 64 * len := by omega
  have HZ : Hid (∀ j, q2 ≤ j → j < 64 * len → wbit f j = false) := hzero
  clear hzero
  go_wp2_with fail
  refine (make_some lo hi ba fi la ad N nl nh wd ⟨b, off, none⟩ b off len c f _ (by omega) (fun _ => rfl) hc1).mono ?_
  rintro e w3 ⟨rfl, hM⟩
  go_wp2_with fail
  have hne : wr.heap.size + 2 ≠ wr.heap.size + 1 := by omega
  have ho2 : o < 2 ^ wd := by rw [← HT.out]; exact hoT
  refine (zzinsert_of (insert_wide _ _ len wd p N q1 q2 o u lo hi ba fi la ad nl nh f _ hq1 hq2 hq12 hw0 hw hq3a (by omega) (by omega) hf (by omega) hu1 hb0 hb1 hou ho2 hne hM.leaf hM.row wr.heap.size (by omega) (by omega))).mono ?_
  rintro e w4 ⟨rfl, hB4, hr4, hl4⟩
  have hbb4 : Below w.heap.size w w4 := hbb1.trans ((hM.below.trans hB4).mono (by omega))
  have hx4 := rowIs_below (hM.below.trans hB4) hz1 hx1
  have hz4 : wr.heap.size + 3 ≤ w4.heap.size := by have := hM.size; have := hB4.size; omega
  clear hM hx1 x0 x1 x2 x3 x4 x5 x6 x7 x8 x9 x10 hc1
  go_wp2_with fail
  refine (read_any _ lo hi ba _ la u _ nl nh wd _ len len _ hl4).mono ?_
  rintro e w5 ⟨rfl, hB5⟩
  have hbb5 : Below w.heap.size w w5 := hbb4.trans (hB5.mono (by omega))
  have hx5 := rowIs_below hB5 (by omega) hx4
  have hr5 := rowIs_below hB5 (by omega) hr4
  have hz5 : w4.heap.size ≤ w5.heap.size := hB5.size
  clear hx4 hr4 hl4 hB4 hB5 hbb4
  obtain ⟨x0, x1, x2, x3, x4, x5, x6, x7, x8, x9, x10⟩ := box_cells hx5
  have hA5 : ∀ o i, (w5.alloc o).cell? ⟨w.heap.size, i, none⟩ = w5.cell? ⟨w.heap.size, i, none⟩ := fun o i => World.cell?_alloc_old _ _ _ (by show w.heap.size ≠ w5.heap.size; omega)
  go_wp2_with fail
  go_quiet ((go_at_call 15; exact Calls.quiet_of_same (minU_any _ _ _)))
  go_wp2_with fail
  have hG := got_start #[.int .u64 lo, .int .u64 hi, .int .u64 ba, .int .u64 (min fi u), .int .u64 la, .int .u64 u, .int .i64 ((N : Int) + 1), .int .u64 nl, .int .u64 nh, .int .i64 wd, .slice (some ⟨wr.heap.size + 1, 0, none⟩) len len] nq hbw (by omega) hbb5 x10 rfl hc hr5
  have eg : setF (shiftAt f (q1 / 64) ((q2 + wd - 1) / 64 + 1) (q1 % 64) wd) q1 wd o = insF f p N wd o := by unfold insF; rw [HQ1.out, HQ2.out]
  rw [eg] at hG
  have hfg := insF_fits f p N wd o hf ho2 hw
  have hend : (q2 + wd - 1) / 64 + 1 ≤ len := by omega
  have HF : Hid (∀ j, j ≤ N → fieldTo (insF f p N wd o) (j * wd) wd = if j < p then fieldTo f (j * wd) wd else if j = p then o else fieldTo f ((j - 1) * wd) wd) := fun j hj =>
    insF_field f p N wd o j hf ho2 hw0 hw hp (fun k h1 h2 => HZ.out k (by rw [← HQ2.out]; exact h1) (by rw [HQ2.out] at h2; omega)) hj
  have HB : Hid (∀ k, q3 ≤ k → k < 64 * len → wbit (insF f p N wd o) k = false) := fun k h1 h2 =>
    insF_tail f p N wd o k (64 * len) hf ho2 hw0 hw hp (fun k h1 h2 => HZ.out k (by rw [← HQ2.out]; exact h1) h2) (by rw [HQ2.out]; omega) (by rw [Nat.succ_mul, HQ2.out, ← HQ3.out]; exact h1) h2
  have y3s : ((w5.alloc (.cells #[.int .u64 lo, .int .u64 hi, .int .u64 ba, .int .u64 (min fi u), .int .u64 la, .int .u64 u, .int .i64 ((N : Int) + 1), .int .u64 nl, .int .u64 nh, .int .i64 wd, .slice (some ⟨wr.heap.size + 1, 0, none⟩) len len] 29)).drewN nq).cell? ⟨w.heap.size, 6, none⟩ = some (.int .i64 N) := (hA5 _ 6).trans x6
  clear x0 x1 x2 x3 x4 x5 x6 x7 x8 x9 x10 hx5 hr5 hbb5 hA5 hc hbb1 hou eg
  generalize insF f p N wd o = g at *
  obtain ⟨bp, hG⟩ := got_ex hG
  go_loopg [17] (N + 1) (fun gh i wx => ∃ j : Nat, j ≤ N + 1 ∧ gh = N + 1 - j ∧ i = .int .i64 j ∧ wx.cell? ⟨w.heap.size, 6, none⟩ = some (.int .i64 N) ∧ Got w wx w.heap.size w5.heap.size b off len c bp f g)
  case atStart => exact ⟨0, Nat.zero_le _, rfl, rfl, y3s, hG⟩
  case round =>
  clear hG y3s
  obtain ⟨j, hj, rfl, rfl, y3, hG⟩ := hrel
  have y1 := hG.own
  have y2 := hG.got
  by_cases hlt : j ≤ N
  · have hjw : j * wd + wd ≤ 64 * len := by
      have h1 : (j + 1) * wd ≤ (N + 1) * wd := Nat.mul_le_mul_right _ (by omega)
      rw [Nat.succ_mul, Nat.succ_mul, HQ2.out] at h1; omega
    by_cases c1 : j < p
    · go_wp2_with fail
      refine (field_any b off len c wd j (j * wd) f _ (by simp) hw hjw (by omega) hf hG.came).mono ?_
      rintro e w6 ⟨rfl, rfl⟩
      have hgj : fieldTo g (j * wd) wd = fieldTo f (j * wd) wd := by rw [HF.out j hlt, if_pos c1]
      go_wp2_with fail
      refine (field_any _ 0 len len wd j (j * wd) g _ (by simp) hw (by omega) (by omega) hfg hG.made).mono ?_
      rintro e w7 ⟨rfl, rfl⟩
      go_wp2
      go_roundg (N + 1 - (j + 1))
      case measure => go_light; omega
      case rel => exact ⟨j + 1, by omega, rfl, by go_num, y3, hG⟩
    by_cases c2 : j = p
    · have hgj : fieldTo g (j * wd) wd = o := by rw [HF.out j hlt, if_neg c1, if_pos c2]
      have hjp : ((j : Int) == (p : Int)) = true := by simp [c2]
      clear c2
      go_wp2_with fail
      refine (field_any _ 0 len len wd j (j * wd) g _ (by simp) hw (by omega) (by omega) hfg hG.made).mono ?_
      rintro e w7 ⟨rfl, rfl⟩
      go_wp2
      go_roundg (N + 1 - (j + 1))
      case measure => go_light; omega
      case rel => exact ⟨j + 1, by omega, rfl, by go_num, y3, hG⟩
    · have hjp : ((j : Int) == (p : Int)) = false := by simp; omega
      have hj1 : (j - 1) * wd + wd ≤ 64 * len := by
        have h1 : (j - 1) * wd ≤ j * wd := Nat.mul_le_mul_right _ (by omega)
        omega
      go_wp2_with fail
      rw [show ((j : Int) - 1) = ((j - 1 : Nat) : Int) from by omega]
      refine (field_any b off len c wd (j - 1) ((j - 1) * wd) f _ (by simp) hw hj1 (by omega) hf hG.came).mono ?_
      rintro e w6 ⟨rfl, rfl⟩
      have hgj : fieldTo g (j * wd) wd = fieldTo f ((j - 1) * wd) wd := by rw [HF.out j hlt, if_neg c1, if_neg c2]
      go_wp2_with fail
      refine (field_any _ 0 len len wd j (j * wd) g _ (by simp) hw (by omega) (by omega) hfg hG.made).mono ?_
      rintro e w7 ⟨rfl, rfl⟩
      go_wp2
      go_roundg (N + 1 - (j + 1))
      case measure => go_light; omega
      case rel => exact ⟨j + 1, by omega, rfl, by go_num, y3, hG⟩
  go_wp2_with fail
  go_loopg [19] (64 * len - q3) (fun gh i wx => ∃ k : Nat, q3 ≤ k ∧ k ≤ 64 * len ∧ gh = 64 * len - k ∧ i = .int .i64 k ∧ Got w wx w.heap.size w5.heap.size b off len c bp f g)
  case atStart => exact ⟨q3, Nat.le_refl _, hq, rfl, rfl, hG⟩
  case round =>
  clear hG y1 y2 y3
  obtain ⟨k, hk0, hk, rfl, rfl, hG⟩ := hrel
  have y2 := hG.got
  by_cases hlt2 : k < 64 * len
  · go_wp2_with fail
    refine (bit_any _ 0 len len k g _ hlt2 (by omega) hfg hG.made).mono ?_
    rintro e w6 ⟨rfl, rfl⟩
    rw [HB.out k hk0 hlt2]
    go_wp2
    go_roundg (64 * len - (k + 1))
    case measure => go_light; omega
    case rel => exact ⟨k + 1, by omega, by omega, rfl, by go_num, hG⟩
  · go_wp2
    go_ret
    exact ⟨rfl, hG.below⟩
end Go.Proofs.Qxb6603759aMods
