/-
  SEAT b6603777aM. divideModel (19), with caps.
-/
import Derived.Test.Qxb6603777aModsModBase
import Derived.Deep.CutBlock
import Derived.Deep.DeepCutAuto
import Derived.BigRegion
namespace Go.Proofs.Qxb6603777aMods
open Go.RowKit Plain

set_option maxRecDepth 100000 in
set_option maxHeartbeats 3200000 in
theorem model_some (bd T : Int) (a1 a2 : Option Addr) (a3 : Addr) (n c1 b1 o1 m c2 b2 o2 c3 : Nat) (b3 o3 : Nat) (wf of cf B rm : Nat → Int) (o : Nat → Nat) (lo : Int) (w : World) (hm : m ≤ 65536) (h1 : Ints .i64 w a1 n c1 b1 o1 wf) (h2 : Ints .i64 w a2 m c2 b2 o2 of) (h3 : Ints .i32 w (some a3) n c3 b3 o3 cf) (hof : ∀ k, k < m → of k = ((o k : Nat) : Int)) (hB : Based false bd T n wf cf B) (d : Plain.Ord m n o)
    (hrm : ∀ k, k < m → rm k = cf (o k) - B (o k)) (hrr : ∀ k, 0 ≤ rm k ∧ rm k ≤ 1099511627776) (hlo : IsLo rm m (bd - sumTo B n) lo) :
    Calls Trym.prog 19 #[.int .i32 bd, .slice a1 n c1, .slice a2 m c2, .slice (some a3) n c3] w fun e w' => ModPost w w' n (put B o (fin rm (bd - sumTo B n) lo m) m) e := by
  have hnn := fun (w : World) (a : Option Addr) (n c : Nat) => run_neq_slice_nil_any (P := Trym.prog) w 23 21 a n c 0 0 Trym.underlying23
  have hsn := fun (w : World) (a : Option Addr) (n c : Nat) => Lib.run_eql_slice_nil (P := Trym.prog) w 23 21 a n c 0 0 Trym.underlying23
  have hn := hB.len
  have hmk1 := run_make_row' (P := Trym.prog) 32 2 (.int .i64 0) 8 Trym.underlying32 Trym.info2 rfl .i64 .i64 n (by omega) (by omega)
  have hmk2 := run_make_row' (P := Trym.prog) 32 2 (.int .i64 0) 8 Trym.underlying32 Trym.info2 rfl .i64 .i64 m (by omega) (by omega)
  have hmk3 := run_make_row' (P := Trym.prog) 23 21 (.int .i32 0) 4 Trym.underlying23 Trym.info21 rfl .i64 .i64 n (by omega) (by omega)
  have HB : Hid (Based false bd T n wf cf B) := hB
  have hbd0 := hB.bd0
  have hbd1 := hB.bd1
  have HLO : Hid (IsLo rm m (bd - sumTo B n) lo) := hlo
  have HRM : Hid (∀ k, k < m → rm k = cf (o k) - B (o k)) := hrm
  have HRR : Hid (∀ k, 0 ≤ rm k ∧ rm k ≤ 1099511627776) := hrr
  have HOF : Hid (∀ k, k < m → of k = ((o k : Nat) : Int)) := hof
  clear hB hlo hrm hof hrr
  go_enter Trym.func19, Trym.ntmps19
  go_wp2
  go_loopg [11, 12] n (fun g s i wr => ∃ k : Nat, k ≤ n ∧ g = n - k ∧ i = .int .i64 k ∧ s = .int .i64 (sumTo wf k) ∧ wr = w)
  case atStart => exact ⟨0, Nat.zero_le _, rfl, rfl, rfl, rfl⟩
  case round =>
  obtain ⟨k, hk, rfl, rfl, rfl, rfl⟩ := hrel
  by_cases hlt : k < n
  · obtain rfl := h1.addr (by omega)
    obtain ⟨x, hx, HX⟩ : ∃ x, wr.cell? ⟨b1, o1 + k, none⟩ = some (.int .i64 x) ∧ Hid (wf k = x) := ⟨_, h1.cell k hlt, rfl⟩
    have hT0 := (HB.out.pre k hk).1
    have hT1 := (HB.out.pre k hk).2
    have hx0 : 0 ≤ x := by rw [← HX.out]; exact (HB.out.wts k hlt).1
    have hx1 : x ≤ 2147483648 := by rw [← HX.out]; exact (HB.out.wts k hlt).2
    have HT : Hid (sumTo wf (k + 1) = sumTo wf k + x) := by unfold Hid; rw [sumTo, HX.out]
    generalize sumTo wf k = T at *
    clear h1 h2
    go_wp2
    go_roundg (n - (k + 1))
    case measure => go_light; omega
    case rel => exact ⟨k + 1, by omega, rfl, by go_num, congrArg (Value.int .i64) HT.out.symm, rfl⟩
  obtain rfl : n = k := by omega
  rename World => w0
  rw [HB.out.tot]
  have hT0 := HB.out.T0
  have hT1 := HB.out.T1
  clear hk hlt
  go_upto_if 46 with fail
  go_cut [14, 15] (fun _ _ wc => RowSt 2 .i64 w0 wc n B)
  case first =>
    by_cases t0 : T = 0
    · subst t0
      have HP := (row_start 2 .i64 w0 n).congr (q := B) (fun i hi => (HB.out.none i hi).symm)
      clear h1 h2
      go_wp2
      go_meet
      case rel => exact HP
    have t1 : (T == 0) = false := by simp [t0]
    have t2 : 0 < T := by omega
    have t3 : decide (0 < T) = true := by simp [t2]
    go_wp2_with fail
    rw [t3]
    go_loopg [14] n (fun g i wx => ∃ k : Nat, k ≤ n ∧ g = n - k ∧ i = .int .i64 k ∧ RowSt 2 .i64 w0 wx n (upTo B k))
    case atStart => exact ⟨0, Nat.zero_le _, rfl, rfl, (row_start 2 .i64 w0 n).congr (fun i _ => (upTo_zero B i).symm)⟩
    case round =>
    obtain ⟨k, hk, rfl, rfl, hP⟩ := hrel
    by_cases hlt : k < n
    · obtain rfl := h1.addr (by omega)
      obtain ⟨x, hx, HX⟩ : ∃ x, wr.cell? ⟨b1, o1 + k, none⟩ = some (.int .i64 x) ∧ Hid (wf k = x) := ⟨_, by rw [hP.below.cell (p := ⟨b1, o1 + k, none⟩) (World.block_lt_of_cell? _ _ (h1.cell k hlt))]; exact h1.cell k hlt, rfl⟩
      obtain ⟨v, r3⟩ : ∃ v, wr.cell? ⟨w0.heap.size, k, none⟩ = some v := ⟨_, hP.row.cell hlt⟩
      have r4 := hP.row.frozen k
      obtain ⟨Q, hQ⟩ : ∃ Q, bd * x = Q := ⟨_, rfl⟩
      have hQ0 : 0 ≤ Q := by rw [← hQ, ← HX.out]; exact (HB.out.prod k hlt).1
      have hQ1 : Q ≤ 4611686018427387904 := by rw [← hQ, ← HX.out]; exact (HB.out.prod k hlt).2
      obtain ⟨S, hSh⟩ : ∃ S, Q / T = S := ⟨_, rfl⟩
      have HSh : Hid (Plain.share bd T wf k = S) := by unfold Hid; rw [Plain.share, if_pos t2, HX.out, hQ, hSh]
      have hSt : Q.tdiv T = S := by rw [Int.tdiv_eq_ediv_of_nonneg hQ0]; exact hSh
      have hS0 : 0 ≤ S := by rw [← HSh.out]; exact (HB.out.share k hlt).1
      have hS1 : S ≤ 2147483647 := by have := (HB.out.share k hlt).2; rw [HSh.out] at this; omega
      obtain rfl : a3 = ⟨b3, o3, none⟩ := Option.some.inj (h3.addr (by omega))
      obtain ⟨C, r5, HC⟩ : ∃ C, wr.cell? ⟨b3, o3 + k, none⟩ = some (.int .i32 C) ∧ Hid (cf k = C) := ⟨_, by rw [hP.below.cell (p := ⟨b3, o3 + k, none⟩) (World.block_lt_of_cell? _ _ (h3.cell k hlt))]; exact h3.cell k hlt, rfl⟩
      have hC0 : 0 ≤ C := by rw [← HC.out]; exact (HB.out.caps rfl k hlt).1
      have hC1 : C ≤ 2147483647 := by rw [← HC.out]; exact (HB.out.caps rfl k hlt).2
      have HBk : Hid (B k = min S C) := by unfold Hid; rw [HB.out.eq k hlt, HSh.out, HC.out]; rfl
      by_cases hcs : C < S
      · have HP := row_step (p' := upTo B (k + 1)) hP k C (fun j _ => by rw [← upTo_succ, HBk.out, show min S C = C by omega])
        have hcd : decide (C < S) = true := by simp [hcs]
        clear h1 h2 h3 hP hSh
        go_wp2
        go_roundg (n - (k + 1))
        case measure => go_light; omega
        case rel => exact ⟨k + 1, by omega, rfl, by go_num, HP⟩
      · have HP := row_step (p' := upTo B (k + 1)) hP k S (fun j _ => by rw [← upTo_succ, HBk.out, show min S C = S by omega])
        have hcd : decide (C < S) = false := by simp [hcs]
        clear h1 h2 h3 hP hSh
        go_wp2
        go_roundg (n - (k + 1))
        case measure => go_light; omega
        case rel => exact ⟨k + 1, by omega, rfl, by go_num, HP⟩
    · obtain rfl : n = k := by omega
      have HP := hP.congr (fun i hi => upTo_all B n i hi)
      clear h1 h2 hP
      go_wp2
      go_meet
      case rel => exact HP
  case rest =>
  have HR1 : Hid (RowSt 2 .i64 w0 wc n B) := hcut
  have HW1 : Hid (w0.heap.size < wc.heap.size) := by have := hcut.size; unfold Hid; omega
  replace h2 := h2.below hcut.below
  replace h3 := h3.below hcut.below
  clear hcut h1 hmk1
  rename World => w1
  go_wp2_with fail
  go_loopg [16, 17] n (fun g s i wr => ∃ k : Nat, k ≤ n ∧ g = n - k ∧ i = .int .i64 k ∧ s = .int .i64 (bd - sumTo B k) ∧ wr = w1)
  case atStart => exact ⟨0, Nat.zero_le _, rfl, rfl, congrArg (Value.int .i64) (by show bd = bd - 0; omega), rfl⟩
  case round =>
  obtain ⟨k, hk, rfl, rfl, rfl, rfl⟩ := hrel
  by_cases hlt : k < n
  · have r1 : wr.cell? ⟨w0.heap.size, k, none⟩ = some (.int .i64 (B k)) := HR1.out.row.cell hlt
    have hX0 := (HB.out.sum k hk).1
    have HX1 : Hid (sumTo B (k + 1) = sumTo B k + B k) := rfl
    have hX2 := (HB.out.sum (k + 1) (by omega)).2
    rw [HX1.out] at hX2
    have hb0 := HB.out.nonneg k hlt
    generalize sumTo B k = X at *
    generalize B k = b0 at *
    clear h2
    go_wp2
    go_roundg (n - (k + 1))
    case measure => go_light; omega
    case rel => exact ⟨k + 1, by omega, rfl, by go_num, congrArg (Value.int .i64) (by rw [HX1.out]; omega), rfl⟩
  obtain rfl : n = k := by omega
  rename World => w1
  obtain ⟨L0, hL0⟩ : ∃ L0, bd - sumTo B n = L0 := ⟨_, rfl⟩
  have hL00 : 0 ≤ L0 := by have := (HB.out.sum n (Nat.le_refl _)).2; omega
  have hL01 : L0 ≤ 2147483647 := by have := (HB.out.sum n (Nat.le_refl _)).1; omega
  have HBL : Hid (∀ i, i < n → B i + L0 ≤ 2147483647) := fun i hi => by have := HB.out.left i hi; omega
  rw [hL0] at HLO ⊢
  have HL0 : Hid (bd - sumTo B n = L0) := hL0
  clear hL0 hk hlt
  go_wp2_with fail
  go_loopg [19, 20] m (fun g s i wr => ∃ (k : Nat) (X : Int), k ≤ m ∧ g = m - k ∧ i = .int .i64 k ∧ s = .int .i64 X ∧ 0 ≤ X ∧ RowSt 2 .i64 w1 wr m (upTo rm k))
  case atStart => exact ⟨0, 0, Nat.zero_le _, rfl, rfl, rfl, by omega, (row_start 2 .i64 w1 m).congr (fun i _ => (upTo_zero rm i).symm)⟩
  case round =>
  obtain ⟨k, MX, hk, rfl, rfl, rfl, hMX, hP⟩ := hrel
  by_cases hlt : k < m
  · obtain ⟨v, r3⟩ : ∃ v, wr.cell? ⟨w1.heap.size, k, none⟩ = some v := ⟨_, hP.row.cell hlt⟩
    have r4 := hP.row.frozen k
    have hIn : o k < n := d.lt k hlt
    obtain rfl := h2.addr (by omega)
    obtain rfl : a3 = ⟨b3, o3, none⟩ := Option.some.inj (h3.addr (by omega))
    have r1 : wr.cell? ⟨b2, o2 + k, none⟩ = some (.int .i64 ((o k : Nat) : Int)) := by rw [hP.below.cell (p := ⟨b2, o2 + k, none⟩) (World.block_lt_of_cell? _ _ (h2.cell k hlt)), ← HOF.out k hlt]; exact h2.cell k hlt
    obtain ⟨C, r5, HC⟩ : ∃ C, wr.cell? ⟨b3, o3 + o k, none⟩ = some (.int .i32 C) ∧ Hid (cf (o k) = C) := ⟨_, by rw [hP.below.cell (p := ⟨b3, o3 + o k, none⟩) (World.block_lt_of_cell? _ _ (h3.cell (o k) hIn))]; exact h3.cell (o k) hIn, rfl⟩
    have r6 : wr.cell? ⟨w0.heap.size, o k, none⟩ = some (.int .i64 (B (o k))) := (rowIs_below hP.below HW1.out HR1.out.row).cell hIn
    have hC0 : 0 ≤ C := by rw [← HC.out]; exact (HB.out.caps rfl _ hIn).1
    have hC1 : C ≤ 2147483647 := by rw [← HC.out]; exact (HB.out.caps rfl _ hIn).2
    have hb0 := HB.out.nonneg _ hIn
    have hb1 := HB.out.le _ hIn
    have hV := HRM.out k hlt
    rw [HC.out] at hV
    have HP : RowSt 2 .i64 w1 (wr.setCell ⟨w1.heap.size, k, none⟩ (.int .i64 (C - B (o k)))) m (upTo rm (k + 1)) := row_step hP k (C - B (o k)) (fun j _ => by rw [← hV]; exact upTo_succ rm k j)
    have HV : Hid (rm k = C - B (o k)) := hV
    generalize B (o k) = b0 at *
    clear h2 h3 hP hV
    go_wp2_with fail
    go_region
    by_cases c : MX < C - b0
    · go_wp2
      go_roundg (m - (k + 1))
      case measure => go_light; omega
      case rel => exact ⟨k + 1, C - b0, by omega, rfl, by go_num, rfl, by omega, HP.drewN 1⟩
    · have cd : decide (MX < C - b0) = false := by simp only [decide_eq_false_iff_not]; omega
      go_wp2
      go_roundg (m - (k + 1))
      case measure => go_light; omega
      case rel => exact ⟨k + 1, MX, by omega, rfl, by go_num, rfl, by omega, HP.drewN 1⟩
  obtain rfl : m = k := by omega
  have HR2 : Hid (RowSt 2 .i64 w1 wr m rm) := hP.congr (fun i hi => upTo_all rm m i hi)
  replace h2 := h2.below hP.below
  have HW2 : Hid (w1.heap.size < wr.heap.size) := by have := hP.size; unfold Hid; omega
  have hi := HR2.out.ints hm (fun k => by have := HRR.out k; exact ⟨by omega, by omega⟩)
  have HI : Hid (Ints .i64 wr (some ⟨w1.heap.size, 0, none⟩) m m w1.heap.size 0 rm) := hi
  rename World => w2
  have hlo0 := HLO.out.nonneg
  have hlo1 := HLO.out.le
  clear hP hi hk hlt hmk2 h3
  go_wp2_with fail
  go_loopg [21, 22] (L0.toNat) (fun g l h wr => ∃ x y : Int, g = (y - x).toNat ∧ l = .int .i64 x ∧ h = .int .i64 y ∧ 0 ≤ x ∧ x ≤ lo ∧ lo ≤ y ∧ y ≤ L0 ∧ wr = w2)
  case atStart => exact ⟨0, L0, by omega, rfl, rfl, by omega, hlo0, hlo1, by omega, rfl⟩
  case round =>
  obtain ⟨x, y, rfl, rfl, rfl, hx0, hx1, hy0, hy1, rfl⟩ := hrel
  by_cases hxy : x < y
  · obtain ⟨D, hD⟩ : ∃ D, (y - x + 1).tdiv 2 = D := ⟨_, rfl⟩
    have hDe : (y - x + 1) / 2 = D := by rw [← hD, Int.tdiv_eq_ediv_of_nonneg (by omega)]
    have hD1 : 0 < D := by omega
    have hD2 : x + D ≤ y := by omega
    have hD3 : y - (x + D) < y - x := by omega
    clear hDe h2
    go_wp2_with fail
    refine (takenIn_at _ m (x + D) rm _ m _ hm HI.out ⟨by omega, by omega⟩ (fun k _ => (HRR.out k).1)).mono ?_
    rintro e w3 ⟨rfl, rfl⟩
    obtain ⟨t, ht⟩ : ∃ t, taken rm (x + D) m = t := ⟨_, rfl⟩
    rw [ht]
    have HT : Hid (taken rm (x + D) m = t) := ht
    clear ht
    by_cases c : t ≤ L0
    · have hu : x + D ≤ lo := lo_up HLO.out (by omega) (by rw [HT.out]; exact c)
      go_wp2
      go_roundg ((y - (x + D)).toNat)
      case measure => go_light; omega
      case rel => exact ⟨x + D, y, rfl, rfl, rfl, by omega, hu, hy0, hy1, rfl⟩
    · have hu : lo ≤ x + D - 1 := lo_down HLO.out (by rw [HT.out]; exact c)
      have cd : decide (t ≤ L0) = false := by simp only [decide_eq_false_iff_not]; omega
      go_wp2
      go_roundg ((x + D - 1 - x).toNat)
      case measure => go_light; omega
      case rel => exact ⟨x, x + D - 1, rfl, rfl, rfl, hx0, hx1, hu, by omega, rfl⟩
  obtain rfl : lo = x := by omega
  obtain rfl : lo = y := by omega
  rename World => w2
  have HW0 : Hid (w0.heap.size < w2.heap.size) := by have := HW1.out; have := HW2.out; unfold Hid; omega
  have HBR : Hid (w2.rowIs w0.heap.size 2 n (fun i => .int .i64 (B i))) := rowIs_below HR2.out.below HW1.out HR1.out.row
  clear hx1 hy0 hxy hlo1
  go_wp2_with fail
  refine (takenIn_at _ m lo rm _ m _ hm HI.out ⟨by omega, by omega⟩ (fun k _ => (HRR.out k).1)).mono ?_
  rintro e w3 ⟨rfl, rfl⟩
  rename World => w2
  obtain ⟨t, ht⟩ : ∃ t, taken rm lo m = t := ⟨_, rfl⟩
  rw [ht]
  have HT : Hid (taken rm lo m = t) := ht
  have ht0 : 0 ≤ t := by rw [← ht]; exact taken_nonneg (fun k _ => (HRR.out k).1) hx0
  have ht1 : t ≤ L0 := by rw [← ht]; exact HLO.out.pays
  clear ht
  go_wp2_with fail
  go_loopg [26] n (fun g i wr => ∃ k : Nat, k ≤ n ∧ g = n - k ∧ i = .int .i64 k ∧ RowSt 21 .i32 w2 wr n (upTo B k))
  case atStart => exact ⟨0, Nat.zero_le _, rfl, rfl, (row_start 21 .i32 w2 n).congr (fun i _ => (upTo_zero B i).symm)⟩
  case round =>
  obtain ⟨k, hk, rfl, rfl, hP⟩ := hrel
  by_cases hlt : k < n
  · have r1 : wr.cell? ⟨w0.heap.size, k, none⟩ = some (.int .i64 (B k)) := (rowIs_below hP.below HW0.out HBR.out).cell hlt
    obtain ⟨v, r3⟩ : ∃ v, wr.cell? ⟨w2.heap.size, k, none⟩ = some v := ⟨_, hP.row.cell hlt⟩
    have r4 := hP.row.frozen k
    have hb0 := HB.out.nonneg k hlt
    have hb1 := HB.out.le k hlt
    have HP : RowSt 21 .i32 w2 (wr.setCell ⟨w2.heap.size, k, none⟩ (.int .i32 (B k))) n (upTo B (k + 1)) := row_step hP k (B k) (fun j _ => upTo_succ B k j)
    generalize B k = b0 at *
    clear h2 hP
    go_wp2
    go_roundg (n - (k + 1))
    case measure => go_light; omega
    case rel => exact ⟨k + 1, by omega, rfl, by go_num, HP⟩
  obtain rfl : n = k := by omega
  have HST : RowSt 21 .i32 w2 wr n (put B o (fin rm L0 lo m) 0) := hP.congr (fun i hi => upTo_all B n i hi)
  clear hP hk hlt hmk3
  go_wp2_with fail
  go_loopg [24, 27] m (fun g s i wr => ∃ (k : Nat) (X : Int), k ≤ m ∧ g = m - k ∧ i = .int .i64 k ∧ s = .int .i64 X ∧ X = L0 - t - min (L0 - t) (cnt rm lo k) ∧ RowSt 21 .i32 w2 wr n (put B o (fin rm L0 lo m) k))
  case atStart => exact ⟨0, L0 - t, Nat.zero_le _, rfl, rfl, rfl, by show L0 - t = L0 - t - min (L0 - t) 0; omega, HST⟩
  case round =>
  clear HST
  obtain ⟨k, X, hk, rfl, rfl, rfl, hX, hP⟩ := hrel
  have hc0 := cnt_nonneg rm lo k
  by_cases hlt : k < m
  · have hIn : o k < n := d.lt k hlt
    obtain rfl := h2.addr (by omega)
    have r1 : wr.cell? ⟨b2, o2 + k, none⟩ = some (.int .i64 ((o k : Nat) : Int)) := by rw [hP.below.cell (p := ⟨b2, o2 + k, none⟩) (World.block_lt_of_cell? _ _ (h2.cell k hlt)), ← HOF.out k hlt]; exact h2.cell k hlt
    have r2 : wr.cell? ⟨w1.heap.size, k, none⟩ = some (.int .i64 (rm k)) := (rowIs_below hP.below HW2.out HR2.out.row).cell hlt
    have r6 : wr.cell? ⟨w0.heap.size, o k, none⟩ = some (.int .i64 (B (o k))) := (rowIs_below hP.below HW0.out HBR.out).cell hIn
    obtain ⟨v, r3⟩ : ∃ v, wr.cell? ⟨w2.heap.size, o k, none⟩ = some v := ⟨_, hP.row.cell hIn⟩
    have r4 := hP.row.frozen (o k)
    have hb0 := HB.out.nonneg _ hIn
    have hbl := HBL.out _ hIn
    have hV0 := (HRR.out k).1
    by_cases c : rm k ≤ lo
    · obtain ⟨hfi, hcn⟩ := mod_skip (m := m) (L0 := L0) k c
      have cd : decide (lo < rm k) = false := by simp only [decide_eq_false_iff_not]; omega
      replace hcn : Hid (cnt rm lo (k + 1) = cnt rm lo k) := hcn
      have HX : Hid (X = L0 - t - min (L0 - t) (cnt rm lo k)) := hX
      have HP : RowSt 21 .i32 w2 (wr.setCell ⟨w2.heap.size, o k, none⟩ (.int .i32 (B (o k) + rm k))) n (put B o (fin rm L0 lo m) (k + 1)) := row_step hP (o k) (B (o k) + rm k) (fun j _ => by
        rw [put_succ]
        by_cases e : j = o k
        · rw [if_pos e, if_pos e, e, hfi]
        · rw [if_neg e, if_neg e])
      generalize B (o k) = b0 at *
      clear h2 hP hfi
      generalize rm k = V at *
      clear hX hc0
      go_wp2_with fail
      go_region
      go_wp2
      go_roundg (m - (k + 1))
      case measure => go_light; omega
      case rel => exact ⟨k + 1, X, by omega, rfl, by go_num, rfl, by rw [hcn.out]; exact HX.out, HP.drewN 1⟩
    have c' : lo < rm k := by omega
    have cd : decide (lo < rm k) = true := by simp only [decide_eq_true_eq]; omega
    by_cases c2 : cnt rm lo k < L0 - taken rm lo m
    · obtain ⟨hfi, hcn⟩ := mod_more (m := m) (L0 := L0) k c' c2
      rw [HT.out] at c2
      have hX0 : 0 < X := by omega
      have hXd : decide (0 < X) = true := by simp only [decide_eq_true_eq]; omega
      have hge := taken_ge (m := m) (fun k _ => (HRR.out k).1) hx0 k hlt c'
      rw [HT.out] at hge
      have hl1 : lo + 1 ≤ L0 := by omega
      have hX1 : X ≤ L0 := by omega
      have HX' : Hid (X - 1 = L0 - t - min (L0 - t) (cnt rm lo (k + 1))) := by unfold Hid; rw [hcn]; omega
      have HP : RowSt 21 .i32 w2 (wr.setCell ⟨w2.heap.size, o k, none⟩ (.int .i32 (B (o k) + (lo + 1)))) n (put B o (fin rm L0 lo m) (k + 1)) := row_step hP (o k) (B (o k) + (lo + 1)) (fun j _ => by
        rw [put_succ]
        by_cases e : j = o k
        · rw [if_pos e, if_pos e, e, hfi]
        · rw [if_neg e, if_neg e])
      generalize B (o k) = b0 at *
      clear h2 hP hfi
      generalize rm k = V at *
      clear hX hc0 c2 hcn hge
      go_wp2_with fail
      go_region
      go_wp2
      go_roundg (m - (k + 1))
      case measure => go_light; omega
      case rel => exact ⟨k + 1, X - 1, by omega, rfl, by go_num, rfl, HX'.out, HP.drewN 1⟩
    · obtain ⟨hfi, hcn⟩ := mod_full (m := m) (L0 := L0) k c' c2
      rw [HT.out] at c2
      obtain rfl : X = 0 := by omega
      have HX' : Hid (0 = L0 - t - min (L0 - t) (cnt rm lo (k + 1))) := by unfold Hid; rw [hcn]; omega
      have HP : RowSt 21 .i32 w2 (wr.setCell ⟨w2.heap.size, o k, none⟩ (.int .i32 (B (o k) + lo))) n (put B o (fin rm L0 lo m) (k + 1)) := row_step hP (o k) (B (o k) + lo) (fun j _ => by
        rw [put_succ]
        by_cases e : j = o k
        · rw [if_pos e, if_pos e, e, hfi]
        · rw [if_neg e, if_neg e])
      generalize B (o k) = b0 at *
      clear h2 hP hfi
      generalize rm k = V at *
      clear hX hc0 c2 hcn
      go_wp2_with fail
      go_region
      go_wp2
      go_roundg (m - (k + 1))
      case measure => go_light; omega
      case rel => exact ⟨k + 1, 0, by omega, rfl, by go_num, rfl, HX'.out, HP.drewN 1⟩
  obtain rfl : m = k := by omega
  clear h2 hlt hk hX hc0
  by_cases c : MX < lo
  · go_wp2
    go_ret2
    have h9 := mod_post HR1.out HR2.out hP (x := MX) ⟨by omega, by omega⟩
    rw [HL0.out]; exact h9
  · have cd : decide (MX < lo) = false := by simp only [decide_eq_false_iff_not]; omega
    go_wp2
    go_ret2
    have h9 := mod_post HR1.out HR2.out hP (x := lo) ⟨by omega, by omega⟩
    rw [HL0.out]; exact h9

end Go.Proofs.Qxb6603777aMods
