/-
  SEAT b6603777aM. divide (24), with caps.
-/
import Derived.Test.Qxb6603777aModsDivideNil
namespace Go.Proofs.Qxb6603777aMods
open Go.RowKit Plain

set_option maxRecDepth 100000 in
set_option maxHeartbeats 1600000 in
theorem divide_some (bd T : Int) (a1 a2 : Option Addr) (a3 : Addr) (n c1 b1 o1 m c2 b2 o2 c3 : Nat) (b3 o3 : Nat) (wf of cf B rm : Nat → Int) (o : Nat → Nat) (lo : Int) (w : World) (hm : m ≤ 65536) (h1 : Ints .i64 w a1 n c1 b1 o1 wf) (h2 : Ints .i64 w a2 m c2 b2 o2 of) (h3 : Ints .i32 w (some a3) n c3 b3 o3 cf) (hof : ∀ k, k < m → of k = ((o k : Nat) : Int)) (hB : Based false bd T n wf cf B) (d : Plain.Ord m n o)
    (hrm : ∀ k, k < m → rm k = cf (o k) - B (o k)) (hlo : IsLo rm m (bd - sumTo B n) lo) :
    Calls Trym.prog 24 #[.int .i32 bd, .slice a1 n c1, .slice a2 m c2, .slice (some a3) n c3] w fun e w' => e = .returned (.slice (some ⟨w.heap.size, 0, none⟩) n n) ∧ PartSt w w' n (put B o (fin rm (bd - sumTo B n) lo m) m) := by
  have hnn := fun (w : World) (a : Option Addr) (n c : Nat) => run_neq_slice_nil_any (P := Trym.prog) w 23 21 a n c 0 0 Trym.underlying23
  have hn := hB.len
  have hmk := run_make_row' (P := Trym.prog) 23 21 (.int .i32 0) 4 Trym.underlying23 Trym.info21 rfl .i64 .i64 n (by omega) (by omega)
  have HB : Hid (Based false bd T n wf cf B) := hB
  have hbd0 := hB.bd0
  have hbd1 := hB.bd1
  have HLO : Hid (IsLo rm m (bd - sumTo B n) lo) := hlo
  have HRM : Hid (∀ k, k < m → rm k = cf (o k) - B (o k)) := hrm
  have HOF : Hid (∀ k, k < m → of k = ((o k : Nat) : Int)) := hof
  clear hB hlo hrm hof
  go_enter Trym.func24, Trym.ntmps24
  go_wp2
  go_loopg [9, 21] n (fun g s i wr => ∃ k : Nat, k ≤ n ∧ g = n - k ∧ i = .int .i64 k ∧ s = .int .i64 (sumTo wf k) ∧ wr = w)
  case atStart => exact ⟨0, Nat.zero_le _, rfl, rfl, rfl, rfl⟩
  case round =>
  obtain ⟨k, hk, rfl, rfl, rfl, rfl⟩ := hrel
  by_cases hlt : k < n
  · obtain rfl := h1.addr (by omega)
    obtain ⟨x, hx, HX⟩ : ∃ x, wr.cell? ⟨b1, o1 + k, none⟩ = some (.int .i64 x) ∧ Hid (wf k = x) := ⟨_, h1.cell k hlt, rfl⟩
    have hT0 := (HB.out.pre k hk).1
    have hT1 := (HB.out.pre k hk).2
    have hx0 : 0 ≤ x := by rw [← HX.out]; exact (HB.out.wts k hlt).1
    have hx1 : x ≤ 2147483648 := by rw [← HX.out]; exact (HB.out.wts k hlt).2
    have HT : Hid (sumTo wf (k + 1) = sumTo wf k + x) := by unfold Hid; rw [sumTo, HX.out]
    generalize sumTo wf k = T at *
    clear h1 h2
    go_wp2
    go_roundg (n - (k + 1))
    case measure => go_light; omega
    case rel => exact ⟨k + 1, by omega, rfl, by go_num, congrArg (Value.int .i64) HT.out.symm, rfl⟩
  obtain rfl : n = k := by omega
  rename World => w0
  rw [HB.out.tot]
  have hT0 := HB.out.T0
  have hT1 := HB.out.T1
  clear hk hlt
  go_upto_block 2 with fail
  go_cut [13, 14, 15] (fun l _ _ wc => l = .int .i64 (bd - sumTo B n) ∧ PartSt w0 wc n B)
  case first =>
    go_wp2_with fail
    go_loopg [13, 36] n (fun g l i wx => ∃ k : Nat, k ≤ n ∧ g = n - k ∧ i = .int .i64 k ∧ l = .int .i64 (bd - sumTo B k) ∧ PartSt w0 wx n (upTo B k))
    case atStart => exact ⟨0, Nat.zero_le _, rfl, rfl, congrArg (Value.int .i64) (by show bd = bd - 0; omega), (part_start w0 n).congr (fun i _ => (upTo_zero B i).symm)⟩
    case round =>
    obtain ⟨k, hk, rfl, rfl, rfl, hP⟩ := hrel
    by_cases hlt : k < n
    · obtain rfl := h1.addr (by omega)
      obtain ⟨x, hx, HX⟩ : ∃ x, wr.cell? ⟨b1, o1 + k, none⟩ = some (.int .i64 x) ∧ Hid (wf k = x) := ⟨_, by rw [hP.below.cell (p := ⟨b1, o1 + k, none⟩) (World.block_lt_of_cell? _ _ (h1.cell k hlt))]; exact h1.cell k hlt, rfl⟩
      by_cases t0 : T = 0
      · subst t0
        have HE : Hid (bd - sumTo B k = bd - sumTo B n) := by unfold Hid; rw [HB.out.noSum k hk, HB.out.noSum n (Nat.le_refl _)]
        have HP := hP.congr (q := B) (fun i hi => by
          unfold upTo
          have := HB.out.none i hi
          by_cases c : i < k
          · rw [if_pos c]
          · rw [if_neg c]; omega)
        clear h1 h2 hP
        go_wp2
        go_meet
        case rel => exact ⟨congrArg (Value.int .i64) HE.out, HP⟩
      · have t1 : (T == 0) = false := by simp [t0]
        have t2 : 0 < T := by omega
        obtain ⟨v, r3⟩ : ∃ v, wr.cell? ⟨_, k, none⟩ = some v := ⟨_, hP.row.cell hlt⟩
        have r4 := hP.row.frozen k
        obtain ⟨Q, hQ⟩ : ∃ Q, bd * x = Q := ⟨_, rfl⟩
        have hQ0 : 0 ≤ Q := by rw [← hQ, ← HX.out]; exact (HB.out.prod k hlt).1
        have hQ1 : Q ≤ 4611686018427387904 := by rw [← hQ, ← HX.out]; exact (HB.out.prod k hlt).2
        obtain ⟨S, hSh⟩ : ∃ S, Q / T = S := ⟨_, rfl⟩
        have HSh : Hid (Plain.share bd T wf k = S) := by unfold Hid; rw [Plain.share, if_pos t2, HX.out, hQ, hSh]
        have hSt : Q.tdiv T = S := by rw [Int.tdiv_eq_ediv_of_nonneg hQ0]; exact hSh
        have hS0 : 0 ≤ S := by rw [← HSh.out]; exact (HB.out.share k hlt).1
        have hS1 : S ≤ 2147483647 := by have := (HB.out.share k hlt).2; rw [HSh.out] at this; omega
        have hX0 := (HB.out.sum k hk).1
        have HX1 : Hid (sumTo B (k + 1) = sumTo B k + B k) := rfl
        have hX2 := (HB.out.sum (k + 1) (by omega)).2
        rw [HX1.out] at hX2
        obtain rfl : a3 = ⟨b3, o3, none⟩ := Option.some.inj (h3.addr (by omega))
        obtain ⟨C, r5, HC⟩ : ∃ C, wr.cell? ⟨b3, o3 + k, none⟩ = some (.int .i32 C) ∧ Hid (cf k = C) := ⟨_, by rw [hP.below.cell (p := ⟨b3, o3 + k, none⟩) (World.block_lt_of_cell? _ _ (h3.cell k (by omega)))]; exact h3.cell k (by omega), rfl⟩
        have hC0 : 0 ≤ C := by rw [← HC.out]; exact (HB.out.caps rfl k hlt).1
        obtain ⟨M, hM⟩ : ∃ M, (if C < S then C else S) = M := ⟨_, rfl⟩
        have HBk : Hid (B k = M) := by unfold Hid; rw [HB.out.eq k hlt, HSh.out, HC.out, ← hM, if_min]; rfl
        rw [HBk.out] at hX2
        have h4 : ⟨b3, o3 + k, none⟩ ≠ (⟨w0.heap.size, k, none⟩ : Addr) := by
          have hb : b3 < w0.heap.size := World.block_lt_of_cell? _ _ (h3.cell k (by omega))
          intro e; injection e with e1; omega
        obtain ⟨w9, hw9⟩ : ∃ w9, wr.setCell ⟨w0.heap.size, k, none⟩ (.int .i32 S) = w9 := ⟨_, rfl⟩
        have q1 : w9.cell? ⟨w0.heap.size, k, none⟩ = some (.int .i32 S) := by rw [← hw9]; exact World.cell?_setCell_same _ _ _ r3
        have q2 : w9.cell? ⟨b3, o3 + k, none⟩ = some (.int .i32 C) := by rw [← hw9]; exact (World.cell?_setCell_other _ _ _ _ h4.symm).trans r5
        have q3 : w9.frozen? ⟨w0.heap.size, k, none⟩ = false := by rw [← hw9]; simpa using r4
        have HP : Hid (PartSt w0 (w9.setCell ⟨w0.heap.size, k, none⟩ (.int .i32 M)) n (upTo B (k + 1))) := by
          have h5 := part_step (p' := fun i => if i = k then S else upTo B k i) hP k S (fun j _ => rfl)
          rw [hw9] at h5
          refine part_step h5 k M (fun j _ => ?_)
          rw [← HBk.out, ← upTo_succ]
          by_cases e : j = k
          · rw [if_pos e, if_pos e]
          · rw [if_neg e, if_neg e, if_neg e]
        generalize sumTo B k = X at *
        clear h1 h2 h3 hP hSh
        go_wp2_with fail
        try rw [hw9]
        clear hw9 h4 r3 r4 r5 hx hQ hSt t0 t1 t2
        go_region
        go_wp2
        go_roundg (n - (k + 1))
        case measure => go_light; omega
        case rel => exact ⟨k + 1, by omega, rfl, by go_num, congrArg (Value.int .i64) (by rw [HX1.out, HBk.out]; omega), HP.out.drewN 1⟩
    · obtain rfl : n = k := by omega
      have HP := hP.congr (fun i hi => upTo_all B n i hi)
      clear h1 h2 hP
      go_wp2
      go_meet
      case rel => exact ⟨rfl, HP⟩
  case rest =>
    obtain ⟨rfl, hP⟩ := hcut
    obtain ⟨L0, hL0⟩ : ∃ L0, bd - sumTo B n = L0 := ⟨_, rfl⟩
    have hL00 : 0 ≤ L0 := by have := (HB.out.sum n (Nat.le_refl _)).2; omega
    have hL01 : L0 ≤ 2147483647 := by have := (HB.out.sum n (Nat.le_refl _)).1; omega
    have HBL : Hid (∀ i, i < n → B i + L0 ≤ 2147483647) := fun i hi => by have := HB.out.left i hi; omega
    have HRN : Hid (∀ k, k < m → 0 ≤ rm k) := fun k hk => by
      have hr := HRM.out k hk
      have he := HB.out.eq (o k) (d.lt k hk)
      rw [if_neg (by decide)] at he
      omega
    rw [hL0] at HLO ⊢
    have HST := out_start (lo := lo) d HRN.out hL00 hP
    have HBN : Hid (∀ i, i < n → 0 ≤ B i) := HB.out.nonneg
    have HL0 : Hid (bd - sumTo B n = L0) := hL0
    clear hP HB hL0 h1 hmk
    go_wp2_with fail
    go_loopg [13, 16] (L0.toNat + 1) (fun g l gv wx => OutRel w0 n m B rm o L0 lo g l gv wx)
    case atStart => exact HST
    case round =>
    clear HST
    rcases hrel with ⟨r, L, HF, rfl, rfl, rfl, hP⟩ | ⟨x, b, rfl, rfl, hxb, hP⟩
    · have HFF : Hid (Full rm m L0 r L) := HF
      obtain ⟨hr0, hr1, hr2, hL⟩ := HF
      have hLL : L ≤ 2147483647 := by omega
      by_cases c0 : L = 0
      · subst c0
        have HP := out_spent d HLO.out HFF.out 0 (Nat.zero_le _) (by show (0 : Int) ≤ 0; omega) hP
        clear h2 hP hr1 hr2
        go_wp2
        go_ret
        exact ⟨rfl, by rw [HL0.out]; exact HP⟩
      have c1 : 0 < L := by omega
      have hrL : r + 1 ≤ L0 := by omega
      have HI := in_start hL hP
      clear hr1 hr2 hP c0
      go_wp2_with fail
      go_loopg [13, 16, 82] m (fun g l gv i wx => InRel w0 n m B rm o r L g l gv i wx)
      case atStart => exact HI
      case round =>
      clear HI
      obtain ⟨j, X, G, hj, rfl, rfl, rfl, rfl, hX, hG, hP⟩ := hrel
      have HX : Hid (X = L - min L (cnt rm r j)) := hX
      have HG : Hid (G = true ↔ 0 < min L (cnt rm r j)) := hG
      have hX0 : 0 ≤ X := by omega
      have hX1 : X ≤ L := by have := cnt_nonneg rm r j; omega
      clear hX hG
      by_cases hlt : j < m
      · obtain rfl := h2.addr (by omega)
        have hIn : o j < n := d.lt j hlt
        have r1 : wr.cell? ⟨b2, o2 + j, none⟩ = some (.int .i64 ((o j : Nat) : Int)) := by rw [hP.below.cell (p := ⟨b2, o2 + j, none⟩) (World.block_lt_of_cell? _ _ (h2.cell j hlt)), ← HOF.out j hlt]; exact h2.cell j hlt
        by_cases x0 : X = 0
        · subst x0
          have HO : OutRel w0 n m B rm o L0 lo 0 (.int .i64 0) (.bool G) wr := in_break d HLO.out HFF.out hj HX.out hP
          clear h2 hP
          go_wp2
          go_roundg 0
          case measure => go_light; omega
          case rel => exact HO
        have x1 : (X == 0) = false := by simp [x0]
        have x2 : 0 < X := by omega
        obtain rfl : a3 = ⟨b3, o3, none⟩ := Option.some.inj (h3.addr (by omega))
        obtain ⟨C, r5, HC⟩ : ∃ C, wr.cell? ⟨b3, o3 + o j, none⟩ = some (.int .i32 C) ∧ Hid (cf (o j) = C) := ⟨_, by rw [hP.below.cell (p := ⟨b3, o3 + o j, none⟩) (World.block_lt_of_cell? _ _ (h3.cell (o j) (by omega)))]; exact h3.cell (o j) (by omega), rfl⟩
        have hrj := HRM.out j hlt
        have hv : put B o (giv rm r L j) m (o j) = B (o j) + min (rm j) r := by rw [put_at d _ _ m j hlt (Nat.le_refl _), giv_old rm r L j j (Nat.le_refl _)]
        have hbl := HBL.out (o j) hIn
        have hb0 := HBN.out (o j) hIn
        have r4 := hP.row.frozen (o j)
        rw [HC.out] at hrj
        by_cases hrm : rm j ≤ r
        · have r3 : wr.cell? ⟨w0.heap.size, o j, none⟩ = some (.int .i32 C) := by
            have e : put B o (giv rm r L j) m (o j) = C := by omega
            rw [← e]; exact hP.row.cell hIn
          have HI2 : Hid (∀ q, InRel w0 n m B rm o r L (m - (j + 1)) (.int .i64 X) (.bool G) (.int .i64 ((j + 1 : Nat) : Int)) (wr.drewN q)) := fun q => in_skip d hlt HX.out HG.out hrm (hP.drewN q)
          have hdc : decide (C ≤ C) = true := by simp
          clear hv hP h2 h3 hrj hbl
          go_wp2_with fail
          go_quiet (fail)
          go_wp2
          go_roundg (m - (j + 1))
          case measure => go_light; omega
          case rel => exact HI2.out _
        · have r3 : wr.cell? ⟨w0.heap.size, o j, none⟩ = some (.int .i32 (B (o j) + r)) := by
            have e : put B o (giv rm r L j) m (o j) = B (o j) + r := by omega
            rw [← e]; exact hP.row.cell hIn
          have hdc : decide (C ≤ B (o j) + r) = false := by simp only [decide_eq_false_iff_not]; omega
          have HI2 : Hid (∀ q, InRel w0 n m B rm o r L (m - (j + 1)) (.int .i64 (X - 1)) (.bool true) (.int .i64 ((j + 1 : Nat) : Int)) ((wr.drewN q).setCell ⟨w0.heap.size, o j, none⟩ (.int .i32 (B (o j) + r + 1)))) := fun q => in_give d hlt HX.out x2 (by omega) rfl (hP.drewN q)
          clear hv hP h2 h3 hrj
          generalize B (o j) = b0 at *
          go_wp2_with fail
          go_quiet (fail)
          go_wp2
          go_roundg (m - (j + 1))
          case measure => go_light; omega
          case rel => exact HI2.out _
      obtain rfl : m = j := by omega
      obtain ⟨g, hg, HO⟩ := in_end d HLO.out HFF.out c1 HX.out HG.out hP
      clear h2 hP
      go_wp2
      go_roundg g
      case measure => go_light; omega
      case rel => exact HO
    · by_cases x0 : 0 < x
      · rcases hxb with e | rfl
        · omega
        clear h2
        go_wp2
        go_ret
        exact ⟨rfl, by rw [HL0.out]; exact hP⟩
      · have x1 : decide (0 < x) = false := by simp [x0]
        clear h2 hxb
        go_wp2
        go_ret
        exact ⟨rfl, by rw [HL0.out]; exact hP⟩

end Go.Proofs.Qxb6603777aMods
