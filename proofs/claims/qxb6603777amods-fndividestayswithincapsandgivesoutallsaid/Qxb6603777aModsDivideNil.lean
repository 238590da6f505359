/-
  SEAT b6603777aM. divide (24): the rounds give out what the threshold says.
-/
import Derived.Test.Qxb6603777aModsDivBase
import Derived.Deep.CutBlock
import Derived.Deep.DeepCutAuto
namespace Go.Proofs.Qxb6603777aMods
open Go.RowKit Plain

theorem taken_zero {rm : Nat → Int} {m : Nat} (h : ∀ k, k < m → 0 ≤ rm k) : taken rm 0 m = 0 := by
  have e : taken rm 0 m = sumTo (fun _ => 0) m := sumTo_congr (fun k hk => by have := h k hk; omega)
  rw [e, sumTo_zero]

/-- r ROUNDS ARE DONE, all members served alike. -/
def Full (rm : Nat → Int) (m : Nat) (L0 r L : Int) : Prop := 0 ≤ r ∧ r ≤ taken rm r m ∧ L = L0 - taken rm r m ∧ 0 ≤ L
/-- WHERE THE OUTER LOOP STANDS: r rounds are done; or all is done. -/
def OutRel (w : World) (n m : Nat) (B rm : Nat → Int) (o : Nat → Nat) (L0 lo : Int) (g : Nat) (l gv : Value) (wx : World) : Prop :=
  (∃ r L : Int, Full rm m L0 r L ∧ g = L.toNat + 1 ∧ l = .int .i64 L ∧ gv = .bool true ∧ PartSt w wx n (put B o (giv rm r L 0) m)) ∨
  (∃ x : Int, ∃ b, l = .int .i64 x ∧ gv = .bool b ∧ (x = 0 ∨ b = false) ∧ PartSt w wx n (put B o (fin rm L0 lo m) m))

theorem out_start {w wx : World} {n m : Nat} {B rm : Nat → Int} {o : Nat → Nat} {L0 lo : Int} (d : Plain.Ord m n o) (hrm : ∀ k, k < m → 0 ≤ rm k) (h0 : 0 ≤ L0) (h : PartSt w wx n B) : OutRel w n m B rm o L0 lo (L0.toNat + 1) (.int .i64 L0) (.bool true) wx := by
  have ht := taken_zero hrm
  refine .inl ⟨0, L0, ⟨by omega, by omega, by omega, h0⟩, rfl, rfl, rfl, h.congr (fun i hi => ?_)⟩
  rcases in_or m o i with ⟨k, hk, rfl⟩ | hn
  · rw [put_at d _ _ m k hk (Nat.le_refl _), giv_zero]
    have := hrm k hk
    omega
  · rw [put_not _ _ _ _ _ hn]

/-- the end of a round: all is given out -/
theorem out_spent {w wx : World} {n m : Nat} {B rm : Nat → Int} {o : Nat → Nat} {L0 lo r L : Int} (d : Plain.Ord m n o) (hlo : IsLo rm m L0 lo) (hf : Full rm m L0 r L) (j : Nat) (hj : j ≤ m) (hc : L ≤ cnt rm r j) (h : PartSt w wx n (put B o (giv rm r L j) m)) : PartSt w wx n (put B o (fin rm L0 lo m) m) :=
  h.congr (fun i _ => put_congr d B (fun k hk => giv_done hlo hf.2.2.1 hf.2.2.2 hf.2.1 j hj hc k hk) i)

/-- the end of a round: nobody had room -/
theorem out_none {w wx : World} {n m : Nat} {B rm : Nat → Int} {o : Nat → Nat} {L0 lo r L : Int} (d : Plain.Ord m n o) (hlo : IsLo rm m L0 lo) (hf : Full rm m L0 r L) (hc : cnt rm r m = 0) (h : PartSt w wx n (put B o (giv rm r L m) m)) : PartSt w wx n (put B o (fin rm L0 lo m) m) :=
  h.congr (fun i _ => put_congr d B (fun k hk => giv_none hlo hf.2.2.1 hf.2.2.2 hf.2.1 hc k hk m) i)

/-- the end of a round: all that had room were served, and some is left -/
theorem out_next {w wx : World} {n m : Nat} {B rm : Nat → Int} {o : Nat → Nat} {L0 r L : Int} (d : Plain.Ord m n o) (hf : Full rm m L0 r L) (hc0 : 0 < cnt rm r m) (hc : cnt rm r m ≤ L) (h : PartSt w wx n (put B o (giv rm r L m) m)) : Full rm m L0 (r + 1) (L - cnt rm r m) ∧ PartSt w wx n (put B o (giv rm (r + 1) (L - cnt rm r m) 0) m) := by
  obtain ⟨h1, h2, h3, h4⟩ := hf
  have h5 := taken_next rm r m
  exact ⟨⟨by omega, by omega, by omega, by omega⟩, h.congr (fun i _ => put_congr d B (fun k hk => giv_full hc k hk _) i)⟩

/-- INSIDE A ROUND: the first j of the order are served. -/
def InRel (w : World) (n m : Nat) (B rm : Nat → Int) (o : Nat → Nat) (r L : Int) (g : Nat) (l gv i : Value) (wx : World) : Prop :=
  ∃ (j : Nat) (X : Int) (G : Bool), j ≤ m ∧ g = m - j ∧ i = .int .i64 j ∧ l = .int .i64 X ∧ gv = .bool G ∧ X = L - min L (cnt rm r j) ∧ (G = true ↔ 0 < min L (cnt rm r j)) ∧ PartSt w wx n (put B o (giv rm r L j) m)

theorem in_start {w wx : World} {n m : Nat} {B rm : Nat → Int} {o : Nat → Nat} {r L : Int} (h0 : 0 ≤ L) (h : PartSt w wx n (put B o (giv rm r L 0) m)) : InRel w n m B rm o r L m (.int .i64 L) (.bool false) (.int .i64 0) wx := by
  have hc : cnt rm r 0 = 0 := rfl
  exact ⟨0, L, false, Nat.zero_le _, rfl, rfl, rfl, rfl, by rw [hc]; omega, by rw [hc]; constructor; (intro h; cases h); (intro h; omega), h⟩

theorem in_skip {w wx : World} {n m : Nat} {B rm : Nat → Int} {o : Nat → Nat} {r L X : Int} {G : Bool} {j : Nat} (d : Plain.Ord m n o) (hj : j < m) (hX : X = L - min L (cnt rm r j)) (hG : G = true ↔ 0 < min L (cnt rm r j)) (hr : rm j ≤ r) (h : PartSt w wx n (put B o (giv rm r L j) m)) : InRel w n m B rm o r L (m - (j + 1)) (.int .i64 X) (.bool G) (.int .i64 ((j + 1 : Nat) : Int)) wx := by
  have hc : cnt rm r (j + 1) = cnt rm r j := by rw [cnt_succ, if_neg (by omega)]; omega
  exact ⟨j + 1, X, G, by omega, rfl, rfl, rfl, rfl, by rw [hc]; exact hX, by rw [hc]; exact hG, h.congr (fun i _ => put_congr d B (fun k _ => (giv_skip rm r L j k (.inl hr)).symm) i)⟩

theorem in_give {w wx : World} {n m : Nat} {B rm : Nat → Int} {o : Nat → Nat} {r L X v : Int} {j : Nat} (d : Plain.Ord m n o) (hj : j < m) (hX : X = L - min L (cnt rm r j)) (h0 : 0 < X) (h1 : r < rm j) (hv : v = B (o j) + r + 1) (h : PartSt w wx n (put B o (giv rm r L j) m)) : InRel w n m B rm o r L (m - (j + 1)) (.int .i64 (X - 1)) (.bool true) (.int .i64 ((j + 1 : Nat) : Int)) (wx.setCell ⟨w.heap.size, o j, none⟩ (.int .i32 v)) := by
  have hc : cnt rm r (j + 1) = cnt rm r j + 1 := by rw [cnt_succ, if_pos h1]
  have hn := cnt_nonneg rm r j
  refine ⟨j + 1, X - 1, true, by omega, rfl, rfl, rfl, rfl, by rw [hc]; omega, by rw [hc]; constructor; (intro _; omega); (intro _; rfl), part_step h (o j) v (fun i _ => ?_)⟩
  refine put_set d B j hj v ?_ (fun k _ e => giv_other rm r L j k e) i
  rw [giv_new rm r L j h1 (by omega)]; omega

/-- the round's end -/
theorem in_end {w wx : World} {n m : Nat} {B rm : Nat → Int} {o : Nat → Nat} {L0 lo r L X : Int} {G : Bool} (d : Plain.Ord m n o) (hlo : IsLo rm m L0 lo) (hf : Full rm m L0 r L) (hL : 0 < L) (hX : X = L - min L (cnt rm r m)) (hG : G = true ↔ 0 < min L (cnt rm r m)) (h : PartSt w wx n (put B o (giv rm r L m) m)) : ∃ g, g < L.toNat + 1 ∧ OutRel w n m B rm o L0 lo g (.int .i64 X) (.bool G) wx := by
  have hn := cnt_nonneg rm r m
  by_cases c1 : L ≤ cnt rm r m
  · exact ⟨0, by omega, .inr ⟨X, G, rfl, rfl, .inl (by omega), out_spent d hlo hf m (Nat.le_refl _) c1 h⟩⟩
  by_cases c2 : cnt rm r m = 0
  · refine ⟨0, by omega, .inr ⟨X, G, rfl, rfl, .inr ?_, out_none d hlo hf c2 h⟩⟩
    cases hg : G with
    | false => rfl
    | true => have := hG.1 hg; omega
  · have h9 := out_next d hf (by omega) (by omega) h
    have hX' : X = L - cnt rm r m := by omega
    have hG' : G = true := hG.2 (by omega)
    subst hX' hG'
    exact ⟨(L - cnt rm r m).toNat + 1, by omega, .inl ⟨r + 1, L - cnt rm r m, h9.1, rfl, rfl, rfl, h9.2⟩⟩

/-- the round's break -/
theorem in_break {w wx : World} {n m : Nat} {B rm : Nat → Int} {o : Nat → Nat} {L0 lo r L : Int} {G : Bool} {j : Nat} (d : Plain.Ord m n o) (hlo : IsLo rm m L0 lo) (hf : Full rm m L0 r L) (hj : j ≤ m) (hX : 0 = L - min L (cnt rm r j)) (h : PartSt w wx n (put B o (giv rm r L j) m)) : OutRel w n m B rm o L0 lo 0 (.int .i64 0) (.bool G) wx :=
  .inr ⟨0, G, rfl, rfl, .inl rfl, out_spent d hlo hf j hj (by omega) h⟩

set_option maxRecDepth 100000 in
set_option maxHeartbeats 1600000 in
theorem divide_nil (bd T : Int) (a1 a2 : Option Addr) (n c1 b1 o1 m c2 b2 o2 n3 c3 : Nat) (wf of cf B rm : Nat → Int) (o : Nat → Nat) (lo : Int) (w : World) (hm : m ≤ 65536) (h1 : Ints .i64 w a1 n c1 b1 o1 wf) (h2 : Ints .i64 w a2 m c2 b2 o2 of) (hof : ∀ k, k < m → of k = ((o k : Nat) : Int)) (hB : Based true bd T n wf cf B) (d : Plain.Ord m n o)
    (hrm : ∀ k, k < m → rm k = 1099511627776) (hlo : IsLo rm m (bd - sumTo B n) lo) :
    Calls Trym.prog 24 #[.int .i32 bd, .slice a1 n c1, .slice a2 m c2, .slice none n3 c3] w fun e w' => e = .returned (.slice (some ⟨w.heap.size, 0, none⟩) n n) ∧ PartSt w w' n (put B o (fin rm (bd - sumTo B n) lo m) m) := by
  have hnn := fun (w : World) (a : Option Addr) (n c : Nat) => run_neq_slice_nil_any (P := Trym.prog) w 23 21 a n c 0 0 Trym.underlying23
  have hn := hB.len
  have hmk := run_make_row' (P := Trym.prog) 23 21 (.int .i32 0) 4 Trym.underlying23 Trym.info21 rfl .i64 .i64 n (by omega) (by omega)
  have HB : Hid (Based true bd T n wf cf B) := hB
  have hbd0 := hB.bd0
  have hbd1 := hB.bd1
  have HLO : Hid (IsLo rm m (bd - sumTo B n) lo) := hlo
  have HRM : Hid (∀ k, k < m → rm k = 1099511627776) := hrm
  have HOF : Hid (∀ k, k < m → of k = ((o k : Nat) : Int)) := hof
  clear hB hlo hrm hof
  go_enter Trym.func24, Trym.ntmps24
  go_wp2
  go_loopg [9, 21] n (fun g s i wr => ∃ k : Nat, k ≤ n ∧ g = n - k ∧ i = .int .i64 k ∧ s = .int .i64 (sumTo wf k) ∧ wr = w)
  case atStart => exact ⟨0, Nat.zero_le _, rfl, rfl, rfl, rfl⟩
  case round =>
  obtain ⟨k, hk, rfl, rfl, rfl, rfl⟩ := hrel
  by_cases hlt : k < n
  · obtain rfl := h1.addr (by omega)
    obtain ⟨x, hx, HX⟩ : ∃ x, wr.cell? ⟨b1, o1 + k, none⟩ = some (.int .i64 x) ∧ Hid (wf k = x) := ⟨_, h1.cell k hlt, rfl⟩
    have hT0 := (HB.out.pre k hk).1
    have hT1 := (HB.out.pre k hk).2
    have hx0 : 0 ≤ x := by rw [← HX.out]; exact (HB.out.wts k hlt).1
    have hx1 : x ≤ 2147483648 := by rw [← HX.out]; exact (HB.out.wts k hlt).2
    have HT : Hid (sumTo wf (k + 1) = sumTo wf k + x) := by unfold Hid; rw [sumTo, HX.out]
    generalize sumTo wf k = T at *
    clear h1 h2
    go_wp2
    go_roundg (n - (k + 1))
    case measure => go_light; omega
    case rel => exact ⟨k + 1, by omega, rfl, by go_num, congrArg (Value.int .i64) HT.out.symm, rfl⟩
  obtain rfl : n = k := by omega
  rename World => w0
  rw [HB.out.tot]
  have hT0 := HB.out.T0
  have hT1 := HB.out.T1
  clear hk hlt
  go_upto_block 2 with fail
  go_cut [13, 14, 15] (fun l _ _ wc => l = .int .i64 (bd - sumTo B n) ∧ PartSt w0 wc n B)
  case first =>
    go_wp2_with fail
    go_loopg [13, 36] n (fun g l i wx => ∃ k : Nat, k ≤ n ∧ g = n - k ∧ i = .int .i64 k ∧ l = .int .i64 (bd - sumTo B k) ∧ PartSt w0 wx n (upTo B k))
    case atStart => exact ⟨0, Nat.zero_le _, rfl, rfl, congrArg (Value.int .i64) (by show bd = bd - 0; omega), (part_start w0 n).congr (fun i _ => (upTo_zero B i).symm)⟩
    case round =>
    obtain ⟨k, hk, rfl, rfl, rfl, hP⟩ := hrel
    by_cases hlt : k < n
    · obtain rfl := h1.addr (by omega)
      obtain ⟨x, hx, HX⟩ : ∃ x, wr.cell? ⟨b1, o1 + k, none⟩ = some (.int .i64 x) ∧ Hid (wf k = x) := ⟨_, by rw [hP.below.cell (p := ⟨b1, o1 + k, none⟩) (World.block_lt_of_cell? _ _ (h1.cell k hlt))]; exact h1.cell k hlt, rfl⟩
      by_cases t0 : T = 0
      · subst t0
        have HE : Hid (bd - sumTo B k = bd - sumTo B n) := by unfold Hid; rw [HB.out.noSum k hk, HB.out.noSum n (Nat.le_refl _)]
        have HP := hP.congr (q := B) (fun i hi => by
          unfold upTo
          have := HB.out.none i hi
          by_cases c : i < k
          · rw [if_pos c]
          · rw [if_neg c]; omega)
        clear h1 h2 hP
        go_wp2
        go_meet
        case rel => exact ⟨congrArg (Value.int .i64) HE.out, HP⟩
      · have t1 : (T == 0) = false := by simp [t0]
        have t2 : 0 < T := by omega
        obtain ⟨v, r3⟩ : ∃ v, wr.cell? ⟨_, k, none⟩ = some v := ⟨_, hP.row.cell hlt⟩
        have r4 := hP.row.frozen k
        obtain ⟨Q, hQ⟩ : ∃ Q, bd * x = Q := ⟨_, rfl⟩
        have hQ0 : 0 ≤ Q := by rw [← hQ, ← HX.out]; exact (HB.out.prod k hlt).1
        have hQ1 : Q ≤ 4611686018427387904 := by rw [← hQ, ← HX.out]; exact (HB.out.prod k hlt).2
        obtain ⟨S, hSh⟩ : ∃ S, Q / T = S := ⟨_, rfl⟩
        have HSh : Hid (Plain.share bd T wf k = S) := by unfold Hid; rw [Plain.share, if_pos t2, HX.out, hQ, hSh]
        have hSt : Q.tdiv T = S := by rw [Int.tdiv_eq_ediv_of_nonneg hQ0]; exact hSh
        have hS0 : 0 ≤ S := by rw [← HSh.out]; exact (HB.out.share k hlt).1
        have hS1 : S ≤ 2147483647 := by have := (HB.out.share k hlt).2; rw [HSh.out] at this; omega
        have hX0 := (HB.out.sum k hk).1
        have HX1 : Hid (sumTo B (k + 1) = sumTo B k + B k) := rfl
        have hX2 := (HB.out.sum (k + 1) (by omega)).2
        rw [HX1.out] at hX2
        have HBk : Hid (B k = S) := by unfold Hid; rw [HB.out.eq k hlt, HSh.out]; rfl
        rw [HBk.out] at hX2
        have HP := part_step (p' := upTo B (k + 1)) hP k S (fun j _ => by rw [← HBk.out]; exact upTo_succ B k j)
        generalize sumTo B k = X at *
        clear h1 h2 hP hSh
        go_wp2
        go_roundg (n - (k + 1))
        case measure => go_light; omega
        case rel => exact ⟨k + 1, by omega, rfl, by go_num, congrArg (Value.int .i64) (by rw [HX1.out, HBk.out]; omega), HP⟩
    · obtain rfl : n = k := by omega
      have HP := hP.congr (fun i hi => upTo_all B n i hi)
      clear h1 h2 hP
      go_wp2
      go_meet
      case rel => exact ⟨rfl, HP⟩
  case rest =>
    obtain ⟨rfl, hP⟩ := hcut
    obtain ⟨L0, hL0⟩ : ∃ L0, bd - sumTo B n = L0 := ⟨_, rfl⟩
    have hL00 : 0 ≤ L0 := by have := (HB.out.sum n (Nat.le_refl _)).2; omega
    have hL01 : L0 ≤ 2147483647 := by have := (HB.out.sum n (Nat.le_refl _)).1; omega
    have HBL : Hid (∀ i, i < n → B i + L0 ≤ 2147483647) := fun i hi => by have := HB.out.left i hi; omega
    have HRN : Hid (∀ k, k < m → 0 ≤ rm k) := fun k hk => by
      have hr := HRM.out k hk
      omega
    rw [hL0] at HLO ⊢
    have HST := out_start (lo := lo) d HRN.out hL00 hP
    have HBN : Hid (∀ i, i < n → 0 ≤ B i) := HB.out.nonneg
    have HL0 : Hid (bd - sumTo B n = L0) := hL0
    clear hP HB hL0 h1 hmk
    go_wp2_with fail
    go_loopg [13, 16] (L0.toNat + 1) (fun g l gv wx => OutRel w0 n m B rm o L0 lo g l gv wx)
    case atStart => exact HST
    case round =>
    clear HST
    rcases hrel with ⟨r, L, HF, rfl, rfl, rfl, hP⟩ | ⟨x, b, rfl, rfl, hxb, hP⟩
    · have HFF : Hid (Full rm m L0 r L) := HF
      obtain ⟨hr0, hr1, hr2, hL⟩ := HF
      have hLL : L ≤ 2147483647 := by omega
      by_cases c0 : L = 0
      · subst c0
        have HP := out_spent d HLO.out HFF.out 0 (Nat.zero_le _) (by show (0 : Int) ≤ 0; omega) hP
        clear h2 hP hr1 hr2
        go_wp2
        go_ret
        exact ⟨rfl, by rw [HL0.out]; exact HP⟩
      have c1 : 0 < L := by omega
      have hrL : r + 1 ≤ L0 := by omega
      have HI := in_start hL hP
      clear hr1 hr2 hP c0
      go_wp2_with fail
      go_loopg [13, 16, 82] m (fun g l gv i wx => InRel w0 n m B rm o r L g l gv i wx)
      case atStart => exact HI
      case round =>
      clear HI
      obtain ⟨j, X, G, hj, rfl, rfl, rfl, rfl, hX, hG, hP⟩ := hrel
      have HX : Hid (X = L - min L (cnt rm r j)) := hX
      have HG : Hid (G = true ↔ 0 < min L (cnt rm r j)) := hG
      have hX0 : 0 ≤ X := by omega
      have hX1 : X ≤ L := by have := cnt_nonneg rm r j; omega
      clear hX hG
      by_cases hlt : j < m
      · obtain rfl := h2.addr (by omega)
        have hIn : o j < n := d.lt j hlt
        have r1 : wr.cell? ⟨b2, o2 + j, none⟩ = some (.int .i64 ((o j : Nat) : Int)) := by rw [hP.below.cell (p := ⟨b2, o2 + j, none⟩) (World.block_lt_of_cell? _ _ (h2.cell j hlt)), ← HOF.out j hlt]; exact h2.cell j hlt
        by_cases x0 : X = 0
        · subst x0
          have HO : OutRel w0 n m B rm o L0 lo 0 (.int .i64 0) (.bool G) wr := in_break d HLO.out HFF.out hj HX.out hP
          clear h2 hP
          go_wp2
          go_roundg 0
          case measure => go_light; omega
          case rel => exact HO
        have x1 : (X == 0) = false := by simp [x0]
        have x2 : 0 < X := by omega
        have hrm : r < rm j := by rw [HRM.out j hlt]; omega
        have hbl := HBL.out (o j) hIn
        have hb0 := HBN.out (o j) hIn
        have hv : put B o (giv rm r L j) m (o j) = B (o j) + r := by rw [put_at d _ _ m j hlt (Nat.le_refl _), giv_old rm r L j j (Nat.le_refl _)]; omega
        have r3 : wr.cell? ⟨w0.heap.size, o j, none⟩ = some (.int .i32 (B (o j) + r)) := by rw [← hv]; exact hP.row.cell hIn
        have r4 := hP.row.frozen (o j)
        have HI : InRel w0 n m B rm o r L (m - (j + 1)) (.int .i64 (X - 1)) (.bool true) (.int .i64 ((j + 1 : Nat) : Int)) (wr.setCell ⟨w0.heap.size, o j, none⟩ (.int .i32 (B (o j) + r + 1))) := in_give d hlt HX.out x2 hrm rfl hP
        have HI2 : Hid (∀ q, InRel w0 n m B rm o r L (m - (j + 1)) (.int .i64 (X - 1)) (.bool true) (.int .i64 ((j + 1 : Nat) : Int)) ((wr.drewN q).setCell ⟨w0.heap.size, o j, none⟩ (.int .i32 (B (o j) + r + 1)))) := fun q => in_give d hlt HX.out x2 hrm rfl (hP.drewN q)
        clear hv hP h2 HI
        generalize B (o j) = b0 at *
        go_wp2_with fail
        go_quiet (fail)
        go_wp2
        go_roundg (m - (j + 1))
        case measure => go_light; omega
        case rel => exact HI2.out _
      obtain rfl : m = j := by omega
      obtain ⟨g, hg, HO⟩ := in_end d HLO.out HFF.out c1 HX.out HG.out hP
      clear h2 hP
      go_wp2
      go_roundg g
      case measure => go_light; omega
      case rel => exact HO
    · by_cases x0 : 0 < x
      · rcases hxb with e | rfl
        · omega
        clear h2
        go_wp2
        go_ret
        exact ⟨rfl, by rw [HL0.out]; exact hP⟩
      · have x1 : decide (0 < x) = false := by simp [x0]
        clear h2 hxb
        go_wp2
        go_ret
        exact ⟨rfl, by rw [HL0.out]; exact hP⟩

end Go.Proofs.Qxb6603777aMods
