/-
  SEAT b6603777aM. THE LAW FnDivideStaysWithinCapsAndGivesOutAll (7).
-/
import Derived.Test.Qxb6603777aModsPlainStays
namespace Go.Proofs.Qxb6603777aMods
open Go.RowKit Plain

set_option maxRecDepth 100000 in
set_option maxHeartbeats 3200000 in
theorem stays_main (bd : Int) (a1 a2 a3 : Option Addr) (n c1 b1 o1 m c2 b2 o2 n3 c3 b3 o3 : Nat) (wf of cf : Nat → Int) (w : World) (hn : n ≤ 32768) (hm : m ≤ 32768) (hn3 : n3 ≤ 32768) (h1 : Ints .i64 w a1 n c1 b1 o1 wf) (h2 : Ints .i64 w a2 m c2 b2 o2 of) (h3 : Ints .i32 w a3 n3 c3 b3 o3 cf) (hb2 : bd ≤ 2147483647) :
    Calls Trym.prog 7 #[.int .i32 bd, .slice a1 n c1, .slice a2 m c2, .slice a3 n3 c3] w fun e w' => e = .returned (.bool true) ∧ Below w.heap.size w w' := by
  have hd : decide (n + m + n3 ≤ 1048576) = true := by simp; omega
  go_enter Trym.func7, Trym.ntmps7
  go_wp2_with fail
  refine (bytes_stays bd a1 a2 a3 n c1 m c2 n3 c3 w (by omega) (by omega) (by omega)).mono ?_
  rintro e w' ⟨rfl, rfl⟩
  rw [hd]
  clear hd
  have t1 : decide (32768 < (n : Int)) = false := by simp only [decide_eq_false_iff_not]; omega
  have t2 : decide (32768 < (m : Int)) = false := by simp only [decide_eq_false_iff_not]; omega
  have t3 : decide (32768 < (n3 : Int)) = false := by simp only [decide_eq_false_iff_not]; omega
  go_wp2_with fail
  refine (divideDomain_any bd a1 a2 a3 n c1 b1 o1 m c2 b2 o2 n3 c3 b3 o3 wf of cf _ (by omega) (by omega) (by omega) h1 h2 h3).mono ?_
  rintro e w1 ⟨r, rfl, hB1, hr⟩
  cases r with
  | false =>
    go_wp2
    go_ret
    exact ⟨rfl, hB1⟩
  | true =>
  by_cases hmn : m = n
  case neg =>
    have cm : ((m : Int) == (n : Int)) = false := by simp only [beq_eq_false_iff_ne, ne_eq]; omega
    clear hr
    go_wp2
    go_ret
    exact ⟨rfl, hB1⟩
  subst hmn
  have hok := hr rfl
  obtain ⟨B, rm, o, lo, hpl⟩ := plan_of hok hb2 (by omega) h3.range
  have HN3 : Hid (a3.isNone = false → n3 = m) := fun e => (hok.caps e).1
  have HPL : Hid (Plan a3.isNone bd (sumTo wf m) m m wf of cf B rm o lo) := hpl
  clear hr hok hpl
  go_wp2_with fail
  refine (cloneInt64s_any a1 m c1 b1 o1 wf _ (by omega) (h1.below hB1)).mono ?_
  rintro e w2 ⟨a1', c1', p1, rfl, hB2, hi2, -⟩
  go_wp2_with fail
  refine (cloneInts_any a2 m c2 b2 o2 of _ (by omega) ((h2.below hB1).below hB2)).mono ?_
  rintro e w3 ⟨a2', c2', p2, rfl, hB3, hj3, -⟩
  go_wp2_with fail
  refine (cloneInt32s_any a3 n3 c3 b3 o3 cf _ (by omega) (((h3.below hB1).below hB2).below hB3)).mono ?_
  rintro e w4 ⟨a3', c3', p3, rfl, hB4, hk4, e4⟩
  have hi4 := (hi2.below hB3).below hB4
  have hj4 := hj3.below hB4
  have hz1 := hB1.size
  have hz2 := hB2.size
  have hz3 := hB3.size
  have hz4 := hB4.size
  have hbb4 : Below w'.heap.size w' w4 := ((hB1.trans (hB2.mono hz1)).trans (hB3.mono (by omega))).trans (hB4.mono (by omega))
  rw [← e4] at HN3 HPL
  clear hi2 hj3 h1 h2 h3 hB1 hB2 hB3 hB4 e4
  go_wp2_with fail
  refine (model_plan _ (by omega) hi4 hj4 hk4 HN3.out HPL.out).mono ?_
  rintro e w5 ⟨x, hx, rfl, hB5, hz5, hr5⟩
  have hi5 := hi4.below hB5
  have hj5 := hj4.below hB5
  have hk5 := hk4.below hB5
  have hbb5 : Below w'.heap.size w' w5 := hbb4.trans (hB5.mono (by omega))
  obtain ⟨x0, x1⟩ := hx
  obtain ⟨V, hV⟩ : ∃ V, (x + 2) * ((m : Int) + 1) = V := ⟨_, rfl⟩
  have hV0 : 0 ≤ V := by rw [← hV]; exact Int.mul_nonneg (by omega) (by omega)
  have hV1 : V ≤ 2147483649 * ((m : Int) + 1) := by rw [← hV]; exact Int.mul_le_mul_of_nonneg_right (by omega) (by omega)
  have hV2 : V ≤ 140737488355328 := by omega
  have hz5' : w4.heap.size + 2 < w5.heap.size := by omega
  clear hi4 hj4 hk4 hB5 hbb4 hV1 hz5
  by_cases cV : 134217728 < V
  · clear hi5 hj5 hk5 hr5
    go_wp2_with fail
    go_ret
    exact ⟨rfl, hbb5⟩
  have cd : decide (134217728 < V) = false := by simp only [decide_eq_false_iff_not]; omega
  go_wp2_with fail
  refine (zzdivide_of (divide_plan _ (by omega) hi5 hj5 hk5 HN3.out HPL.out)).mono ?_
  rintro e w6 ⟨rfl, hS⟩
  have hbb6 : Below w'.heap.size w' w6 := hbb5.trans (hS.below.mono (by omega))
  have hq6 := hS.row
  have hi6 := hi5.below hS.below
  have hk6 := hk5.below hS.below
  have HST : Hid (Stays a3'.isNone bd (sumTo wf m) m wf cf (put B o (fin rm (bd - sumTo B m) lo m) m)) := stays_of HPL.out
  have HPR : Hid (∀ k, k ≤ m → 0 ≤ sumTo wf k ∧ sumTo wf k ≤ 140737488355328) := HPL.out.based.pre
  have HWT : Hid (∀ i, i < m → 0 ≤ wf i ∧ wf i ≤ 2147483648) := HPL.out.based.wts
  have HPD : Hid (∀ i, i < m → 0 ≤ bd * wf i ∧ bd * wf i ≤ 4611686018427387904) := HPL.out.based.prod
  have HSR : Hid (∀ i, i < m → 0 ≤ Plain.share bd (sumTo wf m) wf i ∧ Plain.share bd (sumTo wf m) wf i ≤ bd) := HPL.out.based.share
  have HCP0 : Hid (a3'.isNone = false → ∀ i, i < m → 0 ≤ cf i ∧ cf i ≤ 2147483647) := HPL.out.based.caps
  have hbd0 := HPL.out.based.bd0
  generalize put B o (fin rm (bd - sumTo B m) lo m) m = P1 at *
  clear hS hr5 hi5 hj5 hk5 hbb5 HPL hz5' hV cd cV
  have hsn := fun (w : World) (a : Option Addr) (n c : Nat) => Lib.run_eql_slice_nil (P := Trym.prog) w 23 21 a n c 0 0 Trym.underlying23
  have hnn := fun (w : World) (a : Option Addr) (n c : Nat) => run_neq_slice_nil_any (P := Trym.prog) w 23 21 a n c 0 0 Trym.underlying23
  cases a3' with
  | none =>
  go_wp2_with fail
  go_loopg [12, 13, 14, 15] m (fun g t s c i wr => ∃ k : Nat, k ≤ m ∧ g = m - k ∧ i = .int .i64 k ∧ t = .int .i64 (sumTo wf k) ∧ s = .int .i64 (sumTo P1 k) ∧ c = .int .i64 0 ∧ wr = w6)
  case atStart => exact ⟨0, Nat.zero_le _, rfl, rfl, rfl, rfl, rfl, rfl⟩
  case round =>
  obtain ⟨k, hk, rfl, rfl, rfl, rfl, rfl, rfl⟩ := hrel
  by_cases hlt : k < m
  · obtain rfl := hi6.addr (by omega)
    have r1 : wr.cell? ⟨p1, k, none⟩ = some (.int .i64 (wf k)) := by have := hi6.cell k hlt; rwa [Nat.zero_add] at this
    have r2 : wr.cell? ⟨w5.heap.size, k, none⟩ = some (.int .i32 (P1 k)) := hq6.cell hlt
    have hT0 := (HPR.out k hk).1
    have hT1 := (HPR.out k hk).2
    have hx0 := (HWT.out k hlt).1
    have hx1 := (HWT.out k hlt).2
    have hS0 := (HST.out.pre k hk).1
    have hS1 := (HST.out.pre k hk).2
    have hp0 := (HST.out.rng k hlt).1
    have hp1 := (HST.out.rng k hlt).2
    have HTW : Hid (sumTo wf (k + 1) = sumTo wf k + wf k) := rfl
    have HTP : Hid (sumTo P1 (k + 1) = sumTo P1 k + P1 k) := rfl
    generalize sumTo wf k = T1 at *
    generalize sumTo P1 k = S1 at *
    generalize wf k = x1 at *
    generalize P1 k = y1 at *
    clear hi6 hq6
    go_wp2
    go_roundg (m - (k + 1))
    case measure => go_light; omega
    case rel => exact ⟨k + 1, by omega, rfl, by go_num, congrArg (Value.int .i64) HTW.out.symm, congrArg (Value.int .i64) HTP.out.symm, rfl, rfl⟩
  obtain rfl : m = k := by omega
  rename World => w6
  obtain ⟨T, hT⟩ : ∃ T, sumTo wf m = T := ⟨_, rfl⟩
  rw [hT] at HST HSR ⊢
  have hTT0 : 0 ≤ T := by rw [← hT]; exact (HPR.out m (Nat.le_refl _)).1
  have hTT1 : T ≤ 140737488355328 := by rw [← hT]; exact (HPR.out m (Nat.le_refl _)).2
  clear hT hk hlt
  by_cases t0 : T = 0
  · subst t0
    go_wp2_with fail
    go_loopg [16] m (fun g i wr => ∃ k : Nat, k ≤ m ∧ g = m - k ∧ i = .int .i64 k ∧ wr = w6)
    case atStart => exact ⟨0, Nat.zero_le _, rfl, rfl, rfl⟩
    case round =>
    obtain ⟨k, hk, rfl, rfl, rfl⟩ := hrel
    by_cases hlt : k < m
    · obtain rfl := hi6.addr (by omega)
      have r1 : wr.cell? ⟨p1, k, none⟩ = some (.int .i64 (wf k)) := by have := hi6.cell k hlt; rwa [Nat.zero_add] at this
      have r2 : wr.cell? ⟨w5.heap.size, k, none⟩ = some (.int .i32 (P1 k)) := hq6.cell hlt
      have hp0 := (HST.out.rng k hlt).1
      have hp1 := (HST.out.rng k hlt).2
      have hdn : decide (P1 k < 0) = false := by simp only [decide_eq_false_iff_not]; omega
      clear hi6 hq6
      generalize wf k = x1 at *
      generalize P1 k = y1 at *
      go_wp2
      go_roundg (m - (k + 1))
      case measure => go_light; omega
      case rel => exact ⟨k + 1, by omega, rfl, by go_num, rfl⟩
    obtain rfl : m = k := by omega
    by_cases hz : 0 < m
    · have hs := HST.out.sumN rfl hz
      rw [hs]
      clear hi6 hq6
      go_wp2
      go_ret
      exact ⟨rfl, hbb6⟩
    · obtain rfl : m = 0 := by omega
      have hs : sumTo P1 0 = 0 := rfl
      rw [hs]
      clear hi6 hq6
      go_wp2
      go_ret
      exact ⟨rfl, hbb6⟩
  have t1 : (T == 0) = false := by simp [t0]
  have t2 : 0 < T := by omega
  have t3 : decide (0 < T) = true := by simp [t2]
  go_wp2_with fail
  go_loopg [16] m (fun g i wr => ∃ k : Nat, k ≤ m ∧ g = m - k ∧ i = .int .i64 k ∧ wr = w6)
  case atStart => exact ⟨0, Nat.zero_le _, rfl, rfl, rfl⟩
  case round =>
  obtain ⟨k, hk, rfl, rfl, rfl⟩ := hrel
  by_cases hlt : k < m
  · obtain rfl := hi6.addr (by omega)
    have r1 : wr.cell? ⟨p1, k, none⟩ = some (.int .i64 (wf k)) := by have := hi6.cell k hlt; rwa [Nat.zero_add] at this
    have r2 : wr.cell? ⟨w5.heap.size, k, none⟩ = some (.int .i32 (P1 k)) := hq6.cell hlt
    have hp0 := (HST.out.rng k hlt).1
    have hp1 := (HST.out.rng k hlt).2
    have hdn : decide (P1 k < 0) = false := by simp only [decide_eq_false_iff_not]; omega
    obtain ⟨x, HX⟩ : ∃ x, Hid (wf k = x) := ⟨_, rfl⟩
    obtain ⟨Q, hQ⟩ : ∃ Q, bd * wf k = Q := ⟨_, rfl⟩
    have hQ0 : 0 ≤ Q := by rw [← hQ]; exact (HPD.out k hlt).1
    have hQ1 : Q ≤ 4611686018427387904 := by rw [← hQ]; exact (HPD.out k hlt).2
    obtain ⟨S, hSh⟩ : ∃ S, Q / T = S := ⟨_, rfl⟩
    have HSh : Hid (Plain.share bd T wf k = S) := by unfold Hid; rw [Plain.share, if_pos t2, hQ, hSh]
    have hSt : Q.tdiv T = S := by rw [Int.tdiv_eq_ediv_of_nonneg hQ0]; exact hSh
    have hS0 : 0 ≤ S := by rw [← HSh.out]; exact (HSR.out k hlt).1
    have hS1 : S ≤ 2147483647 := by have := (HSR.out k hlt).2; rw [HSh.out] at this; omega
    have hs1 := (HST.out.shN rfl t2 k hlt).1
    have hs2 := (HST.out.shN rfl t2 k hlt).2
    rw [HSh.out] at hs1 hs2
    have hd1 : decide (P1 k < S) = false := by simp only [decide_eq_false_iff_not]; omega
    have hd2 : decide (S + 1 < P1 k) = false := by simp only [decide_eq_false_iff_not]; omega
    clear hi6 hq6 hSh
    generalize wf k = x1 at *
    generalize P1 k = y1 at *
    go_wp2
    go_roundg (m - (k + 1))
    case measure => go_light; omega
    case rel => exact ⟨k + 1, by omega, rfl, by go_num, rfl⟩
  obtain rfl : m = k := by omega
  by_cases hz : 0 < m
  · have hs := HST.out.sumN rfl hz
    rw [hs]
    clear hi6 hq6
    go_wp2
    go_ret
    exact ⟨rfl, hbb6⟩
  · obtain rfl : m = 0 := by omega
    have hs : sumTo P1 0 = 0 := rfl
    rw [hs]
    clear hi6 hq6
    go_wp2
    go_ret
    exact ⟨rfl, hbb6⟩
  | some a3' =>
  have HCP : Hid (∀ i, i < m → 0 ≤ cf i ∧ cf i ≤ 2147483647) := HCP0.out rfl
  obtain rfl := HN3.out rfl
  have HCT : Hid (∀ k, k ≤ n3 → 0 ≤ sumTo cf k ∧ sumTo cf k ≤ 140737488355328) := fun k hk => by
    refine ⟨sumTo_nonneg (fun i hi => (HCP.out i (by omega)).1), ?_⟩
    have h1 : sumTo cf k ≤ sumTo (fun _ => 2147483647) k := sumTo_le (fun i hi => (HCP.out i (by omega)).2)
    have h2 := sumTo_const 2147483647 k
    omega
  go_wp2_with fail
  go_loopg [12, 13, 14, 15] n3 (fun g t s c i wr => ∃ k : Nat, k ≤ n3 ∧ g = n3 - k ∧ i = .int .i64 k ∧ t = .int .i64 (sumTo wf k) ∧ s = .int .i64 (sumTo P1 k) ∧ c = .int .i64 (sumTo cf k) ∧ wr = w6)
  case atStart => exact ⟨0, Nat.zero_le _, rfl, rfl, rfl, rfl, rfl, rfl⟩
  case round =>
  obtain ⟨k, hk, rfl, rfl, rfl, rfl, rfl, rfl⟩ := hrel
  by_cases hlt : k < n3
  · obtain rfl := hi6.addr (by omega)
    have r1 : wr.cell? ⟨p1, k, none⟩ = some (.int .i64 (wf k)) := by have := hi6.cell k hlt; rwa [Nat.zero_add] at this
    have r2 : wr.cell? ⟨w5.heap.size, k, none⟩ = some (.int .i32 (P1 k)) := hq6.cell hlt
    obtain rfl : a3' = ⟨p3, 0, none⟩ := Option.some.inj (hk6.addr (by omega))
    have r5 : wr.cell? ⟨p3, k, none⟩ = some (.int .i32 (cf k)) := by have := hk6.cell k hlt; rwa [Nat.zero_add] at this
    have hc0 := (HCP.out k hlt).1
    have hc1 := (HCP.out k hlt).2
    have hC0 := (HCT.out k hk).1
    have hC1 := (HCT.out k hk).2
    have HTC : Hid (sumTo cf (k + 1) = sumTo cf k + cf k) := rfl
    have hT0 := (HPR.out k hk).1
    have hT1 := (HPR.out k hk).2
    have hx0 := (HWT.out k hlt).1
    have hx1 := (HWT.out k hlt).2
    have hS0 := (HST.out.pre k hk).1
    have hS1 := (HST.out.pre k hk).2
    have hp0 := (HST.out.rng k hlt).1
    have hp1 := (HST.out.rng k hlt).2
    have HTW : Hid (sumTo wf (k + 1) = sumTo wf k + wf k) := rfl
    have HTP : Hid (sumTo P1 (k + 1) = sumTo P1 k + P1 k) := rfl
    generalize sumTo wf k = T1 at *
    generalize sumTo P1 k = S1 at *
    generalize wf k = x1 at *
    generalize P1 k = y1 at *
    generalize sumTo cf k = C1 at *
    generalize cf k = z1 at *
    clear hi6 hq6 hk6
    go_wp2
    go_roundg (n3 - (k + 1))
    case measure => go_light; omega
    case rel => exact ⟨k + 1, by omega, rfl, by go_num, congrArg (Value.int .i64) HTW.out.symm, congrArg (Value.int .i64) HTP.out.symm, congrArg (Value.int .i64) HTC.out.symm, rfl⟩
  obtain rfl : n3 = k := by omega
  rename World => w6
  obtain ⟨T, hT⟩ : ∃ T, sumTo wf n3 = T := ⟨_, rfl⟩
  rw [hT] at HST HSR ⊢
  have hTT0 : 0 ≤ T := by rw [← hT]; exact (HPR.out n3 (Nat.le_refl _)).1
  have hTT1 : T ≤ 140737488355328 := by rw [← hT]; exact (HPR.out n3 (Nat.le_refl _)).2
  clear hT hk hlt
  by_cases t0 : T = 0
  · subst t0
    go_wp2_with fail
    go_loopg [16] n3 (fun g i wr => ∃ k : Nat, k ≤ n3 ∧ g = n3 - k ∧ i = .int .i64 k ∧ wr = w6)
    case atStart => exact ⟨0, Nat.zero_le _, rfl, rfl, rfl⟩
    case round =>
    obtain ⟨k, hk, rfl, rfl, rfl⟩ := hrel
    by_cases hlt : k < n3
    · obtain rfl := hi6.addr (by omega)
      have r1 : wr.cell? ⟨p1, k, none⟩ = some (.int .i64 (wf k)) := by have := hi6.cell k hlt; rwa [Nat.zero_add] at this
      have r2 : wr.cell? ⟨w5.heap.size, k, none⟩ = some (.int .i32 (P1 k)) := hq6.cell hlt
      have hp0 := (HST.out.rng k hlt).1
      have hp1 := (HST.out.rng k hlt).2
      have hdn : decide (P1 k < 0) = false := by simp only [decide_eq_false_iff_not]; omega
      obtain rfl : a3' = ⟨p3, 0, none⟩ := Option.some.inj (hk6.addr (by omega))
      have r5 : wr.cell? ⟨p3, k, none⟩ = some (.int .i32 (cf k)) := by have := hk6.cell k hlt; rwa [Nat.zero_add] at this
      have hc0 := (HCP.out k hlt).1
      have hc1 := (HCP.out k hlt).2
      have hcp := (HST.out.shC rfl k hlt).1
      have hcl := (HST.out.shC rfl k hlt).2
      have hdc : decide (cf k < P1 k) = false := by simp only [decide_eq_false_iff_not]; omega
      clear hi6 hq6 hk6 hcl
      generalize wf k = x1 at *
      generalize P1 k = y1 at *
      generalize cf k = z1 at *
      go_wp2
      go_roundg (n3 - (k + 1))
      case measure => go_light; omega
      case rel => exact ⟨k + 1, by omega, rfl, by go_num, rfl⟩
    obtain rfl : n3 = k := by omega
    have hs := HST.out.sumC rfl
    have hC0 := (HCT.out n3 (Nat.le_refl _)).1
    have hC1 := (HCT.out n3 (Nat.le_refl _)).2
    clear hi6 hq6 hk6
    generalize sumTo P1 n3 = S1 at *
    generalize sumTo cf n3 = C1 at *
    by_cases hw : bd < C1
    · obtain rfl : S1 = bd := by omega
      clear hs
      go_wp2
      go_ret
      exact ⟨rfl, hbb6⟩
    · obtain rfl : S1 = C1 := by omega
      have hwd : decide (bd < S1) = false := by simp only [decide_eq_false_iff_not]; omega
      clear hs
      go_wp2
      go_ret
      exact ⟨rfl, hbb6⟩
  have t1 : (T == 0) = false := by simp [t0]
  have t2 : 0 < T := by omega
  have t3 : decide (0 < T) = true := by simp [t2]
  go_wp2_with fail
  go_loopg [16] n3 (fun g i wr => ∃ k : Nat, k ≤ n3 ∧ g = n3 - k ∧ i = .int .i64 k ∧ wr = w6)
  case atStart => exact ⟨0, Nat.zero_le _, rfl, rfl, rfl⟩
  case round =>
  obtain ⟨k, hk, rfl, rfl, rfl⟩ := hrel
  by_cases hlt : k < n3
  · obtain rfl := hi6.addr (by omega)
    have r1 : wr.cell? ⟨p1, k, none⟩ = some (.int .i64 (wf k)) := by have := hi6.cell k hlt; rwa [Nat.zero_add] at this
    have r2 : wr.cell? ⟨w5.heap.size, k, none⟩ = some (.int .i32 (P1 k)) := hq6.cell hlt
    have hp0 := (HST.out.rng k hlt).1
    have hp1 := (HST.out.rng k hlt).2
    have hdn : decide (P1 k < 0) = false := by simp only [decide_eq_false_iff_not]; omega
    obtain rfl : a3' = ⟨p3, 0, none⟩ := Option.some.inj (hk6.addr (by omega))
    have r5 : wr.cell? ⟨p3, k, none⟩ = some (.int .i32 (cf k)) := by have := hk6.cell k hlt; rwa [Nat.zero_add] at this
    have hc0 := (HCP.out k hlt).1
    have hc1 := (HCP.out k hlt).2
    have hcp := (HST.out.shC rfl k hlt).1
    have hcl := (HST.out.shC rfl k hlt).2
    have hdc : decide (cf k < P1 k) = false := by simp only [decide_eq_false_iff_not]; omega
    obtain ⟨x, HX⟩ : ∃ x, Hid (wf k = x) := ⟨_, rfl⟩
    obtain ⟨Q, hQ⟩ : ∃ Q, bd * wf k = Q := ⟨_, rfl⟩
    have hQ0 : 0 ≤ Q := by rw [← hQ]; exact (HPD.out k hlt).1
    have hQ1 : Q ≤ 4611686018427387904 := by rw [← hQ]; exact (HPD.out k hlt).2
    obtain ⟨S, hSh⟩ : ∃ S, Q / T = S := ⟨_, rfl⟩
    have HSh : Hid (Plain.share bd T wf k = S) := by unfold Hid; rw [Plain.share, if_pos t2, hQ, hSh]
    have hSt : Q.tdiv T = S := by rw [Int.tdiv_eq_ediv_of_nonneg hQ0]; exact hSh
    have hS0 : 0 ≤ S := by rw [← HSh.out]; exact (HSR.out k hlt).1
    have hS1 : S ≤ 2147483647 := by have := (HSR.out k hlt).2; rw [HSh.out] at this; omega
    rw [HSh.out] at hcl
    clear hi6 hq6 hk6 hSh
    generalize wf k = x1 at *
    generalize P1 k = y1 at *
    generalize cf k = z1 at *
    by_cases hcs : z1 < S
    · have hd1 : decide (z1 < S) = true := by simp [hcs]
      have hd2 : decide (y1 < z1) = false := by simp only [decide_eq_false_iff_not]; omega
      clear hcl
      go_wp2
      go_roundg (n3 - (k + 1))
      case measure => go_light; omega
      case rel => exact ⟨k + 1, by omega, rfl, by go_num, rfl⟩
    · have hd1 : decide (z1 < S) = false := by simp [hcs]
      have hd2 : decide (y1 < S) = false := by simp only [decide_eq_false_iff_not]; omega
      clear hcl
      go_wp2
      go_roundg (n3 - (k + 1))
      case measure => go_light; omega
      case rel => exact ⟨k + 1, by omega, rfl, by go_num, rfl⟩
  obtain rfl : n3 = k := by omega
  have hs := HST.out.sumC rfl
  have hC0 := (HCT.out n3 (Nat.le_refl _)).1
  have hC1 := (HCT.out n3 (Nat.le_refl _)).2
  clear hi6 hq6 hk6
  generalize sumTo P1 n3 = S1 at *
  generalize sumTo cf n3 = C1 at *
  by_cases hw : bd < C1
  · obtain rfl : S1 = bd := by omega
    clear hs
    go_wp2
    go_ret
    exact ⟨rfl, hbb6⟩
  · obtain rfl : S1 = C1 := by omega
    have hwd : decide (bd < S1) = false := by simp only [decide_eq_false_iff_not]; omega
    clear hs
    go_wp2
    go_ret
    exact ⟨rfl, hbb6⟩
end Go.Proofs.Qxb6603777aMods
