/-
  SEAT b6603777aM. THE LAW FnDivideMatchesRoundsModel (6).
-/
import Derived.Test.Qxb6603777aModsPlan
namespace Go.Proofs.Qxb6603777aMods
open Go.RowKit Plain

set_option maxRecDepth 100000 in
set_option maxHeartbeats 3200000 in
theorem rounds_main (bd : Int) (a1 a2 a3 : Option Addr) (n c1 b1 o1 m c2 b2 o2 n3 c3 b3 o3 : Nat) (wf of cf : Nat → Int) (w : World) (hn : n ≤ 32768) (hm : m ≤ 32768) (hn3 : n3 ≤ 32768) (h1 : Ints .i64 w a1 n c1 b1 o1 wf) (h2 : Ints .i64 w a2 m c2 b2 o2 of) (h3 : Ints .i32 w a3 n3 c3 b3 o3 cf) (hb2 : bd ≤ 2147483647) :
    Calls Trym.prog 6 #[.int .i32 bd, .slice a1 n c1, .slice a2 m c2, .slice a3 n3 c3] w fun e w' => e = .returned (.bool true) ∧ Below w.heap.size w w' := by
  have hd : decide (n + m + n3 ≤ 1048576) = true := by simp; omega
  go_enter Trym.func6, Trym.ntmps6
  go_wp2_with fail
  refine (bytes_divide bd a1 a2 a3 n c1 m c2 n3 c3 w (by omega) (by omega) (by omega)).mono ?_
  rintro e w' ⟨rfl, rfl⟩
  rw [hd]
  clear hd
  have t1 : decide (32768 < (n : Int)) = false := by simp only [decide_eq_false_iff_not]; omega
  have t2 : decide (32768 < (m : Int)) = false := by simp only [decide_eq_false_iff_not]; omega
  have t3 : decide (32768 < (n3 : Int)) = false := by simp only [decide_eq_false_iff_not]; omega
  go_wp2_with fail
  refine (divideDomain_any bd a1 a2 a3 n c1 b1 o1 m c2 b2 o2 n3 c3 b3 o3 wf of cf _ (by omega) (by omega) (by omega) h1 h2 h3).mono ?_
  rintro e w1 ⟨r, rfl, hB1, hr⟩
  cases r with
  | false =>
    go_wp2
    go_ret
    exact ⟨rfl, hB1⟩
  | true =>
  have hok := hr rfl
  obtain ⟨B, rm, o, lo, hpl⟩ := plan_of hok hb2 (by omega) h3.range
  have HN3 : Hid (a3.isNone = false → n3 = n) := fun e => (hok.caps e).1
  have HPL : Hid (Plan a3.isNone bd (sumTo wf n) n m wf of cf B rm o lo) := hpl
  clear hr hok hpl
  go_wp2_with fail
  refine (cloneInt64s_any a1 n c1 b1 o1 wf _ (by omega) (h1.below hB1)).mono ?_
  rintro e w2 ⟨a1', c1', p1, rfl, hB2, hi2, -⟩
  go_wp2_with fail
  refine (cloneInts_any a2 m c2 b2 o2 of _ (by omega) ((h2.below hB1).below hB2)).mono ?_
  rintro e w3 ⟨a2', c2', p2, rfl, hB3, hj3, -⟩
  go_wp2_with fail
  refine (cloneInt32s_any a3 n3 c3 b3 o3 cf _ (by omega) (((h3.below hB1).below hB2).below hB3)).mono ?_
  rintro e w4 ⟨a3', c3', p3, rfl, hB4, hk4, e4⟩
  have hi4 := (hi2.below hB3).below hB4
  have hj4 := hj3.below hB4
  have hz1 := hB1.size
  have hz2 := hB2.size
  have hz3 := hB3.size
  have hz4 := hB4.size
  have hbb4 : Below w'.heap.size w' w4 := ((hB1.trans (hB2.mono hz1)).trans (hB3.mono (by omega))).trans (hB4.mono (by omega))
  rw [← e4] at HN3 HPL
  clear hi2 hj3 h1 h2 h3 hB1 hB2 hB3 hB4 e4
  go_wp2_with fail
  refine (model_plan _ (by omega) hi4 hj4 hk4 HN3.out HPL.out).mono ?_
  rintro e w5 ⟨x, hx, rfl, hB5, hz5, hr5⟩
  have hi5 := hi4.below hB5
  have hj5 := hj4.below hB5
  have hk5 := hk4.below hB5
  have hbb5 : Below w'.heap.size w' w5 := hbb4.trans (hB5.mono (by omega))
  obtain ⟨x0, x1⟩ := hx
  obtain ⟨V, hV⟩ : ∃ V, (x + 2) * ((m : Int) + 1) = V := ⟨_, rfl⟩
  have hV0 : 0 ≤ V := by rw [← hV]; exact Int.mul_nonneg (by omega) (by omega)
  have hV1 : V ≤ 2147483649 * ((m : Int) + 1) := by rw [← hV]; exact Int.mul_le_mul_of_nonneg_right (by omega) (by omega)
  have hV2 : V ≤ 140737488355328 := by omega
  have hz5' : w4.heap.size + 2 < w5.heap.size := by omega
  clear hi4 hj4 hk4 hB5 hbb4 hV1 hz5
  by_cases cV : 134217728 < V
  · clear hi5 hj5 hk5 hr5
    go_wp2_with fail
    go_ret
    exact ⟨rfl, hbb5⟩
  have cd : decide (134217728 < V) = false := by simp only [decide_eq_false_iff_not]; omega
  go_wp2_with fail
  refine (zzdivide_of (divide_plan _ (by omega) hi5 hj5 hk5 HN3.out HPL.out)).mono ?_
  rintro e w6 ⟨rfl, hS⟩
  have hbb6 : Below w'.heap.size w' w6 := hbb5.trans (hS.below.mono (by omega))
  have hp6 := rowIs_below hS.below hz5' hr5
  have hq6 := hS.row
  generalize put B o (fin rm (bd - sumTo B n) lo m) m = P1 at *
  clear hS hr5 hi5 hj5 hk5 hbb5 HPL HN3 hz5' hV cd cV
  have hsn := fun (w : World) (a : Option Addr) (n c : Nat) => Lib.run_eql_slice_nil (P := Trym.prog) w 23 21 a n c 0 0 Trym.underlying23
  go_wp2_with fail
  clear hsn
  go_loopg [12] n (fun g i wr => ∃ k nq : Nat, k ≤ n ∧ g = n - k ∧ i = .int .i64 k ∧ wr = w6.drewN nq)
  case atStart => exact ⟨0, 0, Nat.zero_le _, rfl, rfl, rfl⟩
  case round =>
  obtain ⟨k, nq, hk, rfl, rfl, rfl⟩ := hrel
  by_cases hlt : k < n
  · obtain ⟨y, r1, r2⟩ : ∃ y, w6.cell? ⟨w4.heap.size + 2, k, none⟩ = some (.int .i32 y) ∧ w6.cell? ⟨w5.heap.size, k, none⟩ = some (.int .i32 y) := ⟨_, hp6.cell hlt, hq6.cell hlt⟩
    have hki : (k : Int) < (n : Int) := by omega
    clear hp6 hq6
    go_wp2_with fail
    go_quiet (fail)
    go_wp2
    go_roundg (n - (k + 1))
    case measure => go_light; omega
    case rel => exact ⟨k + 1, _, by omega, rfl, by go_num, rfl⟩
  · go_wp2
    go_ret
    exact ⟨rfl, belowDrewN hbb6 _⟩
end Go.Proofs.Qxb6603777aMods
