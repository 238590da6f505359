/-
  SEAT b6603777aM. THE LAW FnFillMatchesPrefixModel (3).
-/
import Derived.Test.Qxb6603777aModsModel
namespace Go.Proofs.Qxb6603777aMods
open Go.RowKit Plain

set_option maxRecDepth 100000 in
set_option maxHeartbeats 3200000 in
theorem prefix_main (bd : Int) (a1 a2 : Option Addr) (m c1 b1 o1 n c2 b2 o2 : Nat) (of cf : Nat → Int) (w : World) (hm : m ≤ 65536) (hn : n ≤ 65536) (h1 : Ints .i64 w a1 m c1 b1 o1 of) (h2 : Ints .i32 w a2 n c2 b2 o2 cf) (hb1 : -2147483648 ≤ bd) (hb2 : bd ≤ 2147483647) :
    Calls Trym.prog 3 #[.int .i32 bd, .slice a1 m c1, .slice a2 n c2] w fun e w' => e = .returned (.bool true) ∧ Below w.heap.size w w' := by
  have hd : decide (m + n ≤ 1048576) = true := by simp; omega
  go_enter Trym.func3, Trym.ntmps3
  go_wp2_with fail
  refine (bytes_prefix bd a1 a2 m c1 n c2 w (by omega) (by omega)).mono ?_
  rintro e w' ⟨rfl, rfl⟩
  rw [hd]
  clear hd
  go_wp2_with fail
  refine (fillDomain_any a1 a2 m c1 b1 o1 n c2 b2 o2 of cf _ hm hn h1 h2).mono ?_
  rintro e w1 ⟨r, rfl, hB1, hr⟩
  cases r with
  | false =>
    go_wp2
    go_ret
    exact ⟨rfl, hB1⟩
  | true =>
  obtain ⟨hp, ho⟩ := hr rfl
  obtain ⟨d, hof⟩ := dom_of hp ho h2.range
  have HOF : Hid (∀ k, k < m → of k = (((of k).toNat : Nat) : Int)) := hof
  clear hr hp ho hof
  go_wp2_with fail
  refine (cloneInts_any a1 m c1 b1 o1 of _ (by omega) (h1.below hB1)).mono ?_
  rintro e w2 ⟨a1', c1', p1, rfl, hB2, hi2, -⟩
  go_wp2_with fail
  refine (cloneInt32s_any a2 n c2 b2 o2 cf _ (by omega) ((h2.below hB1).below hB2)).mono ?_
  rintro e w3 ⟨a2', c2', p2, rfl, hB3, hj3, -⟩
  have hi3 := hi2.below hB3
  have hz2 := hB2.size
  have hz1 := hB1.size
  have hz3 := hB3.size
  have hbb3 : Below w'.heap.size w' w3 := (hB1.trans (hB2.mono hz1)).trans (hB3.mono (by omega))
  clear hi2 h1 h2 hB1 hB2 hB3
  go_wp2_with fail
  refine (model_any bd a1' a2' m c1' p1 0 n c2' p2 0 of cf (fun k => (of k).toNat) _ hm hn hi3 hj3 HOF.out d hb2).mono ?_
  rintro e w4 ⟨rfl, hS⟩
  have hi4 := hi3.below hS.below
  have hj4 := hj3.below hS.below
  have hbb4 : Below w'.heap.size w' w4 := hbb3.trans (hS.below.mono (by omega))
  have hp4 := hS.row
  have hz4 := hS.size
  have hz4' : w3.heap.size < w4.heap.size := by omega
  clear hS hi3 hj3 hbb3 hz4
  go_wp2_with fail
  refine (zzfill_of (fill_any bd a1' a2' m c1' p1 0 n c2' p2 0 of cf (fun k => (of k).toNat) _ hm hn hi4 hj4 HOF.out d hb1 hb2)).mono ?_
  rintro e w5 ⟨rfl, hS⟩
  have hbb5 : Below w'.heap.size w' w5 := hbb4.trans (hS.below.mono (by omega))
  have hp5 := rowIs_below hS.below hz4' hp4
  have hq5 := hS.row
  generalize fillP bd (fun k => (of k).toNat) cf m = P1 at *
  generalize fillL bd (fun k => (of k).toNat) cf m = L1 at *
  clear hS hp4 hi4 hj4 hbb4 d
  have hsn := fun (w : World) (a : Option Addr) (n c : Nat) => Lib.run_eql_slice_nil (P := Trym.prog) w 23 21 a n c 0 0 Trym.underlying23
  go_wp2_with fail
  clear hsn
  go_loopg [11] n (fun g i wr => ∃ k nq : Nat, k ≤ n ∧ g = n - k ∧ i = .int .i64 k ∧ wr = w5.drewN nq)
  case atStart => exact ⟨0, 0, Nat.zero_le _, rfl, rfl, rfl⟩
  case round =>
  obtain ⟨k, nq, hk, rfl, rfl, rfl⟩ := hrel
  by_cases hlt : k < n
  · obtain ⟨x, r1, r2⟩ : ∃ x, w5.cell? ⟨w3.heap.size, k, none⟩ = some (.int .i32 x) ∧ w5.cell? ⟨w4.heap.size, k, none⟩ = some (.int .i32 x) := ⟨_, hp5.cell hlt, hq5.cell hlt⟩
    have hki : (k : Int) < (n : Int) := by omega
    clear hp5 hq5
    go_wp2_with fail
    go_quiet (fail)
    go_wp2
    go_roundg (n - (k + 1))
    case measure => go_light; omega
    case rel => exact ⟨k + 1, _, by omega, rfl, by go_num, rfl⟩
  · go_wp2
    go_ret
    exact ⟨rfl, belowDrewN hbb5 _⟩
end Go.Proofs.Qxb6603777aMods
