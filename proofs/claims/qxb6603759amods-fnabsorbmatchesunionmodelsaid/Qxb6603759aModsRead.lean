/-
  SEAT b6603759aM. READING A LEAF BACK: ZZLeafFields (28), zzRead (14).
-/
import Derived.Test.Qxb6603759aModsLeaf
import Derived.Deep.Draws
namespace Go.Proofs.Qxb6603759aMods
open Go.RowKit Plain

theorem belowDrewN {B : Nat} {a w : World} (h : Below B a w) (n : Nat) : Below B a (w.drewN n) := ⟨h.os, h.tape, h.output, h.size, h.block⟩

theorem belowSet {B b o : Nat} {a w : World} {u : Value} (h : Below B a w) (hb : B ≤ b) : Below B a (w.setCell ⟨b, o, none⟩ u) := h.setCell (p := ⟨b, o, none⟩) hb u

set_option maxRecDepth 100000 in
set_option maxHeartbeats 1600000 in
theorem fields_any (B : Nat) (lo hi ba fi la ad n nl nh wd : Int) (pk : Value) (w : World) (hr : w.rowIs B 51 12 (leafF lo hi ba fi la ad n nl nh wd pk)) :
    Calls Trym.prog 28 #[.pointer (some ⟨B, 0, none⟩)] w fun e w' => e = .returned (.tuple #[.int .u64 lo, .int .u64 hi, .int .u64 ba, .int .u64 fi, .int .u64 la, .int .u64 ad, .int .i64 n, .pointer none, .int .u64 nl, .int .u64 nh, .int .i64 wd, pk]) ∧ ∃ nq, w' = w.drewN nq := by
  have g0 : w.cell? ⟨B, 0, none⟩ = some (.int .u64 lo) := hr.cell (i := 0) (by omega)
  have g1 : w.cell? ⟨B, 1, none⟩ = some (.int .u64 hi) := hr.cell (i := 1) (by omega)
  have g2 : w.cell? ⟨B, 2, none⟩ = some (.int .u64 ba) := hr.cell (i := 2) (by omega)
  have g3 : w.cell? ⟨B, 3, none⟩ = some (.int .u64 fi) := hr.cell (i := 3) (by omega)
  have g4 : w.cell? ⟨B, 4, none⟩ = some (.int .u64 la) := hr.cell (i := 4) (by omega)
  have g5 : w.cell? ⟨B, 5, none⟩ = some (.int .u64 ad) := hr.cell (i := 5) (by omega)
  have g6 : w.cell? ⟨B, 6, none⟩ = some (.int .i64 n) := hr.cell (i := 6) (by omega)
  have g7 : w.cell? ⟨B, 7, none⟩ = some (.pointer none) := hr.cell (i := 7) (by omega)
  have g8 : w.cell? ⟨B, 8, none⟩ = some (.int .u64 nl) := hr.cell (i := 8) (by omega)
  have g9 : w.cell? ⟨B, 9, none⟩ = some (.int .u64 nh) := hr.cell (i := 9) (by omega)
  have g10 : w.cell? ⟨B, 10, none⟩ = some (.int .i64 wd) := hr.cell (i := 10) (by omega)
  have g11 : w.cell? ⟨B, 11, none⟩ = some pk := hr.cell (i := 11) (by omega)
  clear hr
  go_enter Trym.func28, Trym.ntmps28
  go_wp2
  go_quiet (fail)
  go_wp2
  exact bodyPost_ret (v := .tuple #[.int .u64 lo, .int .u64 hi, .int .u64 ba, .int .u64 fi, .int .u64 la, .int .u64 ad, .int .i64 n, .pointer none, .int .u64 nl, .int .u64 nh, .int .i64 wd, pk]) (by simp [results, Trym.results28, go_sem]) rfl ⟨rfl, nq, rfl⟩

set_option maxRecDepth 100000 in
set_option maxHeartbeats 1600000 in
theorem read_any (B : Nat) (lo hi ba fi la ad n nl nh wd : Int) (a : Option Addr) (len c : Nat) (w : World) (hr : w.rowIs B 51 12 (leafF lo hi ba fi la ad n nl nh wd (.slice a len c))) :
    Calls Trym.prog 14 #[.pointer (some ⟨B, 0, none⟩)] w fun e w' => e = .returned (.tuple #[.agg #[.int .u64 lo, .int .u64 hi, .int .u64 ba, .int .u64 fi, .int .u64 la, .int .u64 ad, .int .i64 n, .int .u64 nl, .int .u64 nh, .int .i64 wd, .slice a len c], .bool true]) ∧ Below w.heap.size w w' := by
  go_enter Trym.func14, Trym.ntmps14
  go_wp2_with fail
  refine (fields_any B lo hi ba fi la ad n nl nh wd (.slice a len c) _ (hr.alloc _)).mono ?_
  rintro e w1 ⟨rfl, nq, rfl⟩
  go_wp2
  refine bodyPost_ret (v := .tuple #[.agg #[.int .u64 lo, .int .u64 hi, .int .u64 ba, .int .u64 fi, .int .u64 la, .int .u64 ad, .int .i64 n, .int .u64 nl, .int .u64 nh, .int .i64 wd, .slice a len c], .bool true]) (by simp [results, Trym.results14, go_sem]) rfl ⟨rfl, ?_⟩
  iterate 11 refine belowSet ?_ (by exact Nat.le_refl _)
  exact belowDrewN ((Below.refl _ _).alloc (Nat.le_refl _) _) nq
end Go.Proofs.Qxb6603759aMods
