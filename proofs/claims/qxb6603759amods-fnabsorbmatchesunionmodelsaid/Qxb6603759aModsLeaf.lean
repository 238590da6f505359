/-
  SEAT b6603759aM. LEAVES IN MEMORY: ZZMakeLeaf (26), zzMake (12), zzMinU (15), zzBytes_FnInsert (11).
-/
import Derived.Test.Qxb6603759aModsShift
import Derived.Deep.RegionHeld3
import Derived.Laws.Pointers
import Derived.StillTactics
import Derived.Deep.QuietTactic
import Derived.BigQuiet
namespace Go.Proofs.Qxb6603759aMods
open Go.RowKit Plain

/-- the cells of an idLeaf -/
def leafF (lo hi ba fi la ad n nl nh wd : Int) (pk : Value) : Nat → Value
  | 0 => .int .u64 lo
  | 1 => .int .u64 hi
  | 2 => .int .u64 ba
  | 3 => .int .u64 fi
  | 4 => .int .u64 la
  | 5 => .int .u64 ad
  | 6 => .int .i64 n
  | 7 => .pointer none
  | 8 => .int .u64 nl
  | 9 => .int .u64 nh
  | 10 => .int .i64 wd
  | 11 => pk
  | _ => undef

theorem makeLeaf_any (lo hi ba fi la ad n nl nh wd : Int) (a : Option Addr) (len c : Nat) (w : World) :
    Calls Trym.prog 26 #[.int .u64 lo, .int .u64 hi, .int .u64 ba, .int .u64 fi, .int .u64 la, .int .u64 ad, .int .i64 n, .int .u64 nl, .int .u64 nh, .int .i64 wd, .slice a len c] w fun e w' => e = .returned (.pointer (some ⟨w.heap.size, 0, none⟩)) ∧ w' = w.alloc (.cells #[.int .u64 lo, .int .u64 hi, .int .u64 ba, .int .u64 fi, .int .u64 la, .int .u64 ad, .int .i64 n, .pointer none, .int .u64 nl, .int .u64 nh, .int .i64 wd, .slice a len c] 51) := by
  go_enter Trym.func26, Trym.ntmps26
  go_wp2
  go_ret
  exact ⟨rfl, rfl⟩

theorem minU_any (a b : Int) (w : World) : Calls Trym.prog 15 #[.int .u64 a, .int .u64 b] w fun e w' => e = .returned (.int .u64 (min a b)) ∧ w' = w := by
  by_cases h : a < b
  · go_enter Trym.func15, Trym.ntmps15
    go_wp2
    go_ret
    exact ⟨ret_int (by omega), rfl⟩
  · go_enter Trym.func15, Trym.ntmps15
    go_wp2
    go_ret
    exact ⟨ret_int (by omega), rfl⟩

theorem bytes_insert (lo hi ba fi la ad n nl nh wd : Int) (a : Option Addr) (len c : Nat) (p u : Int) (w : World) (hl : len ≤ 9223372036854775807) :
    Calls Trym.prog 11 #[.agg #[.int .u64 lo, .int .u64 hi, .int .u64 ba, .int .u64 fi, .int .u64 la, .int .u64 ad, .int .i64 n, .int .u64 nl, .int .u64 nh, .int .i64 wd, .slice a len c], .int .i64 p, .int .u64 u] w fun e w' => e = .returned (.bool (decide (len ≤ 1048576))) ∧ Below w.heap.size w w' := by
  by_cases h : len ≤ 1048576
  · go_enter Trym.func11, Trym.ntmps11
    go_wp2
    go_ret
    exact ⟨ret_bool (by simp [h]), (Below.refl _ _).alloc (Nat.le_refl _) _⟩
  · go_enter Trym.func11, Trym.ntmps11
    go_wp2
    go_ret
    exact ⟨ret_bool (by simp [h]), (Below.refl _ _).alloc (Nat.le_refl _) _⟩

/-- WHAT zzMake LEAVES: a leaf and its own row. -/
structure Made (w w' : World) (bl bp : Nat) (g : Nat → Value) (len : Nat) (f : Nat → Nat) : Prop where
  below : Below w.heap.size w w'
  leaf : w'.rowIs bl 51 12 g
  row : w'.rowIs bp 27 len (wv f)
  size : w'.heap.size = w.heap.size + 3

theorem leaf_new (w : World) (lo hi ba fi la ad n nl nh wd : Int) (pk : Value) :
    (w.alloc (.cells #[.int .u64 lo, .int .u64 hi, .int .u64 ba, .int .u64 fi, .int .u64 la, .int .u64 ad, .int .i64 n, .pointer none, .int .u64 nl, .int .u64 nh, .int .i64 wd, pk] 51)).rowIs w.heap.size 51 12 (leafF lo hi ba fi la ad n nl nh wd pk) :=
  World.rowIs_alloc w _ 51 _ (fun i hi => by
    have h12 : i < 12 := hi
    match i, h12 with
    | 0, _ => rfl
    | 1, _ => rfl
    | 2, _ => rfl
    | 3, _ => rfl
    | 4, _ => rfl
    | 5, _ => rfl
    | 6, _ => rfl
    | 7, _ => rfl
    | 8, _ => rfl
    | 9, _ => rfl
    | 10, _ => rfl
    | 11, _ => rfl)

theorem made_of {w w1 : World} {o : Obj} {len : Nat} {f : Nat → Nat} (lo hi ba fi la ad n nl nh wd : Int) (hC : Cloned (w.alloc o).drew w1 len f len) :
    w1.heap.size = w.heap.size + 2 ∧ Made w (w1.alloc (.cells #[.int .u64 lo, .int .u64 hi, .int .u64 ba, .int .u64 fi, .int .u64 la, .int .u64 ad, .int .i64 n, .pointer none, .int .u64 nl, .int .u64 nh, .int .i64 wd, .slice (some ⟨w.heap.size + 1, 0, none⟩) len len] 51)) (w.heap.size + 2) (w.heap.size + 1) (leafF lo hi ba fi la ad n nl nh wd (.slice (some ⟨w.heap.size + 1, 0, none⟩) len len)) len f := by
  have hs : w1.heap.size = w.heap.size + 2 := by rw [hC.size]; simp
  have hz : (w.alloc o).drew.heap.size = w.heap.size + 1 := by simp
  have hB := hC.below
  have hR := hC.row
  rw [hz] at hB hR
  have hl := leaf_new w1 lo hi ba fi la ad n nl nh wd (.slice (some ⟨w.heap.size + 1, 0, none⟩) len len)
  rw [hs] at hl
  have hB2 : Below w.heap.size w w1 := (((Below.refl _ _).alloc (Nat.le_refl _) o).drew).trans (hB.mono (by omega))
  exact ⟨hs, hB2.alloc (by omega) _, hl, (hR.congr (fun i hi => by rw [if_pos hi])).alloc _, by simp [hs]⟩

set_option maxRecDepth 100000 in
set_option maxHeartbeats 3200000 in
theorem make_some (lo hi ba fi la ad n nl nh wd : Int) (x : Addr) (b off len c : Nat) (f : Nat → Nat) (w : World) (hl : len ≤ 1048576) (hx : 0 < len → x = ⟨b, off, none⟩) (hc : ∀ i, i < len → w.cell? ⟨b, off + i, none⟩ = some (wv f i)) :
    Calls Trym.prog 12 #[.agg #[.int .u64 lo, .int .u64 hi, .int .u64 ba, .int .u64 fi, .int .u64 la, .int .u64 ad, .int .i64 n, .int .u64 nl, .int .u64 nh, .int .i64 wd, .slice (some x) len c]] w fun e w' => e = .returned (.pointer (some ⟨w.heap.size + 2, 0, none⟩)) ∧ Made w w' (w.heap.size + 2) (w.heap.size + 1) (leafF lo hi ba fi la ad n nl nh wd (.slice (some ⟨w.heap.size + 1, 0, none⟩) len len)) len f := by
  have hcA : ∀ o i, i < len → (w.alloc o).cell? ⟨b, off + i, none⟩ = some (wv f i) := fun o i hi => by
    rw [World.cell?_alloc_old _ _ _ (by have := World.block_lt_of_cell? _ _ (hc i hi); show b ≠ w.heap.size; simp at this; omega)]; exact hc i hi
  go_enter Trym.func12, Trym.ntmps12
  go_wp2_with fail
  go_region_held3 (fun w' => w'.cell? ⟨w.heap.size, 0, none⟩ = some (.int .u64 lo) ∧ w'.cell? ⟨w.heap.size, 1, none⟩ = some (.int .u64 hi) ∧ w'.cell? ⟨w.heap.size, 2, none⟩ = some (.int .u64 ba) ∧ w'.cell? ⟨w.heap.size, 3, none⟩ = some (.int .u64 fi) ∧ w'.cell? ⟨w.heap.size, 4, none⟩ = some (.int .u64 la) ∧ w'.cell? ⟨w.heap.size, 5, none⟩ = some (.int .u64 ad) ∧ w'.cell? ⟨w.heap.size, 6, none⟩ = some (.int .i64 n) ∧ w'.cell? ⟨w.heap.size, 7, none⟩ = some (.int .u64 nl) ∧ w'.cell? ⟨w.heap.size, 8, none⟩ = some (.int .u64 nh) ∧ w'.cell? ⟨w.heap.size, 9, none⟩ = some (.int .i64 wd) ∧ w'.cell? ⟨w.heap.size, 10, none⟩ = some (.slice (some x) len c)) (go_keep)
    (first
      | (go_at_call 8; refine (clone_some x b off len c f _ hl hx ?_).mono ?_; (exact fun i hi => hcA _ i hi); rintro e w1 ⟨rfl, hC⟩; have hk := fun (o : Nat) => hC.below.cell (p := ⟨w.heap.size, o, none⟩) (by simp))
      | (go_at_call 26; refine (makeLeaf_any _ _ _ _ _ _ _ _ _ _ _ _ _ _).mono ?_; rintro e w2 ⟨rfl, hw2⟩; subst hw2))
  go_wp2
  go_ret
  have hm := made_of lo hi ba fi la ad n nl nh wd hC
  refine ⟨?_, hm.2⟩
  simp [hm.1]
end Go.Proofs.Qxb6603759aMods
