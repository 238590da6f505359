/-
  SEAT b6603777aM. WHAT ALL WALKS OF THIS SEAT SHARE: closed facts on types; slices of integers that can be read; contracts of the clones.
-/
import Derived.Test.Qxb6603777aModsProg
import Derived.Test.Qxb6603777aModsPlain
import Derived.WalkKit
import Derived.WalkSpells
import Derived.WalkLawsBesides
import Derived.Outline
import Derived.Deep.LoopGhost
import Derived.Deep.OwnRows
import Derived.Deep.Light
import Derived.Deep.QuietTactic
import Derived.BigQuiet
import Derived.RegionTactic
import Derived.BigRegion
import Derived.ChangeAlike
import Derived.Deep.Draws
namespace Go.Proofs.Qxb6603777aMods
open Go.RowKit Plain

theorem Trym.info3 : (Trym.prog.info? 3).map (fun i => (i.zero, i.size, i.bytes)) = some (some (.int .i64 0), 1, 8) := by kernel_rfl
theorem Trym.info2 : (Trym.prog.info? 2).map (fun i => (i.zero, i.size, i.bytes)) = some (some (.int .i64 0), 1, 8) := by kernel_rfl
theorem Trym.info21 : (Trym.prog.info? 21).map (fun i => (i.zero, i.size, i.bytes)) = some (some (.int .i32 0), 1, 4) := by kernel_rfl
theorem Trym.info4 : (Trym.prog.info? 4).map (fun i => (i.zero, i.size, i.bytes)) = some (some (.bool false), 1, 1) := by kernel_rfl

theorem ret_bool {a b : Bool} (h : a = b) : Ending.returned (.bool a) = .returned (.bool b) := by rw [h]
theorem ret_int {k : IntKind} {a b : Int} (h : a = b) : Ending.returned (.int k a) = .returned (.int k b) := by rw [h]
theorem belowDrewN {B : Nat} {a w : World} (h : Below B a w) (n : Nat) : Below B a (w.drewN n) := ⟨h.os, h.tape, h.output, h.size, h.block⟩
theorem rowIs_drewN {w : World} {b t n : Nat} {g : Nat → Value} (h : w.rowIs b t n g) (k : Nat) : (w.drewN k).rowIs b t n g := h.of_block rfl
theorem rowIs_below {B b t n : Nat} {g : Nat → Value} {w w' : World} (h : Below B w w') (hb : b < B) (hr : w.rowIs b t n g) : w'.rowIs b t n g := hr.of_block (h.block b hb)
theorem rowIs_set' {w : World} {b t n : Nat} {g h : Nat → Value} {v : Value} (hr : w.rowIs b t n g) (i : Nat) (e : ∀ j, j < n → (if j = i then v else g j) = h j) : (w.setCell ⟨b, i, none⟩ v).rowIs b t n h :=
  (hr.set i v).congr e

/-- does n fit the kind k -/
def InKind : IntKind → Int → Prop
  | .i32, n => -2147483648 ≤ n ∧ n ≤ 2147483647
  | _, n => -9223372036854775808 ≤ n ∧ n ≤ 9223372036854775807

/-- A SLICE OF INTEGERS THAT CAN BE READ, by a function of the index. -/
structure Ints (k : IntKind) (w : World) (a : Option Addr) (n c b off : Nat) (f : Nat → Int) : Prop where
  len : n ≤ 9223372036854775807
  cap : n ≤ c
  nil : a = none → n = 0 ∧ c = 0
  addr : 0 < n → a = some ⟨b, off, none⟩
  cell : ∀ i, i < n → w.cell? ⟨b, off + i, none⟩ = some (.int k (f i))
  range : ∀ i, InKind k (f i)

theorem Ints.below {k : IntKind} {w w' : World} {a : Option Addr} {n c b off : Nat} {f : Nat → Int} (h : Ints k w a n c b off f) (hb : Below w.heap.size w w') : Ints k w' a n c b off f :=
  ⟨h.len, h.cap, h.nil, h.addr, fun i hi => by rw [hb.cell (p := ⟨b, off + i, none⟩) (World.block_lt_of_cell? _ _ (h.cell i hi))]; exact h.cell i hi, h.range⟩

/-- A row of our own that is as the argument up to i. -/
structure Cloned (k : IntKind) (E : TypeId) (w wr : World) (n : Nat) (f : Nat → Int) (i : Nat) : Prop where
  below : Below w.heap.size w wr
  size : wr.heap.size = w.heap.size + 1
  row : wr.rowIs w.heap.size E n (fun j => if j < i then .int k (f j) else .int k 0)

theorem cloned_start (k : IntKind) (E : TypeId) (w : World) (n : Nat) (f : Nat → Int) : Cloned k E w (w.alloc (.cells (madeCells #[.int k 0] n) E)) n f 0 :=
  ⟨(Below.refl _ _).alloc (Nat.le_refl _) _, by simp, (World.rowIs_made w _ n E).congr (fun j _ => by simp)⟩

theorem cloned_step {k : IntKind} {E : TypeId} {w wr : World} {n : Nat} {f : Nat → Int} {i : Nat} (h : Cloned k E w wr n f i) : Cloned k E w (wr.setCell ⟨w.heap.size, i, none⟩ (.int k (f i))) n f (i + 1) := by
  refine ⟨h.below.setCell (p := ⟨w.heap.size, i, none⟩) (Nat.le_refl _) _, by simp [h.size], (h.row.set i _).congr (fun j _ => ?_)⟩
  by_cases e : j = i
  · subst e; simp
  · rw [if_neg e]
    by_cases hlt : j < i
    · rw [if_pos hlt, if_pos (by omega)]
    · rw [if_neg hlt, if_neg (by omega)]

theorem cloneInts_nil (w : World) : Calls Trym.prog 10 #[.slice none 0 0] w fun e w' => e = .returned (.slice none 0 0) ∧ w' = w := by
  have hsn := fun (w : World) (a : Option Addr) (n c : Nat) => Lib.run_eql_slice_nil (P := Trym.prog) w 22 3 a n c 0 0 Trym.underlying22
  go_enter Trym.func10, Trym.ntmps10
  go_wp2
  go_ret
  exact ⟨rfl, rfl⟩

set_option maxHeartbeats 400000 in
theorem cloneInts_some (x : Addr) (b off n c : Nat) (f : Nat → Int) (w : World) (hn : n ≤ 1048576) (hx : 0 < n → x = ⟨b, off, none⟩) (hc : ∀ i, i < n → w.cell? ⟨b, off + i, none⟩ = some (.int .i64 (f i))) :
    Calls Trym.prog 10 #[.slice (some x) n c] w fun e w' => e = .returned (.slice (some ⟨w.heap.size, 0, none⟩) n n) ∧ Cloned .i64 3 w w' n f n := by
  have hsn := fun (w : World) (a : Option Addr) (n c : Nat) => Lib.run_eql_slice_nil (P := Trym.prog) w 22 3 a n c 0 0 Trym.underlying22
  have hmk := run_make_row' (P := Trym.prog) 22 3 (.int .i64 0) 8 Trym.underlying22 Trym.info3 rfl .i64 .i64 n (by omega) (by omega)
  go_enter Trym.func10, Trym.ntmps10
  go_wp2
  clear hsn hmk
  go_loopg [4] n (fun g i wr => ∃ k : Nat, k ≤ n ∧ g = n - k ∧ i = .int .i64 k ∧ Cloned .i64 3 w wr n f k)
  case atStart => exact ⟨0, Nat.zero_le _, rfl, rfl, cloned_start .i64 3 w n f⟩
  case round =>
    obtain ⟨k, hk, rfl, rfl, hC⟩ := hrel
    by_cases hlt : k < n
    · obtain rfl := hx (by omega)
      have hc1 : wr.cell? ⟨b, off + k, none⟩ = some (.int .i64 (f k)) := by rw [hC.below.cell (p := ⟨b, off + k, none⟩) (World.block_lt_of_cell? _ _ (hc k hlt))]; exact hc k hlt
      have hc2 : ∃ v, wr.cell? ⟨w.heap.size, k, none⟩ = some v := ⟨_, hC.row.cell hlt⟩
      obtain ⟨v, hv⟩ := hc2
      have hc3 : wr.frozen? ⟨w.heap.size, k, none⟩ = false := hC.row.frozen k
      have hS := cloned_step hC
      have HS : Hid (Cloned .i64 3 w (wr.setCell ⟨w.heap.size, k, none⟩ (.int .i64 (f k))) n f (k + 1)) := hS
      clear hC hS hc hx
      go_wp2
      go_roundg (n - (k + 1))
      case measure => go_light; omega
      case rel => exact ⟨k + 1, by omega, rfl, by go_num, HS.out⟩
    · go_wp2
      go_ret
      obtain rfl : k = n := by omega
      exact ⟨rfl, hC⟩

theorem cloneInts_any (a : Option Addr) (n c b off : Nat) (f : Nat → Int) (w : World) (hn : n ≤ 1048576) (h : Ints .i64 w a n c b off f) :
    Calls Trym.prog 10 #[.slice a n c] w fun e w' => ∃ a' c' bp, e = .returned (.slice a' n c') ∧ Below w.heap.size w w' ∧ Ints .i64 w' a' n c' bp 0 f ∧ a'.isNone = a.isNone := by
  cases a with
  | none =>
    obtain ⟨rfl, rfl⟩ := h.nil rfl
    refine (cloneInts_nil w).mono ?_
    rintro e w' ⟨rfl, rfl⟩
    exact ⟨none, 0, 0, rfl, Below.refl _ _, ⟨by omega, Nat.le_refl _, fun _ => ⟨rfl, rfl⟩, fun h => absurd h (by omega), fun i hi => absurd hi (by omega), h.range⟩, rfl⟩
  | some x =>
    refine (cloneInts_some x b off n c f w hn (fun h0 => Option.some.inj (h.addr h0)) h.cell).mono ?_
    rintro e w' ⟨rfl, hC⟩
    exact ⟨some ⟨w.heap.size, 0, none⟩, n, w.heap.size, rfl, hC.below, ⟨h.len, Nat.le_refl _, fun h => by simp at h, fun _ => rfl, fun i hi => by rw [Nat.zero_add, hC.row.cell hi, if_pos hi], h.range⟩, rfl⟩

theorem cloneInt32s_nil (w : World) : Calls Trym.prog 11 #[.slice none 0 0] w fun e w' => e = .returned (.slice none 0 0) ∧ w' = w := by
  have hsn := fun (w : World) (a : Option Addr) (n c : Nat) => Lib.run_eql_slice_nil (P := Trym.prog) w 23 21 a n c 0 0 Trym.underlying23
  go_enter Trym.func11, Trym.ntmps11
  go_wp2
  go_ret
  exact ⟨rfl, rfl⟩

set_option maxHeartbeats 400000 in
theorem cloneInt32s_some (x : Addr) (b off n c : Nat) (f : Nat → Int) (w : World) (hn : n ≤ 1048576) (hx : 0 < n → x = ⟨b, off, none⟩) (hc : ∀ i, i < n → w.cell? ⟨b, off + i, none⟩ = some (.int .i32 (f i))) :
    Calls Trym.prog 11 #[.slice (some x) n c] w fun e w' => e = .returned (.slice (some ⟨w.heap.size, 0, none⟩) n n) ∧ Cloned .i32 21 w w' n f n := by
  have hsn := fun (w : World) (a : Option Addr) (n c : Nat) => Lib.run_eql_slice_nil (P := Trym.prog) w 23 21 a n c 0 0 Trym.underlying23
  have hmk := run_make_row' (P := Trym.prog) 23 21 (.int .i32 0) 4 Trym.underlying23 Trym.info21 rfl .i64 .i64 n (by omega) (by omega)
  go_enter Trym.func11, Trym.ntmps11
  go_wp2
  clear hsn hmk
  go_loopg [4] n (fun g i wr => ∃ k : Nat, k ≤ n ∧ g = n - k ∧ i = .int .i64 k ∧ Cloned .i32 21 w wr n f k)
  case atStart => exact ⟨0, Nat.zero_le _, rfl, rfl, cloned_start .i32 21 w n f⟩
  case round =>
    obtain ⟨k, hk, rfl, rfl, hC⟩ := hrel
    by_cases hlt : k < n
    · obtain rfl := hx (by omega)
      have hc1 : wr.cell? ⟨b, off + k, none⟩ = some (.int .i32 (f k)) := by rw [hC.below.cell (p := ⟨b, off + k, none⟩) (World.block_lt_of_cell? _ _ (hc k hlt))]; exact hc k hlt
      have hc2 : ∃ v, wr.cell? ⟨w.heap.size, k, none⟩ = some v := ⟨_, hC.row.cell hlt⟩
      obtain ⟨v, hv⟩ := hc2
      have hc3 : wr.frozen? ⟨w.heap.size, k, none⟩ = false := hC.row.frozen k
      have hS := cloned_step hC
      have HS : Hid (Cloned .i32 21 w (wr.setCell ⟨w.heap.size, k, none⟩ (.int .i32 (f k))) n f (k + 1)) := hS
      clear hC hS hc hx
      go_wp2
      go_roundg (n - (k + 1))
      case measure => go_light; omega
      case rel => exact ⟨k + 1, by omega, rfl, by go_num, HS.out⟩
    · go_wp2
      go_ret
      obtain rfl : k = n := by omega
      exact ⟨rfl, hC⟩

theorem cloneInt32s_any (a : Option Addr) (n c b off : Nat) (f : Nat → Int) (w : World) (hn : n ≤ 1048576) (h : Ints .i32 w a n c b off f) :
    Calls Trym.prog 11 #[.slice a n c] w fun e w' => ∃ a' c' bp, e = .returned (.slice a' n c') ∧ Below w.heap.size w w' ∧ Ints .i32 w' a' n c' bp 0 f ∧ a'.isNone = a.isNone := by
  cases a with
  | none =>
    obtain ⟨rfl, rfl⟩ := h.nil rfl
    refine (cloneInt32s_nil w).mono ?_
    rintro e w' ⟨rfl, rfl⟩
    exact ⟨none, 0, 0, rfl, Below.refl _ _, ⟨by omega, Nat.le_refl _, fun _ => ⟨rfl, rfl⟩, fun h => absurd h (by omega), fun i hi => absurd hi (by omega), h.range⟩, rfl⟩
  | some x =>
    refine (cloneInt32s_some x b off n c f w hn (fun h0 => Option.some.inj (h.addr h0)) h.cell).mono ?_
    rintro e w' ⟨rfl, hC⟩
    exact ⟨some ⟨w.heap.size, 0, none⟩, n, w.heap.size, rfl, hC.below, ⟨h.len, Nat.le_refl _, fun h => by simp at h, fun _ => rfl, fun i hi => by rw [Nat.zero_add, hC.row.cell hi, if_pos hi], h.range⟩, rfl⟩

theorem cloneInt64s_nil (w : World) : Calls Trym.prog 18 #[.slice none 0 0] w fun e w' => e = .returned (.slice none 0 0) ∧ w' = w := by
  have hsn := fun (w : World) (a : Option Addr) (n c : Nat) => Lib.run_eql_slice_nil (P := Trym.prog) w 32 2 a n c 0 0 Trym.underlying32
  go_enter Trym.func18, Trym.ntmps18
  go_wp2
  go_ret
  exact ⟨rfl, rfl⟩

set_option maxHeartbeats 400000 in
theorem cloneInt64s_some (x : Addr) (b off n c : Nat) (f : Nat → Int) (w : World) (hn : n ≤ 1048576) (hx : 0 < n → x = ⟨b, off, none⟩) (hc : ∀ i, i < n → w.cell? ⟨b, off + i, none⟩ = some (.int .i64 (f i))) :
    Calls Trym.prog 18 #[.slice (some x) n c] w fun e w' => e = .returned (.slice (some ⟨w.heap.size, 0, none⟩) n n) ∧ Cloned .i64 2 w w' n f n := by
  have hsn := fun (w : World) (a : Option Addr) (n c : Nat) => Lib.run_eql_slice_nil (P := Trym.prog) w 32 2 a n c 0 0 Trym.underlying32
  have hmk := run_make_row' (P := Trym.prog) 32 2 (.int .i64 0) 8 Trym.underlying32 Trym.info2 rfl .i64 .i64 n (by omega) (by omega)
  go_enter Trym.func18, Trym.ntmps18
  go_wp2
  clear hsn hmk
  go_loopg [4] n (fun g i wr => ∃ k : Nat, k ≤ n ∧ g = n - k ∧ i = .int .i64 k ∧ Cloned .i64 2 w wr n f k)
  case atStart => exact ⟨0, Nat.zero_le _, rfl, rfl, cloned_start .i64 2 w n f⟩
  case round =>
    obtain ⟨k, hk, rfl, rfl, hC⟩ := hrel
    by_cases hlt : k < n
    · obtain rfl := hx (by omega)
      have hc1 : wr.cell? ⟨b, off + k, none⟩ = some (.int .i64 (f k)) := by rw [hC.below.cell (p := ⟨b, off + k, none⟩) (World.block_lt_of_cell? _ _ (hc k hlt))]; exact hc k hlt
      have hc2 : ∃ v, wr.cell? ⟨w.heap.size, k, none⟩ = some v := ⟨_, hC.row.cell hlt⟩
      obtain ⟨v, hv⟩ := hc2
      have hc3 : wr.frozen? ⟨w.heap.size, k, none⟩ = false := hC.row.frozen k
      have hS := cloned_step hC
      have HS : Hid (Cloned .i64 2 w (wr.setCell ⟨w.heap.size, k, none⟩ (.int .i64 (f k))) n f (k + 1)) := hS
      clear hC hS hc hx
      go_wp2
      go_roundg (n - (k + 1))
      case measure => go_light; omega
      case rel => exact ⟨k + 1, by omega, rfl, by go_num, HS.out⟩
    · go_wp2
      go_ret
      obtain rfl : k = n := by omega
      exact ⟨rfl, hC⟩

theorem cloneInt64s_any (a : Option Addr) (n c b off : Nat) (f : Nat → Int) (w : World) (hn : n ≤ 1048576) (h : Ints .i64 w a n c b off f) :
    Calls Trym.prog 18 #[.slice a n c] w fun e w' => ∃ a' c' bp, e = .returned (.slice a' n c') ∧ Below w.heap.size w w' ∧ Ints .i64 w' a' n c' bp 0 f ∧ a'.isNone = a.isNone := by
  cases a with
  | none =>
    obtain ⟨rfl, rfl⟩ := h.nil rfl
    refine (cloneInt64s_nil w).mono ?_
    rintro e w' ⟨rfl, rfl⟩
    exact ⟨none, 0, 0, rfl, Below.refl _ _, ⟨by omega, Nat.le_refl _, fun _ => ⟨rfl, rfl⟩, fun h => absurd h (by omega), fun i hi => absurd hi (by omega), h.range⟩, rfl⟩
  | some x =>
    refine (cloneInt64s_some x b off n c f w hn (fun h0 => Option.some.inj (h.addr h0)) h.cell).mono ?_
    rintro e w' ⟨rfl, hC⟩
    exact ⟨some ⟨w.heap.size, 0, none⟩, n, w.heap.size, rfl, hC.below, ⟨h.len, Nat.le_refl _, fun h => by simp at h, fun _ => rfl, fun i hi => by rw [Nat.zero_add, hC.row.cell hi, if_pos hi], h.range⟩, rfl⟩

end Go.Proofs.Qxb6603777aMods
