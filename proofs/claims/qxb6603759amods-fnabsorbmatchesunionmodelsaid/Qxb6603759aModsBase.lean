/-
  SEAT b6603759aM. WHAT ALL WALKS OF THIS SEAT SHARE: closed facts on types; a word for 'a slice of words that can be read'; contracts of the small callees: zzBytes_*, zzClone, zzBit, zzBitU, zzMinU, zzMaxOf.
-/
import Derived.Test.Qxb6603759aModsProg
import Derived.Test.Qxb6603759aModsPlain
import Derived.WalkKit
import Derived.WalkSpells
import Derived.WalkLawsBesides
import Derived.Outline
import Derived.Deep.LoopGhost
import Derived.Deep.OwnRows
import Derived.Deep.Light
namespace Go.Proofs.Qxb6603759aMods
open Go.RowKit Plain

theorem Trym.info27 : (Trym.prog.info? 27).map (fun i => (i.zero, i.size, i.bytes)) = some (some (.int .u64 0), 1, 8) := by kernel_rfl

/-- The value of a word. -/
def wv (f : Nat → Nat) (i : Nat) : Value := .int .u64 ((f i : Nat) : Int)

theorem ret_bool {a b : Bool} (h : a = b) : Ending.returned (.bool a) = .returned (.bool b) := by rw [h]
theorem ret_int {k : IntKind} {a b : Int} (h : a = b) : Ending.returned (.int k a) = .returned (.int k b) := by rw [h]

/-- one bit, as the walk spells it -/
theorem bit_of (x j : Nat) (hx : x < 18446744073709551616) : (bits BinOp.and IntKind.u64 ((x : Int) / 2 ^ j) 1 == 1) = x.testBit j := by
  have e1 : ((x : Int) / 2 ^ j) = ((x / 2 ^ j : Nat) : Int) := by simp
  have hlt : x / 2 ^ j < 18446744073709551616 := Nat.lt_of_le_of_lt (Nat.div_le_self _ _) hx
  have e2 := u64_and_nat (x / 2 ^ j) 1 hlt (by decide)
  rw [e1, show (1 : Int) = ((1 : Nat) : Int) from rfl, e2, nat_mask1, Nat.testBit_eq_decide_div_mod_eq]
  by_cases h : x / 2 ^ j % 2 = 1
  · rw [h]; simp
  · have : x / 2 ^ j % 2 = 0 := by omega
    rw [this]; simp

set_option maxHeartbeats 400000 in
theorem bit_any (b off n c k : Nat) (f : Nat → Nat) (w : World) (hk : k < 64 * n) (hn : n ≤ 1048576) (hf : Fits f) (hc : ∀ i, i < n → w.cell? ⟨b, off + i, none⟩ = some (wv f i)) :
    Calls Trym.prog 10 #[.slice (some ⟨b, off, none⟩) n c, .int .i64 k] w fun e w' => e = .returned (.bool (wbit f k)) ∧ w' = w := by
  have hc1 : w.cell? ⟨b, off + k / 64, none⟩ = some (.int .u64 ((f (k / 64) : Nat) : Int)) := hc (k / 64) (by omega)
  have hb := bit_of (f (k / 64)) (k % 64) (hf _)
  have HB : Hid ((bits BinOp.and IntKind.u64 ((f (k / 64) : Int) / 2 ^ (k % 64)) 1 == 1) = (f (k / 64)).testBit (k % 64)) := hb
  clear hb hc
  go_enter Trym.func10, Trym.ntmps10
  go_wp2
  go_ret
  exact ⟨ret_bool HB.out, rfl⟩

theorem clone_nil (w : World) : Calls Trym.prog 8 #[.slice none 0 0] w fun e w' => e = .returned (.slice none 0 0) ∧ w' = w := by
  have hsn := fun (w : World) (a : Option Addr) (n c : Nat) => Lib.run_eql_slice_nil (P := Trym.prog) w 22 27 a n c 0 0 Trym.underlying22
  go_enter Trym.func8, Trym.ntmps8
  go_wp2
  go_ret
  exact ⟨rfl, rfl⟩

/-- A row of our own that is as the argument up to i. -/
structure Cloned (w wr : World) (n : Nat) (f : Nat → Nat) (i : Nat) : Prop where
  below : Below w.heap.size w wr
  size : wr.heap.size = w.heap.size + 1
  row : wr.rowIs w.heap.size 27 n (fun j => if j < i then wv f j else .int .u64 0)

theorem cloned_start (w : World) (n : Nat) (f : Nat → Nat) : Cloned w (w.alloc (.cells (madeCells #[.int .u64 0] n) 27)) n f 0 :=
  ⟨(Below.refl _ _).alloc (Nat.le_refl _) _, by simp, (World.rowIs_made w _ n 27).congr (fun j _ => by simp)⟩

theorem cloned_step {w wr : World} {n : Nat} {f : Nat → Nat} {i : Nat} (h : Cloned w wr n f i) : Cloned w (wr.setCell ⟨w.heap.size, i, none⟩ (wv f i)) n f (i + 1) := by
  refine ⟨h.below.setCell (Nat.le_refl _) _, by simp [h.size], (h.row.set i _).congr (fun j _ => ?_)⟩
  by_cases e : j = i
  · subst e; simp
  · rw [if_neg e]
    by_cases hlt : j < i
    · rw [if_pos hlt, if_pos (by omega)]
    · rw [if_neg hlt, if_neg (by omega)]

set_option maxHeartbeats 400000 in
theorem clone_some (x : Addr) (b off n c : Nat) (f : Nat → Nat) (w : World) (hn : n ≤ 1048576) (hx : 0 < n → x = ⟨b, off, none⟩) (hc : ∀ i, i < n → w.cell? ⟨b, off + i, none⟩ = some (wv f i)) :
    Calls Trym.prog 8 #[.slice (some x) n c] w fun e w' => e = .returned (.slice (some ⟨w.heap.size, 0, none⟩) n n) ∧ Cloned w w' n f n := by
  have hsn := fun (w : World) (a : Option Addr) (n c : Nat) => Lib.run_eql_slice_nil (P := Trym.prog) w 22 27 a n c 0 0 Trym.underlying22
  have hmk := run_make_row' (P := Trym.prog) 22 27 (.int .u64 0) 8 Trym.underlying22 Trym.info27 rfl .i64 .i64 n (by omega) (by omega)
  go_enter Trym.func8, Trym.ntmps8
  go_wp2
  clear hsn hmk
  go_loopg [4] n (fun g i wr => ∃ k : Nat, k ≤ n ∧ g = n - k ∧ i = .int .i64 k ∧ Cloned w wr n f k)
  case atStart => exact ⟨0, Nat.zero_le _, rfl, rfl, cloned_start w n f⟩
  case round =>
    obtain ⟨k, hk, rfl, rfl, hC⟩ := hrel
    by_cases hlt : k < n
    · obtain rfl := hx (by omega)
      have hc1 : wr.cell? ⟨b, off + k, none⟩ = some (.int .u64 ((f k : Nat) : Int)) := by rw [hC.below.cell (p := ⟨b, off + k, none⟩) (World.block_lt_of_cell? _ _ (hc k hlt))]; exact hc k hlt
      have hc2 : ∃ v, wr.cell? ⟨w.heap.size, k, none⟩ = some v := ⟨_, hC.row.cell hlt⟩
      obtain ⟨v, hv⟩ := hc2
      have hc3 : wr.frozen? ⟨w.heap.size, k, none⟩ = false := hC.row.frozen k
      have hS := cloned_step hC
      have HS : Hid (Cloned w (wr.setCell ⟨w.heap.size, k, none⟩ (.int .u64 ((f k : Nat) : Int))) n f (k + 1)) := hS
      clear hC hS hc hx
      go_wp2
      go_roundg (n - (k + 1))
      case measure => go_light; omega
      case rel => exact ⟨k + 1, by omega, rfl, by go_num, HS.out⟩
    · go_wp2
      go_ret
      obtain rfl : k = n := by omega
      exact ⟨rfl, hC⟩

/-- NOTHING BUT BLOCK B HAS TURNED. -/
structure Only (B : Nat) (w w' : World) : Prop where
  os : w'.os = w.os
  tape : w'.tape = w.tape
  output : w'.output = w.output
  size : w'.heap.size = w.heap.size
  block : ∀ k, k ≠ B → w'.heap[k]? = w.heap[k]?

theorem Only.refl (B : Nat) (w : World) : Only B w w := ⟨rfl, rfl, rfl, rfl, fun _ _ => rfl⟩
theorem Only.trans {B : Nat} {a b c : World} (h : Only B a b) (k : Only B b c) : Only B a c :=
  ⟨k.os.trans h.os, k.tape.trans h.tape, k.output.trans h.output, k.size.trans h.size, fun i hi => (k.block i hi).trans (h.block i hi)⟩
theorem Only.drew {B : Nat} {a w : World} (h : Only B a w) : Only B a w.drew := ⟨h.os, h.tape, h.output, h.size, h.block⟩
theorem Only.setCell {B : Nat} {a w : World} (h : Only B a w) (i : Nat) (u : Value) : Only B a (w.setCell ⟨B, i, none⟩ u) :=
  h.trans ⟨rfl, rfl, rfl, by simp [World.setCell], fun k hk => Below.heap_setCell _ _ _ _ hk⟩
theorem Only.below {B B' : Nat} {w w' : World} (h : Only B w w') (hB : B' ≤ B) : Below B' w w' :=
  ⟨h.os, h.tape, h.output, by rw [h.size]; exact Nat.le_refl _, fun k hk => h.block k (by omega)⟩
theorem Only.cell {B : Nat} {w w' : World} (h : Only B w w') {p : Addr} (hp : p.block ≠ B) : w'.cell? p = w.cell? p := World.cell?_of_block (w := w) (h.block p.block hp)
theorem Only.frozen {B : Nat} {w w' : World} (h : Only B w w') {p : Addr} (hp : p.block ≠ B) : w'.frozen? p = w.frozen? p := World.frozen?_of_block (w := w) (h.block p.block hp)
theorem Only.rowIs {B b t n : Nat} {g : Nat → Value} {w w' : World} (h : Only B w w') (hb : b ≠ B) (hr : w.rowIs b t n g) : w'.rowIs b t n g := hr.of_block (h.block b hb)

/-! ### the words' operations, as the walk spells them -/
theorem keep_of (x m : Nat) (hx : x < 18446744073709551616) (hm : m < 64) : bits BinOp.and IntKind.u64 (x : Int) (IntKind.u64.wrap (IntKind.u64.wrap (2 ^ m) - 1)) = ((keepOf x m : Nat) : Int) := by
  have hp : 2 ^ m ≤ 2 ^ 63 := Nat.pow_le_pow_right (by decide) (by omega)
  have hp0 : 0 < 2 ^ m := Nat.two_pow_pos m
  have e : IntKind.u64.wrap (IntKind.u64.wrap (2 ^ m) - 1) = ((2 ^ m - 1 : Nat) : Int) := by
    have e2 : (2 : Int) ^ m = ((2 ^ m : Nat) : Int) := by simp
    rw [e2, IntKind.wrap_u64, IntKind.wrap_u64]
    generalize 2 ^ m = q at *
    omega
  rw [e, u64_and_nat x (2 ^ m - 1) hx (by omega)]
  rfl

theorem clear_of (x m : Nat) (hx : x < 18446744073709551616) : bits BinOp.andNot IntKind.u64 (x : Int) ((keepOf x m : Nat) : Int) = ((clearOf x m : Nat) : Int) := by
  rw [u64_andNot_nat x _ hx (keep_lt x m hx)]
  rfl

theorem shl_of (x s : Nat) : IntKind.u64.wrap ((x : Int) * 2 ^ s) = ((x * 2 ^ s % 2 ^ 64 : Nat) : Int) := by
  rw [IntKind.wrap_u64]; simp

theorem or_of (x y : Nat) (hx : x < 18446744073709551616) (hy : y < 18446744073709551616) : bits BinOp.or IntKind.u64 (x : Int) (y : Int) = ((x ||| y : Nat) : Int) := u64_or_nat x y hx hy

theorem shlor_of (x y s : Nat) (hy : y < 18446744073709551616) : bits BinOp.or IntKind.u64 (IntKind.u64.wrap ((x : Int) * 2 ^ s)) (y : Int) = (((x * 2 ^ s % 2 ^ 64) ||| y : Nat) : Int) := by
  rw [shl_of, or_of _ _ (Nat.mod_lt _ (by decide)) hy]

theorem shlorshr_of (x y s t : Nat) (hy : y < 18446744073709551616) : bits BinOp.or IntKind.u64 (IntKind.u64.wrap ((x : Int) * 2 ^ s)) ((y : Int) / 2 ^ t) = (((x * 2 ^ s % 2 ^ 64) ||| (y / 2 ^ t) : Nat) : Int) := by
  have e : ((y : Int) / 2 ^ t) = ((y / 2 ^ t : Nat) : Int) := by simp
  rw [e, shlor_of _ _ _ (Nat.lt_of_le_of_lt (Nat.div_le_self _ _) hy)]

end Go.Proofs.Qxb6603759aMods
