/-
  SEAT b6603759aM. THE LAW FnInsertMatchesListModel (4) AT A LEAF OF BITS.
-/
import Derived.Test.Qxb6603759aModsInsert
namespace Go.Proofs.Qxb6603759aMods
open Go.RowKit Plain

/-- the cells of a boxed Leaf of the laws -/
def boxF (lo hi ba fi la ad n nl nh wd : Int) (pk : Value) : Nat → Value
  | 0 => .int .u64 lo
  | 1 => .int .u64 hi
  | 2 => .int .u64 ba
  | 3 => .int .u64 fi
  | 4 => .int .u64 la
  | 5 => .int .u64 ad
  | 6 => .int .i64 n
  | 7 => .int .u64 nl
  | 8 => .int .u64 nh
  | 9 => .int .i64 wd
  | 10 => pk
  | _ => undef

theorem box_new (w : World) (lo hi ba fi la ad n nl nh wd : Int) (pk : Value) :
    (w.alloc (.cells #[.int .u64 lo, .int .u64 hi, .int .u64 ba, .int .u64 fi, .int .u64 la, .int .u64 ad, .int .i64 n, .int .u64 nl, .int .u64 nh, .int .i64 wd, pk] 29)).rowIs w.heap.size 29 11 (boxF lo hi ba fi la ad n nl nh wd pk) :=
  World.rowIs_alloc w _ 29 _ (fun i hi => by
    have h11 : i < 11 := hi
    match i, h11 with
    | 0, _ => rfl
    | 1, _ => rfl
    | 2, _ => rfl
    | 3, _ => rfl
    | 4, _ => rfl
    | 5, _ => rfl
    | 6, _ => rfl
    | 7, _ => rfl
    | 8, _ => rfl
    | 9, _ => rfl
    | 10, _ => rfl)

theorem rowIs_below {B b t n : Nat} {g : Nat → Value} {w w' : World} (h : Below B w w') (hb : b < B) (hr : w.rowIs b t n g) : w'.rowIs b t n g := hr.of_block (h.block b hb)

/-- what the walk reads of a box: its eleven cells, as one conjunction -/
theorem box_cells {w : World} {B : Nat} {lo hi ba fi la ad n nl nh wd : Int} {pk : Value} (h : w.rowIs B 29 11 (boxF lo hi ba fi la ad n nl nh wd pk)) :
    w.cell? ⟨B, 0, none⟩ = some (.int .u64 lo) ∧ w.cell? ⟨B, 1, none⟩ = some (.int .u64 hi) ∧ w.cell? ⟨B, 2, none⟩ = some (.int .u64 ba) ∧ w.cell? ⟨B, 3, none⟩ = some (.int .u64 fi) ∧ w.cell? ⟨B, 4, none⟩ = some (.int .u64 la) ∧ w.cell? ⟨B, 5, none⟩ = some (.int .u64 ad) ∧ w.cell? ⟨B, 6, none⟩ = some (.int .i64 n) ∧ w.cell? ⟨B, 7, none⟩ = some (.int .u64 nl) ∧ w.cell? ⟨B, 8, none⟩ = some (.int .u64 nh) ∧ w.cell? ⟨B, 9, none⟩ = some (.int .i64 wd) ∧ w.cell? ⟨B, 10, none⟩ = some pk :=
  ⟨h.cell (i := 0) (by omega), h.cell (i := 1) (by omega), h.cell (i := 2) (by omega), h.cell (i := 3) (by omega), h.cell (i := 4) (by omega), h.cell (i := 5) (by omega), h.cell (i := 6) (by omega), h.cell (i := 7) (by omega), h.cell (i := 8) (by omega), h.cell (i := 9) (by omega), h.cell (i := 10) (by omega)⟩

/-- WHAT THE LAW's LOOPS READ: the law's own leaf in block bx, what it read back in block gx, the words that came in, the words of the leaf that was made. -/
structure Got (w wr : World) (bx gx b off len c bp : Nat) (f g : Nat → Nat) : Prop where
  own : wr.cell? ⟨bx, 10, none⟩ = some (.slice (some ⟨b, off, none⟩) len c)
  got : wr.cell? ⟨gx, 10, none⟩ = some (.slice (some ⟨bp, 0, none⟩) len len)
  came : ∀ i, i < len → wr.cell? ⟨b, off + i, none⟩ = some (wv f i)
  made : ∀ i, i < len → wr.cell? ⟨bp, 0 + i, none⟩ = some (wv g i)
  below : Below w.heap.size w wr

theorem got_start {w w5 : World} {b off len c bp : Nat} {f g : Nat → Nat} (cs : Array Value) (nq : Nat) (hbw : b < w.heap.size) (h5 : w.heap.size < w5.heap.size) (hbb : Below w.heap.size w w5) (hown : w5.cell? ⟨w.heap.size, 10, none⟩ = some (.slice (some ⟨b, off, none⟩) len c))
    (hcs : cs[10]? = some (.slice (some ⟨bp, 0, none⟩) len len)) (hc : ∀ i, i < len → w.cell? ⟨b, off + i, none⟩ = some (wv f i)) (hr : w5.rowIs bp 27 len (wv g)) : Got w ((w5.alloc (.cells cs 29)).drewN nq) w.heap.size w5.heap.size b off len c bp f g := by
  have hbp := hr.lt
  have hbb6 : Below w.heap.size w ((w5.alloc (.cells cs 29)).drewN nq) := belowDrewN (hbb.alloc (by omega) _) nq
  refine ⟨?_, ?_, fun i hi => ?_, fun i hi => ?_, hbb6⟩
  · show (w5.alloc _).cell? _ = _
    rw [World.cell?_alloc_old _ _ _ (by show w.heap.size ≠ w5.heap.size; omega)]; exact hown
  · show (w5.alloc _).cell? _ = _
    have hb := Go.Deep.blk_alloc_new w5 (.cells cs 29)
    simp only [World.cell?, hb]
    simp [hcs]
  · rw [hbb6.cell (p := ⟨b, off + i, none⟩) hbw]; exact hc i hi
  · rw [Nat.zero_add]
    exact (hr.alloc _).cell hi

set_option maxRecDepth 100000 in
set_option maxHeartbeats 3200000 in
theorem insert_law_bits (lo hi ba fi la ad n nl nh : Int) (b off len c o : Nat) (p u : Int) (f : Nat → Nat) (w : World) (hl : len ≤ 131072) (hf : Fits f) (hu1 : u < 18446744073709551616) (hb0 : 0 ≤ ba) (hb1 : ba ≤ u) (hou : u - ba = (o : Int)) (hon : o < 64 * len) (hbit : wbit f o = false) (hc : ∀ i, i < len → w.cell? ⟨b, off + i, none⟩ = some (wv f i)) :
    Calls Trym.prog 4 #[.agg #[.int .u64 lo, .int .u64 hi, .int .u64 ba, .int .u64 fi, .int .u64 la, .int .u64 ad, .int .i64 n, .int .u64 nl, .int .u64 nh, .int .i64 0, .slice (some ⟨b, off, none⟩) len c], .int .i64 p, .int .u64 u] w fun e w' => e = .returned (.bool true) ∧ Below w.heap.size w w' := by
  have hd : decide (len ≤ 1048576) = true := by simp; omega
  have hbw : b < w.heap.size := World.block_lt_of_cell? _ _ (hc 0 (by omega))
  have hx0 := box_new w lo hi ba fi la ad n nl nh 0 (.slice (some ⟨b, off, none⟩) len c)
  have hbb0 : Below w.heap.size w _ := (Below.refl w.heap.size w).alloc (Nat.le_refl _) (.cells #[.int .u64 lo, .int .u64 hi, .int .u64 ba, .int .u64 fi, .int .u64 la, .int .u64 ad, .int .i64 n, .int .u64 nl, .int .u64 nh, .int .i64 0, .slice (some ⟨b, off, none⟩) len c] 29)
  go_enter Trym.func4, Trym.ntmps4
  go_wp2_with fail
  refine (bytes_insert lo hi ba fi la ad n nl nh 0 _ len c p u _ (by omega)).mono ?_
  rintro e w1 ⟨rfl, hB1⟩
  rw [hd]
  have hz1 : w.heap.size < w1.heap.size := by have := hB1.size; simp at this; omega
  have hx1 := rowIs_below hB1 (by simp) hx0
  have hbb1 : Below w.heap.size w w1 := hbb0.trans (hB1.mono (by simp))
  have hc1 : ∀ i, i < len → w1.cell? ⟨b, off + i, none⟩ = some (wv f i) := fun i hi => by rw [hbb1.cell (p := ⟨b, off + i, none⟩) hbw]; exact hc i hi
  clear hB1 hbb0 hx0 hd
  obtain ⟨x0, x1, x2, x3, x4, x5, x6, x7, x8, x9, x10⟩ := box_cells hx1
  go_wp2_with fail
  refine (bit_any b off len c o f w1 hon (by omega) hf hc1).mono ?_
  rintro e w2 ⟨rfl, rfl⟩
  rw [hbit]
  go_wp2_with fail
  refine (make_some lo hi ba fi la ad n nl nh 0 ⟨b, off, none⟩ b off len c f _ (by omega) (fun _ => rfl) hc1).mono ?_
  rintro e w3 ⟨rfl, hM⟩
  go_wp2_with fail
  have hne : w2.heap.size + 2 ≠ w2.heap.size + 1 := by omega
  refine (zzinsert_of (insert_bits _ _ len o p u n lo hi ba fi la ad nl nh f _ hon (by omega) hf (by omega) hu1 hb0 hb1 hou hne hM.leaf hM.row w2.heap.size (by omega) (by omega))).mono ?_
  rintro e w4 ⟨rfl, hB4, hr4, hl4⟩
  have hbb4 : Below w.heap.size w w4 := hbb1.trans ((hM.below.trans hB4).mono (by omega))
  have hx4 := rowIs_below (hM.below.trans hB4) hz1 hx1
  have hz4 : w2.heap.size + 3 ≤ w4.heap.size := by have := hM.size; have := hB4.size; omega
  clear hM hx1 x0 x1 x2 x3 x4 x5 x6 x7 x8 x9 x10 hc1
  go_wp2_with fail
  refine (read_any _ lo hi ba _ la u _ nl nh 0 _ len len _ hl4).mono ?_
  rintro e w5 ⟨rfl, hB5⟩
  have hbb5 : Below w.heap.size w w5 := hbb4.trans (hB5.mono (by omega))
  have hx5 := rowIs_below hB5 (by omega) hx4
  have hr5 := rowIs_below hB5 (by omega) hr4
  have hz5 : w4.heap.size ≤ w5.heap.size := hB5.size
  clear hx4 hr4 hl4 hB4 hB5 hbb4
  obtain ⟨x0, x1, x2, x3, x4, x5, x6, x7, x8, x9, x10⟩ := box_cells hx5
  have hA5 : ∀ o i, (w5.alloc o).cell? ⟨w.heap.size, i, none⟩ = w5.cell? ⟨w.heap.size, i, none⟩ := fun o i => World.cell?_alloc_old _ _ _ (by show w.heap.size ≠ w5.heap.size; omega)
  go_wp2_with fail
  go_quiet ((go_at_call 15; exact Calls.quiet_of_same (minU_any _ _ _)))
  go_wp2_with fail
  have hG := got_start #[.int .u64 lo, .int .u64 hi, .int .u64 ba, .int .u64 (min fi u), .int .u64 la, .int .u64 u, .int .i64 (wrap64 (n + 1)), .int .u64 nl, .int .u64 nh, .int .i64 0, .slice (some ⟨w2.heap.size + 1, 0, none⟩) len len] nq hbw (by omega) hbb5 x10 rfl hc hr5
  have hfg := orF_fits f o hf
  have HW : Hid (∀ k, wbit (orF f o) k = (wbit f k || decide (k = o))) := orF_bit f o
  clear x0 x1 x2 x3 x4 x5 x6 x7 x8 x9 x10 hx5 hr5 hbb5 hA5 hc hbb1 hou
  generalize orF f o = g at *
  go_loopg [14] (64 * len) (fun gh i wr => ∃ k : Nat, k ≤ 64 * len ∧ gh = 64 * len - k ∧ i = .int .i64 k ∧ Got w wr w.heap.size w5.heap.size b off len c (w2.heap.size + 1) f g)
  case atStart => exact ⟨0, Nat.zero_le _, rfl, rfl, hG⟩
  case round =>
    clear hG
    obtain ⟨k, hk, rfl, rfl, hG⟩ := hrel
    have y1 := hG.own
    have y2 := hG.got
    by_cases hlt : k < 64 * len
    · go_wp2_with fail
      refine (bit_any b off len c k f _ hlt (by omega) hf hG.came).mono ?_
      rintro e w6 ⟨rfl, rfl⟩
      have hwk := HW.out k
      by_cases hb : wbit f k = true
      · have hgk : wbit g k = true := by rw [hwk, hb]; rfl
        clear hwk
        go_wp2_with fail
        refine (bit_any _ 0 len len k g _ hlt (by omega) hfg hG.made).mono ?_
        rintro e w7 ⟨rfl, rfl⟩
        go_wp2
        go_roundg (64 * len - (k + 1))
        case measure => go_light; omega
        case rel => exact ⟨k + 1, by omega, rfl, by go_num, hG⟩
      have hb' : wbit f k = false := by simpa using hb
      by_cases hko : k = o
      · have hgk : wbit g k = true := by rw [hwk, hko]; simp
        have hke : ((k : Int) == (o : Int)) = true := by simp [hko]
        clear hwk hko hb
        go_wp2_with fail
        refine (bit_any _ 0 len len k g _ hlt (by omega) hfg hG.made).mono ?_
        rintro e w7 ⟨rfl, rfl⟩
        go_wp2
        go_roundg (64 * len - (k + 1))
        case measure => go_light; omega
        case rel => exact ⟨k + 1, by omega, rfl, by go_num, hG⟩
      · have hgk : wbit g k = false := by rw [hwk, hb']; simp [hko]
        have hke : ((k : Int) == (o : Int)) = false := by simp; omega
        clear hwk hb
        go_wp2_with fail
        refine (bit_any _ 0 len len k g _ hlt (by omega) hfg hG.made).mono ?_
        rintro e w7 ⟨rfl, rfl⟩
        go_wp2
        go_roundg (64 * len - (k + 1))
        case measure => go_light; omega
        case rel => exact ⟨k + 1, by omega, rfl, by go_num, hG⟩
    · go_wp2
      go_ret
      exact ⟨rfl, hG.below⟩
end Go.Proofs.Qxb6603759aMods
