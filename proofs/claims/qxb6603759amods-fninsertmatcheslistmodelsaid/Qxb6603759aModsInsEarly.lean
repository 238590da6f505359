/-
  SEAT b6603759aM. THE LAW FnInsertMatchesListModel (4): the ways on which it answers true at once, and the whole walk.
-/
import Derived.Test.Qxb6603759aModsOpenLeaf
import Derived.Test.Qxb6603759aModsInsLawWide
namespace Go.Proofs.Qxb6603759aMods
open Go.ChangeShapes Go.WideShapes Go.ChangeAt Go.RowKit Plain

set_option maxRecDepth 100000 in
set_option maxHeartbeats 3200000 in
/-- too long a slice, or a width out of range -/
theorem insert_early1 (lo hi ba fi la ad n nl nh wd : Int) (a : Option Addr) (len c : Nat) (p u : Int) (w : World) (hlen : len ≤ 9223372036854775807) (h : 131072 < len ∨ wd < 0 ∨ 63 < wd) :
    Calls Trym.prog 4 #[.agg #[.int .u64 lo, .int .u64 hi, .int .u64 ba, .int .u64 fi, .int .u64 la, .int .u64 ad, .int .i64 n, .int .u64 nl, .int .u64 nh, .int .i64 wd, .slice a len c], .int .i64 p, .int .u64 u] w fun e w' => e = .returned (.bool true) ∧ Below w.heap.size w w' := by
  by_cases c0 : len ≤ 1048576
  · have hd : decide (len ≤ 1048576) = true := by simp; omega
    by_cases c1 : 131072 < len
    · clear h
      have hx0 := box_new w lo hi ba fi la ad n nl nh wd (.slice a len c)
      have hbb0 : Below w.heap.size w _ := (Below.refl w.heap.size w).alloc (Nat.le_refl _) (.cells #[.int .u64 lo, .int .u64 hi, .int .u64 ba, .int .u64 fi, .int .u64 la, .int .u64 ad, .int .i64 n, .int .u64 nl, .int .u64 nh, .int .i64 wd, .slice a len c] 29)
      go_enter Trym.func4, Trym.ntmps4
      go_wp2_with fail
      refine (bytes_insert lo hi ba fi la ad n nl nh wd _ len c p u _ (by omega)).mono ?_
      rintro e w1 ⟨rfl, hB1⟩
      rw [hd]
      have hx1 := rowIs_below hB1 (by simp) hx0
      have hbb1 : Below w.heap.size w w1 := hbb0.trans (hB1.mono (by simp))
      clear hB1 hbb0 hx0 hd
      obtain ⟨x0, x1, x2, x3, x4, x5, x6, x7, x8, x9, x10⟩ := box_cells hx1
      go_wp2
      go_ret
      exact ⟨rfl, hbb1⟩
    by_cases c2 : wd < 0
    · clear h
      have hx0 := box_new w lo hi ba fi la ad n nl nh wd (.slice a len c)
      have hbb0 : Below w.heap.size w _ := (Below.refl w.heap.size w).alloc (Nat.le_refl _) (.cells #[.int .u64 lo, .int .u64 hi, .int .u64 ba, .int .u64 fi, .int .u64 la, .int .u64 ad, .int .i64 n, .int .u64 nl, .int .u64 nh, .int .i64 wd, .slice a len c] 29)
      go_enter Trym.func4, Trym.ntmps4
      go_wp2_with fail
      refine (bytes_insert lo hi ba fi la ad n nl nh wd _ len c p u _ (by omega)).mono ?_
      rintro e w1 ⟨rfl, hB1⟩
      rw [hd]
      have hx1 := rowIs_below hB1 (by simp) hx0
      have hbb1 : Below w.heap.size w w1 := hbb0.trans (hB1.mono (by simp))
      clear hB1 hbb0 hx0 hd
      obtain ⟨x0, x1, x2, x3, x4, x5, x6, x7, x8, x9, x10⟩ := box_cells hx1
      go_wp2
      go_ret
      exact ⟨rfl, hbb1⟩
    have c3 : 63 < wd := by omega
    clear h
    have hx0 := box_new w lo hi ba fi la ad n nl nh wd (.slice a len c)
    have hbb0 : Below w.heap.size w _ := (Below.refl w.heap.size w).alloc (Nat.le_refl _) (.cells #[.int .u64 lo, .int .u64 hi, .int .u64 ba, .int .u64 fi, .int .u64 la, .int .u64 ad, .int .i64 n, .int .u64 nl, .int .u64 nh, .int .i64 wd, .slice a len c] 29)
    go_enter Trym.func4, Trym.ntmps4
    go_wp2_with fail
    refine (bytes_insert lo hi ba fi la ad n nl nh wd _ len c p u _ (by omega)).mono ?_
    rintro e w1 ⟨rfl, hB1⟩
    rw [hd]
    have hx1 := rowIs_below hB1 (by simp) hx0
    have hbb1 : Below w.heap.size w w1 := hbb0.trans (hB1.mono (by simp))
    clear hB1 hbb0 hx0 hd
    obtain ⟨x0, x1, x2, x3, x4, x5, x6, x7, x8, x9, x10⟩ := box_cells hx1
    go_wp2
    go_ret
    exact ⟨rfl, hbb1⟩
  · have hd : decide (len ≤ 1048576) = false := by simp; omega
    clear h
    have hx0 := box_new w lo hi ba fi la ad n nl nh wd (.slice a len c)
    have hbb0 : Below w.heap.size w _ := (Below.refl w.heap.size w).alloc (Nat.le_refl _) (.cells #[.int .u64 lo, .int .u64 hi, .int .u64 ba, .int .u64 fi, .int .u64 la, .int .u64 ad, .int .i64 n, .int .u64 nl, .int .u64 nh, .int .i64 wd, .slice a len c] 29)
    go_enter Trym.func4, Trym.ntmps4
    go_wp2_with fail
    refine (bytes_insert lo hi ba fi la ad n nl nh wd _ len c p u _ (by omega)).mono ?_
    rintro e w1 ⟨rfl, hB1⟩
    rw [hd]
    have hx1 := rowIs_below hB1 (by simp) hx0
    have hbb1 : Below w.heap.size w w1 := hbb0.trans (hB1.mono (by simp))
    clear hB1 hbb0 hx0 hd
    obtain ⟨x0, x1, x2, x3, x4, x5, x6, x7, x8, x9, x10⟩ := box_cells hx1
    go_wp2
    go_ret
    exact ⟨rfl, hbb1⟩

set_option maxRecDepth 100000 in
set_option maxHeartbeats 3200000 in
/-- a leaf of bits, the id out of its reach -/
theorem insert_early2 (lo hi ba fi la ad n nl nh : Int) (a : Option Addr) (len c : Nat) (p u : Int) (w : World) (hlen : len ≤ 131072) (hu0 : 0 ≤ u) (hu1 : u < 18446744073709551616) (hb0 : 0 ≤ ba) (h : u < ba ∨ 64 * (len : Int) ≤ u - ba) :
    Calls Trym.prog 4 #[.agg #[.int .u64 lo, .int .u64 hi, .int .u64 ba, .int .u64 fi, .int .u64 la, .int .u64 ad, .int .i64 n, .int .u64 nl, .int .u64 nh, .int .i64 0, .slice a len c], .int .i64 p, .int .u64 u] w fun e w' => e = .returned (.bool true) ∧ Below w.heap.size w w' := by
  have hd : decide (len ≤ 1048576) = true := by simp; omega
  by_cases c1 : u < ba
  · clear h
    have hx0 := box_new w lo hi ba fi la ad n nl nh 0 (.slice a len c)
    have hbb0 : Below w.heap.size w _ := (Below.refl w.heap.size w).alloc (Nat.le_refl _) (.cells #[.int .u64 lo, .int .u64 hi, .int .u64 ba, .int .u64 fi, .int .u64 la, .int .u64 ad, .int .i64 n, .int .u64 nl, .int .u64 nh, .int .i64 0, .slice a len c] 29)
    go_enter Trym.func4, Trym.ntmps4
    go_wp2_with fail
    refine (bytes_insert lo hi ba fi la ad n nl nh 0 _ len c p u _ (by omega)).mono ?_
    rintro e w1 ⟨rfl, hB1⟩
    rw [hd]
    have hx1 := rowIs_below hB1 (by simp) hx0
    have hbb1 : Below w.heap.size w w1 := hbb0.trans (hB1.mono (by simp))
    clear hB1 hbb0 hx0 hd
    obtain ⟨x0, x1, x2, x3, x4, x5, x6, x7, x8, x9, x10⟩ := box_cells hx1
    go_wp2
    go_ret
    exact ⟨rfl, hbb1⟩
  · have c2 : 64 * (len : Int) ≤ u - ba := by omega
    clear h
    have hx0 := box_new w lo hi ba fi la ad n nl nh 0 (.slice a len c)
    have hbb0 : Below w.heap.size w _ := (Below.refl w.heap.size w).alloc (Nat.le_refl _) (.cells #[.int .u64 lo, .int .u64 hi, .int .u64 ba, .int .u64 fi, .int .u64 la, .int .u64 ad, .int .i64 n, .int .u64 nl, .int .u64 nh, .int .i64 0, .slice a len c] 29)
    go_enter Trym.func4, Trym.ntmps4
    go_wp2_with fail
    refine (bytes_insert lo hi ba fi la ad n nl nh 0 _ len c p u _ (by omega)).mono ?_
    rintro e w1 ⟨rfl, hB1⟩
    rw [hd]
    have hx1 := rowIs_below hB1 (by simp) hx0
    have hbb1 : Below w.heap.size w w1 := hbb0.trans (hB1.mono (by simp))
    clear hB1 hbb0 hx0 hd
    obtain ⟨x0, x1, x2, x3, x4, x5, x6, x7, x8, x9, x10⟩ := box_cells hx1
    go_wp2
    go_ret
    exact ⟨rfl, hbb1⟩

set_option maxRecDepth 100000 in
set_option maxHeartbeats 3200000 in
/-- a leaf of bits that holds the id already -/
theorem insert_early3 (lo hi ba fi la ad n nl nh : Int) (b off len c o : Nat) (p u : Int) (f : Nat → Nat) (w : World) (hl : len ≤ 131072) (hf : Fits f) (hu1 : u < 18446744073709551616) (hb0 : 0 ≤ ba) (hb1 : ba ≤ u) (hou : u - ba = (o : Int)) (hon : o < 64 * len) (hbit : wbit f o = true) (hc : ∀ i, i < len → w.cell? ⟨b, off + i, none⟩ = some (wv f i)) :
    Calls Trym.prog 4 #[.agg #[.int .u64 lo, .int .u64 hi, .int .u64 ba, .int .u64 fi, .int .u64 la, .int .u64 ad, .int .i64 n, .int .u64 nl, .int .u64 nh, .int .i64 0, .slice (some ⟨b, off, none⟩) len c], .int .i64 p, .int .u64 u] w fun e w' => e = .returned (.bool true) ∧ Below w.heap.size w w' := by
  have hd : decide (len ≤ 1048576) = true := by simp; omega
  have hbw : b < w.heap.size := World.block_lt_of_cell? _ _ (hc 0 (by omega))
  have hx0 := box_new w lo hi ba fi la ad n nl nh 0 (.slice (some ⟨b, off, none⟩) len c)
  have hbb0 : Below w.heap.size w _ := (Below.refl w.heap.size w).alloc (Nat.le_refl _) (.cells #[.int .u64 lo, .int .u64 hi, .int .u64 ba, .int .u64 fi, .int .u64 la, .int .u64 ad, .int .i64 n, .int .u64 nl, .int .u64 nh, .int .i64 0, .slice (some ⟨b, off, none⟩) len c] 29)
  go_enter Trym.func4, Trym.ntmps4
  go_wp2_with fail
  refine (bytes_insert lo hi ba fi la ad n nl nh 0 _ len c p u _ (by omega)).mono ?_
  rintro e w1 ⟨rfl, hB1⟩
  rw [hd]
  have hx1 := rowIs_below hB1 (by simp) hx0
  have hbb1 : Below w.heap.size w w1 := hbb0.trans (hB1.mono (by simp))
  clear hB1 hbb0 hx0 hd
  obtain ⟨x0, x1, x2, x3, x4, x5, x6, x7, x8, x9, x10⟩ := box_cells hx1
  have hc1 : ∀ i, i < len → w1.cell? ⟨b, off + i, none⟩ = some (wv f i) := fun i hi => by rw [hbb1.cell (p := ⟨b, off + i, none⟩) hbw]; exact hc i hi
  go_wp2_with fail
  refine (bit_any b off len c o f w1 hon (by omega) hf hc1).mono ?_
  rintro e w2 ⟨rfl, rfl⟩
  rw [hbit]
  go_wp2
  go_ret
  exact ⟨rfl, hbb1⟩

set_option maxRecDepth 100000 in
set_option maxHeartbeats 6400000 in
/-- a leaf of offsets: no room, no such place, no such offset -/
theorem insert_early4 (lo hi ba fi la ad n nl nh Q : Int) (a : Option Addr) (len c wd T : Nat) (p u : Int) (w : World) (hlen : len ≤ 131072) (hw0 : 0 < wd) (hw : wd < 64) (hu0 : 0 ≤ u) (hu1 : u < 18446744073709551616) (hb0 : 0 ≤ ba) (hQ : (n + 1) * (wd : Int) = Q) (hT1 : IntKind.u64.wrap (2 ^ wd) = (T : Int))
    (hQ1 : 0 ≤ n → n ≤ 64 * (len : Int) → 0 ≤ Q ∧ Q ≤ 9223372036854775807)
    (h : n < 0 ∨ 64 * (len : Int) < n ∨ 64 * (len : Int) < Q ∨ p < 0 ∨ n < p ∨ u < ba ∨ (T : Int) ≤ u - ba) :
    Calls Trym.prog 4 #[.agg #[.int .u64 lo, .int .u64 hi, .int .u64 ba, .int .u64 fi, .int .u64 la, .int .u64 ad, .int .i64 n, .int .u64 nl, .int .u64 nh, .int .i64 wd, .slice a len c], .int .i64 p, .int .u64 u] w fun e w' => e = .returned (.bool true) ∧ Below w.heap.size w w' := by
  have hd : decide (len ≤ 1048576) = true := by simp; omega
  by_cases c1 : n < 0
  · clear h hQ1
    have hx0 := box_new w lo hi ba fi la ad n nl nh wd (.slice a len c)
    have hbb0 : Below w.heap.size w _ := (Below.refl w.heap.size w).alloc (Nat.le_refl _) (.cells #[.int .u64 lo, .int .u64 hi, .int .u64 ba, .int .u64 fi, .int .u64 la, .int .u64 ad, .int .i64 n, .int .u64 nl, .int .u64 nh, .int .i64 wd, .slice a len c] 29)
    go_enter Trym.func4, Trym.ntmps4
    go_wp2_with fail
    refine (bytes_insert lo hi ba fi la ad n nl nh wd _ len c p u _ (by omega)).mono ?_
    rintro e w1 ⟨rfl, hB1⟩
    rw [hd]
    have hx1 := rowIs_below hB1 (by simp) hx0
    have hbb1 : Below w.heap.size w w1 := hbb0.trans (hB1.mono (by simp))
    clear hB1 hbb0 hx0 hd
    obtain ⟨x0, x1, x2, x3, x4, x5, x6, x7, x8, x9, x10⟩ := box_cells hx1
    go_wp2
    go_ret
    exact ⟨rfl, hbb1⟩
  by_cases c2 : 64 * (len : Int) < n
  · clear h hQ1
    have hx0 := box_new w lo hi ba fi la ad n nl nh wd (.slice a len c)
    have hbb0 : Below w.heap.size w _ := (Below.refl w.heap.size w).alloc (Nat.le_refl _) (.cells #[.int .u64 lo, .int .u64 hi, .int .u64 ba, .int .u64 fi, .int .u64 la, .int .u64 ad, .int .i64 n, .int .u64 nl, .int .u64 nh, .int .i64 wd, .slice a len c] 29)
    go_enter Trym.func4, Trym.ntmps4
    go_wp2_with fail
    refine (bytes_insert lo hi ba fi la ad n nl nh wd _ len c p u _ (by omega)).mono ?_
    rintro e w1 ⟨rfl, hB1⟩
    rw [hd]
    have hx1 := rowIs_below hB1 (by simp) hx0
    have hbb1 : Below w.heap.size w w1 := hbb0.trans (hB1.mono (by simp))
    clear hB1 hbb0 hx0 hd
    obtain ⟨x0, x1, x2, x3, x4, x5, x6, x7, x8, x9, x10⟩ := box_cells hx1
    go_wp2
    go_ret
    exact ⟨rfl, hbb1⟩
  obtain ⟨q0, q1⟩ := hQ1 (by omega) (by omega)
  clear hQ1
  by_cases c3 : 64 * (len : Int) < Q
  · clear h
    have hx0 := box_new w lo hi ba fi la ad n nl nh wd (.slice a len c)
    have hbb0 : Below w.heap.size w _ := (Below.refl w.heap.size w).alloc (Nat.le_refl _) (.cells #[.int .u64 lo, .int .u64 hi, .int .u64 ba, .int .u64 fi, .int .u64 la, .int .u64 ad, .int .i64 n, .int .u64 nl, .int .u64 nh, .int .i64 wd, .slice a len c] 29)
    go_enter Trym.func4, Trym.ntmps4
    go_wp2_with fail
    refine (bytes_insert lo hi ba fi la ad n nl nh wd _ len c p u _ (by omega)).mono ?_
    rintro e w1 ⟨rfl, hB1⟩
    rw [hd]
    have hx1 := rowIs_below hB1 (by simp) hx0
    have hbb1 : Below w.heap.size w w1 := hbb0.trans (hB1.mono (by simp))
    clear hB1 hbb0 hx0 hd
    obtain ⟨x0, x1, x2, x3, x4, x5, x6, x7, x8, x9, x10⟩ := box_cells hx1
    go_wp2
    go_ret
    exact ⟨rfl, hbb1⟩
  by_cases c4 : p < 0
  · clear h
    have hx0 := box_new w lo hi ba fi la ad n nl nh wd (.slice a len c)
    have hbb0 : Below w.heap.size w _ := (Below.refl w.heap.size w).alloc (Nat.le_refl _) (.cells #[.int .u64 lo, .int .u64 hi, .int .u64 ba, .int .u64 fi, .int .u64 la, .int .u64 ad, .int .i64 n, .int .u64 nl, .int .u64 nh, .int .i64 wd, .slice a len c] 29)
    go_enter Trym.func4, Trym.ntmps4
    go_wp2_with fail
    refine (bytes_insert lo hi ba fi la ad n nl nh wd _ len c p u _ (by omega)).mono ?_
    rintro e w1 ⟨rfl, hB1⟩
    rw [hd]
    have hx1 := rowIs_below hB1 (by simp) hx0
    have hbb1 : Below w.heap.size w w1 := hbb0.trans (hB1.mono (by simp))
    clear hB1 hbb0 hx0 hd
    obtain ⟨x0, x1, x2, x3, x4, x5, x6, x7, x8, x9, x10⟩ := box_cells hx1
    go_wp2
    go_ret
    exact ⟨rfl, hbb1⟩
  by_cases c5 : n < p
  · clear h
    have hx0 := box_new w lo hi ba fi la ad n nl nh wd (.slice a len c)
    have hbb0 : Below w.heap.size w _ := (Below.refl w.heap.size w).alloc (Nat.le_refl _) (.cells #[.int .u64 lo, .int .u64 hi, .int .u64 ba, .int .u64 fi, .int .u64 la, .int .u64 ad, .int .i64 n, .int .u64 nl, .int .u64 nh, .int .i64 wd, .slice a len c] 29)
    go_enter Trym.func4, Trym.ntmps4
    go_wp2_with fail
    refine (bytes_insert lo hi ba fi la ad n nl nh wd _ len c p u _ (by omega)).mono ?_
    rintro e w1 ⟨rfl, hB1⟩
    rw [hd]
    have hx1 := rowIs_below hB1 (by simp) hx0
    have hbb1 : Below w.heap.size w w1 := hbb0.trans (hB1.mono (by simp))
    clear hB1 hbb0 hx0 hd
    obtain ⟨x0, x1, x2, x3, x4, x5, x6, x7, x8, x9, x10⟩ := box_cells hx1
    go_wp2
    go_ret
    exact ⟨rfl, hbb1⟩
  by_cases c6 : u < ba
  · clear h
    have hx0 := box_new w lo hi ba fi la ad n nl nh wd (.slice a len c)
    have hbb0 : Below w.heap.size w _ := (Below.refl w.heap.size w).alloc (Nat.le_refl _) (.cells #[.int .u64 lo, .int .u64 hi, .int .u64 ba, .int .u64 fi, .int .u64 la, .int .u64 ad, .int .i64 n, .int .u64 nl, .int .u64 nh, .int .i64 wd, .slice a len c] 29)
    go_enter Trym.func4, Trym.ntmps4
    go_wp2_with fail
    refine (bytes_insert lo hi ba fi la ad n nl nh wd _ len c p u _ (by omega)).mono ?_
    rintro e w1 ⟨rfl, hB1⟩
    rw [hd]
    have hx1 := rowIs_below hB1 (by simp) hx0
    have hbb1 : Below w.heap.size w w1 := hbb0.trans (hB1.mono (by simp))
    clear hB1 hbb0 hx0 hd
    obtain ⟨x0, x1, x2, x3, x4, x5, x6, x7, x8, x9, x10⟩ := box_cells hx1
    go_wp2
    go_ret
    exact ⟨rfl, hbb1⟩
  have c7 : (T : Int) ≤ u - ba := by omega
  clear h
  have hx0 := box_new w lo hi ba fi la ad n nl nh wd (.slice a len c)
  have hbb0 : Below w.heap.size w _ := (Below.refl w.heap.size w).alloc (Nat.le_refl _) (.cells #[.int .u64 lo, .int .u64 hi, .int .u64 ba, .int .u64 fi, .int .u64 la, .int .u64 ad, .int .i64 n, .int .u64 nl, .int .u64 nh, .int .i64 wd, .slice a len c] 29)
  go_enter Trym.func4, Trym.ntmps4
  go_wp2_with fail
  refine (bytes_insert lo hi ba fi la ad n nl nh wd _ len c p u _ (by omega)).mono ?_
  rintro e w1 ⟨rfl, hB1⟩
  rw [hd]
  have hx1 := rowIs_below hB1 (by simp) hx0
  have hbb1 : Below w.heap.size w w1 := hbb0.trans (hB1.mono (by simp))
  clear hB1 hbb0 hx0 hd
  obtain ⟨x0, x1, x2, x3, x4, x5, x6, x7, x8, x9, x10⟩ := box_cells hx1
  go_wp2
  go_ret
  exact ⟨rfl, hbb1⟩

end Go.Proofs.Qxb6603759aMods
