/-
  SEAT b6603759aM. THE SMALL CALLEES OF THE LAW FnAbsorbMatchesUnionModel: zzBitU (24), zzHeldAt (23), zzMaxOf (22), top (32), zzSameWords (30), zzSameLeaf (21), zzBytes (19), zzMake (12) whatever its slice.
-/
import Derived.Test.Qxb6603759aModsInsLawBits
import Derived.Test.Qxb6603759aModsOpen
import Derived.Test.Qxb6603759aModsPlainAbs
namespace Go.Proofs.Qxb6603759aMods
open Go.RowKit Plain

set_option maxHeartbeats 400000 in
theorem bitU_any (b off n c k : Nat) (f : Nat → Nat) (w : World) (hk : k < 64 * n) (hn : n ≤ 1048576) (hf : Fits f) (hc : ∀ i, i < n → w.cell? ⟨b, off + i, none⟩ = some (wv f i)) :
    Calls Trym.prog 24 #[.slice (some ⟨b, off, none⟩) n c, .int .u64 k] w fun e w' => e = .returned (.bool (wbit f k)) ∧ w' = w := by
  have hc1 : w.cell? ⟨b, off + k / 64, none⟩ = some (.int .u64 ((f (k / 64) : Nat) : Int)) := hc (k / 64) (by omega)
  have hb := bit_of (f (k / 64)) (k % 64) (hf _)
  have HB : Hid ((bits BinOp.and IntKind.u64 ((f (k / 64) : Int) / 2 ^ (k % 64)) 1 == 1) = (f (k / 64)).testBit (k % 64)) := hb
  clear hb hc
  go_enter Trym.func24, Trym.ntmps24
  go_wp2
  go_ret
  exact ⟨ret_bool HB.out, rfl⟩

set_option maxHeartbeats 400000 in
theorem heldAt_any (b off n c d j : Nat) (f : Nat → Nat) (w : World) (hn : n ≤ 1048576) (hd : d < 18446744073709551616) (hj : j < 18446744073709551616) (hf : Fits f) (hc : ∀ i, i < n → w.cell? ⟨b, off + i, none⟩ = some (wv f i)) :
    Calls Trym.prog 23 #[.slice (some ⟨b, off, none⟩) n c, .int .u64 d, .int .u64 j] w fun e w' => e = .returned (.bool (held f n d j)) ∧ w' = w := by
  by_cases c1 : j < d
  · have HH : Hid (held f n d j = false) := by
      have h0 : ¬ (d ≤ j ∧ j - d < 64 * n) := by omega
      unfold Hid held; rw [decide_eq_false h0]; rfl
    clear hc
    go_enter Trym.func23, Trym.ntmps23
    go_wp2
    go_ret
    exact ⟨ret_bool HH.out.symm, rfl⟩
  by_cases c2 : j - d < 64 * n
  · have HH : Hid (held f n d j = wbit f (j - d)) := by
      have h0 : d ≤ j ∧ j - d < 64 * n := by omega
      unfold Hid held; rw [decide_eq_true h0]; rfl
    go_enter Trym.func23, Trym.ntmps23
    go_wp2_with fail
    rw [show ((j : Int) - (d : Int)) = ((j - d : Nat) : Int) from by omega]
    refine (bitU_any b off n c (j - d) f w c2 hn hf hc).mono ?_
    rintro e w' ⟨rfl, rfl⟩
    go_wp2
    go_ret
    exact ⟨ret_bool HH.out.symm, rfl⟩
  · have HH : Hid (held f n d j = false) := by
      have h0 : ¬ (d ≤ j ∧ j - d < 64 * n) := by omega
      unfold Hid held; rw [decide_eq_false h0]; rfl
    have c3 : 64 * (n : Int) ≤ (j : Int) - (d : Int) := by omega
    clear hc
    go_enter Trym.func23, Trym.ntmps23
    go_wp2
    go_ret
    exact ⟨ret_bool HH.out.symm, rfl⟩

theorem maxOf_any (a b : Int) (w : World) : Calls Trym.prog 22 #[.int .u64 a, .int .u64 b] w fun e w' => e = .returned (.int .u64 (max a b)) ∧ w' = w := by
  by_cases h : b < a
  · go_enter Trym.func22, Trym.ntmps22
    go_wp2
    go_ret
    exact ⟨ret_int (by omega), rfl⟩
  · go_enter Trym.func22, Trym.ntmps22
    go_wp2
    go_ret
    exact ⟨ret_int (by omega), rfl⟩

theorem top_wrap (ba : Int) (n : Nat) (h0 : 0 ≤ ba) (h1 : ba + 64 * (n : Int) - 1 < 18446744073709551616) (hn : 0 < n) : IntKind.u64.wrap (IntKind.u64.wrap (ba + (n : Int) * 64) - 1) = ba + 64 * (n : Int) - 1 := by
  rw [IntKind.wrap_u64, IntKind.wrap_u64]; omega

set_option maxRecDepth 100000 in
set_option maxHeartbeats 800000 in
theorem top_any (B n : Nat) (a : Option Addr) (c LT : Nat) (lo hi ba fi la ad nn nl nh wd : Int) (w : World) (hn0 : 0 < n) (hn : n ≤ 1048576) (h0 : 0 ≤ ba) (hL : ba + 64 * (n : Int) - 1 = (LT : Int)) (h1 : LT < 18446744073709551616) (hr : w.rowIs B 51 12 (leafF lo hi ba fi la ad nn nl nh wd (.slice a n c))) :
    Calls Trym.prog 32 #[.pointer (some ⟨B, 0, none⟩)] w fun e w' => e = .returned (.int .u64 LT) ∧ ∃ nq, w' = w.drewN nq := by
  have g2 : w.cell? ⟨B, 2, none⟩ = some (.int .u64 ba) := hr.cell (i := 2) (by omega)
  have g11 : w.cell? ⟨B, 11, none⟩ = some (.slice a n c) := hr.cell (i := 11) (by omega)
  have hw := top_wrap ba n h0 (by omega) hn0
  rw [hL] at hw
  have HW : Hid (IntKind.u64.wrap (IntKind.u64.wrap (ba + (n : Int) * 64) - 1) = (LT : Int)) := hw
  clear hr hw hL
  go_enter Trym.func32, Trym.ntmps32
  go_wp2
  go_quiet (fail)
  go_wp2
  go_ret
  exact ⟨ret_int HW.out, _, rfl⟩

theorem bytes_absorb (lo hi ba fi la ad n nl nh wd lo' hi' ba' fi' la' ad' n' nl' nh' wd' : Int) (a a' : Option Addr) (len c len' c' : Nat) (w : World) (hl : len ≤ 9223372036854775807) (hl' : len' ≤ 9223372036854775807) :
    Calls Trym.prog 19 #[.agg #[.int .u64 lo, .int .u64 hi, .int .u64 ba, .int .u64 fi, .int .u64 la, .int .u64 ad, .int .i64 n, .int .u64 nl, .int .u64 nh, .int .i64 wd, .slice a len c], .agg #[.int .u64 lo', .int .u64 hi', .int .u64 ba', .int .u64 fi', .int .u64 la', .int .u64 ad', .int .i64 n', .int .u64 nl', .int .u64 nh', .int .i64 wd', .slice a' len' c']] w fun e w' => e = .returned (.bool (decide (len + len' ≤ 1048576))) ∧ Below w.heap.size w w' := by
  by_cases h : len + len' ≤ 1048576
  · go_enter Trym.func19, Trym.ntmps19
    go_wp2
    go_ret
    exact ⟨ret_bool (by simp [h]), (((Below.refl _ _).alloc (Nat.le_refl _) _).alloc (by simp) _)⟩
  · by_cases h1 : len ≤ 1048576
    · by_cases h2 : len' ≤ 1048576
      · go_enter Trym.func19, Trym.ntmps19
        go_wp2
        go_ret
        exact ⟨ret_bool (by simp [h]), (((Below.refl _ _).alloc (Nat.le_refl _) _).alloc (by simp) _)⟩
      · go_enter Trym.func19, Trym.ntmps19
        go_wp2
        go_ret
        exact ⟨ret_bool (by simp [h]), (((Below.refl _ _).alloc (Nat.le_refl _) _).alloc (by simp) _)⟩
    · go_enter Trym.func19, Trym.ntmps19
      go_wp2
      go_ret
      exact ⟨ret_bool (by simp [h]), (((Below.refl _ _).alloc (Nat.le_refl _) _).alloc (by simp) _)⟩

theorem sameWords_nil (w : World) : Calls Trym.prog 30 #[.slice none 0 0, .slice none 0 0] w fun e w' => e = .returned (.bool true) ∧ ∃ nq, w' = w.drewN nq := by
  have hsn := fun (w : World) (a : Option Addr) (n c : Nat) => Lib.run_eql_slice_nil (P := Trym.prog) w 22 27 a n c 0 0 Trym.underlying22
  go_enter Trym.func30, Trym.ntmps30
  go_wp2
  go_loopg [5] 0 (fun gh i wr => gh = 0 ∧ i = .int .i64 0 ∧ wr = w)
  case atStart => exact ⟨rfl, rfl, rfl⟩
  case round =>
    obtain ⟨rfl, rfl, rfl⟩ := hrel
    go_wp2
    go_ret
    exact ⟨rfl, 0, rfl⟩

set_option maxHeartbeats 800000 in
theorem sameWords_some (x1 x2 : Addr) (n c1 c2 b1 o1 b2 o2 : Nat) (f : Nat → Nat) (w : World) (hn : n ≤ 1048576) (h1 : 0 < n → x1 = ⟨b1, o1, none⟩) (h2 : 0 < n → x2 = ⟨b2, o2, none⟩) (hc1 : ∀ i, i < n → w.cell? ⟨b1, o1 + i, none⟩ = some (wv f i)) (hc2 : ∀ i, i < n → w.cell? ⟨b2, o2 + i, none⟩ = some (wv f i)) :
    Calls Trym.prog 30 #[.slice (some x1) n c1, .slice (some x2) n c2] w fun e w' => e = .returned (.bool true) ∧ ∃ nq, w' = w.drewN nq := by
  have hsn := fun (w : World) (a : Option Addr) (n c : Nat) => Lib.run_eql_slice_nil (P := Trym.prog) w 22 27 a n c 0 0 Trym.underlying22
  go_enter Trym.func30, Trym.ntmps30
  go_wp2
  clear hsn
  go_loopg [5] n (fun gh i wr => ∃ k nq : Nat, k ≤ n ∧ gh = n - k ∧ i = .int .i64 k ∧ wr = w.drewN nq)
  case atStart => exact ⟨0, 0, Nat.zero_le _, rfl, rfl, rfl⟩
  case round =>
    obtain ⟨k, nq, hk, rfl, rfl, rfl⟩ := hrel
    by_cases hlt : k < n
    · obtain rfl := h1 (by omega)
      obtain rfl := h2 (by omega)
      have g1 : w.cell? ⟨b1, o1 + k, none⟩ = some (.int .u64 ((f k : Nat) : Int)) := hc1 k hlt
      have g2 : w.cell? ⟨b2, o2 + k, none⟩ = some (.int .u64 ((f k : Nat) : Int)) := hc2 k hlt
      have hkn : (k : Int) < (n : Int) := by omega
      clear hc1 hc2 h1 h2
      go_wp2
      go_quiet (fail)
      go_wp2
      go_roundg (n - (k + 1))
      case measure => go_light; omega
      case rel => exact ⟨k + 1, _, by omega, rfl, by go_num, rfl⟩
    · go_wp2
      go_ret
      exact ⟨rfl, nq, rfl⟩

/-- TWO SLICES THAT READ ALIKE: both nil, or neither, of one length and the same words. -/
structure Twin (w : World) (a1 a2 : Option Addr) (n c1 c2 b1 o1 b2 o2 : Nat) (f : Nat → Nat) : Prop where
  nils : (a1 = none ∧ a2 = none ∧ n = 0 ∧ c1 = 0 ∧ c2 = 0) ∨ ∃ x1 x2, a1 = some x1 ∧ a2 = some x2
  addr1 : 0 < n → a1 = some ⟨b1, o1, none⟩
  addr2 : 0 < n → a2 = some ⟨b2, o2, none⟩
  cell1 : ∀ i, i < n → w.cell? ⟨b1, o1 + i, none⟩ = some (wv f i)
  cell2 : ∀ i, i < n → w.cell? ⟨b2, o2 + i, none⟩ = some (wv f i)

theorem Twin.below {w w' : World} {a1 a2 : Option Addr} {n c1 c2 b1 o1 b2 o2 : Nat} {f : Nat → Nat} (h : Twin w a1 a2 n c1 c2 b1 o1 b2 o2 f) (hb : Below w.heap.size w w') : Twin w' a1 a2 n c1 c2 b1 o1 b2 o2 f :=
  ⟨h.nils, h.addr1, h.addr2, fun i hi => by rw [hb.cell (p := ⟨b1, o1 + i, none⟩) (World.block_lt_of_cell? _ _ (h.cell1 i hi))]; exact h.cell1 i hi, fun i hi => by rw [hb.cell (p := ⟨b2, o2 + i, none⟩) (World.block_lt_of_cell? _ _ (h.cell2 i hi))]; exact h.cell2 i hi⟩

theorem sameWords_any (a1 a2 : Option Addr) (n c1 c2 b1 o1 b2 o2 : Nat) (f : Nat → Nat) (w : World) (hn : n ≤ 1048576) (h : Twin w a1 a2 n c1 c2 b1 o1 b2 o2 f) :
    Calls Trym.prog 30 #[.slice a1 n c1, .slice a2 n c2] w fun e w' => e = .returned (.bool true) ∧ ∃ nq, w' = w.drewN nq := by
  rcases h.nils with ⟨rfl, rfl, rfl, rfl, rfl⟩ | ⟨x1, x2, rfl, rfl⟩
  · exact sameWords_nil w
  · exact sameWords_some x1 x2 n c1 c2 b1 o1 b2 o2 f w hn (fun h0 => Option.some.inj (h.addr1 h0)) (fun h0 => Option.some.inj (h.addr2 h0)) h.cell1 h.cell2

set_option maxRecDepth 100000 in
set_option maxHeartbeats 1600000 in
theorem sameLeaf_any (lo hi ba fi la ad n nl nh wd : Int) (a1 a2 : Option Addr) (len c1 c2 b1 o1 b2 o2 : Nat) (f : Nat → Nat) (w : World) (hn : len ≤ 1048576) (h : Twin w a1 a2 len c1 c2 b1 o1 b2 o2 f) :
    Calls Trym.prog 21 #[.agg #[.int .u64 lo, .int .u64 hi, .int .u64 ba, .int .u64 fi, .int .u64 la, .int .u64 ad, .int .i64 n, .int .u64 nl, .int .u64 nh, .int .i64 wd, .slice a1 len c1], .agg #[.int .u64 lo, .int .u64 hi, .int .u64 ba, .int .u64 fi, .int .u64 la, .int .u64 ad, .int .i64 n, .int .u64 nl, .int .u64 nh, .int .i64 wd, .slice a2 len c2]] w fun e w' => e = .returned (.bool true) ∧ Below w.heap.size w w' := by
  have HT : ∀ x y, Hid (Twin ((w.alloc x).alloc y) a1 a2 len c1 c2 b1 o1 b2 o2 f) := fun x y => h.below (((Below.refl _ _).alloc (Nat.le_refl _) x).alloc (by simp) y)
  clear h
  go_enter Trym.func21, Trym.ntmps21
  go_wp2_with fail
  refine (sameWords_any a1 a2 len c1 c2 b1 o1 b2 o2 f _ hn (HT _ _).out).mono ?_
  rintro e w1 ⟨rfl, nq, rfl⟩
  go_wp2
  go_ret
  exact ⟨rfl, belowDrewN (((Below.refl _ _).alloc (Nat.le_refl _) _).alloc (by simp) _) nq⟩

/-- WHAT zzMake LEAVES, whatever the slice. -/
structure MadeAny (w w' : World) (a a' : Option Addr) (len c c' b off bl bp : Nat) (g : Nat → Value) (f : Nat → Nat) : Prop where
  below : Below w.heap.size w w'
  leaf : w'.rowIs bl 51 12 g
  lb : w.heap.size ≤ bl
  twin : Twin w' a' a len c' c bp 0 b off f

theorem leaf_new2 (w : World) (o : Obj) (lo hi ba fi la ad n nl nh wd : Int) (pk : Value) :
    ((w.alloc o).alloc (.cells #[.int .u64 lo, .int .u64 hi, .int .u64 ba, .int .u64 fi, .int .u64 la, .int .u64 ad, .int .i64 n, .pointer none, .int .u64 nl, .int .u64 nh, .int .i64 wd, pk] 51)).rowIs (w.heap.size + 1) 51 12 (leafF lo hi ba fi la ad n nl nh wd pk) := by
  have h := leaf_new (w.alloc o) lo hi ba fi la ad n nl nh wd pk
  rwa [show (w.alloc o).heap.size = w.heap.size + 1 from by simp] at h

set_option maxRecDepth 100000 in
set_option maxHeartbeats 3200000 in
theorem make_nil (lo hi ba fi la ad n nl nh wd : Int) (w : World) :
    Calls Trym.prog 12 #[.agg #[.int .u64 lo, .int .u64 hi, .int .u64 ba, .int .u64 fi, .int .u64 la, .int .u64 ad, .int .i64 n, .int .u64 nl, .int .u64 nh, .int .i64 wd, .slice none 0 0]] w fun e w' => ∃ bl, e = .returned (.pointer (some ⟨bl, 0, none⟩)) ∧ Below w.heap.size w w' ∧ w'.rowIs bl 51 12 (leafF lo hi ba fi la ad n nl nh wd (.slice none 0 0)) ∧ w.heap.size ≤ bl := by
  go_enter Trym.func12, Trym.ntmps12
  go_wp2_with fail
  go_region_held3 (fun w' => w'.cell? ⟨w.heap.size, 0, none⟩ = some (.int .u64 lo) ∧ w'.cell? ⟨w.heap.size, 1, none⟩ = some (.int .u64 hi) ∧ w'.cell? ⟨w.heap.size, 2, none⟩ = some (.int .u64 ba) ∧ w'.cell? ⟨w.heap.size, 3, none⟩ = some (.int .u64 fi) ∧ w'.cell? ⟨w.heap.size, 4, none⟩ = some (.int .u64 la) ∧ w'.cell? ⟨w.heap.size, 5, none⟩ = some (.int .u64 ad) ∧ w'.cell? ⟨w.heap.size, 6, none⟩ = some (.int .i64 n) ∧ w'.cell? ⟨w.heap.size, 7, none⟩ = some (.int .u64 nl) ∧ w'.cell? ⟨w.heap.size, 8, none⟩ = some (.int .u64 nh) ∧ w'.cell? ⟨w.heap.size, 9, none⟩ = some (.int .i64 wd) ∧ w'.cell? ⟨w.heap.size, 10, none⟩ = some (.slice none 0 0)) (go_keep)
    (first
      | (go_at_call 8; refine (clone_nil _).mono ?_; rintro e w1 ⟨rfl, hw1⟩; subst hw1)
      | (go_at_call 26; refine (makeLeaf_any _ _ _ _ _ _ _ _ _ _ _ _ _ _).mono ?_; rintro e w2 ⟨rfl, hw2⟩; subst hw2))
  go_wp2
  go_ret
  go_light
  exact ⟨w.heap.size + 1, rfl, ((((Below.refl _ _).alloc (Nat.le_refl _) _).alloc (by simp) _)).drew, (leaf_new2 w _ lo hi ba fi la ad n nl nh wd (.slice none 0 0)).drew, by omega⟩

theorem make_any (lo hi ba fi la ad n nl nh wd : Int) (a : Option Addr) (len c b off : Nat) (f : Nat → Nat) (w : World) (hl : len ≤ 1048576) (hw : Words w a len c b off f) :
    Calls Trym.prog 12 #[.agg #[.int .u64 lo, .int .u64 hi, .int .u64 ba, .int .u64 fi, .int .u64 la, .int .u64 ad, .int .i64 n, .int .u64 nl, .int .u64 nh, .int .i64 wd, .slice a len c]] w fun e w' => ∃ bl bp a' c', e = .returned (.pointer (some ⟨bl, 0, none⟩)) ∧ MadeAny w w' a a' len c c' b off bl bp (leafF lo hi ba fi la ad n nl nh wd (.slice a' len c')) f := by
  cases a with
  | none =>
    obtain ⟨rfl, rfl⟩ := hw.nil rfl
    refine (make_nil lo hi ba fi la ad n nl nh wd w).mono ?_
    rintro e w' ⟨bl, rfl, hb, hr, hlb⟩
    exact ⟨bl, 0, none, 0, rfl, hb, hr, hlb, .inl ⟨rfl, rfl, rfl, rfl, rfl⟩, fun h => absurd h (by omega), fun h => absurd h (by omega), fun i hi => absurd hi (by omega), fun i hi => absurd hi (by omega)⟩
  | some x =>
    refine (make_some lo hi ba fi la ad n nl nh wd x b off len c f w hl (fun h => Option.some.inj (hw.addr h)) hw.cell).mono ?_
    rintro e w' ⟨rfl, hM⟩
    refine ⟨w.heap.size + 2, w.heap.size + 1, some ⟨w.heap.size + 1, 0, none⟩, len, rfl, hM.below, hM.leaf, by omega, .inr ⟨_, _, rfl, rfl⟩, fun _ => rfl, fun h => hw.addr h, fun i hi => ?_, fun i hi => ?_⟩
    · rw [Nat.zero_add]; exact hM.row.cell hi
    · rw [hM.below.cell (p := ⟨b, off + i, none⟩) (World.block_lt_of_cell? _ _ (hw.cell i hi))]; exact hw.cell i hi

end Go.Proofs.Qxb6603759aMods
