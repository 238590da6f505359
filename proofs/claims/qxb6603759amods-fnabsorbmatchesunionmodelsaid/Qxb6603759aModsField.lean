/-
  SEAT b6603759aM. zzField (16), setOffset (31).
-/
import Derived.Test.Qxb6603759aModsLeaf
import Derived.Test.Qxb6603759aModsPlainIns
namespace Go.Proofs.Qxb6603759aMods
open Go.RowKit Plain

theorem or_pow (x b : Nat) (hx : x < 18446744073709551616) (hb : b < 64) : bits BinOp.or IntKind.u64 (x : Int) (IntKind.u64.wrap (2 ^ b)) = ((x ||| 2 ^ b : Nat) : Int) := by
  have h1 : 2 ^ b ≤ 2 ^ 63 := Nat.pow_le_pow_right (by decide) (by omega)
  have e : IntKind.u64.wrap (2 ^ b) = ((2 ^ b : Nat) : Int) := by
    have e2 : (2 : Int) ^ b = ((2 ^ b : Nat) : Int) := by simp
    rw [e2, IntKind.wrap_u64]
    generalize 2 ^ b = q at *
    omega
  rw [e, or_of _ _ hx (by omega)]

set_option maxHeartbeats 800000 in
theorem field_any (b off n c wd i q : Nat) (f : Nat → Nat) (w : World) (hq : (i : Int) * (wd : Int) = (q : Int)) (hw : wd < 64) (hi : q + wd ≤ 64 * n) (hn : n ≤ 1048576) (hf : Fits f) (hc : ∀ i, i < n → w.cell? ⟨b, off + i, none⟩ = some (wv f i)) :
    Calls Trym.prog 16 #[.slice (some ⟨b, off, none⟩) n c, .int .i64 wd, .int .i64 i] w fun e w' => e = .returned (.int .u64 (fieldTo f q wd : Nat)) ∧ w' = w := by
  go_enter Trym.func16, Trym.ntmps16
  go_wp2
  go_loopg [7, 8] wd (fun g v j wr => ∃ k : Nat, k ≤ wd ∧ g = wd - k ∧ j = .int .i64 k ∧ v = .int .u64 (fieldTo f q k : Nat) ∧ wr = w)
  case atStart => exact ⟨0, Nat.zero_le _, rfl, rfl, rfl, rfl⟩
  case round =>
    obtain ⟨k, hk, rfl, rfl, rfl, rfl⟩ := hrel
    by_cases hlt : k < wd
    · go_wp2_with fail
      rw [show ((q : Int) + (k : Int)) = ((q + k : Nat) : Int) from by omega]
      refine (bit_any b off n c (q + k) f _ (by omega) hn hf hc).mono ?_
      rintro e w3 ⟨rfl, rfl⟩
      have hv := or_pow (fieldTo f q k) k (fieldTo_lt f q k (by omega)) (by omega)
      by_cases hb : wbit f (q + k) = true
      · have HB : Hid (fieldTo f q (k + 1) = fieldTo f q k ||| 2 ^ k) := by unfold Hid; rw [fieldTo, if_pos hb]
        go_wp2
        go_roundg (wd - (k + 1))
        case measure => go_light; omega
        case rel => exact ⟨k + 1, by omega, rfl, by go_num, by rw [HB.out], rfl⟩
      · have HB : Hid (fieldTo f q (k + 1) = fieldTo f q k) := by unfold Hid; rw [fieldTo, if_neg hb]
        have hb' : wbit f (q + k) = false := by simpa using hb
        go_wp2
        go_roundg (wd - (k + 1))
        case measure => go_light; omega
        case rel => exact ⟨k + 1, by omega, rfl, by go_num, by rw [HB.out], rfl⟩
    · go_wp2
      go_ret
      obtain rfl : k = wd := by omega
      exact ⟨rfl, rfl⟩

theorem mask_of (wd : Nat) (hw : wd < 64) : IntKind.u64.wrap (IntKind.u64.wrap (2 ^ wd) - 1) = ((2 ^ wd - 1 : Nat) : Int) := by
  have h1 : 2 ^ wd ≤ 2 ^ 63 := Nat.pow_le_pow_right (by decide) (by omega)
  have h2 : 0 < 2 ^ wd := Nat.two_pow_pos _
  have e2 : (2 : Int) ^ wd = ((2 ^ wd : Nat) : Int) := by simp
  rw [e2, IntKind.wrap_u64, IntKind.wrap_u64]
  generalize 2 ^ wd = q at *
  omega

theorem strike_of (x m : Nat) (hx : x < 18446744073709551616) (hm : m < 18446744073709551616) : bits BinOp.andNot IntKind.u64 (x : Int) (m : Int) = ((strike x m : Nat) : Int) := u64_andNot_nat x m hx hm

theorem setA_val (x o wd m : Nat) (hx : x < 18446744073709551616) (hw : wd < 64) :
    bits BinOp.or IntKind.u64 (bits BinOp.andNot IntKind.u64 (x : Int) (IntKind.u64.wrap (IntKind.u64.wrap (IntKind.u64.wrap (2 ^ wd) - 1) * 2 ^ m))) (IntKind.u64.wrap ((o : Int) * 2 ^ m)) = ((strike x ((2 ^ wd - 1) * 2 ^ m % 2 ^ 64) ||| (o * 2 ^ m % 2 ^ 64) : Nat) : Int) := by
  rw [mask_of wd hw, shl_of, shl_of, strike_of _ _ hx (Nat.mod_lt _ (by decide)), or_of _ _ (strike_lt _ _ hx) (Nat.mod_lt _ (by decide))]

theorem setB_val (x o wd m : Nat) (hx : x < 18446744073709551616) (ho : o < 18446744073709551616) (hw : wd < 64) :
    bits BinOp.or IntKind.u64 (bits BinOp.andNot IntKind.u64 (x : Int) (IntKind.u64.wrap (IntKind.u64.wrap (2 ^ wd) - 1) / 2 ^ m)) ((o : Int) / 2 ^ m) = ((strike x ((2 ^ wd - 1) / 2 ^ m) ||| (o / 2 ^ m) : Nat) : Int) := by
  have e1 : (((2 ^ wd - 1 : Nat) : Int) / 2 ^ m) = (((2 ^ wd - 1) / 2 ^ m : Nat) : Int) := by simp
  have e2 : ((o : Int) / 2 ^ m) = ((o / 2 ^ m : Nat) : Int) := by simp
  rw [mask_of wd hw, e1, e2, strike_of _ _ hx (Nat.lt_of_le_of_lt (Nat.div_le_self _ _) (mask_lt wd hw)), or_of _ _ (strike_lt _ _ hx) (Nat.lt_of_le_of_lt (Nat.div_le_self _ _) ho)]

set_option maxRecDepth 100000 in
set_option maxHeartbeats 1600000 in
theorem setOffset_lo (BL BP n wd i q : Nat) (o : Nat) (lo hi ba fi la ad nn nl nh : Int) (f : Nat → Nat) (w : World) (hq : (i : Int) * (wd : Int) = (q : Int)) (hw0 : 0 < wd) (hw : wd < 64) (hi' : q + wd ≤ 64 * n) (hn : n ≤ 1048576) (hf : Fits f) (_ho : o < 2 ^ wd) (hne : BL ≠ BP)
    (hl : w.rowIs BL 51 12 (leafF lo hi ba fi la ad nn nl nh wd (.slice (some ⟨BP, 0, none⟩) n n))) (hr : w.rowIs BP 27 n (wv f)) (hlow : q % 64 + wd ≤ 64) :
    Calls Trym.prog 31 #[.pointer (some ⟨BL, 0, none⟩), .int .i64 i, .int .u64 o] w fun e w' => e = .returned (.tuple #[]) ∧ Only BP w w' ∧ w'.rowIs BP 27 n (wv (setF f q wd o)) := by
  have g10 : w.cell? ⟨BL, 10, none⟩ = some (.int .i64 wd) := hl.cell (i := 10) (by omega)
  have g11 : w.cell? ⟨BL, 11, none⟩ = some (.slice (some ⟨BP, 0, none⟩) n n) := hl.cell (i := 11) (by omega)
  have r0 : w.cell? ⟨BP, q / 64, none⟩ = some (.int .u64 ((f (q / 64) : Nat) : Int)) := hr.cell (by omega)
  have z0 := hr.frozen (q / 64)
  have b0 : (q : Int) / 64 < (n : Int) := by omega
  go_enter Trym.func31, Trym.ntmps31
  go_wp2
  go_region
  go_wp2
  go_end0
  go_light
  rw [setA_val _ o wd _ (hf _) hw]
  refine ⟨rfl, ((Only.refl _ _).setCell _ _).drew, World.rowIs.drew (rowIs_set' hr _ (fun j hj => ?_))⟩
  rw [wv_ite]
  unfold wv setF
  by_cases e : j = q / 64
  · rw [if_pos e, if_pos e, e]
  · rw [if_neg e, if_neg e, if_neg (by omega)]

set_option maxRecDepth 100000 in
set_option maxHeartbeats 1600000 in
theorem setOffset_hi (BL BP n wd i q : Nat) (o : Nat) (lo hi ba fi la ad nn nl nh : Int) (f : Nat → Nat) (w : World) (hq : (i : Int) * (wd : Int) = (q : Int)) (hw0 : 0 < wd) (hw : wd < 64) (hi' : q + wd ≤ 64 * n) (hn : n ≤ 1048576) (hf : Fits f) (ho : o < 2 ^ wd) (hne : BL ≠ BP)
    (hl : w.rowIs BL 51 12 (leafF lo hi ba fi la ad nn nl nh wd (.slice (some ⟨BP, 0, none⟩) n n))) (hr : w.rowIs BP 27 n (wv f)) (hhigh : 64 < q % 64 + wd) :
    Calls Trym.prog 31 #[.pointer (some ⟨BL, 0, none⟩), .int .i64 i, .int .u64 o] w fun e w' => e = .returned (.tuple #[]) ∧ Only BP w w' ∧ w'.rowIs BP 27 n (wv (setF f q wd o)) := by
  have g10 : w.cell? ⟨BL, 10, none⟩ = some (.int .i64 wd) := hl.cell (i := 10) (by omega)
  have g11 : w.cell? ⟨BL, 11, none⟩ = some (.slice (some ⟨BP, 0, none⟩) n n) := hl.cell (i := 11) (by omega)
  have r0 : w.cell? ⟨BP, q / 64, none⟩ = some (.int .u64 ((f (q / 64) : Nat) : Int)) := hr.cell (by omega)
  have z0 := hr.frozen (q / 64)
  have r1 : w.cell? ⟨BP, q / 64 + 1, none⟩ = some (.int .u64 ((f (q / 64 + 1) : Nat) : Int)) := hr.cell (by omega)
  have z1 := hr.frozen (q / 64 + 1)
  have b0 : (q : Int) / 64 < (n : Int) := by omega
  have b1 : (q : Int) / 64 + 1 < (n : Int) := by omega
  go_enter Trym.func31, Trym.ntmps31
  go_wp2
  go_region
  go_wp2
  go_region
  go_wp2
  go_end0
  go_light
  have hp64 : 2 ^ wd ≤ 2 ^ 64 := Nat.pow_le_pow_right (by decide) (by omega)
  have ho64 : o < 18446744073709551616 := by omega
  rw [setA_val _ o wd _ (hf _) hw, setB_val _ o wd _ (hf _) ho64 hw]
  refine ⟨rfl, (((Only.refl _ _).setCell _ _).setCell _ _).drew.drew, World.rowIs.drew (World.rowIs.drew (((hr.set _ _).set _ _).congr (fun j hj => ?_)))⟩
  unfold wv setF
  by_cases e : j = q / 64
  · rw [if_neg (by omega), if_pos e, if_pos e, e]
  · rw [if_neg e]
    by_cases e2 : j = q / 64 + 1
    · rw [if_pos e2, if_neg e, if_pos ⟨e2, hhigh⟩, e2]
    · rw [if_neg e2, if_neg e, if_neg (by omega)]

theorem setOffset_any (BL BP n wd i q : Nat) (o : Nat) (lo hi ba fi la ad nn nl nh : Int) (f : Nat → Nat) (w : World) (hq : (i : Int) * (wd : Int) = (q : Int)) (hw0 : 0 < wd) (hw : wd < 64) (hi' : q + wd ≤ 64 * n) (hn : n ≤ 1048576) (hf : Fits f) (ho : o < 2 ^ wd) (hne : BL ≠ BP)
    (hl : w.rowIs BL 51 12 (leafF lo hi ba fi la ad nn nl nh wd (.slice (some ⟨BP, 0, none⟩) n n))) (hr : w.rowIs BP 27 n (wv f)) :
    Calls Trym.prog 31 #[.pointer (some ⟨BL, 0, none⟩), .int .i64 i, .int .u64 o] w fun e w' => e = .returned (.tuple #[]) ∧ Only BP w w' ∧ w'.rowIs BP 27 n (wv (setF f q wd o)) := by
  by_cases h : q % 64 + wd ≤ 64
  · exact setOffset_lo BL BP n wd i q o lo hi ba fi la ad nn nl nh f w hq hw0 hw hi' hn hf ho hne hl hr h
  · exact setOffset_hi BL BP n wd i q o lo hi ba fi la ad nn nl nh f w hq hw0 hw hi' hn hf ho hne hl hr (by omega)

end Go.Proofs.Qxb6603759aMods
