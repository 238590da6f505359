/-
  SEAT b6603759aM. THE WALK OF trades.shiftUp (25) over a row of the call's own, and of ZZShiftUp (9).
-/
import Derived.Test.Qxb6603759aModsBase
import Derived.RegionTactic
import Derived.ChangeAlike
import Derived.BigRegion
namespace Go.Proofs.Qxb6603759aMods
open Go.RowKit Plain

theorem shStep_val (X Y s : Nat) (hs0 : 0 < s) (hs : s < 64) (hY : Y < 18446744073709551616) : bits BinOp.or IntKind.u64 (IntKind.u64.wrap ((X : Int) * 2 ^ (s % 64))) ((Y : Int) / 2 ^ (-(s : Int) % 64).toNat) = (((X * 2 ^ s % 2 ^ 64) ||| (Y / 2 ^ (64 - s)) : Nat) : Int) := by
  have e1 : s % 64 = s := Nat.mod_eq_of_lt hs
  have e2 : (-(s : Int) % 64).toNat = 64 - s := by omega
  rw [e1, e2, shlorshr_of _ _ _ _ hY]

theorem shEnd_val (X K s : Nat) (hs : s < 64) (hK : K < 18446744073709551616) : bits BinOp.or IntKind.u64 (IntKind.u64.wrap ((X : Int) * 2 ^ (s % 64))) (K : Int) = (((X * 2 ^ s % 2 ^ 64) ||| K : Nat) : Int) := by
  rw [Nat.mod_eq_of_lt hs, shlor_of _ _ _ hK]

theorem rowIs_set' {w : World} {b t n : Nat} {g h : Nat → Value} {v : Value} (hr : w.rowIs b t n g) (i : Nat) (e : ∀ j, j < n → (if j = i then v else g j) = h j) : (w.setCell ⟨b, i, none⟩ v).rowIs b t n h :=
  (hr.set i v).congr e

theorem wv_ite (i k v : Nat) (g : Nat → Nat) : (if i = k then Value.int .u64 ((v : Nat) : Int) else wv g i) = Value.int .u64 (((if i = k then v else g i : Nat)) : Int) := by
  by_cases h : i = k <;> simp [h, wv]

set_option maxHeartbeats 800000 in
theorem shift_any (B n c fr to s : Nat) (f : Nat → Nat) (w : World) (hn : n ≤ 1048576) (hf : Fits f) (h1 : fr ≤ to) (h2 : 0 < s) (h3 : s < 64) (h4 : to + s ≤ 64 * n) (hr : w.rowIs B 27 n (wv f)) (hcn : n ≤ c) :
    Calls Trym.prog 25 #[.slice (some ⟨B, 0, none⟩) n c, .int .i64 fr, .int .i64 to, .int .i64 s] w fun e w' => e = .returned (.tuple #[]) ∧ Only B w w' ∧ w'.rowIs B 27 n (wv (shiftAt f (fr / 64) ((to + s - 1) / 64 + 1) (fr % 64) s)) := by
  have hlt : fr / 64 < n := by omega
  have hx : w.cell? ⟨B, fr / 64, none⟩ = some (.int .u64 ((f (fr/64) : Nat) : Int)) := hr.cell (by omega)
  have hfz := hr.frozen (fr / 64)
  have hk := keep_of (f (fr / 64)) (fr % 64) (hf _) (by omega)
  have hcl := clear_of (f (fr / 64)) (fr % 64) (hf _)
  go_enter Trym.func25, Trym.ntmps25
  go_wp2
  clear hx hfz hcl hk
  go_loopg [12] ((to + s - 1) / 64 - fr / 64) (fun g i wr => ∃ j : Nat, j ≤ (to + s - 1) / 64 - fr / 64 ∧ j = g ∧ i = .int .i64 j ∧ Only B w wr ∧ wr.rowIs B 27 n (wv (shMid f (fr / 64) ((to + s - 1) / 64 + 1) (fr % 64) s j)))
  case atStart =>
    go_light
    refine ⟨_, Nat.le_refl _, rfl, by go_num, (Only.refl _ _).setCell _ _, rowIs_set' hr _ (fun i hi => ?_)⟩
    rw [wv_ite, shMid_start f (fr / 64) ((to + s - 1) / 64 + 1) (fr % 64) s ((to + s - 1) / 64 - fr / 64) i (by omega)]
    rfl
  case round =>
    obtain ⟨j, hj, rfl, rfl, hon, hO⟩ := hrel
    by_cases hj0 : 0 < j
    · obtain ⟨j, rfl⟩ : ∃ i, j = i + 1 := ⟨j - 1, by omega⟩
      obtain ⟨X, hX, HX⟩ : ∃ X : Nat, wr.cell? ⟨B, fr / 64 + (j + 1), none⟩ = some (.int .u64 (X : Int)) ∧ Hid (X = f (fr / 64 + (j + 1))) := ⟨_, hO.cell (by omega), shMid_x _ _ _ _ _ _⟩
      obtain ⟨Y, hY, HY⟩ : ∃ X : Nat, wr.cell? ⟨B, fr / 64 + j, none⟩ = some (.int .u64 (X : Int)) ∧ Hid (X = maskAt f (fr / 64) (fr % 64) (fr / 64 + j)) := ⟨_, hO.cell (by omega), shMid_y _ _ _ _ _ _⟩
      have hfz1 := hO.frozen (fr / 64 + (j + 1))
      have b1 : (j : Int) + 1 < (((to + s - 1) / 64 + 1 - fr / 64 : Nat) : Int) := by omega
      go_wp2
      go_region
      go_wp2
      go_roundg j
      case measure => go_light; omega
      case rel =>
        go_light
        refine ⟨j, by omega, rfl, rfl, (hon.setCell _ _).drew, World.rowIs.drew (rowIs_set' hO _ (fun i hi => ?_))⟩
        have hYl : Y < 18446744073709551616 := by rw [HY.out]; exact maskAt_fits f _ _ hf _
        rw [shStep_val X Y s h2 h3 hYl, wv_ite, HX.out, HY.out, shMid_step f _ _ _ s j i (by omega)]
        rfl
    · have hz : j = 0 := by omega
      subst hz
      obtain ⟨X, hX, HX⟩ : ∃ X : Nat, wr.cell? ⟨B, fr / 64, none⟩ = some (.int .u64 (X : Int)) ∧ Hid (X = clearOf (f (fr / 64)) (fr % 64)) := ⟨_, hO.cell (by omega), by unfold Hid shMid; rw [if_pos rfl]⟩
      have hfz1 := hO.frozen (fr / 64)
      go_wp2
      go_end0
      go_light
      refine ⟨rfl, hon.setCell _ _, rowIs_set' hO _ (fun i hi => ?_)⟩
      rw [shEnd_val X _ s h3 (keep_lt _ _ (hf _)), wv_ite, HX.out, shMid_end f _ _ _ s i (by omega)]
      rfl

theorem zzshift_any (B n c fr to s : Nat) (f : Nat → Nat) (w : World) (hn : n ≤ 1048576) (hf : Fits f) (h1 : fr ≤ to) (h2 : 0 < s) (h3 : s < 64) (h4 : to + s ≤ 64 * n) (hr : w.rowIs B 27 n (wv f)) (hcn : n ≤ c) :
    Calls Trym.prog 9 #[.slice (some ⟨B, 0, none⟩) n c, .int .i64 fr, .int .i64 to, .int .i64 s] w fun e w' => e = .returned (.tuple #[]) ∧ Only B w w' ∧ w'.rowIs B 27 n (wv (shiftAt f (fr / 64) ((to + s - 1) / 64 + 1) (fr % 64) s)) := by
  go_enter Trym.func9, Trym.ntmps9
  go_wp2_with fail
  refine (shift_any B n c fr to s f w hn hf h1 h2 h3 h4 hr hcn).mono ?_
  rintro e w' ⟨rfl, ho, hr'⟩
  go_wp2
  go_end0
  exact ⟨rfl, ho, hr'⟩

end Go.Proofs.Qxb6603759aMods
