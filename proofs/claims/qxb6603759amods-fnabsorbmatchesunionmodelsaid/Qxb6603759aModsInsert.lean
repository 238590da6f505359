/-
  SEAT b6603759aM. (*idLeaf).insert (27), both kinds of leaf; ZZInsert (13).
-/
import Derived.Test.Qxb6603759aModsField
import Derived.Test.Qxb6603759aModsRead
namespace Go.Proofs.Qxb6603759aMods
open Go.RowKit Plain
/-- A leaf whose first, added and n are written anew. -/
theorem leaf_set3 {w : World} {BL : Nat} {lo hi ba fi la ad n nl nh wd : Int} {pk : Value} (fi' ad' n' : Int) (h : w.rowIs BL 51 12 (leafF lo hi ba fi la ad n nl nh wd pk)) :
    (((w.setCell ⟨BL, 3, none⟩ (.int .u64 fi')).setCell ⟨BL, 6, none⟩ (.int .i64 n')).setCell ⟨BL, 5, none⟩ (.int .u64 ad')).rowIs BL 51 12 (leafF lo hi ba fi' la ad' n' nl nh wd pk) :=
  (((h.set 3 _).set 6 _).set 5 _).congr (fun i hi => by
    match i, hi with
    | 0, _ => rfl
    | 1, _ => rfl
    | 2, _ => rfl
    | 3, _ => rfl
    | 4, _ => rfl
    | 5, _ => rfl
    | 6, _ => rfl
    | 7, _ => rfl
    | 8, _ => rfl
    | 9, _ => rfl
    | 10, _ => rfl
    | 11, _ => rfl)

theorem i64_nat (q : Nat) (h : q ≤ 9223372036854775807) : IntKind.i64.wrap (q : Int) = (q : Int) := by rw [IntKind.wrap_i64]; omega

set_option maxRecDepth 100000 in
set_option maxHeartbeats 1600000 in
theorem insert_wide (BL BP n wd p N q1 q2 o : Nat) (u : Int) (lo hi ba fi la ad nl nh : Int) (f : Nat → Nat) (w : World) (hq1 : (p : Int) * (wd : Int) = (q1 : Int)) (hq2 : (N : Int) * (wd : Int) = (q2 : Int)) (hpN : q1 ≤ q2) (hw0 : 0 < wd) (hw : wd < 64) (hi' : q2 + wd ≤ 64 * n) (hN : N ≤ 67108864) (hn : n ≤ 1048576) (hf : Fits f) (_hu0 : 0 ≤ u) (_hu1 : u < 18446744073709551616) (_hb0 : 0 ≤ ba) (hb1 : ba ≤ u) (hou : u - ba = (o : Int)) (ho : o < 2 ^ wd) (hne : BL ≠ BP)
    (hl : w.rowIs BL 51 12 (leafF lo hi ba fi la ad N nl nh wd (.slice (some ⟨BP, 0, none⟩) n n))) (hr : w.rowIs BP 27 n (wv f)) (B0 : Nat) (hB1 : B0 ≤ BL) (hB2 : B0 ≤ BP) :
    Calls Trym.prog 27 #[.pointer (some ⟨BL, 0, none⟩), .int .i64 p, .int .u64 u] w fun e w' => e = .returned (.tuple #[]) ∧ Below B0 w w' ∧ w'.rowIs BP 27 n (wv (setF (shiftAt f (q1 / 64) ((q2 + wd - 1) / 64 + 1) (q1 % 64) wd) q1 wd o)) ∧ w'.rowIs BL 51 12 (leafF lo hi ba (min fi u) la u (N + 1) nl nh wd (.slice (some ⟨BP, 0, none⟩) n n)) := by
  have g2 : w.cell? ⟨BL, 2, none⟩ = some (.int .u64 ba) := hl.cell (i := 2) (by omega)
  have g6 : w.cell? ⟨BL, 6, none⟩ = some (.int .i64 N) := hl.cell (i := 6) (by omega)
  have g10 : w.cell? ⟨BL, 10, none⟩ = some (.int .i64 wd) := hl.cell (i := 10) (by omega)
  have g11 : w.cell? ⟨BL, 11, none⟩ = some (.slice (some ⟨BP, 0, none⟩) n n) := hl.cell (i := 11) (by omega)
  go_enter Trym.func27, Trym.ntmps27
  go_wp2_with fail
  go_region_held3 (fun w' => w'.cell? ⟨BL, 6, none⟩ = some (.int .i64 N) ∧ w'.cell? ⟨BL, 10, none⟩ = some (.int .i64 wd) ∧ w'.cell? ⟨BL, 11, none⟩ = some (.slice (some ⟨BP, 0, none⟩) n n)) (go_keep)
    (first
      | (go_at_call 25; rw [i64_nat q1 (by omega), i64_nat q2 (by omega)]; refine (shift_any BP n n q1 q2 wd f _ hn hf hpN hw0 hw hi' ?_ (Nat.le_refl _)).mono ?_; (exact hr); rintro e w1 ⟨rfl, ho1, hr1⟩; have hk := fun (o : Nat) => ho1.cell (p := ⟨BL, o, none⟩) hne))
  go_wp2_with fail
  have hl1 := ho1.rowIs hne hl.drew
  refine (setOffset_any BL BP n wd p q1 o lo hi ba fi la ad N nl nh _ w1 hq1 hw0 hw (by omega) hn (shiftAt_fits _ _ _ _ _ hf) ho hne hl1 hr1).mono ?_
  rintro e w2 ⟨rfl, ho2, hr2⟩
  have hl2 := ho2.rowIs hne hl1
  have hb2 : Below B0 w w2 := ((Below.refl B0 w).drew.trans (ho1.below hB2)).trans (ho2.below hB2)
  have k3 : w2.cell? ⟨BL, 3, none⟩ = some (.int .u64 fi) := hl2.cell (i := 3) (by omega)
  have k5 : w2.cell? ⟨BL, 5, none⟩ = some (.int .u64 ad) := hl2.cell (i := 5) (by omega)
  have k6 : w2.cell? ⟨BL, 6, none⟩ = some (.int .i64 N) := hl2.cell (i := 6) (by omega)
  have f3 := hl2.frozen 3
  have f5 := hl2.frozen 5
  have f6 := hl2.frozen 6
  clear g2 g6 g10 g11 hk hl1 hr1 ho1 ho2 hq1 hq2 hou
  go_wp2
  all_goals
    go_end0
    go_light
    refine ⟨rfl, belowSet (belowSet (belowSet hb2 hB1) hB1) hB1, ((hr2.setOther (a := ⟨BL, 3, none⟩) hne.symm _).setOther (a := ⟨BL, 6, none⟩) hne.symm _).setOther (a := ⟨BL, 5, none⟩) hne.symm _, ?_⟩
    first
      | (have hm : min fi u = fi := Int.min_eq_left (by assumption); rw [hm]; exact leaf_set3 fi u (N + 1) hl2)
      | (have hm : min fi u = u := Int.min_eq_right (by omega); rw [hm]; exact leaf_set3 u u (N + 1) hl2)

set_option maxRecDepth 100000 in
set_option maxHeartbeats 1600000 in
theorem insert_bits (BL BP n o : Nat) (p u N : Int) (lo hi ba fi la ad nl nh : Int) (f : Nat → Nat) (w : World) (hon : o < 64 * n) (hn : n ≤ 1048576) (hf : Fits f) (_hu0 : 0 ≤ u) (_hu1 : u < 18446744073709551616) (_hb0 : 0 ≤ ba) (hb1 : ba ≤ u) (hou : u - ba = (o : Int)) (hne : BL ≠ BP)
    (hl : w.rowIs BL 51 12 (leafF lo hi ba fi la ad N nl nh 0 (.slice (some ⟨BP, 0, none⟩) n n))) (hr : w.rowIs BP 27 n (wv f)) (B0 : Nat) (hB1 : B0 ≤ BL) (hB2 : B0 ≤ BP) :
    Calls Trym.prog 27 #[.pointer (some ⟨BL, 0, none⟩), .int .i64 p, .int .u64 u] w fun e w' => e = .returned (.tuple #[]) ∧ Below B0 w w' ∧ w'.rowIs BP 27 n (wv (orF f o)) ∧ w'.rowIs BL 51 12 (leafF lo hi ba (min fi u) la u (wrap64 (N + 1)) nl nh 0 (.slice (some ⟨BP, 0, none⟩) n n)) := by
  have g2 : w.cell? ⟨BL, 2, none⟩ = some (.int .u64 ba) := hl.cell (i := 2) (by omega)
  have g10 : w.cell? ⟨BL, 10, none⟩ = some (.int .i64 0) := hl.cell (i := 10) (by omega)
  have g11 : w.cell? ⟨BL, 11, none⟩ = some (.slice (some ⟨BP, 0, none⟩) n n) := hl.cell (i := 11) (by omega)
  have k3 : w.cell? ⟨BL, 3, none⟩ = some (.int .u64 fi) := hl.cell (i := 3) (by omega)
  have k5 : w.cell? ⟨BL, 5, none⟩ = some (.int .u64 ad) := hl.cell (i := 5) (by omega)
  have k6 : w.cell? ⟨BL, 6, none⟩ = some (.int .i64 N) := hl.cell (i := 6) (by omega)
  have f3 := hl.frozen 3
  have f5 := hl.frozen 5
  have f6 := hl.frozen 6
  have r0 : w.cell? ⟨BP, o / 64, none⟩ = some (.int .u64 ((f (o / 64) : Nat) : Int)) := hr.cell (by omega)
  have z0 := hr.frozen (o / 64)
  have hv := or_pow (f (o / 64)) (o % 64) (hf _) (by omega)
  have hne' : BP ≠ BL := hne.symm
  go_enter Trym.func27, Trym.ntmps27
  go_wp2
  all_goals
    go_end0
    go_light
    have hr' : (w.setCell ⟨BP, o / 64, none⟩ (.int .u64 ((f (o / 64) ||| 2 ^ (o % 64) : Nat) : Int))).rowIs BP 27 n (wv (orF f o)) := rowIs_set' hr _ (fun j hj => by
      rw [wv_ite]; unfold wv orF
      by_cases e : j = o / 64
      · rw [if_pos e, if_pos e, e]
      · rw [if_neg e, if_neg e])
    have hl' := hl.setOther (a := ⟨BP, o / 64, none⟩) hne (.int .u64 ((f (o / 64) ||| 2 ^ (o % 64) : Nat) : Int))
    refine ⟨rfl, belowSet (belowSet (belowSet (belowSet (Below.refl _ _) hB2) hB1) hB1) hB1, ((hr'.setOther (a := ⟨BL, 3, none⟩) hne.symm _).setOther (a := ⟨BL, 6, none⟩) hne.symm _).setOther (a := ⟨BL, 5, none⟩) hne.symm _, ?_⟩
    first
      | (have hm : min fi u = fi := Int.min_eq_left (by assumption); rw [hm]; exact leaf_set3 fi u _ hl')
      | (have hm : min fi u = u := Int.min_eq_right (by omega); rw [hm]; exact leaf_set3 u u _ hl')

theorem zzinsert_of {P : World → Prop} {a0 a1 a2 : Value} {w : World} (h : Calls Trym.prog 27 #[a0, a1, a2] w fun e w' => e = .returned (.tuple #[]) ∧ P w') :
    Calls Trym.prog 13 #[a0, a1, a2] w fun e w' => e = .returned (.tuple #[]) ∧ P w' := by
  go_enter Trym.func13, Trym.ntmps13
  go_wp2_with fail
  refine h.mono ?_
  rintro e w' ⟨rfl, hp⟩
  go_wp2
  go_end0
  exact ⟨rfl, hp⟩

end Go.Proofs.Qxb6603759aMods
