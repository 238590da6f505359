/-
  SEAT b6603759aM. 'Rows.FnAbsorbMatchesUnionModelSaid' PROVED. The frame is the guide's, turned to two structs by value.
-/
import Derived.Test.Qxb6603759aModsRows
import Derived.WalkKit
import Derived.ProofKit
import Derived.OpenShut
import Derived.ShutString
import Derived.ChangeOld
import Derived.Below
import Derived.Test.Qxb6603759aModsOpenLeaf
import Derived.Test.Qxb6603759aModsAbsEarly
import Derived.Test.Qxb6603759aModsAbsLawYes
namespace Go.Proofs.Qxb6603759aMods.fnAbsorbMatchesUnionModel
open Go.ChangeShapes Go.WideShapes Go.ChangeAt Go.RowKit Plain
set_option linter.unusedVariables false

theorem own : ownKnob Trym.prog.godebug = none := by kernel_rfl
theorem laidOut : laidOutB Trym.prog = true := by kernel_rfl

/-! ### STEP 1: THE WALK -/
theorem walk (lo hi ba fi la ad n nl nh wd lo' hi' ba' fi' la' ad' n' nl' nh' wd' : Int) (a1 a2 : Option Addr) (n1 c1 n2 c2 : Nat) (z1 z2 : List Int) (w : World) (wba : (Lit.int .u64 ba).wf = true) (wba' : (Lit.int .u64 ba').wf = true) (w1 : IsRow .u64 w a1 n1 c1 z1) (w2 : IsRow .u64 w a2 n2 c2 z2) :
    Calls Trym.prog 6 #[.agg #[.int .u64 lo, .int .u64 hi, .int .u64 ba, .int .u64 fi, .int .u64 la, .int .u64 ad, .int .i64 n, .int .u64 nl, .int .u64 nh, .int .i64 wd, .slice a1 n1 c1], .agg #[.int .u64 lo', .int .u64 hi', .int .u64 ba', .int .u64 fi', .int .u64 la', .int .u64 ad', .int .i64 n', .int .u64 nl', .int .u64 nh', .int .i64 wd', .slice a2 n2 c2]] w fun e w' => e = .returned (.bool true) ∧ Below w.heap.size w w' := by
  obtain ⟨b1, o1, f1, hf1⟩ := words_of w1
  obtain ⟨b2, o2, f2, hf2⟩ := words_of w2
  have e1 := bounds_u64 wba
  have e2 := bounds_u64 wba'
  have hl1 := hf1.len
  have hl2 := hf2.len
  by_cases t0 : 65536 < n1 ∨ 65536 < n2 ∨ wd' < 0
  · exact abs_early1 lo hi ba fi la ad n nl nh wd lo' hi' ba' fi' la' ad' n' nl' nh' wd' a1 a2 n1 c1 n2 c2 w hl1 hl2 t0
  by_cases t1 : 0 < wd'
  · exact abs_law_wide lo hi ba fi la ad n nl nh wd lo' hi' ba' fi' la' ad' n' nl' nh' wd' a1 a2 n1 c1 n2 c2 b1 o1 b2 o2 f1 f2 w (by omega) (by omega) hf1 hf2 t1
  obtain rfl : wd' = 0 := by omega
  by_cases t2 : wd ≠ 0 ∨ n1 = 0 ∨ n2 = 0
  · exact abs_early2 lo hi ba fi la ad n nl nh wd lo' hi' ba' fi' la' ad' n' nl' nh' a1 a2 n1 c1 n2 c2 w (by omega) (by omega) t2
  obtain rfl : wd = 0 := by omega
  by_cases t3 : 18446744073709551615 - (64 * (n1 : Int) - 1) < ba ∨ 18446744073709551615 - (64 * (n2 : Int) - 1) < ba'
  · exact abs_early3 lo hi ba fi la ad n nl nh lo' hi' ba' fi' la' ad' n' nl' nh' a1 a2 n1 c1 n2 c2 w (by omega) (by omega) (by omega) (by omega) t3
  obtain ⟨lb, rfl⟩ := Int.eq_ofNat_of_zero_le (show 0 ≤ ba by omega)
  obtain ⟨qb, rfl⟩ := Int.eq_ofNat_of_zero_le (show 0 ≤ ba' by omega)
  obtain ⟨LT, hLT⟩ : ∃ LT : Nat, (lb : Int) + 64 * (n1 : Int) - 1 = (LT : Int) := ⟨lb + 64 * n1 - 1, by omega⟩
  obtain ⟨QT, hQT⟩ : ∃ QT : Nat, (qb : Int) + 64 * (n2 : Int) - 1 = (QT : Int) := ⟨qb + 64 * n2 - 1, by omega⟩
  obtain ⟨base, hbase⟩ : ∃ base : Nat, (if qb < lb then (qb : Int) else (lb : Int)) = (base : Int) := by
    by_cases h : qb < lb
    · exact ⟨qb, by rw [if_pos h]⟩
    · exact ⟨lb, by rw [if_neg h]⟩
  obtain ⟨top, htop⟩ : ∃ top : Nat, (if LT < QT then (QT : Int) else (LT : Int)) = (top : Int) := by
    by_cases h : LT < QT
    · exact ⟨QT, by rw [if_pos h]⟩
    · exact ⟨LT, by rw [if_neg h]⟩
  have hb1 : base ≤ lb ∧ base ≤ qb := by split at hbase <;> omega
  have ht1 : LT ≤ top ∧ QT ≤ top ∧ top < 18446744073709551616 := by split at htop <;> omega
  obtain ⟨D, hD⟩ : ∃ D : Nat, (top : Int) - (base : Int) = (D : Int) := ⟨top - base, by omega⟩
  obtain ⟨W, hW⟩ : ∃ W : Nat, (D : Int) / 64 + 1 = (W : Int) := ⟨D / 64 + 1, by omega⟩
  by_cases t4 : 32768 ≤ D
  · exact abs_law_no1 lo hi fi la ad n nl nh lo' hi' fi' la' ad' n' nl' nh' a1 a2 n1 c1 n2 c2 b1 o1 b2 o2 lb qb base top LT QT D W f1 f2 w (by omega) (by omega) (by omega) (by omega) hf1 hf2 hLT hQT (by omega) (by omega) hbase htop hD hW (by omega) t4
  by_cases t5 : n1 + n2 + 16 < W
  · exact abs_law_no2 lo hi fi la ad n nl nh lo' hi' fi' la' ad' n' nl' nh' a1 a2 n1 c1 n2 c2 b1 o1 b2 o2 lb qb base top LT QT D W f1 f2 w (by omega) (by omega) (by omega) (by omega) hf1 hf2 hLT hQT (by omega) (by omega) hbase htop hD hW (by omega) (by omega) t5
  obtain ⟨dl, hdl⟩ : ∃ dl : Nat, (lb : Int) - (base : Int) = (dl : Int) := ⟨lb - base, by omega⟩
  obtain ⟨dq, hdq⟩ : ∃ dq : Nat, (qb : Int) - (base : Int) = (dq : Int) := ⟨qb - base, by omega⟩
  obtain rfl := hf1.addr (by omega)
  obtain rfl := hf2.addr (by omega)
  exact abs_law_yes lo hi fi la ad n nl nh lo' hi' fi' la' ad' n' nl' nh' n1 c1 n2 c2 b1 o1 b2 o2 lb qb base top LT QT D W dl dq f1 f2 w (by omega) (by omega) (by omega) (by omega) hf1 hf2 hLT hQT (by omega) (by omega) hbase htop hD hW (by omega) hdl hdq (by omega) (by omega)

/-! ### THE ROW's STEP -/
set_option maxRecDepth 100000 in
theorem lifted (os : Os) (started : os.Started) (H : Type) (enc : TypeId × Value → H) :
    ReturnsInHanded {} Trym.checked os 6 .any (Rows.fnAbsorbMatchesUnionModelSpec.pre6 enc Trym.prog Trym.f6 Rows.fnAbsorbMatchesUnionModelRow.domain false) (Rows.fnAbsorbMatchesUnionModelSpec.post enc Trym.prog Trym.f6 false true false false) := by
  refine returnsInHanded_of_change (C := Trym.checked) own started (by kernel_rfl) Trym.func6
    (ChangeSpec.witness6 (enc := enc) (C := Trym.checked) false ⟨#[], #[.agg #[.int .u64 0, .int .u64 0, .int .u64 0, .int .u64 0, .int .u64 0, .int .u64 0, .int .i64 0, .int .u64 0, .int .u64 0, .int .i64 0, .slice none 0 0], .agg #[.int .u64 0, .int .u64 0, .int .u64 0, .int .u64 0, .int .u64 0, .int .u64 0, .int .i64 0, .int .u64 0, .int .u64 0, .int .i64 0, .slice none 0 0]], []⟩ 8 (by kernel_rfl) (by kernel_rfl) (by kernel_rfl) (by kernel_rfl)) ?_
  intro W base args ds gs before hval0 hW hcnd _
  have hval : ∀ (j : Nat) t v, Trym.f6.params[j]? = some t → args[j]? = some v → Value.okWide Trym.prog W .any base t v := hval0
  have hW' := hW
  obtain ⟨p, q, hA0, hV, rfl, hfz, hnd⟩ := hW
  have hA : DataW.TrodAll enc Trym.prog W 0 (fun _ => true) true Trym.f6.params.toList args.toList ds p := hA0
  rw [Trym.params6] at hA hval
  obtain ⟨v0, vs0, d0, ds0, p0, q0, hargs, rfl, rfl, h0, r0⟩ := trodAll_cons hA
  obtain ⟨v1, vs1, d1, ds1, p1, q1, rfl, rfl, rfl, h1, r1⟩ := trodAll_cons r0
  obtain ⟨rfl, rfl, rfl⟩ := trodAll_nil r1
  obtain rfl : args = #[v0, v1] := by cases args; simp_all
  obtain ⟨rfl, rfl⟩ := trodVars_none hV
  have k0 := h0
  have lt0 : ∀ x ∈ p0, x.block < W.heap.size := by obtain ⟨m, hm⟩ := k0; exact DataW.trod_lt m _ _ _ hm
  have k1 := h1
  have lt1 : ∀ x ∈ p1, x.block < W.heap.size := by obtain ⟨m, hm⟩ := k1; exact DataW.trod_lt m _ _ _ hm
  obtain ⟨lo, hi, ba, fi, la, ad, n, nl, nh, wd, a1, n1, c1, z1, hv0, wba, _, _, w1, _⟩ := leaf_open (hval 0 29 v0 rfl rfl) h0
  obtain ⟨lo', hi', ba', fi', la', ad', n', nl', nh', wd', a2, n2, c2, z2, hv1, wba', _, _, w2, _⟩ := leaf_open (hval 1 29 v1 rfl rfl) h1
  clear hA0 hval0
  have hwk := walk lo hi ba fi la ad n nl nh wd lo' hi' ba' fi' la' ad' n' nl' nh' wd' a1 a2 n1 c1 n2 c2 z1 z2 W wba wba' w1 w2
  rw [← hv0, ← hv1] at hwk
  refine hwk.mono fun e W' ⟨he, bel⟩ => ?_
  subst he
  exact ⟨_, rfl, _, _, _, [], _, [], hW', trodAll_mk1 (shut_bool Trym.underlying4 _), (trodAll_cons_mk (Below.trod laidOut (by kernel_rfl) (of_decide_eq_true (by kernel_rfl)) k0 bel lt0) (trodAll_cons_mk (Below.trod laidOut (by kernel_rfl) (of_decide_eq_true (by kernel_rfl)) k1 bel lt1) trodAll_mk0)), rfl, bel.frame _, fun h => by cases h⟩

theorem over : Rows.fnAbsorbMatchesUnionModelRow.holds Trym.pinned (OpenSpec.ofChange Rows.fnAbsorbMatchesUnionModelSpec) :=
  OpenClaim.holds_of_wide 6 Trym.f6 rfl rfl rfl rfl rfl rfl rfl ⟨rfl, rfl, rfl, rfl, rfl⟩ rfl rfl rfl rfl rfl (by kernel_rfl) Trym.func6 (by kernel_rfl)
    (of_decide_eq_true (by kernel_rfl)) (by unfold Func.isWrapper; first | (rw [if_pos (by decide +kernel)]; kernel_rfl) | (rw [if_neg (by decide +kernel)]; exact ⟨rfl, rfl⟩))
    (fun os started H enc _ => lifted os started H enc)

/-- ████ THE STATEMENT ████ -/
theorem proved : Rows.FnAbsorbMatchesUnionModelSaid := over
#print axioms proved
end Go.Proofs.Qxb6603759aMods.fnAbsorbMatchesUnionModel
