/-
  SEAT b6603759aM. 'Rows.FnInsertMatchesListModelSaid' PROVED. The frame is the guide's, turned to a struct by value.
-/
import Derived.Test.Qxb6603759aModsRows
import Derived.WalkKit
import Derived.ProofKit
import Derived.OpenShut
import Derived.ShutString
import Derived.ChangeOld
import Derived.Below
import Derived.Test.Qxb6603759aModsInsEarly
namespace Go.Proofs.Qxb6603759aMods.fnInsertMatchesListModel
open Go.ChangeShapes Go.WideShapes Go.ChangeAt Go.RowKit Plain
set_option linter.unusedVariables false

theorem own : ownKnob Trym.prog.godebug = none := by kernel_rfl
theorem laidOut : laidOutB Trym.prog = true := by kernel_rfl

/-! ### STEP 1: THE WALK -/
theorem walk (lo hi ba fi la ad n nl nh wd : Int) (a : Option Addr) (len c : Nat) (zs : List Int) (p u : Int) (w : World) (wba : (Lit.int .u64 ba).wf = true) (wn : (Lit.int .i64 n).wf = true) (wwd : (Lit.int .i64 wd).wf = true) (w0 : IsRow .u64 w a len c zs) (w1 : (Lit.int .i64 p).wf = true) (w2 : (Lit.int .u64 u).wf = true) :
    Calls Trym.prog 4 #[.agg #[.int .u64 lo, .int .u64 hi, .int .u64 ba, .int .u64 fi, .int .u64 la, .int .u64 ad, .int .i64 n, .int .u64 nl, .int .u64 nh, .int .i64 wd, .slice a len c], .int .i64 p, .int .u64 u] w fun e w' => e = .returned (.bool true) ∧ Below w.heap.size w w' := by
  obtain ⟨b, off, f, hf⟩ := words_of w0
  have b1 := bounds_i64 w1
  have b2 := bounds_u64 w2
  have b3 := bounds_u64 wba
  have b4 := bounds_i64 wn
  have hl := hf.len
  by_cases c0 : 131072 < len ∨ wd < 0 ∨ 63 < wd
  · exact insert_early1 lo hi ba fi la ad n nl nh wd a len c p u w hl c0
  by_cases c1 : wd = 0
  · subst c1
    by_cases c2 : u < ba ∨ 64 * (len : Int) ≤ u - ba
    · exact insert_early2 lo hi ba fi la ad n nl nh a len c p u w (by omega) (by omega) (by omega) (by omega) c2
    obtain ⟨o, ho⟩ := Int.eq_ofNat_of_zero_le (show 0 ≤ u - ba by omega)
    obtain rfl := hf.addr (by omega)
    by_cases c3 : wbit f o = true
    · exact insert_early3 lo hi ba fi la ad n nl nh b off len c o p u f w (by omega) hf.fits (by omega) (by omega) (by omega) ho (by omega) c3 hf.cell
    · exact insert_law_bits lo hi ba fi la ad n nl nh b off len c o p u f w (by omega) hf.fits (by omega) (by omega) (by omega) ho (by omega) (by simpa using c3) hf.cell
  obtain ⟨wd, rfl⟩ := Int.eq_ofNat_of_zero_le (show 0 ≤ wd by omega)
  have hw0 : 0 < wd := by omega
  have hw : wd < 64 := by omega
  have hT1 := pow_of wd hw
  by_cases c2 : n < 0 ∨ 64 * (len : Int) < n ∨ 64 * (len : Int) < (n + 1) * (wd : Int) ∨ p < 0 ∨ n < p ∨ u < ba ∨ ((2 ^ wd : Nat) : Int) ≤ u - ba
  · refine insert_early4 lo hi ba fi la ad n nl nh _ a len c wd _ p u w (by omega) hw0 hw (by omega) (by omega) (by omega) rfl hT1 (fun h1 h2 => ?_) c2
    · have h3 : (n + 1) * (wd : Int) ≤ (n + 1) * 64 := Int.mul_le_mul_of_nonneg_left (by omega) (by omega)
      have h4 : 0 ≤ (n + 1) * (wd : Int) := Int.mul_nonneg (by omega) (by omega)
      omega
  obtain ⟨N, rfl⟩ := Int.eq_ofNat_of_zero_le (show 0 ≤ n by omega)
  obtain ⟨P, rfl⟩ := Int.eq_ofNat_of_zero_le (show 0 ≤ p by omega)
  obtain ⟨o, ho⟩ := Int.eq_ofNat_of_zero_le (show 0 ≤ u - ba by omega)
  have e3 : ((N : Int) + 1) * (wd : Int) = (((N + 1) * wd : Nat) : Int) := by simp
  have hpos : 0 < (N + 1) * wd := Nat.mul_pos (by omega) hw0
  rw [e3] at c2
  obtain rfl := hf.addr (by omega)
  exact insert_law_wide lo hi ba fi la ad nl nh b off len c o wd N P (2 ^ wd) (P * wd) (N * wd) ((N + 1) * wd) u f w (by omega) hf.fits (by omega) (by omega) (by omega) ho hw0 hw (by omega) (by omega) (by simp) (by simp) (by simp) (by omega) rfl (by omega) hf.cell

/-! ### THE ROW's STEP -/
set_option maxRecDepth 100000 in
theorem lifted (os : Os) (started : os.Started) (H : Type) (enc : TypeId × Value → H) :
    ReturnsInHanded {} Trym.checked os 4 .any (Rows.fnInsertMatchesListModelSpec.pre6 enc Trym.prog Trym.f4 Rows.fnInsertMatchesListModelRow.domain false) (Rows.fnInsertMatchesListModelSpec.post enc Trym.prog Trym.f4 false true false false) := by
  refine returnsInHanded_of_change (C := Trym.checked) own started (by kernel_rfl) Trym.func4
    (ChangeSpec.witness6 (enc := enc) (C := Trym.checked) false ⟨#[], #[.agg #[.int .u64 0, .int .u64 0, .int .u64 0, .int .u64 0, .int .u64 0, .int .u64 0, .int .i64 0, .int .u64 0, .int .u64 0, .int .i64 0, .slice none 0 0], .int .i64 0, .int .u64 0], []⟩ 8 (by kernel_rfl) (by kernel_rfl) (by kernel_rfl) (by kernel_rfl)) ?_
  intro W base args ds gs before hval0 hW hcnd _
  have hval : ∀ (j : Nat) t v, Trym.f4.params[j]? = some t → args[j]? = some v → Value.okWide Trym.prog W .any base t v := hval0
  have hW' := hW
  obtain ⟨p, q, hA0, hV, rfl, hfz, hnd⟩ := hW
  have hA : DataW.TrodAll enc Trym.prog W 0 (fun _ => true) true Trym.f4.params.toList args.toList ds p := hA0
  rw [Trym.params4] at hA hval
  obtain ⟨v0, vs0, d0, ds0, p0, q0, hargs, rfl, rfl, h0, r0⟩ := trodAll_cons hA
  obtain ⟨v1, vs1, d1, ds1, p1, q1, rfl, rfl, rfl, h1, r1⟩ := trodAll_cons r0
  obtain ⟨v2, vs2, d2, ds2, p2, q2, rfl, rfl, rfl, h2, r2⟩ := trodAll_cons r1
  obtain ⟨rfl, rfl, rfl⟩ := trodAll_nil r2
  obtain rfl : args = #[v0, v1, v2] := by cases args; simp_all
  obtain ⟨rfl, rfl⟩ := trodVars_none hV
  have k0 := h0
  have lt0 : ∀ x ∈ p0, x.block < W.heap.size := by obtain ⟨m, hm⟩ := k0; exact DataW.trod_lt m _ _ _ hm
  obtain ⟨lo, hi, ba, fi, la, ad, n, nl, nh, wd, a, len, c, zs, hv0, wba, wn, wwd, w0, _⟩ := leaf_open (hval 0 29 v0 rfl rfl) h0
  obtain ⟨a1, rfl, rfl, rfl, w1⟩ := open_int Trym.underlying3 (hval 1 3 v1 rfl rfl) h1
  obtain ⟨a2, rfl, rfl, rfl, w2⟩ := open_int Trym.underlying27 (hval 2 27 v2 rfl rfl) h2
  clear hA0 hval0
  have hwk := walk lo hi ba fi la ad n nl nh wd a len c zs a1 a2 W wba wn wwd w0 w1 w2
  rw [← hv0] at hwk
  refine hwk.mono fun e W' ⟨he, bel⟩ => ?_
  subst he
  exact ⟨_, rfl, _, _, _, [], _, [], hW', trodAll_mk1 (shut_bool Trym.underlying4 _), (trodAll_cons_mk (Below.trod laidOut (by kernel_rfl) (of_decide_eq_true (by kernel_rfl)) k0 bel lt0) (trodAll_cons_mk (shut_int Trym.underlying3 w1) (trodAll_cons_mk (shut_int Trym.underlying27 w2) trodAll_mk0))), rfl, bel.frame _, fun h => by cases h⟩

theorem over : Rows.fnInsertMatchesListModelRow.holds Trym.pinned (OpenSpec.ofChange Rows.fnInsertMatchesListModelSpec) :=
  OpenClaim.holds_of_wide 4 Trym.f4 rfl rfl rfl rfl rfl rfl rfl ⟨rfl, rfl, rfl, rfl, rfl⟩ rfl rfl rfl rfl rfl (by kernel_rfl) Trym.func4 (by kernel_rfl)
    (of_decide_eq_true (by kernel_rfl)) (by unfold Func.isWrapper; first | (rw [if_pos (by decide +kernel)]; kernel_rfl) | (rw [if_neg (by decide +kernel)]; exact ⟨rfl, rfl⟩))
    (fun os started H enc _ => lifted os started H enc)

/-- ████ THE STATEMENT ████ -/
theorem proved : Rows.FnInsertMatchesListModelSaid := over
#print axioms proved
end Go.Proofs.Qxb6603759aMods.fnInsertMatchesListModel
