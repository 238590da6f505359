/-
  SEAT b6603759aM. 'Rows.FnShiftUpMatchesBitModelSaid' PROVED. The frame is the shell's (proof-skeleton.mjs), its one open place filled: 'walk'.
-/
import Derived.Test.Qxb6603759aModsRows
import Derived.WalkKit
import Derived.ProofKit
import Derived.OpenShut
import Derived.ShutString
import Derived.ChangeOld
import Derived.Below
import Derived.Test.Qxb6603759aModsOpen
import Derived.Test.Qxb6603759aModsShiftLaw
namespace Go.Proofs.Qxb6603759aMods.fnShiftUpMatchesBitModel
open Go.ChangeShapes Go.WideShapes Go.ChangeAt Go.RowKit
open Go.ChangeMaps (open_string shut_string)
set_option linter.unusedVariables false

theorem own : ownKnob Trym.prog.godebug = none := by kernel_rfl
theorem laidOut : laidOutB Trym.prog = true := by kernel_rfl

/-! ### STEP 1: THE WALK: the Go text returns true, and writes nothing that was there -/
set_option maxHeartbeats 800000 in
theorem walk (a0 : Option Addr) (len0 cap0 : Nat) (z0 : List Int) (a1 : Int) (a2 : Int) (a3 : Int) (w : World) (w0 : IsRow .u64 w a0 len0 cap0 z0) (w1 : (Lit.int .i64 a1).wf = true) (w2 : (Lit.int .i64 a2).wf = true) (w3 : (Lit.int .i64 a3).wf = true) :
    Calls Trym.prog 3 #[.slice a0 len0 cap0, .int .i64 a1, .int .i64 a2, .int .i64 a3] w fun e w' => e = .returned (.bool true) ∧ Below w.heap.size w w' := by
  obtain ⟨b, off, f, hf⟩ := words_of w0
  have b1 := bounds_i64 w1
  have b2 := bounds_i64 w2
  have b3 := bounds_i64 w3
  have hl := hf.len
  clear w0 w1 w2 w3
  by_cases c0 : len0 ≤ 131072
  · have hd : decide (len0 ≤ 1048576) = true := by simp; omega
    by_cases c1 : 0 ≤ a1 ∧ a1 < a2 ∧ 0 < a3 ∧ a3 < 64 ∧ a2 ≤ 64 * (len0 : Int) - a3
    · obtain ⟨d1, d2, d3, d4, d5⟩ := c1
      obtain ⟨fr, rfl⟩ := Int.eq_ofNat_of_zero_le d1
      obtain ⟨to, rfl⟩ := Int.eq_ofNat_of_zero_le (show 0 ≤ a2 by omega)
      obtain ⟨s, rfl⟩ := Int.eq_ofNat_of_zero_le (show 0 ≤ a3 by omega)
      obtain rfl := hf.addr (by omega)
      exact shift_law b off len0 cap0 fr to s f w c0 hf.fits (by omega) (by omega) (by omega) (by omega) hf.cell
    · clear hf
      by_cases d1 : a1 < 0
      · go_enter Trym.func3, Trym.ntmps3
        go_wp2_with fail
        refine (bytes_shift _ len0 cap0 _ _ _ w (by omega)).mono ?_
        rintro e w' ⟨rfl, rfl⟩
        rw [hd]
        go_wp2
        go_ret
        exact ⟨rfl, Below.refl _ _⟩
      by_cases d2 : a2 ≤ a1
      · go_enter Trym.func3, Trym.ntmps3
        go_wp2_with fail
        refine (bytes_shift _ len0 cap0 _ _ _ w (by omega)).mono ?_
        rintro e w' ⟨rfl, rfl⟩
        rw [hd]
        go_wp2
        go_ret
        exact ⟨rfl, Below.refl _ _⟩
      by_cases d3 : a3 ≤ 0
      · go_enter Trym.func3, Trym.ntmps3
        go_wp2_with fail
        refine (bytes_shift _ len0 cap0 _ _ _ w (by omega)).mono ?_
        rintro e w' ⟨rfl, rfl⟩
        rw [hd]
        go_wp2
        go_ret
        exact ⟨rfl, Below.refl _ _⟩
      by_cases d4 : 64 ≤ a3
      · go_enter Trym.func3, Trym.ntmps3
        go_wp2_with fail
        refine (bytes_shift _ len0 cap0 _ _ _ w (by omega)).mono ?_
        rintro e w' ⟨rfl, rfl⟩
        rw [hd]
        go_wp2
        go_ret
        exact ⟨rfl, Below.refl _ _⟩
      have d5 : 64 * (len0 : Int) - a3 < a2 := by omega
      go_enter Trym.func3, Trym.ntmps3
      go_wp2_with fail
      refine (bytes_shift _ len0 cap0 _ _ _ w (by omega)).mono ?_
      rintro e w' ⟨rfl, rfl⟩
      rw [hd]
      go_wp2
      go_ret
      exact ⟨rfl, Below.refl _ _⟩
  · clear hf
    by_cases d0 : len0 ≤ 1048576
    · have hd : decide (len0 ≤ 1048576) = true := by simp; omega
      go_enter Trym.func3, Trym.ntmps3
      go_wp2_with fail
      refine (bytes_shift _ len0 cap0 _ _ _ w (by omega)).mono ?_
      rintro e w' ⟨rfl, rfl⟩
      rw [hd]
      go_wp2
      go_ret
      exact ⟨rfl, Below.refl _ _⟩
    · have hd : decide (len0 ≤ 1048576) = false := by simp; omega
      go_enter Trym.func3, Trym.ntmps3
      go_wp2_with fail
      refine (bytes_shift _ len0 cap0 _ _ _ w (by omega)).mono ?_
      rintro e w' ⟨rfl, rfl⟩
      rw [hd]
      go_wp2
      go_ret
      exact ⟨rfl, Below.refl _ _⟩

/-! ### THE ROW's STEP: WRITTEN OUT: LEAVE IT -/
set_option maxRecDepth 100000 in
theorem lifted (os : Os) (started : os.Started) (H : Type) (enc : TypeId × Value → H) :
    ReturnsInHanded {} Trym.checked os 3 .any (Rows.fnShiftUpMatchesBitModelSpec.pre6 enc Trym.prog Trym.f3 Rows.fnShiftUpMatchesBitModelRow.domain false) (Rows.fnShiftUpMatchesBitModelSpec.post enc Trym.prog Trym.f3 false true false false) := by
  refine returnsInHanded_of_change (C := Trym.checked) own started (by kernel_rfl) Trym.func3
    (ChangeSpec.witness6 (enc := enc) (C := Trym.checked) false ⟨#[], #[.slice none 0 0, .int .i64 0, .int .i64 0, .int .i64 0], []⟩ 8 (by kernel_rfl) (by kernel_rfl) (by kernel_rfl) (by kernel_rfl)) ?_
  intro W base args ds gs before hval0 hW hcnd _
  have hval : ∀ (j : Nat) t v, Trym.f3.params[j]? = some t → args[j]? = some v → Value.okWide Trym.prog W .any base t v := hval0
  have hW' := hW
  obtain ⟨p, q, hA0, hV, rfl, hfz, hnd⟩ := hW
  have hA : DataW.TrodAll enc Trym.prog W 0 (fun _ => true) true Trym.f3.params.toList args.toList ds p := hA0
  rw [Trym.params3] at hA hval
  obtain ⟨v0, vs0, d0, ds0, p0, q0, hargs, rfl, rfl, h0, r0⟩ := trodAll_cons hA
  obtain ⟨v1, vs1, d1, ds1, p1, q1, rfl, rfl, rfl, h1, r1⟩ := trodAll_cons r0
  obtain ⟨v2, vs2, d2, ds2, p2, q2, rfl, rfl, rfl, h2, r2⟩ := trodAll_cons r1
  obtain ⟨v3, vs3, d3, ds3, p3, q3, rfl, rfl, rfl, h3, r3⟩ := trodAll_cons r2
  obtain ⟨rfl, rfl, rfl⟩ := trodAll_nil r3
  obtain rfl : args = #[v0, v1, v2, v3] := by cases args; simp_all
  obtain ⟨rfl, rfl⟩ := trodVars_none hV
  obtain ⟨a0, len0, cap0, rfl⟩ := okWide_slice Trym.underlying22 (hval 0 22 v0 rfl rfl)
  have k0 := h0
  have lt0 : ∀ x ∈ p0, x.block < W.heap.size := by obtain ⟨m, hm⟩ := k0; exact DataW.trod_lt m _ _ _ hm
  obtain ⟨z0, w0⟩ : ∃ zs, IsRow .u64 W a0 len0 cap0 zs := by
    obtain ⟨fuel, hf⟩ := h0
    rcases open_ints Trym.underlying22 Trym.underlying27 (by kernel_rfl) hf with ⟨hcs, _⟩ | ⟨x, l, c, zs, hcs, _, hl, hm, hz, _, hcell, hwz⟩
    · simp [Value.cells] at hcs
      obtain ⟨rfl, rfl, rfl⟩ := hcs
      exact ⟨[], .inl ⟨rfl, rfl, rfl, rfl⟩⟩
    · simp [Value.cells] at hcs
      obtain ⟨rfl, rfl, rfl⟩ := hcs
      exact ⟨zs, .inr ⟨_, rfl, hl, hm, by simpa using hz, hcell, hwz⟩⟩
  obtain ⟨a1, rfl, rfl, rfl, w1⟩ := open_int Trym.underlying3 (hval 1 3 v1 rfl rfl) h1
  obtain ⟨a2, rfl, rfl, rfl, w2⟩ := open_int Trym.underlying3 (hval 2 3 v2 rfl rfl) h2
  obtain ⟨a3, rfl, rfl, rfl, w3⟩ := open_int Trym.underlying3 (hval 3 3 v3 rfl rfl) h3
  clear hA0 hval0
  refine (walk a0 len0 cap0 z0 a1 a2 a3 W w0 w1 w2 w3).mono fun e W' ⟨he, bel⟩ => ?_
  subst he
  exact ⟨_, rfl, _, _, _, [], _, [], hW', trodAll_mk1 (shut_bool Trym.underlying4 _), (trodAll_cons_mk (Below.trod laidOut (by kernel_rfl) (of_decide_eq_true (by kernel_rfl)) k0 bel lt0) (trodAll_cons_mk (shut_int Trym.underlying3 w1) (trodAll_cons_mk (shut_int Trym.underlying3 w2) (trodAll_cons_mk (shut_int Trym.underlying3 w3) trodAll_mk0)))), rfl, bel.frame _, fun h => by cases h⟩

theorem over : Rows.fnShiftUpMatchesBitModelRow.holds Trym.pinned (OpenSpec.ofChange Rows.fnShiftUpMatchesBitModelSpec) :=
  OpenClaim.holds_of_wide 3 Trym.f3 rfl rfl rfl rfl rfl rfl rfl ⟨rfl, rfl, rfl, rfl, rfl⟩ rfl rfl rfl rfl rfl (by kernel_rfl) Trym.func3 (by kernel_rfl)
    (of_decide_eq_true (by kernel_rfl)) (by unfold Func.isWrapper; first | (rw [if_pos (by decide +kernel)]; kernel_rfl) | (rw [if_neg (by decide +kernel)]; exact ⟨rfl, rfl⟩))
    (fun os started H enc _ => lifted os started H enc)

/-- ████ THE STATEMENT ████ -/
theorem proved : Rows.FnShiftUpMatchesBitModelSaid := over
#print axioms proved
end Go.Proofs.Qxb6603759aMods.fnShiftUpMatchesBitModel
