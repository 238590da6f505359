/-
  SEAT b6603777aM. SLICES OF INTEGERS THAT CAME IN, as the walks want them.
-/
import Derived.Test.Qxb6603777aModsBase
import Derived.ProofKit
import Derived.OpenShut
namespace Go.Proofs.Qxb6603777aMods
open Go.ChangeShapes Go.WideShapes Go.ChangeAt Go.RowKit Plain

/-- WHAT THE WALK IS TOLD OF A SLICE OF INTEGERS THAT CAME IN (the shell's own word). -/
def IsRow (k : IntKind) (w : World) (a : Option Addr) (len cap : Nat) (zs : List Int) : Prop :=
  (a = none ∧ len = 0 ∧ cap = 0 ∧ zs = []) ∨
  ∃ x, a = some x ∧ len ≤ cap ∧ cap ≤ maxLen ∧ zs.length = cap ∧ (∀ i, i < zs.length → w.cell? (x.add i) = some (.int k (zs.getD i 0))) ∧ ∀ n ∈ zs, (Lit.int k n).wf = true

theorem ints_of {k : IntKind} {w : World} {a : Option Addr} {n c : Nat} {zs : List Int} (h : IsRow k w a n c zs) (hk : ∀ i, InKind k (zs.getD i 0)) : ∃ b off f, Ints k w a n c b off f := by
  rcases h with ⟨rfl, rfl, rfl, rfl⟩ | ⟨x, rfl, h1, h2, h3, h4, h5⟩
  · exact ⟨0, 0, fun i => ([] : List Int).getD i 0, by decide, Nat.le_refl _, fun _ => ⟨rfl, rfl⟩, fun h => absurd h (by decide), fun i hi => absurd hi (Nat.not_lt_zero _), hk⟩
  · unfold maxLen at h2
    refine ⟨x.block, x.off, fun i => zs.getD i 0, by omega, h1, fun h => by simp at h, fun hp => ?_, fun i hi => ?_, hk⟩
    · have hs := World.cell?_spot (h4 0 (by omega))
      have hs' : x.spot = none := by simpa [Addr.add] using hs
      cases x; simp_all
    · have hs := World.cell?_spot (h4 0 (by omega))
      have hs' : x.spot = none := by simpa [Addr.add] using hs
      have h6 := h4 i (by omega)
      have e : x.add i = ⟨x.block, x.off + i, none⟩ := by cases x; simp_all [Addr.add]
      rw [← e, h6]

theorem wf_all {k : IntKind} {w : World} {a : Option Addr} {n c : Nat} {zs : List Int} (h : IsRow k w a n c zs) : ∀ z ∈ zs, (Lit.int k z).wf = true := by
  rcases h with ⟨_, _, _, rfl⟩ | ⟨_, _, _, _, _, _, h5⟩
  · intro z hz; cases hz
  · exact h5

theorem ints_i64 {w : World} {a : Option Addr} {n c : Nat} {zs : List Int} (h : IsRow .i64 w a n c zs) : ∃ b off f, Ints .i64 w a n c b off f :=
  ints_of h (fun i => by have := range_i64 (wf_all h) i; rw [List.getD_eq_getElem?_getD]; exact this)

theorem ints_i32 {w : World} {a : Option Addr} {n c : Nat} {zs : List Int} (h : IsRow .i32 w a n c zs) : ∃ b off f, Ints .i32 w a n c b off f :=
  ints_of h (fun i => by have := range_i32 (wf_all h) i; rw [List.getD_eq_getElem?_getD]; exact this)

end Go.Proofs.Qxb6603777aMods
