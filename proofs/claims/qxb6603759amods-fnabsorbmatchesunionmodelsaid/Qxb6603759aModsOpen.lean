/-
  SEAT b6603759aM. A SLICE OF WORDS THAT CAME IN, as the walks want it.
-/
import Derived.Test.Qxb6603759aModsBase
import Derived.ProofKit
import Derived.OpenShut
namespace Go.Proofs.Qxb6603759aMods
open Go.ChangeShapes Go.WideShapes Go.ChangeAt Go.RowKit Plain

/-- WHAT THE WALK IS TOLD OF A SLICE OF INTEGERS THAT CAME IN (the shell's own word). -/
def IsRow (k : IntKind) (w : World) (a : Option Addr) (len cap : Nat) (zs : List Int) : Prop :=
  (a = none ∧ len = 0 ∧ cap = 0 ∧ zs = []) ∨
  ∃ x, a = some x ∧ len ≤ cap ∧ cap ≤ maxLen ∧ zs.length = cap ∧ (∀ i, i < zs.length → w.cell? (x.add i) = some (.int k (zs.getD i 0))) ∧ ∀ n ∈ zs, (Lit.int k n).wf = true

/-- THE SAME, by a function of the index. -/
structure Words (w : World) (a : Option Addr) (n c b off : Nat) (f : Nat → Nat) : Prop where
  len : n ≤ 9223372036854775807
  cap : n ≤ c
  fits : Fits f
  nil : a = none → n = 0 ∧ c = 0
  addr : 0 < n → a = some ⟨b, off, none⟩
  cell : ∀ i, i < n → w.cell? ⟨b, off + i, none⟩ = some (wv f i)

theorem words_of {w : World} {a : Option Addr} {n c : Nat} {zs : List Int} (h : IsRow .u64 w a n c zs) : ∃ b off f, Words w a n c b off f := by
  rcases h with ⟨rfl, rfl, rfl, rfl⟩ | ⟨x, rfl, h1, h2, h3, h4, h5⟩
  · exact ⟨0, 0, fun _ => 0, by decide, Nat.le_refl _, fun _ => by decide, fun _ => ⟨rfl, rfl⟩, fun h => absurd h (by decide), fun i hi => absurd hi (Nat.not_lt_zero _)⟩
  · unfold maxLen at h2
    have hb : ∀ i, 0 ≤ zs.getD i 0 ∧ zs.getD i 0 < 18446744073709551616 := fun i => by
      have := range_u64 h5 i
      rw [List.getD_eq_getElem?_getD]
      omega
    refine ⟨x.block, x.off, fun i => (zs.getD i 0).toNat, by omega, h1, fun i => by have := hb i; show (zs.getD i 0).toNat < 2 ^ 64; omega, fun h => by simp at h, fun hp => ?_, fun i hi => ?_⟩
    · have hs := World.cell?_spot (h4 0 (by omega))
      have hs' : x.spot = none := by simpa [Addr.add] using hs
      cases x; simp_all
    · have hs := World.cell?_spot (h4 0 (by omega))
      have hs' : x.spot = none := by simpa [Addr.add] using hs
      have h6 := h4 i (by omega)
      have e : x.add i = ⟨x.block, x.off + i, none⟩ := by cases x; simp_all [Addr.add]
      rw [← e, h6]
      have := hb i
      show some (Value.int .u64 (zs.getD i 0)) = some (Value.int .u64 (((zs.getD i 0).toNat : Nat) : Int))
      rw [Int.toNat_of_nonneg this.1]

end Go.Proofs.Qxb6603759aMods
