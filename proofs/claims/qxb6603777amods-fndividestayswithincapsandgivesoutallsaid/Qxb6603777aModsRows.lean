/-
  No cell of these rows narrows 'for every input' (looked for: loops, veiled, ifaces, maps, wideKeys, modest, calm, conditions, laid).
  DERIVED. THE GIVEN ROWS OF THIS SEAT. 5 by the template 'for every input the law returns true; each argument reads behind the call as it read before'; 0 by the template 'total and deterministic' (their statements: Qxb6603777aModsTotals.lean).
  GIVEN WITH THE SEED: the statements are not yours to turn. If you find one false, say at which input.
  Laid BY PROGRAM, IN A SANDBOX (cutbox-rows.mjs): the forced cells as the released guide's own fill.sh prints them over the translation b8765504c4dfd4cc… (all of the seat's roots in one cut). By AI agents, Wed Nov 11 2026. No macro, syntax, notation, axiom, sorry.
-/
import Derived.Test.Qxb6603777aModsChecked
import GoSem.Claim
import GoSem.ClaimJoined
import GoSem.ClaimMapViews
import Derived.JoinedTies
import Derived.KernelRfl
namespace Go.Proofs.Qxb6603777aMods
/- THE CELL 'sum', in the pinned program and in every row, IS THE sha256 OF THE DUMP (.gsa) THAT Qxb6603777aModsProg.lean LOADS. Nothing in Lean hashes anything: it is a label: what it is worth is what the hold of that sum in a sandbox is worth. -/
noncomputable def Trym.pinned : Pinned := { name := "qxb6603777amods", sum := "b8765504c4dfd4cc7a175e5468ab2c0a750c25624dc4c1ed7d13e24aa87f6fe1", checked := Trym.checked }
namespace Rows
def none {H : Type} : Left H := { results := [], args := [] }

/-- 'zzlaws_internal_assignment_b1.FnFillMatchesPrefixModel': WHATEVER THE INPUT: true; the input reads as it did. -/
def fnFillMatchesPrefixModelSpec : ChangeSpec := { name := "fnFillMatchesPrefixModel", fn := fun _ => fun
  | [d1, d2, d3] => { results := [.lit (.bool true)], args := [d1, d2, d3] }
  | _ => none }
def fnFillMatchesPrefixModelRow : OpenClaim := { program := "qxb6603777amods", sum := "b8765504c4dfd4cc7a175e5468ab2c0a750c25624dc4c1ed7d13e24aa87f6fe1", func := "example.com/bellows/bellows/zzlaws_internal_assignment_b1.FnFillMatchesPrefixModel", spec := "fnFillMatchesPrefixModel", make := .lifted ["publicsums"], apart := false }
def FnFillMatchesPrefixModelSaid : Prop := fnFillMatchesPrefixModelRow.holds Trym.pinned (OpenSpec.ofChange fnFillMatchesPrefixModelSpec)

/-- ITS FALSE NEIGHBOUR: 'it returns false'. Refute it at one input. -/
def fnFillMatchesPrefixModelWrong : ChangeSpec := { name := "fnFillMatchesPrefixModel", fn := fun _ => fun
  | [d1, d2, d3] => { results := [.lit (.bool false)], args := [d1, d2, d3] }
  | _ => none }
def FnFillMatchesPrefixModelWrongFalsely : Prop := fnFillMatchesPrefixModelRow.holds Trym.pinned (OpenSpec.ofChange fnFillMatchesPrefixModelWrong)

/-- 'zzlaws_internal_assignment_b1.FnFillKeepsTheBound': WHATEVER THE INPUT: true; the input reads as it did. -/
def fnFillKeepsTheBoundSpec : ChangeSpec := { name := "fnFillKeepsTheBound", fn := fun _ => fun
  | [d1, d2, d3] => { results := [.lit (.bool true)], args := [d1, d2, d3] }
  | _ => none }
def fnFillKeepsTheBoundRow : OpenClaim := { program := "qxb6603777amods", sum := "b8765504c4dfd4cc7a175e5468ab2c0a750c25624dc4c1ed7d13e24aa87f6fe1", func := "example.com/bellows/bellows/zzlaws_internal_assignment_b1.FnFillKeepsTheBound", spec := "fnFillKeepsTheBound", make := .lifted ["publicsums"], apart := false }
def FnFillKeepsTheBoundSaid : Prop := fnFillKeepsTheBoundRow.holds Trym.pinned (OpenSpec.ofChange fnFillKeepsTheBoundSpec)

/-- ITS FALSE NEIGHBOUR: 'it returns false'. Refute it at one input. -/
def fnFillKeepsTheBoundWrong : ChangeSpec := { name := "fnFillKeepsTheBound", fn := fun _ => fun
  | [d1, d2, d3] => { results := [.lit (.bool false)], args := [d1, d2, d3] }
  | _ => none }
def FnFillKeepsTheBoundWrongFalsely : Prop := fnFillKeepsTheBoundRow.holds Trym.pinned (OpenSpec.ofChange fnFillKeepsTheBoundWrong)

/-- 'zzlaws_internal_assignment_b1.FnFillIsMonotoneInTheBound': WHATEVER THE INPUT: true; the input reads as it did. -/
def fnFillIsMonotoneInTheBoundSpec : ChangeSpec := { name := "fnFillIsMonotoneInTheBound", fn := fun _ => fun
  | [d1, d2, d3, d4] => { results := [.lit (.bool true)], args := [d1, d2, d3, d4] }
  | _ => none }
def fnFillIsMonotoneInTheBoundRow : OpenClaim := { program := "qxb6603777amods", sum := "b8765504c4dfd4cc7a175e5468ab2c0a750c25624dc4c1ed7d13e24aa87f6fe1", func := "example.com/bellows/bellows/zzlaws_internal_assignment_b1.FnFillIsMonotoneInTheBound", spec := "fnFillIsMonotoneInTheBound", make := .lifted ["publicsums"], apart := false }
def FnFillIsMonotoneInTheBoundSaid : Prop := fnFillIsMonotoneInTheBoundRow.holds Trym.pinned (OpenSpec.ofChange fnFillIsMonotoneInTheBoundSpec)

/-- ITS FALSE NEIGHBOUR: 'it returns false'. Refute it at one input. -/
def fnFillIsMonotoneInTheBoundWrong : ChangeSpec := { name := "fnFillIsMonotoneInTheBound", fn := fun _ => fun
  | [d1, d2, d3, d4] => { results := [.lit (.bool false)], args := [d1, d2, d3, d4] }
  | _ => none }
def FnFillIsMonotoneInTheBoundWrongFalsely : Prop := fnFillIsMonotoneInTheBoundRow.holds Trym.pinned (OpenSpec.ofChange fnFillIsMonotoneInTheBoundWrong)

/-- 'zzlaws_internal_assignment_b1.FnDivideMatchesRoundsModel': WHATEVER THE INPUT: true; the input reads as it did. -/
def fnDivideMatchesRoundsModelSpec : ChangeSpec := { name := "fnDivideMatchesRoundsModel", fn := fun _ => fun
  | [d1, d2, d3, d4] => { results := [.lit (.bool true)], args := [d1, d2, d3, d4] }
  | _ => none }
def fnDivideMatchesRoundsModelRow : OpenClaim := { program := "qxb6603777amods", sum := "b8765504c4dfd4cc7a175e5468ab2c0a750c25624dc4c1ed7d13e24aa87f6fe1", func := "example.com/bellows/bellows/zzlaws_internal_assignment_b1.FnDivideMatchesRoundsModel", spec := "fnDivideMatchesRoundsModel", make := .lifted ["publicsums"], apart := false }
def FnDivideMatchesRoundsModelSaid : Prop := fnDivideMatchesRoundsModelRow.holds Trym.pinned (OpenSpec.ofChange fnDivideMatchesRoundsModelSpec)

/-- ITS FALSE NEIGHBOUR: 'it returns false'. Refute it at one input. -/
def fnDivideMatchesRoundsModelWrong : ChangeSpec := { name := "fnDivideMatchesRoundsModel", fn := fun _ => fun
  | [d1, d2, d3, d4] => { results := [.lit (.bool false)], args := [d1, d2, d3, d4] }
  | _ => none }
def FnDivideMatchesRoundsModelWrongFalsely : Prop := fnDivideMatchesRoundsModelRow.holds Trym.pinned (OpenSpec.ofChange fnDivideMatchesRoundsModelWrong)

/-- 'zzlaws_internal_assignment_b1.FnDivideStaysWithinCapsAndGivesOutAll': WHATEVER THE INPUT: true; the input reads as it did. -/
def fnDivideStaysWithinCapsAndGivesOutAllSpec : ChangeSpec := { name := "fnDivideStaysWithinCapsAndGivesOutAll", fn := fun _ => fun
  | [d1, d2, d3, d4] => { results := [.lit (.bool true)], args := [d1, d2, d3, d4] }
  | _ => none }
def fnDivideStaysWithinCapsAndGivesOutAllRow : OpenClaim := { program := "qxb6603777amods", sum := "b8765504c4dfd4cc7a175e5468ab2c0a750c25624dc4c1ed7d13e24aa87f6fe1", func := "example.com/bellows/bellows/zzlaws_internal_assignment_b1.FnDivideStaysWithinCapsAndGivesOutAll", spec := "fnDivideStaysWithinCapsAndGivesOutAll", make := .lifted ["publicsums"], apart := false }
def FnDivideStaysWithinCapsAndGivesOutAllSaid : Prop := fnDivideStaysWithinCapsAndGivesOutAllRow.holds Trym.pinned (OpenSpec.ofChange fnDivideStaysWithinCapsAndGivesOutAllSpec)

/-- ITS FALSE NEIGHBOUR: 'it returns false'. Refute it at one input. -/
def fnDivideStaysWithinCapsAndGivesOutAllWrong : ChangeSpec := { name := "fnDivideStaysWithinCapsAndGivesOutAll", fn := fun _ => fun
  | [d1, d2, d3, d4] => { results := [.lit (.bool false)], args := [d1, d2, d3, d4] }
  | _ => none }
def FnDivideStaysWithinCapsAndGivesOutAllWrongFalsely : Prop := fnDivideStaysWithinCapsAndGivesOutAllRow.holds Trym.pinned (OpenSpec.ofChange fnDivideStaysWithinCapsAndGivesOutAllWrong)

end Rows
end Go.Proofs.Qxb6603777aMods
