/-
  No cell of these rows narrows 'for every input' (looked for: loops, veiled, ifaces, maps, wideKeys, modest, calm, conditions, laid).
  DERIVED. THE GIVEN ROWS OF THIS SEAT. 4 by the template 'for every input the law returns true; each argument reads behind the call as it read before'; 0 by the template 'total and deterministic' (their statements: Qxb6603759aModsTotals.lean).
  GIVEN WITH THE SEED: the statements are not yours to turn. If you find one false, say at which input.
  Laid BY PROGRAM, IN A SANDBOX (cutbox-rows.mjs): the forced cells as the released guide's own fill.sh prints them over the translation 1704bf3b83b630d4… (all of the seat's roots in one cut). By AI agents, Wed Nov 11 2026. No macro, syntax, notation, axiom, sorry.
-/
import Derived.Test.Qxb6603759aModsChecked
import GoSem.Claim
import GoSem.ClaimJoined
import GoSem.ClaimMapViews
import Derived.JoinedTies
import Derived.KernelRfl
namespace Go.Proofs.Qxb6603759aMods
/- THE CELL 'sum', in the pinned program and in every row, IS THE sha256 OF THE DUMP (.gsa) THAT Qxb6603759aModsProg.lean LOADS. Nothing in Lean hashes anything: it is a label: what it is worth is what the hold of that sum in a sandbox is worth. -/
noncomputable def Trym.pinned : Pinned := { name := "qxb6603759amods", sum := "1704bf3b83b630d40b62ab3a5a9ac2085618c5c3fa2e98d5b3a4e85907b53243", checked := Trym.checked }
namespace Rows
def none {H : Type} : Left H := { results := [], args := [] }

/-- 'zzlaws_pkg_trades_b1.FnShiftUpMatchesBitModel': WHATEVER THE INPUT: true; the input reads as it did. -/
def fnShiftUpMatchesBitModelSpec : ChangeSpec := { name := "fnShiftUpMatchesBitModel", fn := fun _ => fun
  | [d1, d2, d3, d4] => { results := [.lit (.bool true)], args := [d1, d2, d3, d4] }
  | _ => none }
def fnShiftUpMatchesBitModelRow : OpenClaim := { program := "qxb6603759amods", sum := "1704bf3b83b630d40b62ab3a5a9ac2085618c5c3fa2e98d5b3a4e85907b53243", func := "example.com/tickwright/tickwright/zzlaws_pkg_trades_b1.FnShiftUpMatchesBitModel", spec := "fnShiftUpMatchesBitModel", make := .lifted ["publicsums"], apart := false }
def FnShiftUpMatchesBitModelSaid : Prop := fnShiftUpMatchesBitModelRow.holds Trym.pinned (OpenSpec.ofChange fnShiftUpMatchesBitModelSpec)

/-- ITS FALSE NEIGHBOUR: 'it returns false'. Refute it at one input. -/
def fnShiftUpMatchesBitModelWrong : ChangeSpec := { name := "fnShiftUpMatchesBitModel", fn := fun _ => fun
  | [d1, d2, d3, d4] => { results := [.lit (.bool false)], args := [d1, d2, d3, d4] }
  | _ => none }
def FnShiftUpMatchesBitModelWrongFalsely : Prop := fnShiftUpMatchesBitModelRow.holds Trym.pinned (OpenSpec.ofChange fnShiftUpMatchesBitModelWrong)

/-- 'zzlaws_pkg_trades_b1.FnInsertMatchesListModel': WHATEVER THE INPUT: true; the input reads as it did. -/
def fnInsertMatchesListModelSpec : ChangeSpec := { name := "fnInsertMatchesListModel", fn := fun _ => fun
  | [d1, d2, d3] => { results := [.lit (.bool true)], args := [d1, d2, d3] }
  | _ => none }
def fnInsertMatchesListModelRow : OpenClaim := { program := "qxb6603759amods", sum := "1704bf3b83b630d40b62ab3a5a9ac2085618c5c3fa2e98d5b3a4e85907b53243", func := "example.com/tickwright/tickwright/zzlaws_pkg_trades_b1.FnInsertMatchesListModel", spec := "fnInsertMatchesListModel", make := .lifted ["publicsums"], apart := false }
def FnInsertMatchesListModelSaid : Prop := fnInsertMatchesListModelRow.holds Trym.pinned (OpenSpec.ofChange fnInsertMatchesListModelSpec)

/-- ITS FALSE NEIGHBOUR: 'it returns false'. Refute it at one input. -/
def fnInsertMatchesListModelWrong : ChangeSpec := { name := "fnInsertMatchesListModel", fn := fun _ => fun
  | [d1, d2, d3] => { results := [.lit (.bool false)], args := [d1, d2, d3] }
  | _ => none }
def FnInsertMatchesListModelWrongFalsely : Prop := fnInsertMatchesListModelRow.holds Trym.pinned (OpenSpec.ofChange fnInsertMatchesListModelWrong)

/-- 'zzlaws_pkg_trades_b1.FnInsertKeepsLeafSorted': WHATEVER THE INPUT: true; the input reads as it did. -/
def fnInsertKeepsLeafSortedSpec : ChangeSpec := { name := "fnInsertKeepsLeafSorted", fn := fun _ => fun
  | [d1, d2, d3] => { results := [.lit (.bool true)], args := [d1, d2, d3] }
  | _ => none }
def fnInsertKeepsLeafSortedRow : OpenClaim := { program := "qxb6603759amods", sum := "1704bf3b83b630d40b62ab3a5a9ac2085618c5c3fa2e98d5b3a4e85907b53243", func := "example.com/tickwright/tickwright/zzlaws_pkg_trades_b1.FnInsertKeepsLeafSorted", spec := "fnInsertKeepsLeafSorted", make := .lifted ["publicsums"], apart := false }
def FnInsertKeepsLeafSortedSaid : Prop := fnInsertKeepsLeafSortedRow.holds Trym.pinned (OpenSpec.ofChange fnInsertKeepsLeafSortedSpec)

/-- ITS FALSE NEIGHBOUR: 'it returns false'. Refute it at one input. -/
def fnInsertKeepsLeafSortedWrong : ChangeSpec := { name := "fnInsertKeepsLeafSorted", fn := fun _ => fun
  | [d1, d2, d3] => { results := [.lit (.bool false)], args := [d1, d2, d3] }
  | _ => none }
def FnInsertKeepsLeafSortedWrongFalsely : Prop := fnInsertKeepsLeafSortedRow.holds Trym.pinned (OpenSpec.ofChange fnInsertKeepsLeafSortedWrong)

/-- 'zzlaws_pkg_trades_b1.FnAbsorbMatchesUnionModel': WHATEVER THE INPUT: true; the input reads as it did. -/
def fnAbsorbMatchesUnionModelSpec : ChangeSpec := { name := "fnAbsorbMatchesUnionModel", fn := fun _ => fun
  | [d1, d2] => { results := [.lit (.bool true)], args := [d1, d2] }
  | _ => none }
def fnAbsorbMatchesUnionModelRow : OpenClaim := { program := "qxb6603759amods", sum := "1704bf3b83b630d40b62ab3a5a9ac2085618c5c3fa2e98d5b3a4e85907b53243", func := "example.com/tickwright/tickwright/zzlaws_pkg_trades_b1.FnAbsorbMatchesUnionModel", spec := "fnAbsorbMatchesUnionModel", make := .lifted ["publicsums"], apart := false }
def FnAbsorbMatchesUnionModelSaid : Prop := fnAbsorbMatchesUnionModelRow.holds Trym.pinned (OpenSpec.ofChange fnAbsorbMatchesUnionModelSpec)

/-- ITS FALSE NEIGHBOUR: 'it returns false'. Refute it at one input. -/
def fnAbsorbMatchesUnionModelWrong : ChangeSpec := { name := "fnAbsorbMatchesUnionModel", fn := fun _ => fun
  | [d1, d2] => { results := [.lit (.bool false)], args := [d1, d2] }
  | _ => none }
def FnAbsorbMatchesUnionModelWrongFalsely : Prop := fnAbsorbMatchesUnionModelRow.holds Trym.pinned (OpenSpec.ofChange fnAbsorbMatchesUnionModelWrong)

end Rows
end Go.Proofs.Qxb6603759aMods
