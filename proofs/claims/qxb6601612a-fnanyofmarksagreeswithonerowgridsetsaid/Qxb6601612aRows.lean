/-
  No cell of these rows narrows 'for every input' (looked for: loops, veiled, ifaces, maps, wideKeys, modest, calm, conditions, laid).
  DERIVED. THE GIVEN ROWS OF THIS SEAT. 6 by the template 'for every input the law returns true; each argument reads behind the call as it read before'; 0 by the template 'total and deterministic' (their statements: Qxb6601612aTotals.lean).
  GIVEN WITH THE SEED: the statements are not yours to turn. If you find one false, say at which input.
  Laid BY PROGRAM, IN A SANDBOX (cutbox-rows.mjs): the forced cells as the released guide's own fill.sh prints them over the translation ca303c345a6da681… (all of the seat's roots in one cut). By AI agents, Wed Nov 11 2026. No macro, syntax, notation, axiom, sorry.
-/
import Derived.Test.Qxb6601612aChecked
import GoSem.Claim
import GoSem.ClaimJoined
import GoSem.ClaimMapViews
import Derived.JoinedTies
import Derived.KernelRfl
namespace Go.Proofs.Qxb6601612a
/- THE CELL 'sum', in the pinned program and in every row, IS THE sha256 OF THE DUMP (.gsa) THAT Qxb6601612aProg.lean LOADS. Nothing in Lean hashes anything: it is a label: what it is worth is what the hold of that sum in a sandbox is worth. -/
noncomputable def Try.pinned : Pinned := { name := "qxb6601612a", sum := "ca303c345a6da68178e2c5bbc4c72651eca485fb6b8abb58d928163103e04e20", checked := Try.checked }
namespace Rows
def none {H : Type} : Left H := { results := [], args := [] }

/-- 'zzlaws_pkg_quorum_b1.FnGridContainsMatchesCellModel': WHATEVER THE INPUT: true; the input reads as it did. -/
def fnGridContainsMatchesCellModelSpec : ChangeSpec := { name := "fnGridContainsMatchesCellModel", fn := fun _ => fun
  | [d1, d2, d3, d4, d5] => { results := [.lit (.bool true)], args := [d1, d2, d3, d4, d5] }
  | _ => none }
def fnGridContainsMatchesCellModelRow : OpenClaim := { program := "qxb6601612a", sum := "ca303c345a6da68178e2c5bbc4c72651eca485fb6b8abb58d928163103e04e20", func := "example.com/testudo/testudo/zzlaws_pkg_quorum_b1.FnGridContainsMatchesCellModel", spec := "fnGridContainsMatchesCellModel", apart := false }
def FnGridContainsMatchesCellModelSaid : Prop := fnGridContainsMatchesCellModelRow.holds Try.pinned (OpenSpec.ofChange fnGridContainsMatchesCellModelSpec)

/-- ITS FALSE NEIGHBOUR: 'it returns false'. Refute it at one input. -/
def fnGridContainsMatchesCellModelWrong : ChangeSpec := { name := "fnGridContainsMatchesCellModel", fn := fun _ => fun
  | [d1, d2, d3, d4, d5] => { results := [.lit (.bool false)], args := [d1, d2, d3, d4, d5] }
  | _ => none }
def FnGridContainsMatchesCellModelWrongFalsely : Prop := fnGridContainsMatchesCellModelRow.holds Try.pinned (OpenSpec.ofChange fnGridContainsMatchesCellModelWrong)

/-- 'zzlaws_pkg_quorum_b1.FnGridContainsUpwardClosed': WHATEVER THE INPUT: true; the input reads as it did. -/
def fnGridContainsUpwardClosedSpec : ChangeSpec := { name := "fnGridContainsUpwardClosed", fn := fun _ => fun
  | [d1, d2, d3, d4, d5, d6] => { results := [.lit (.bool true)], args := [d1, d2, d3, d4, d5, d6] }
  | _ => none }
def fnGridContainsUpwardClosedRow : OpenClaim := { program := "qxb6601612a", sum := "ca303c345a6da68178e2c5bbc4c72651eca485fb6b8abb58d928163103e04e20", func := "example.com/testudo/testudo/zzlaws_pkg_quorum_b1.FnGridContainsUpwardClosed", spec := "fnGridContainsUpwardClosed", apart := false }
def FnGridContainsUpwardClosedSaid : Prop := fnGridContainsUpwardClosedRow.holds Try.pinned (OpenSpec.ofChange fnGridContainsUpwardClosedSpec)

/-- ITS FALSE NEIGHBOUR: 'it returns false'. Refute it at one input. -/
def fnGridContainsUpwardClosedWrong : ChangeSpec := { name := "fnGridContainsUpwardClosed", fn := fun _ => fun
  | [d1, d2, d3, d4, d5, d6] => { results := [.lit (.bool false)], args := [d1, d2, d3, d4, d5, d6] }
  | _ => none }
def FnGridContainsUpwardClosedWrongFalsely : Prop := fnGridContainsUpwardClosedRow.holds Try.pinned (OpenSpec.ofChange fnGridContainsUpwardClosedWrong)

/-- 'zzlaws_pkg_quorum_b1.FnGridSetIsFirstOccurrencesInRange': WHATEVER THE INPUT: true; the input reads as it did. -/
def fnGridSetIsFirstOccurrencesInRangeSpec : ChangeSpec := { name := "fnGridSetIsFirstOccurrencesInRange", fn := fun _ => fun
  | [d1, d2, d3, d4, d5] => { results := [.lit (.bool true)], args := [d1, d2, d3, d4, d5] }
  | _ => none }
def fnGridSetIsFirstOccurrencesInRangeRow : OpenClaim := { program := "qxb6601612a", sum := "ca303c345a6da68178e2c5bbc4c72651eca485fb6b8abb58d928163103e04e20", func := "example.com/testudo/testudo/zzlaws_pkg_quorum_b1.FnGridSetIsFirstOccurrencesInRange", spec := "fnGridSetIsFirstOccurrencesInRange", apart := false }
def FnGridSetIsFirstOccurrencesInRangeSaid : Prop := fnGridSetIsFirstOccurrencesInRangeRow.holds Try.pinned (OpenSpec.ofChange fnGridSetIsFirstOccurrencesInRangeSpec)

/-- ITS FALSE NEIGHBOUR: 'it returns false'. Refute it at one input. -/
def fnGridSetIsFirstOccurrencesInRangeWrong : ChangeSpec := { name := "fnGridSetIsFirstOccurrencesInRange", fn := fun _ => fun
  | [d1, d2, d3, d4, d5] => { results := [.lit (.bool false)], args := [d1, d2, d3, d4, d5] }
  | _ => none }
def FnGridSetIsFirstOccurrencesInRangeWrongFalsely : Prop := fnGridSetIsFirstOccurrencesInRangeRow.holds Try.pinned (OpenSpec.ofChange fnGridSetIsFirstOccurrencesInRangeWrong)

/-- 'zzlaws_pkg_quorum_b1.FnGridSetIdempotent': WHATEVER THE INPUT: true; the input reads as it did. -/
def fnGridSetIdempotentSpec : ChangeSpec := { name := "fnGridSetIdempotent", fn := fun _ => fun
  | [d1, d2, d3, d4, d5] => { results := [.lit (.bool true)], args := [d1, d2, d3, d4, d5] }
  | _ => none }
def fnGridSetIdempotentRow : OpenClaim := { program := "qxb6601612a", sum := "ca303c345a6da68178e2c5bbc4c72651eca485fb6b8abb58d928163103e04e20", func := "example.com/testudo/testudo/zzlaws_pkg_quorum_b1.FnGridSetIdempotent", spec := "fnGridSetIdempotent", apart := false }
def FnGridSetIdempotentSaid : Prop := fnGridSetIdempotentRow.holds Try.pinned (OpenSpec.ofChange fnGridSetIdempotentSpec)

/-- ITS FALSE NEIGHBOUR: 'it returns false'. Refute it at one input. -/
def fnGridSetIdempotentWrong : ChangeSpec := { name := "fnGridSetIdempotent", fn := fun _ => fun
  | [d1, d2, d3, d4, d5] => { results := [.lit (.bool false)], args := [d1, d2, d3, d4, d5] }
  | _ => none }
def FnGridSetIdempotentWrongFalsely : Prop := fnGridSetIdempotentRow.holds Try.pinned (OpenSpec.ofChange fnGridSetIdempotentWrong)

/-- 'zzlaws_pkg_quorum_b1.FnAnyOfMarksAgreesWithOneRowGridSet': WHATEVER THE INPUT: true; the input reads as it did. -/
def fnAnyOfMarksAgreesWithOneRowGridSetSpec : ChangeSpec := { name := "fnAnyOfMarksAgreesWithOneRowGridSet", fn := fun _ => fun
  | [d1, d2, d3, d4] => { results := [.lit (.bool true)], args := [d1, d2, d3, d4] }
  | _ => none }
def fnAnyOfMarksAgreesWithOneRowGridSetRow : OpenClaim := { program := "qxb6601612a", sum := "ca303c345a6da68178e2c5bbc4c72651eca485fb6b8abb58d928163103e04e20", func := "example.com/testudo/testudo/zzlaws_pkg_quorum_b1.FnAnyOfMarksAgreesWithOneRowGridSet", spec := "fnAnyOfMarksAgreesWithOneRowGridSet", apart := false }
def FnAnyOfMarksAgreesWithOneRowGridSetSaid : Prop := fnAnyOfMarksAgreesWithOneRowGridSetRow.holds Try.pinned (OpenSpec.ofChange fnAnyOfMarksAgreesWithOneRowGridSetSpec)

/-- ITS FALSE NEIGHBOUR: 'it returns false'. Refute it at one input. -/
def fnAnyOfMarksAgreesWithOneRowGridSetWrong : ChangeSpec := { name := "fnAnyOfMarksAgreesWithOneRowGridSet", fn := fun _ => fun
  | [d1, d2, d3, d4] => { results := [.lit (.bool false)], args := [d1, d2, d3, d4] }
  | _ => none }
def FnAnyOfMarksAgreesWithOneRowGridSetWrongFalsely : Prop := fnAnyOfMarksAgreesWithOneRowGridSetRow.holds Try.pinned (OpenSpec.ofChange fnAnyOfMarksAgreesWithOneRowGridSetWrong)

/-- 'zzlaws_pkg_quorum_b1.FnAnyOfMarksOfUnionIsUnionOfMarks': WHATEVER THE INPUT: true; the input reads as it did. -/
def fnAnyOfMarksOfUnionIsUnionOfMarksSpec : ChangeSpec := { name := "fnAnyOfMarksOfUnionIsUnionOfMarks", fn := fun _ => fun
  | [d1, d2, d3, d4, d5] => { results := [.lit (.bool true)], args := [d1, d2, d3, d4, d5] }
  | _ => none }
def fnAnyOfMarksOfUnionIsUnionOfMarksRow : OpenClaim := { program := "qxb6601612a", sum := "ca303c345a6da68178e2c5bbc4c72651eca485fb6b8abb58d928163103e04e20", func := "example.com/testudo/testudo/zzlaws_pkg_quorum_b1.FnAnyOfMarksOfUnionIsUnionOfMarks", spec := "fnAnyOfMarksOfUnionIsUnionOfMarks", apart := false }
def FnAnyOfMarksOfUnionIsUnionOfMarksSaid : Prop := fnAnyOfMarksOfUnionIsUnionOfMarksRow.holds Try.pinned (OpenSpec.ofChange fnAnyOfMarksOfUnionIsUnionOfMarksSpec)

/-- ITS FALSE NEIGHBOUR: 'it returns false'. Refute it at one input. -/
def fnAnyOfMarksOfUnionIsUnionOfMarksWrong : ChangeSpec := { name := "fnAnyOfMarksOfUnionIsUnionOfMarks", fn := fun _ => fun
  | [d1, d2, d3, d4, d5] => { results := [.lit (.bool false)], args := [d1, d2, d3, d4, d5] }
  | _ => none }
def FnAnyOfMarksOfUnionIsUnionOfMarksWrongFalsely : Prop := fnAnyOfMarksOfUnionIsUnionOfMarksRow.holds Try.pinned (OpenSpec.ofChange fnAnyOfMarksOfUnionIsUnionOfMarksWrong)

end Rows
end Go.Proofs.Qxb6601612a
