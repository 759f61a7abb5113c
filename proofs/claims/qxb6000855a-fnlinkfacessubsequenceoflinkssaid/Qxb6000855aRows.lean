/-
  No cell of these rows narrows 'for every input' (looked for: loops, veiled, ifaces, maps, wideKeys, modest, calm, conditions, laid).
  DERIVED. THE GIVEN ROWS OF THIS SEAT. 8 by the template 'for every input the law returns true; each argument reads behind the call as it read before'; 0 by the template 'total and deterministic' (their statements: Qxb6000855aTotals.lean).
  GIVEN WITH THE SEED: the statements are not yours to turn. If you find one false, say at which input.
  Laid BY PROGRAM, IN A SANDBOX (cutbox-rows.mjs): the forced cells as the released guide's own fill.sh prints them over the translation 664fd55c0c2eda45… (all of the seat's roots in one cut). By AI agents, Wed Nov 11 2026. No macro, syntax, notation, axiom, sorry.
-/
import Derived.Test.Qxb6000855aChecked
import GoSem.Claim
import GoSem.ClaimJoined
import GoSem.ClaimMapViews
import Derived.JoinedTies
import Derived.KernelRfl
namespace Go.Proofs.Qxb6000855a
/- THE CELL 'sum', in the pinned program and in every row, IS THE sha256 OF THE DUMP (.gsa) THAT Qxb6000855aProg.lean LOADS. Nothing in Lean hashes anything: it is a label: what it is worth is what the hold of that sum in a sandbox is worth. -/
noncomputable def Try.pinned : Pinned := { name := "qxb6000855a", sum := "664fd55c0c2eda45bded79d4c3337a051a50e462fa8924a474be0c9795afe546", checked := Try.checked }
namespace Rows
def none {H : Type} : Left H := { results := [], args := [] }

/-- 'zzlaws_root_b1.FnHilbertStaysInGrid': WHATEVER THE INPUT: true; the input reads as it did. -/
def fnHilbertStaysInGridSpec : ChangeSpec := { name := "fnHilbertStaysInGrid", fn := fun _ => fun
  | [d1, d2] => { results := [.lit (.bool true)], args := [d1, d2] }
  | _ => none }
def fnHilbertStaysInGridRow : OpenClaim := { program := "qxb6000855a", sum := "664fd55c0c2eda45bded79d4c3337a051a50e462fa8924a474be0c9795afe546", func := "example.com/quorumfield/quorumfield/zzlaws_root_b1.FnHilbertStaysInGrid", spec := "fnHilbertStaysInGrid", apart := false }
def FnHilbertStaysInGridSaid : Prop := fnHilbertStaysInGridRow.holds Try.pinned (OpenSpec.ofChange fnHilbertStaysInGridSpec)

/-- ITS FALSE NEIGHBOUR: 'it returns false'. Refute it at one input. -/
def fnHilbertStaysInGridWrong : ChangeSpec := { name := "fnHilbertStaysInGrid", fn := fun _ => fun
  | [d1, d2] => { results := [.lit (.bool false)], args := [d1, d2] }
  | _ => none }
def FnHilbertStaysInGridWrongFalsely : Prop := fnHilbertStaysInGridRow.holds Try.pinned (OpenSpec.ofChange fnHilbertStaysInGridWrong)

/-- 'zzlaws_root_b1.FnHilbertInjective': WHATEVER THE INPUT: true; the input reads as it did. -/
def fnHilbertInjectiveSpec : ChangeSpec := { name := "fnHilbertInjective", fn := fun _ => fun
  | [d1, d2, d3, d4] => { results := [.lit (.bool true)], args := [d1, d2, d3, d4] }
  | _ => none }
def fnHilbertInjectiveRow : OpenClaim := { program := "qxb6000855a", sum := "664fd55c0c2eda45bded79d4c3337a051a50e462fa8924a474be0c9795afe546", func := "example.com/quorumfield/quorumfield/zzlaws_root_b1.FnHilbertInjective", spec := "fnHilbertInjective", apart := false }
def FnHilbertInjectiveSaid : Prop := fnHilbertInjectiveRow.holds Try.pinned (OpenSpec.ofChange fnHilbertInjectiveSpec)

/-- ITS FALSE NEIGHBOUR: 'it returns false'. Refute it at one input. -/
def fnHilbertInjectiveWrong : ChangeSpec := { name := "fnHilbertInjective", fn := fun _ => fun
  | [d1, d2, d3, d4] => { results := [.lit (.bool false)], args := [d1, d2, d3, d4] }
  | _ => none }
def FnHilbertInjectiveWrongFalsely : Prop := fnHilbertInjectiveRow.holds Try.pinned (OpenSpec.ofChange fnHilbertInjectiveWrong)

/-- 'zzlaws_root_b1.FnHilbertNextIsNeighbour': WHATEVER THE INPUT: true; the input reads as it did. -/
def fnHilbertNextIsNeighbourSpec : ChangeSpec := { name := "fnHilbertNextIsNeighbour", fn := fun _ => fun
  | [d1, d2] => { results := [.lit (.bool true)], args := [d1, d2] }
  | _ => none }
def fnHilbertNextIsNeighbourRow : OpenClaim := { program := "qxb6000855a", sum := "664fd55c0c2eda45bded79d4c3337a051a50e462fa8924a474be0c9795afe546", func := "example.com/quorumfield/quorumfield/zzlaws_root_b1.FnHilbertNextIsNeighbour", spec := "fnHilbertNextIsNeighbour", apart := false }
def FnHilbertNextIsNeighbourSaid : Prop := fnHilbertNextIsNeighbourRow.holds Try.pinned (OpenSpec.ofChange fnHilbertNextIsNeighbourSpec)

/-- ITS FALSE NEIGHBOUR: 'it returns false'. Refute it at one input. -/
def fnHilbertNextIsNeighbourWrong : ChangeSpec := { name := "fnHilbertNextIsNeighbour", fn := fun _ => fun
  | [d1, d2] => { results := [.lit (.bool false)], args := [d1, d2] }
  | _ => none }
def FnHilbertNextIsNeighbourWrongFalsely : Prop := fnHilbertNextIsNeighbourRow.holds Try.pinned (OpenSpec.ofChange fnHilbertNextIsNeighbourWrong)

/-- 'zzlaws_root_b1.FnHopsIsShortestPathDistance': WHATEVER THE INPUT: true; the input reads as it did. -/
def fnHopsIsShortestPathDistanceSpec : ChangeSpec := { name := "fnHopsIsShortestPathDistance", fn := fun _ => fun
  | [d1, d2, d3, d4] => { results := [.lit (.bool true)], args := [d1, d2, d3, d4] }
  | _ => none }
def fnHopsIsShortestPathDistanceRow : OpenClaim := { program := "qxb6000855a", sum := "664fd55c0c2eda45bded79d4c3337a051a50e462fa8924a474be0c9795afe546", func := "example.com/quorumfield/quorumfield/zzlaws_root_b1.FnHopsIsShortestPathDistance", spec := "fnHopsIsShortestPathDistance", apart := false }
def FnHopsIsShortestPathDistanceSaid : Prop := fnHopsIsShortestPathDistanceRow.holds Try.pinned (OpenSpec.ofChange fnHopsIsShortestPathDistanceSpec)

/-- ITS FALSE NEIGHBOUR: 'it returns false'. Refute it at one input. -/
def fnHopsIsShortestPathDistanceWrong : ChangeSpec := { name := "fnHopsIsShortestPathDistance", fn := fun _ => fun
  | [d1, d2, d3, d4] => { results := [.lit (.bool false)], args := [d1, d2, d3, d4] }
  | _ => none }
def FnHopsIsShortestPathDistanceWrongFalsely : Prop := fnHopsIsShortestPathDistanceRow.holds Try.pinned (OpenSpec.ofChange fnHopsIsShortestPathDistanceWrong)

/-- 'zzlaws_root_b1.FnHopsEarlyStopAgrees': WHATEVER THE INPUT: true; the input reads as it did. -/
def fnHopsEarlyStopAgreesSpec : ChangeSpec := { name := "fnHopsEarlyStopAgrees", fn := fun _ => fun
  | [d1, d2, d3, d4, d5] => { results := [.lit (.bool true)], args := [d1, d2, d3, d4, d5] }
  | _ => none }
def fnHopsEarlyStopAgreesRow : OpenClaim := { program := "qxb6000855a", sum := "664fd55c0c2eda45bded79d4c3337a051a50e462fa8924a474be0c9795afe546", func := "example.com/quorumfield/quorumfield/zzlaws_root_b1.FnHopsEarlyStopAgrees", spec := "fnHopsEarlyStopAgrees", apart := false }
def FnHopsEarlyStopAgreesSaid : Prop := fnHopsEarlyStopAgreesRow.holds Try.pinned (OpenSpec.ofChange fnHopsEarlyStopAgreesSpec)

/-- ITS FALSE NEIGHBOUR: 'it returns false'. Refute it at one input. -/
def fnHopsEarlyStopAgreesWrong : ChangeSpec := { name := "fnHopsEarlyStopAgrees", fn := fun _ => fun
  | [d1, d2, d3, d4, d5] => { results := [.lit (.bool false)], args := [d1, d2, d3, d4, d5] }
  | _ => none }
def FnHopsEarlyStopAgreesWrongFalsely : Prop := fnHopsEarlyStopAgreesRow.holds Try.pinned (OpenSpec.ofChange fnHopsEarlyStopAgreesWrong)

/-- 'zzlaws_root_b1.FnHopsSymmetric': WHATEVER THE INPUT: true; the input reads as it did. -/
def fnHopsSymmetricSpec : ChangeSpec := { name := "fnHopsSymmetric", fn := fun _ => fun
  | [d1, d2, d3, d4, d5] => { results := [.lit (.bool true)], args := [d1, d2, d3, d4, d5] }
  | _ => none }
def fnHopsSymmetricRow : OpenClaim := { program := "qxb6000855a", sum := "664fd55c0c2eda45bded79d4c3337a051a50e462fa8924a474be0c9795afe546", func := "example.com/quorumfield/quorumfield/zzlaws_root_b1.FnHopsSymmetric", spec := "fnHopsSymmetric", apart := false }
def FnHopsSymmetricSaid : Prop := fnHopsSymmetricRow.holds Try.pinned (OpenSpec.ofChange fnHopsSymmetricSpec)

/-- ITS FALSE NEIGHBOUR: 'it returns false'. Refute it at one input. -/
def fnHopsSymmetricWrong : ChangeSpec := { name := "fnHopsSymmetric", fn := fun _ => fun
  | [d1, d2, d3, d4, d5] => { results := [.lit (.bool false)], args := [d1, d2, d3, d4, d5] }
  | _ => none }
def FnHopsSymmetricWrongFalsely : Prop := fnHopsSymmetricRow.holds Try.pinned (OpenSpec.ofChange fnHopsSymmetricWrong)

/-- 'zzlaws_root_b1.FnLinkFacesKeepLinksWhereNoPlaceShared': WHATEVER THE INPUT: true; the input reads as it did. -/
def fnLinkFacesKeepLinksWhereNoPlaceSharedSpec : ChangeSpec := { name := "fnLinkFacesKeepLinksWhereNoPlaceShared", fn := fun _ => fun
  | [d1, d2, d3, d4] => { results := [.lit (.bool true)], args := [d1, d2, d3, d4] }
  | _ => none }
def fnLinkFacesKeepLinksWhereNoPlaceSharedRow : OpenClaim := { program := "qxb6000855a", sum := "664fd55c0c2eda45bded79d4c3337a051a50e462fa8924a474be0c9795afe546", func := "example.com/quorumfield/quorumfield/zzlaws_root_b1.FnLinkFacesKeepLinksWhereNoPlaceShared", spec := "fnLinkFacesKeepLinksWhereNoPlaceShared", apart := false }
def FnLinkFacesKeepLinksWhereNoPlaceSharedSaid : Prop := fnLinkFacesKeepLinksWhereNoPlaceSharedRow.holds Try.pinned (OpenSpec.ofChange fnLinkFacesKeepLinksWhereNoPlaceSharedSpec)

/-- ITS FALSE NEIGHBOUR: 'it returns false'. Refute it at one input. -/
def fnLinkFacesKeepLinksWhereNoPlaceSharedWrong : ChangeSpec := { name := "fnLinkFacesKeepLinksWhereNoPlaceShared", fn := fun _ => fun
  | [d1, d2, d3, d4] => { results := [.lit (.bool false)], args := [d1, d2, d3, d4] }
  | _ => none }
def FnLinkFacesKeepLinksWhereNoPlaceSharedWrongFalsely : Prop := fnLinkFacesKeepLinksWhereNoPlaceSharedRow.holds Try.pinned (OpenSpec.ofChange fnLinkFacesKeepLinksWhereNoPlaceSharedWrong)

/-- 'zzlaws_root_b1.FnLinkFacesSubsequenceOfLinks': WHATEVER THE INPUT: true; the input reads as it did. -/
def fnLinkFacesSubsequenceOfLinksSpec : ChangeSpec := { name := "fnLinkFacesSubsequenceOfLinks", fn := fun _ => fun
  | [d1, d2, d3, d4] => { results := [.lit (.bool true)], args := [d1, d2, d3, d4] }
  | _ => none }
def fnLinkFacesSubsequenceOfLinksRow : OpenClaim := { program := "qxb6000855a", sum := "664fd55c0c2eda45bded79d4c3337a051a50e462fa8924a474be0c9795afe546", func := "example.com/quorumfield/quorumfield/zzlaws_root_b1.FnLinkFacesSubsequenceOfLinks", spec := "fnLinkFacesSubsequenceOfLinks", apart := false }
def FnLinkFacesSubsequenceOfLinksSaid : Prop := fnLinkFacesSubsequenceOfLinksRow.holds Try.pinned (OpenSpec.ofChange fnLinkFacesSubsequenceOfLinksSpec)

/-- ITS FALSE NEIGHBOUR: 'it returns false'. Refute it at one input. -/
def fnLinkFacesSubsequenceOfLinksWrong : ChangeSpec := { name := "fnLinkFacesSubsequenceOfLinks", fn := fun _ => fun
  | [d1, d2, d3, d4] => { results := [.lit (.bool false)], args := [d1, d2, d3, d4] }
  | _ => none }
def FnLinkFacesSubsequenceOfLinksWrongFalsely : Prop := fnLinkFacesSubsequenceOfLinksRow.holds Try.pinned (OpenSpec.ofChange fnLinkFacesSubsequenceOfLinksWrong)

end Rows
end Go.Proofs.Qxb6000855a
