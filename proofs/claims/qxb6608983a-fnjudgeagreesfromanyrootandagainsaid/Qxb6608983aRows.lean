/-
  No cell of these rows narrows 'for every input' (looked for: loops, veiled, ifaces, maps, wideKeys, modest, calm, conditions, laid).
  DERIVED. THE GIVEN ROWS OF THIS SEAT. 6 by the template 'for every input the law returns true; each argument reads behind the call as it read before'; 0 by the template 'total and deterministic' (their statements: Qxb6608983aTotals.lean).
  GIVEN WITH THE SEED: the statements are not yours to turn. If you find one false, say at which input.
  Laid BY PROGRAM, IN A SANDBOX (cutbox-rows.mjs): the forced cells as the released guide's own fill.sh prints them over the translation 51ddde1beee013bf… (all of the seat's roots in one cut). By AI agents, Wed Nov 11 2026. No macro, syntax, notation, axiom, sorry.
-/
import Derived.Test.Qxb6608983aChecked
import GoSem.Claim
import GoSem.ClaimJoined
import GoSem.ClaimMapViews
import Derived.JoinedTies
import Derived.KernelRfl
namespace Go.Proofs.Qxb6608983a
/- THE CELL 'sum', in the pinned program and in every row, IS THE sha256 OF THE DUMP (.gsa) THAT Qxb6608983aProg.lean LOADS. Nothing in Lean hashes anything: it is a label: what it is worth is what the hold of that sum in a sandbox is worth. -/
noncomputable def Try.pinned : Pinned := { name := "qxb6608983a", sum := "51ddde1beee013bfb17aef0e2e34121cf125e6185caf10a02ead2772abe22658", checked := Try.checked }
namespace Rows
def none {H : Type} : Left H := { results := [], args := [] }

/-- 'zzlaws_topology_b1.FnFromMiddleOrdersByDistance': WHATEVER THE INPUT: true; the input reads as it did. -/
def fnFromMiddleOrdersByDistanceSpec : ChangeSpec := { name := "fnFromMiddleOrdersByDistance", fn := fun _ => fun
  | [d1, d2, d3, d4] => { results := [.lit (.bool true)], args := [d1, d2, d3, d4] }
  | _ => none }
def fnFromMiddleOrdersByDistanceRow : OpenClaim := { program := "qxb6608983a", sum := "51ddde1beee013bfb17aef0e2e34121cf125e6185caf10a02ead2772abe22658", func := "example.com/legate/legate/zzlaws_topology_b1.FnFromMiddleOrdersByDistance", spec := "fnFromMiddleOrdersByDistance", apart := false }
def FnFromMiddleOrdersByDistanceSaid : Prop := fnFromMiddleOrdersByDistanceRow.holds Try.pinned (OpenSpec.ofChange fnFromMiddleOrdersByDistanceSpec)

/-- ITS FALSE NEIGHBOUR: 'it returns false'. Refute it at one input. -/
def fnFromMiddleOrdersByDistanceWrong : ChangeSpec := { name := "fnFromMiddleOrdersByDistance", fn := fun _ => fun
  | [d1, d2, d3, d4] => { results := [.lit (.bool false)], args := [d1, d2, d3, d4] }
  | _ => none }
def FnFromMiddleOrdersByDistanceWrongFalsely : Prop := fnFromMiddleOrdersByDistanceRow.holds Try.pinned (OpenSpec.ofChange fnFromMiddleOrdersByDistanceWrong)

/-- 'zzlaws_topology_b1.FnFromMiddleStartsAtATreeCentre': WHATEVER THE INPUT: true; the input reads as it did. -/
def fnFromMiddleStartsAtATreeCentreSpec : ChangeSpec := { name := "fnFromMiddleStartsAtATreeCentre", fn := fun _ => fun
  | [d1, d2, d3, d4] => { results := [.lit (.bool true)], args := [d1, d2, d3, d4] }
  | _ => none }
def fnFromMiddleStartsAtATreeCentreRow : OpenClaim := { program := "qxb6608983a", sum := "51ddde1beee013bfb17aef0e2e34121cf125e6185caf10a02ead2772abe22658", func := "example.com/legate/legate/zzlaws_topology_b1.FnFromMiddleStartsAtATreeCentre", spec := "fnFromMiddleStartsAtATreeCentre", apart := false }
def FnFromMiddleStartsAtATreeCentreSaid : Prop := fnFromMiddleStartsAtATreeCentreRow.holds Try.pinned (OpenSpec.ofChange fnFromMiddleStartsAtATreeCentreSpec)

/-- ITS FALSE NEIGHBOUR: 'it returns false'. Refute it at one input. -/
def fnFromMiddleStartsAtATreeCentreWrong : ChangeSpec := { name := "fnFromMiddleStartsAtATreeCentre", fn := fun _ => fun
  | [d1, d2, d3, d4] => { results := [.lit (.bool false)], args := [d1, d2, d3, d4] }
  | _ => none }
def FnFromMiddleStartsAtATreeCentreWrongFalsely : Prop := fnFromMiddleStartsAtATreeCentreRow.holds Try.pinned (OpenSpec.ofChange fnFromMiddleStartsAtATreeCentreWrong)

/-- 'zzlaws_topology_b1.FnJudgeFindsTheDiameter': WHATEVER THE INPUT: true; the input reads as it did. -/
def fnJudgeFindsTheDiameterSpec : ChangeSpec := { name := "fnJudgeFindsTheDiameter", fn := fun _ => fun
  | [d1, d2, d3, d4, d5, d6] => { results := [.lit (.bool true)], args := [d1, d2, d3, d4, d5, d6] }
  | _ => none }
def fnJudgeFindsTheDiameterRow : OpenClaim := { program := "qxb6608983a", sum := "51ddde1beee013bfb17aef0e2e34121cf125e6185caf10a02ead2772abe22658", func := "example.com/legate/legate/zzlaws_topology_b1.FnJudgeFindsTheDiameter", spec := "fnJudgeFindsTheDiameter", unfollowed := true, recurses := true, apart := false }
def FnJudgeFindsTheDiameterSaid : Prop := fnJudgeFindsTheDiameterRow.holds Try.pinned (OpenSpec.ofChange fnJudgeFindsTheDiameterSpec)

/-- ITS FALSE NEIGHBOUR: 'it returns false'. Refute it at one input. -/
def fnJudgeFindsTheDiameterWrong : ChangeSpec := { name := "fnJudgeFindsTheDiameter", fn := fun _ => fun
  | [d1, d2, d3, d4, d5, d6] => { results := [.lit (.bool false)], args := [d1, d2, d3, d4, d5, d6] }
  | _ => none }
def FnJudgeFindsTheDiameterWrongFalsely : Prop := fnJudgeFindsTheDiameterRow.holds Try.pinned (OpenSpec.ofChange fnJudgeFindsTheDiameterWrong)

/-- 'zzlaws_topology_b1.FnJudgeAgreesFromAnyRootAndAgain': WHATEVER THE INPUT: true; the input reads as it did. -/
def fnJudgeAgreesFromAnyRootAndAgainSpec : ChangeSpec := { name := "fnJudgeAgreesFromAnyRootAndAgain", fn := fun _ => fun
  | [d1, d2, d3, d4, d5, d6] => { results := [.lit (.bool true)], args := [d1, d2, d3, d4, d5, d6] }
  | _ => none }
def fnJudgeAgreesFromAnyRootAndAgainRow : OpenClaim := { program := "qxb6608983a", sum := "51ddde1beee013bfb17aef0e2e34121cf125e6185caf10a02ead2772abe22658", func := "example.com/legate/legate/zzlaws_topology_b1.FnJudgeAgreesFromAnyRootAndAgain", spec := "fnJudgeAgreesFromAnyRootAndAgain", unfollowed := true, recurses := true, apart := false }
def FnJudgeAgreesFromAnyRootAndAgainSaid : Prop := fnJudgeAgreesFromAnyRootAndAgainRow.holds Try.pinned (OpenSpec.ofChange fnJudgeAgreesFromAnyRootAndAgainSpec)

/-- ITS FALSE NEIGHBOUR: 'it returns false'. Refute it at one input. -/
def fnJudgeAgreesFromAnyRootAndAgainWrong : ChangeSpec := { name := "fnJudgeAgreesFromAnyRootAndAgain", fn := fun _ => fun
  | [d1, d2, d3, d4, d5, d6] => { results := [.lit (.bool false)], args := [d1, d2, d3, d4, d5, d6] }
  | _ => none }
def FnJudgeAgreesFromAnyRootAndAgainWrongFalsely : Prop := fnJudgeAgreesFromAnyRootAndAgainRow.holds Try.pinned (OpenSpec.ofChange fnJudgeAgreesFromAnyRootAndAgainWrong)

/-- 'zzlaws_topology_b1.FnKeepGrowsTheTreeWithTheLinkRestored': WHATEVER THE INPUT: true; the input reads as it did. -/
def fnKeepGrowsTheTreeWithTheLinkRestoredSpec : ChangeSpec := { name := "fnKeepGrowsTheTreeWithTheLinkRestored", fn := fun _ => fun
  | [d1, d2, d3, d4, d5, d6, d7] => { results := [.lit (.bool true)], args := [d1, d2, d3, d4, d5, d6, d7] }
  | _ => none }
def fnKeepGrowsTheTreeWithTheLinkRestoredRow : OpenClaim := { program := "qxb6608983a", sum := "51ddde1beee013bfb17aef0e2e34121cf125e6185caf10a02ead2772abe22658", func := "example.com/legate/legate/zzlaws_topology_b1.FnKeepGrowsTheTreeWithTheLinkRestored", spec := "fnKeepGrowsTheTreeWithTheLinkRestored", apart := false }
def FnKeepGrowsTheTreeWithTheLinkRestoredSaid : Prop := fnKeepGrowsTheTreeWithTheLinkRestoredRow.holds Try.pinned (OpenSpec.ofChange fnKeepGrowsTheTreeWithTheLinkRestoredSpec)

/-- ITS FALSE NEIGHBOUR: 'it returns false'. Refute it at one input. -/
def fnKeepGrowsTheTreeWithTheLinkRestoredWrong : ChangeSpec := { name := "fnKeepGrowsTheTreeWithTheLinkRestored", fn := fun _ => fun
  | [d1, d2, d3, d4, d5, d6, d7] => { results := [.lit (.bool false)], args := [d1, d2, d3, d4, d5, d6, d7] }
  | _ => none }
def FnKeepGrowsTheTreeWithTheLinkRestoredWrongFalsely : Prop := fnKeepGrowsTheTreeWithTheLinkRestoredRow.holds Try.pinned (OpenSpec.ofChange fnKeepGrowsTheTreeWithTheLinkRestoredWrong)

/-- 'zzlaws_topology_b1.FnKeepTwoTreesStandApart': WHATEVER THE INPUT: true; the input reads as it did. -/
def fnKeepTwoTreesStandApartSpec : ChangeSpec := { name := "fnKeepTwoTreesStandApart", fn := fun _ => fun
  | [d1, d2, d3, d4, d5, d6, d7, d8] => { results := [.lit (.bool true)], args := [d1, d2, d3, d4, d5, d6, d7, d8] }
  | _ => none }
def fnKeepTwoTreesStandApartRow : OpenClaim := { program := "qxb6608983a", sum := "51ddde1beee013bfb17aef0e2e34121cf125e6185caf10a02ead2772abe22658", func := "example.com/legate/legate/zzlaws_topology_b1.FnKeepTwoTreesStandApart", spec := "fnKeepTwoTreesStandApart", apart := false }
def FnKeepTwoTreesStandApartSaid : Prop := fnKeepTwoTreesStandApartRow.holds Try.pinned (OpenSpec.ofChange fnKeepTwoTreesStandApartSpec)

/-- ITS FALSE NEIGHBOUR: 'it returns false'. Refute it at one input. -/
def fnKeepTwoTreesStandApartWrong : ChangeSpec := { name := "fnKeepTwoTreesStandApart", fn := fun _ => fun
  | [d1, d2, d3, d4, d5, d6, d7, d8] => { results := [.lit (.bool false)], args := [d1, d2, d3, d4, d5, d6, d7, d8] }
  | _ => none }
def FnKeepTwoTreesStandApartWrongFalsely : Prop := fnKeepTwoTreesStandApartRow.holds Try.pinned (OpenSpec.ofChange fnKeepTwoTreesStandApartWrong)

end Rows
end Go.Proofs.Qxb6608983a
