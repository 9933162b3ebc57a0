/-
  No cell of these rows narrows 'for every input' (looked for: loops, veiled, ifaces, maps, wideKeys, modest, calm, conditions, laid).
  DERIVED. THE GIVEN ROWS OF THIS SEAT. 2 by the template 'for every input the law returns true; each argument reads behind the call as it read before'; 0 by the template 'total and deterministic' (their statements: Qxb6614108aTotals.lean).
  GIVEN WITH THE SEED: the statements are not yours to turn. If you find one false, say at which input.
  Laid BY PROGRAM, IN A SANDBOX (cutbox-rows.mjs): the forced cells as the released guide's own fill.sh prints them over the translation 79056c31963c9460… (all of the seat's roots in one cut). By AI agents, Wed Nov 11 2026. No macro, syntax, notation, axiom, sorry.
-/
import Derived.Test.Qxb6614108aChecked
import GoSem.Claim
import GoSem.ClaimJoined
import GoSem.ClaimMapViews
import Derived.JoinedTies
import Derived.KernelRfl
namespace Go.Proofs.Qxb6614108a
/- THE CELL 'sum', in the pinned program and in every row, IS THE sha256 OF THE DUMP (.gsa) THAT Qxb6614108aProg.lean LOADS. Nothing in Lean hashes anything: it is a label: what it is worth is what the hold of that sum in a sandbox is worth. -/
noncomputable def Try.pinned : Pinned := { name := "qxb6614108a", sum := "79056c31963c946093a70d76dce99a1c816dfb10c0df3b49ebe086237de18493", checked := Try.checked }
namespace Rows
def none {H : Type} : Left H := { results := [], args := [] }

/-- 'zzlaws_root_b1.FnMemoryLimitIsMonotoneAndCapped': WHATEVER THE INPUT: true; the input reads as it did. -/
def fnMemoryLimitIsMonotoneAndCappedSpec : ChangeSpec := { name := "fnMemoryLimitIsMonotoneAndCapped", fn := fun _ => fun
  | [d1, d2] => { results := [.lit (.bool true)], args := [d1, d2] }
  | _ => none }
def fnMemoryLimitIsMonotoneAndCappedRow : OpenClaim := { program := "qxb6614108a", sum := "79056c31963c946093a70d76dce99a1c816dfb10c0df3b49ebe086237de18493", func := "example.com/puffer/puffer/zzlaws_root_b1.FnMemoryLimitIsMonotoneAndCapped", spec := "fnMemoryLimitIsMonotoneAndCapped", apart := false }
def FnMemoryLimitIsMonotoneAndCappedSaid : Prop := fnMemoryLimitIsMonotoneAndCappedRow.holds Try.pinned (OpenSpec.ofChange fnMemoryLimitIsMonotoneAndCappedSpec)

/-- ITS FALSE NEIGHBOUR: 'it returns false'. Refute it at one input. -/
def fnMemoryLimitIsMonotoneAndCappedWrong : ChangeSpec := { name := "fnMemoryLimitIsMonotoneAndCapped", fn := fun _ => fun
  | [d1, d2] => { results := [.lit (.bool false)], args := [d1, d2] }
  | _ => none }
def FnMemoryLimitIsMonotoneAndCappedWrongFalsely : Prop := fnMemoryLimitIsMonotoneAndCappedRow.holds Try.pinned (OpenSpec.ofChange fnMemoryLimitIsMonotoneAndCappedWrong)

/-- 'zzlaws_root_b1.FnScopeFuncLookupNilDefinesNothingMapAnswers': WHATEVER THE INPUT: true; the input reads as it did. -/
def fnScopeFuncLookupNilDefinesNothingMapAnswersSpec : ChangeSpec := { name := "fnScopeFuncLookupNilDefinesNothingMapAnswers", fn := fun _ => fun
  | [d1, d2, d3] => { results := [.lit (.bool true)], args := [d1, d2, d3] }
  | _ => none }
def fnScopeFuncLookupNilDefinesNothingMapAnswersRow : OpenClaim := { program := "qxb6614108a", sum := "79056c31963c946093a70d76dce99a1c816dfb10c0df3b49ebe086237de18493", func := "example.com/puffer/puffer/zzlaws_root_b1.FnScopeFuncLookupNilDefinesNothingMapAnswers", spec := "fnScopeFuncLookupNilDefinesNothingMapAnswers", unfollowed := true, recurses := true, apart := false }
def FnScopeFuncLookupNilDefinesNothingMapAnswersSaid : Prop := fnScopeFuncLookupNilDefinesNothingMapAnswersRow.holds Try.pinned (OpenSpec.ofChange fnScopeFuncLookupNilDefinesNothingMapAnswersSpec)

/-- ITS FALSE NEIGHBOUR: 'it returns false'. Refute it at one input. -/
def fnScopeFuncLookupNilDefinesNothingMapAnswersWrong : ChangeSpec := { name := "fnScopeFuncLookupNilDefinesNothingMapAnswers", fn := fun _ => fun
  | [d1, d2, d3] => { results := [.lit (.bool false)], args := [d1, d2, d3] }
  | _ => none }
def FnScopeFuncLookupNilDefinesNothingMapAnswersWrongFalsely : Prop := fnScopeFuncLookupNilDefinesNothingMapAnswersRow.holds Try.pinned (OpenSpec.ofChange fnScopeFuncLookupNilDefinesNothingMapAnswersWrong)

end Rows
end Go.Proofs.Qxb6614108a
