/-
  No cell of these rows narrows 'for every input' (looked for: loops, veiled, ifaces, maps, wideKeys, modest, calm, conditions, laid).
  DERIVED. THE GIVEN ROWS OF THIS SEAT. 3 by the template 'for every input the law returns true; each argument reads behind the call as it read before'; 0 by the template 'total and deterministic' (their statements: Qxb6614181aTotals.lean).
  GIVEN WITH THE SEED: the statements are not yours to turn. If you find one false, say at which input.
  Laid BY PROGRAM, IN A SANDBOX (cutbox-rows.mjs): the forced cells as the released guide's own fill.sh prints them over the translation 1a81956d1bc5f43f… (all of the seat's roots in one cut). By AI agents, Wed Nov 11 2026. No macro, syntax, notation, axiom, sorry.
-/
import Derived.Test.Qxb6614181aChecked
import GoSem.Claim
import GoSem.ClaimJoined
import GoSem.ClaimMapViews
import Derived.JoinedTies
import Derived.KernelRfl
namespace Go.Proofs.Qxb6614181a
/- THE CELL 'sum', in the pinned program and in every row, IS THE sha256 OF THE DUMP (.gsa) THAT Qxb6614181aProg.lean LOADS. Nothing in Lean hashes anything: it is a label: what it is worth is what the hold of that sum in a sandbox is worth. -/
noncomputable def Try.pinned : Pinned := { name := "qxb6614181a", sum := "1a81956d1bc5f43fbcf1cf5c9d23384844c31ad2e3ab19e19c7c9a37d4eb41da", checked := Try.checked }
namespace Rows
def none {H : Type} : Left H := { results := [], args := [] }

/-- 'zzlaws_internal_engine_b1.FnGapIndexRemoveTakesOutExactlyG': WHATEVER THE INPUT: true; the input reads as it did. -/
def fnGapIndexRemoveTakesOutExactlyGSpec : ChangeSpec := { name := "fnGapIndexRemoveTakesOutExactlyG", fn := fun _ => fun
  | [d1, d2, d3, d4, d5] => { results := [.lit (.bool true)], args := [d1, d2, d3, d4, d5] }
  | _ => none }
def fnGapIndexRemoveTakesOutExactlyGRow : OpenClaim := { program := "qxb6614181a", sum := "1a81956d1bc5f43fbcf1cf5c9d23384844c31ad2e3ab19e19c7c9a37d4eb41da", func := "example.com/rollmark/rollmark/zzlaws_internal_engine_b1.FnGapIndexRemoveTakesOutExactlyG", spec := "fnGapIndexRemoveTakesOutExactlyG", recurses := true, apart := false }
def FnGapIndexRemoveTakesOutExactlyGSaid : Prop := fnGapIndexRemoveTakesOutExactlyGRow.holds Try.pinned (OpenSpec.ofChange fnGapIndexRemoveTakesOutExactlyGSpec)

/-- ITS FALSE NEIGHBOUR: 'it returns false'. Refute it at one input. -/
def fnGapIndexRemoveTakesOutExactlyGWrong : ChangeSpec := { name := "fnGapIndexRemoveTakesOutExactlyG", fn := fun _ => fun
  | [d1, d2, d3, d4, d5] => { results := [.lit (.bool false)], args := [d1, d2, d3, d4, d5] }
  | _ => none }
def FnGapIndexRemoveTakesOutExactlyGWrongFalsely : Prop := fnGapIndexRemoveTakesOutExactlyGRow.holds Try.pinned (OpenSpec.ofChange fnGapIndexRemoveTakesOutExactlyGWrong)

/-- 'zzlaws_internal_engine_b1.FnGapIndexRemoveEachHeldGapEmptiesIt': WHATEVER THE INPUT: true; the input reads as it did. -/
def fnGapIndexRemoveEachHeldGapEmptiesItSpec : ChangeSpec := { name := "fnGapIndexRemoveEachHeldGapEmptiesIt", fn := fun _ => fun
  | [d] => { results := [.lit (.bool true)], args := [d] }
  | _ => none }
def fnGapIndexRemoveEachHeldGapEmptiesItRow : OpenClaim := { program := "qxb6614181a", sum := "1a81956d1bc5f43fbcf1cf5c9d23384844c31ad2e3ab19e19c7c9a37d4eb41da", func := "example.com/rollmark/rollmark/zzlaws_internal_engine_b1.FnGapIndexRemoveEachHeldGapEmptiesIt", spec := "fnGapIndexRemoveEachHeldGapEmptiesIt", recurses := true, apart := false }
def FnGapIndexRemoveEachHeldGapEmptiesItSaid : Prop := fnGapIndexRemoveEachHeldGapEmptiesItRow.holds Try.pinned (OpenSpec.ofChange fnGapIndexRemoveEachHeldGapEmptiesItSpec)

/-- ITS FALSE NEIGHBOUR: 'it returns false'. Refute it at one input. -/
def fnGapIndexRemoveEachHeldGapEmptiesItWrong : ChangeSpec := { name := "fnGapIndexRemoveEachHeldGapEmptiesIt", fn := fun _ => fun
  | [d] => { results := [.lit (.bool false)], args := [d] }
  | _ => none }
def FnGapIndexRemoveEachHeldGapEmptiesItWrongFalsely : Prop := fnGapIndexRemoveEachHeldGapEmptiesItRow.holds Try.pinned (OpenSpec.ofChange fnGapIndexRemoveEachHeldGapEmptiesItWrong)

/-- 'zzlaws_internal_engine_b1.FnAppendTextSeriesReadsBack': WHATEVER THE INPUT: true; the input reads as it did. -/
def fnAppendTextSeriesReadsBackSpec : ChangeSpec := { name := "fnAppendTextSeriesReadsBack", fn := fun _ => fun
  | [d1, d2, d3, d4] => { results := [.lit (.bool true)], args := [d1, d2, d3, d4] }
  | _ => none }
def fnAppendTextSeriesReadsBackRow : OpenClaim := { program := "qxb6614181a", sum := "1a81956d1bc5f43fbcf1cf5c9d23384844c31ad2e3ab19e19c7c9a37d4eb41da", func := "example.com/rollmark/rollmark/zzlaws_internal_engine_b1.FnAppendTextSeriesReadsBack", spec := "fnAppendTextSeriesReadsBack", apart := false }
def FnAppendTextSeriesReadsBackSaid : Prop := fnAppendTextSeriesReadsBackRow.holds Try.pinned (OpenSpec.ofChange fnAppendTextSeriesReadsBackSpec)

/-- ITS FALSE NEIGHBOUR: 'it returns false'. Refute it at one input. -/
def fnAppendTextSeriesReadsBackWrong : ChangeSpec := { name := "fnAppendTextSeriesReadsBack", fn := fun _ => fun
  | [d1, d2, d3, d4] => { results := [.lit (.bool false)], args := [d1, d2, d3, d4] }
  | _ => none }
def FnAppendTextSeriesReadsBackWrongFalsely : Prop := fnAppendTextSeriesReadsBackRow.holds Try.pinned (OpenSpec.ofChange fnAppendTextSeriesReadsBackWrong)

end Rows
end Go.Proofs.Qxb6614181a
