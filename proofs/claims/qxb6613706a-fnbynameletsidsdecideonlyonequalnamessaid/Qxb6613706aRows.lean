/-
  No cell of these rows narrows 'for every input' (looked for: loops, veiled, ifaces, maps, wideKeys, modest, calm, conditions, laid).
  DERIVED. THE GIVEN ROWS OF THIS SEAT. 2 by the template 'for every input the law returns true; each argument reads behind the call as it read before'; 0 by the template 'total and deterministic' (their statements: Qxb6613706aTotals.lean).
  GIVEN WITH THE SEED: the statements are not yours to turn. If you find one false, say at which input.
  Laid BY PROGRAM, IN A SANDBOX (cutbox-rows.mjs): the forced cells as the released guide's own fill.sh prints them over the translation 666d3e708b9ea0bd… (all of the seat's roots in one cut). By AI agents, Wed Nov 11 2026. No macro, syntax, notation, axiom, sorry.
-/
import Derived.Test.Qxb6613706aChecked
import GoSem.Claim
import GoSem.ClaimJoined
import GoSem.ClaimMapViews
import Derived.JoinedTies
import Derived.KernelRfl
namespace Go.Proofs.Qxb6613706a
/- THE CELL 'sum', in the pinned program and in every row, IS THE sha256 OF THE DUMP (.gsa) THAT Qxb6613706aProg.lean LOADS. Nothing in Lean hashes anything: it is a label: what it is worth is what the hold of that sum in a sandbox is worth. -/
noncomputable def Try.pinned : Pinned := { name := "qxb6613706a", sum := "666d3e708b9ea0bd1d1449dcd5af0254d771ed68c2902191b5b716795f01171d", checked := Try.checked }
namespace Rows
def none {H : Type} : Left H := { results := [], args := [] }

/-- 'zzlaws_internal_register_b1.FnByNameOrdersByNameThenIDBothWays': WHATEVER THE INPUT: true; the input reads as it did. -/
def fnByNameOrdersByNameThenIDBothWaysSpec : ChangeSpec := { name := "fnByNameOrdersByNameThenIDBothWays", fn := fun _ => fun
  | [d1, d2, d3, d4, d5, d6] => { results := [.lit (.bool true)], args := [d1, d2, d3, d4, d5, d6] }
  | _ => none }
def fnByNameOrdersByNameThenIDBothWaysRow : OpenClaim := { program := "qxb6613706a", sum := "666d3e708b9ea0bd1d1449dcd5af0254d771ed68c2902191b5b716795f01171d", func := "example.com/armslength/armslength/zzlaws_internal_register_b1.FnByNameOrdersByNameThenIDBothWays", spec := "fnByNameOrdersByNameThenIDBothWays", inPlace := ["internal/bytealg.abigen_runtime_cmpstring"], apart := false }
def FnByNameOrdersByNameThenIDBothWaysSaid : Prop := fnByNameOrdersByNameThenIDBothWaysRow.holds Try.pinned (OpenSpec.ofChange fnByNameOrdersByNameThenIDBothWaysSpec)

/-- ITS FALSE NEIGHBOUR: 'it returns false'. Refute it at one input. -/
def fnByNameOrdersByNameThenIDBothWaysWrong : ChangeSpec := { name := "fnByNameOrdersByNameThenIDBothWays", fn := fun _ => fun
  | [d1, d2, d3, d4, d5, d6] => { results := [.lit (.bool false)], args := [d1, d2, d3, d4, d5, d6] }
  | _ => none }
def FnByNameOrdersByNameThenIDBothWaysWrongFalsely : Prop := fnByNameOrdersByNameThenIDBothWaysRow.holds Try.pinned (OpenSpec.ofChange fnByNameOrdersByNameThenIDBothWaysWrong)

/-- 'zzlaws_internal_register_b1.FnByNameLetsIDsDecideOnlyOnEqualNames': WHATEVER THE INPUT: true; the input reads as it did. -/
def fnByNameLetsIDsDecideOnlyOnEqualNamesSpec : ChangeSpec := { name := "fnByNameLetsIDsDecideOnlyOnEqualNames", fn := fun _ => fun
  | [d1, d2, d3, d4, d5, d6, d7, d8, d9] => { results := [.lit (.bool true)], args := [d1, d2, d3, d4, d5, d6, d7, d8, d9] }
  | _ => none }
def fnByNameLetsIDsDecideOnlyOnEqualNamesRow : OpenClaim := { program := "qxb6613706a", sum := "666d3e708b9ea0bd1d1449dcd5af0254d771ed68c2902191b5b716795f01171d", func := "example.com/armslength/armslength/zzlaws_internal_register_b1.FnByNameLetsIDsDecideOnlyOnEqualNames", spec := "fnByNameLetsIDsDecideOnlyOnEqualNames", inPlace := ["internal/bytealg.abigen_runtime_cmpstring"], apart := false }
def FnByNameLetsIDsDecideOnlyOnEqualNamesSaid : Prop := fnByNameLetsIDsDecideOnlyOnEqualNamesRow.holds Try.pinned (OpenSpec.ofChange fnByNameLetsIDsDecideOnlyOnEqualNamesSpec)

/-- ITS FALSE NEIGHBOUR: 'it returns false'. Refute it at one input. -/
def fnByNameLetsIDsDecideOnlyOnEqualNamesWrong : ChangeSpec := { name := "fnByNameLetsIDsDecideOnlyOnEqualNames", fn := fun _ => fun
  | [d1, d2, d3, d4, d5, d6, d7, d8, d9] => { results := [.lit (.bool false)], args := [d1, d2, d3, d4, d5, d6, d7, d8, d9] }
  | _ => none }
def FnByNameLetsIDsDecideOnlyOnEqualNamesWrongFalsely : Prop := fnByNameLetsIDsDecideOnlyOnEqualNamesRow.holds Try.pinned (OpenSpec.ofChange fnByNameLetsIDsDecideOnlyOnEqualNamesWrong)

end Rows
end Go.Proofs.Qxb6613706a
