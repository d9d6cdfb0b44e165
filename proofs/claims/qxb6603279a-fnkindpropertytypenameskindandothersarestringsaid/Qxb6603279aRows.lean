/-
  No cell of these rows narrows 'for every input' (looked for: loops, veiled, ifaces, maps, wideKeys, modest, calm, conditions, laid).
  DERIVED. THE GIVEN ROWS OF THIS SEAT. 2 by the template 'for every input the law returns true; each argument reads behind the call as it read before'; 0 by the template 'total and deterministic' (their statements: Qxb6603279aTotals.lean).
  GIVEN WITH THE SEED: the statements are not yours to turn. If you find one false, say at which input.
  Laid BY PROGRAM, IN A SANDBOX (cutbox-rows.mjs): the forced cells as the released guide's own fill.sh prints them over the translation 4b163d7a849965a5… (all of the seat's roots in one cut). By AI agents, Wed Nov 11 2026. No macro, syntax, notation, axiom, sorry.
-/
import Derived.Test.Qxb6603279aChecked
import GoSem.Claim
import GoSem.ClaimJoined
import GoSem.ClaimMapViews
import Derived.JoinedTies
import Derived.KernelRfl
namespace Go.Proofs.Qxb6603279a
/- THE CELL 'sum', in the pinned program and in every row, IS THE sha256 OF THE DUMP (.gsa) THAT Qxb6603279aProg.lean LOADS. Nothing in Lean hashes anything: it is a label: what it is worth is what the hold of that sum in a sandbox is worth. -/
noncomputable def Try.pinned : Pinned := { name := "qxb6603279a", sum := "4b163d7a849965a529ffa9df8aeac77b471425474d0ce1cebcd5a0e6a6dad6c1", checked := Try.checked }
namespace Rows
def none {H : Type} : Left H := { results := [], args := [] }

/-- 'zzlaws_internal_mcp_b1.FnKindPropertyDescriptionAloneDiffersAndNoAliasing': WHATEVER THE INPUT: true; the input reads as it did. -/
def fnKindPropertyDescriptionAloneDiffersAndNoAliasingSpec : ChangeSpec := { name := "fnKindPropertyDescriptionAloneDiffersAndNoAliasing", fn := fun _ => fun
  | [d1, d2, d3] => { results := [.lit (.bool true)], args := [d1, d2, d3] }
  | _ => none }
def fnKindPropertyDescriptionAloneDiffersAndNoAliasingRow : OpenClaim := { program := "qxb6603279a", sum := "4b163d7a849965a529ffa9df8aeac77b471425474d0ce1cebcd5a0e6a6dad6c1", func := "example.com/oxbow/oxbow/zzlaws_internal_mcp_b1.FnKindPropertyDescriptionAloneDiffersAndNoAliasing", spec := "fnKindPropertyDescriptionAloneDiffersAndNoAliasing", apart := false }
def FnKindPropertyDescriptionAloneDiffersAndNoAliasingSaid : Prop := fnKindPropertyDescriptionAloneDiffersAndNoAliasingRow.holds Try.pinned (OpenSpec.ofChange fnKindPropertyDescriptionAloneDiffersAndNoAliasingSpec)

/-- ITS FALSE NEIGHBOUR: 'it returns false'. Refute it at one input. -/
def fnKindPropertyDescriptionAloneDiffersAndNoAliasingWrong : ChangeSpec := { name := "fnKindPropertyDescriptionAloneDiffersAndNoAliasing", fn := fun _ => fun
  | [d1, d2, d3] => { results := [.lit (.bool false)], args := [d1, d2, d3] }
  | _ => none }
def FnKindPropertyDescriptionAloneDiffersAndNoAliasingWrongFalsely : Prop := fnKindPropertyDescriptionAloneDiffersAndNoAliasingRow.holds Try.pinned (OpenSpec.ofChange fnKindPropertyDescriptionAloneDiffersAndNoAliasingWrong)

/-- 'zzlaws_internal_mcp_b1.FnKindPropertyTypeNamesKindAndOthersAreString': WHATEVER THE INPUT: true; the input reads as it did. -/
def fnKindPropertyTypeNamesKindAndOthersAreStringSpec : ChangeSpec := { name := "fnKindPropertyTypeNamesKindAndOthersAreString", fn := fun _ => fun
  | [d1, d2] => { results := [.lit (.bool true)], args := [d1, d2] }
  | _ => none }
def fnKindPropertyTypeNamesKindAndOthersAreStringRow : OpenClaim := { program := "qxb6603279a", sum := "4b163d7a849965a529ffa9df8aeac77b471425474d0ce1cebcd5a0e6a6dad6c1", func := "example.com/oxbow/oxbow/zzlaws_internal_mcp_b1.FnKindPropertyTypeNamesKindAndOthersAreString", spec := "fnKindPropertyTypeNamesKindAndOthersAreString", apart := false }
def FnKindPropertyTypeNamesKindAndOthersAreStringSaid : Prop := fnKindPropertyTypeNamesKindAndOthersAreStringRow.holds Try.pinned (OpenSpec.ofChange fnKindPropertyTypeNamesKindAndOthersAreStringSpec)

/-- ITS FALSE NEIGHBOUR: 'it returns false'. Refute it at one input. -/
def fnKindPropertyTypeNamesKindAndOthersAreStringWrong : ChangeSpec := { name := "fnKindPropertyTypeNamesKindAndOthersAreString", fn := fun _ => fun
  | [d1, d2] => { results := [.lit (.bool false)], args := [d1, d2] }
  | _ => none }
def FnKindPropertyTypeNamesKindAndOthersAreStringWrongFalsely : Prop := fnKindPropertyTypeNamesKindAndOthersAreStringRow.holds Try.pinned (OpenSpec.ofChange fnKindPropertyTypeNamesKindAndOthersAreStringWrong)

end Rows
end Go.Proofs.Qxb6603279a
