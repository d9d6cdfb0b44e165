/-
  No cell of these rows narrows 'for every input' (looked for: loops, veiled, ifaces, maps, wideKeys, modest, calm, conditions, laid).
  DERIVED. THE GIVEN ROWS OF THIS SEAT. 7 by the template 'for every input the law returns true; each argument reads behind the call as it read before'; 0 by the template 'total and deterministic' (their statements: Qxb6603130aTotals.lean).
  GIVEN WITH THE SEED: the statements are not yours to turn. If you find one false, say at which input.
  Laid BY PROGRAM, IN A SANDBOX (cutbox-rows.mjs): the forced cells as the released guide's own fill.sh prints them over the translation c7573a0b046104d9… (all of the seat's roots in one cut). By AI agents, Wed Nov 11 2026. No macro, syntax, notation, axiom, sorry.
-/
import Derived.Test.Qxb6603130aChecked
import GoSem.Claim
import GoSem.ClaimJoined
import GoSem.ClaimMapViews
import Derived.JoinedTies
import Derived.KernelRfl
namespace Go.Proofs.Qxb6603130a
/- THE CELL 'sum', in the pinned program and in every row, IS THE sha256 OF THE DUMP (.gsa) THAT Qxb6603130aProg.lean LOADS. Nothing in Lean hashes anything: it is a label: what it is worth is what the hold of that sum in a sandbox is worth. -/
noncomputable def Try.pinned : Pinned := { name := "qxb6603130a", sum := "c7573a0b046104d97a496f1c3191a11b72d20fa015e072841b4bfed27b0cf09a", checked := Try.checked }
namespace Rows
def none {H : Type} : Left H := { results := [], args := [] }

/-- 'zzlaws_manifests_b1.FnUnionHoldsJustTheMembersOfItsSets': WHATEVER THE INPUT: true; the input reads as it did. -/
def fnUnionHoldsJustTheMembersOfItsSetsSpec : ChangeSpec := { name := "fnUnionHoldsJustTheMembersOfItsSets", fn := fun _ => fun
  | [d1, d2, d3] => { results := [.lit (.bool true)], args := [d1, d2, d3] }
  | _ => none }
def fnUnionHoldsJustTheMembersOfItsSetsRow : OpenClaim := { program := "qxb6603130a", sum := "c7573a0b046104d97a496f1c3191a11b72d20fa015e072841b4bfed27b0cf09a", func := "example.com/rutterchart/rutterchart/zzlaws_manifests_b1.FnUnionHoldsJustTheMembersOfItsSets", spec := "fnUnionHoldsJustTheMembersOfItsSets", recurses := true, apart := false }
def FnUnionHoldsJustTheMembersOfItsSetsSaid : Prop := fnUnionHoldsJustTheMembersOfItsSetsRow.holds Try.pinned (OpenSpec.ofChange fnUnionHoldsJustTheMembersOfItsSetsSpec)

/-- ITS FALSE NEIGHBOUR: 'it returns false'. Refute it at one input. -/
def fnUnionHoldsJustTheMembersOfItsSetsWrong : ChangeSpec := { name := "fnUnionHoldsJustTheMembersOfItsSets", fn := fun _ => fun
  | [d1, d2, d3] => { results := [.lit (.bool false)], args := [d1, d2, d3] }
  | _ => none }
def FnUnionHoldsJustTheMembersOfItsSetsWrongFalsely : Prop := fnUnionHoldsJustTheMembersOfItsSetsRow.holds Try.pinned (OpenSpec.ofChange fnUnionHoldsJustTheMembersOfItsSetsWrong)

/-- 'zzlaws_manifests_b1.FnUnionIgnoresTheOrderOfItsSets': WHATEVER THE INPUT: true; the input reads as it did. -/
def fnUnionIgnoresTheOrderOfItsSetsSpec : ChangeSpec := { name := "fnUnionIgnoresTheOrderOfItsSets", fn := fun _ => fun
  | [d1, d2, d3] => { results := [.lit (.bool true)], args := [d1, d2, d3] }
  | _ => none }
def fnUnionIgnoresTheOrderOfItsSetsRow : OpenClaim := { program := "qxb6603130a", sum := "c7573a0b046104d97a496f1c3191a11b72d20fa015e072841b4bfed27b0cf09a", func := "example.com/rutterchart/rutterchart/zzlaws_manifests_b1.FnUnionIgnoresTheOrderOfItsSets", spec := "fnUnionIgnoresTheOrderOfItsSets", recurses := true, apart := false }
def FnUnionIgnoresTheOrderOfItsSetsSaid : Prop := fnUnionIgnoresTheOrderOfItsSetsRow.holds Try.pinned (OpenSpec.ofChange fnUnionIgnoresTheOrderOfItsSetsSpec)

/-- ITS FALSE NEIGHBOUR: 'it returns false'. Refute it at one input. -/
def fnUnionIgnoresTheOrderOfItsSetsWrong : ChangeSpec := { name := "fnUnionIgnoresTheOrderOfItsSets", fn := fun _ => fun
  | [d1, d2, d3] => { results := [.lit (.bool false)], args := [d1, d2, d3] }
  | _ => none }
def FnUnionIgnoresTheOrderOfItsSetsWrongFalsely : Prop := fnUnionIgnoresTheOrderOfItsSetsRow.holds Try.pinned (OpenSpec.ofChange fnUnionIgnoresTheOrderOfItsSetsWrong)

/-- 'zzlaws_manifests_b1.FnAmongKeepsJustThoseItHolds': WHATEVER THE INPUT: true; the input reads as it did. -/
def fnAmongKeepsJustThoseItHoldsSpec : ChangeSpec := { name := "fnAmongKeepsJustThoseItHolds", fn := fun _ => fun
  | [d1, d2, d3] => { results := [.lit (.bool true)], args := [d1, d2, d3] }
  | _ => none }
def fnAmongKeepsJustThoseItHoldsRow : OpenClaim := { program := "qxb6603130a", sum := "c7573a0b046104d97a496f1c3191a11b72d20fa015e072841b4bfed27b0cf09a", func := "example.com/rutterchart/rutterchart/zzlaws_manifests_b1.FnAmongKeepsJustThoseItHolds", spec := "fnAmongKeepsJustThoseItHolds", apart := false }
def FnAmongKeepsJustThoseItHoldsSaid : Prop := fnAmongKeepsJustThoseItHoldsRow.holds Try.pinned (OpenSpec.ofChange fnAmongKeepsJustThoseItHoldsSpec)

/-- ITS FALSE NEIGHBOUR: 'it returns false'. Refute it at one input. -/
def fnAmongKeepsJustThoseItHoldsWrong : ChangeSpec := { name := "fnAmongKeepsJustThoseItHolds", fn := fun _ => fun
  | [d1, d2, d3] => { results := [.lit (.bool false)], args := [d1, d2, d3] }
  | _ => none }
def FnAmongKeepsJustThoseItHoldsWrongFalsely : Prop := fnAmongKeepsJustThoseItHoldsRow.holds Try.pinned (OpenSpec.ofChange fnAmongKeepsJustThoseItHoldsWrong)

/-- 'zzlaws_manifests_b1.FnAmongAnswersAlikeFromListAndBits': WHATEVER THE INPUT: true; the input reads as it did. -/
def fnAmongAnswersAlikeFromListAndBitsSpec : ChangeSpec := { name := "fnAmongAnswersAlikeFromListAndBits", fn := fun _ => fun
  | [d1, d2, d3] => { results := [.lit (.bool true)], args := [d1, d2, d3] }
  | _ => none }
def fnAmongAnswersAlikeFromListAndBitsRow : OpenClaim := { program := "qxb6603130a", sum := "c7573a0b046104d97a496f1c3191a11b72d20fa015e072841b4bfed27b0cf09a", func := "example.com/rutterchart/rutterchart/zzlaws_manifests_b1.FnAmongAnswersAlikeFromListAndBits", spec := "fnAmongAnswersAlikeFromListAndBits", recurses := true, apart := false }
def FnAmongAnswersAlikeFromListAndBitsSaid : Prop := fnAmongAnswersAlikeFromListAndBitsRow.holds Try.pinned (OpenSpec.ofChange fnAmongAnswersAlikeFromListAndBitsSpec)

/-- ITS FALSE NEIGHBOUR: 'it returns false'. Refute it at one input. -/
def fnAmongAnswersAlikeFromListAndBitsWrong : ChangeSpec := { name := "fnAmongAnswersAlikeFromListAndBits", fn := fun _ => fun
  | [d1, d2, d3] => { results := [.lit (.bool false)], args := [d1, d2, d3] }
  | _ => none }
def FnAmongAnswersAlikeFromListAndBitsWrongFalsely : Prop := fnAmongAnswersAlikeFromListAndBitsRow.holds Try.pinned (OpenSpec.ofChange fnAmongAnswersAlikeFromListAndBitsWrong)

/-- 'zzlaws_manifests_b1.FnEnvKeyIsTheRestOfTheWholeName': WHATEVER THE INPUT: true; the input reads as it did. -/
def fnEnvKeyIsTheRestOfTheWholeNameSpec : ChangeSpec := { name := "fnEnvKeyIsTheRestOfTheWholeName", fn := fun _ => fun
  | [d1, d2, d3, d4, d5, d6, d7] => { results := [.lit (.bool true)], args := [d1, d2, d3, d4, d5, d6, d7] }
  | _ => none }
def fnEnvKeyIsTheRestOfTheWholeNameRow : OpenClaim := { program := "qxb6603130a", sum := "c7573a0b046104d97a496f1c3191a11b72d20fa015e072841b4bfed27b0cf09a", func := "example.com/rutterchart/rutterchart/zzlaws_manifests_b1.FnEnvKeyIsTheRestOfTheWholeName", spec := "fnEnvKeyIsTheRestOfTheWholeName", apart := false }
def FnEnvKeyIsTheRestOfTheWholeNameSaid : Prop := fnEnvKeyIsTheRestOfTheWholeNameRow.holds Try.pinned (OpenSpec.ofChange fnEnvKeyIsTheRestOfTheWholeNameSpec)

/-- ITS FALSE NEIGHBOUR: 'it returns false'. Refute it at one input. -/
def fnEnvKeyIsTheRestOfTheWholeNameWrong : ChangeSpec := { name := "fnEnvKeyIsTheRestOfTheWholeName", fn := fun _ => fun
  | [d1, d2, d3, d4, d5, d6, d7] => { results := [.lit (.bool false)], args := [d1, d2, d3, d4, d5, d6, d7] }
  | _ => none }
def FnEnvKeyIsTheRestOfTheWholeNameWrongFalsely : Prop := fnEnvKeyIsTheRestOfTheWholeNameRow.holds Try.pinned (OpenSpec.ofChange fnEnvKeyIsTheRestOfTheWholeNameWrong)

/-- 'zzlaws_manifests_b1.FnEnvKeyFindsEveryKeyFromItsVariable': WHATEVER THE INPUT: true; the input reads as it did. -/
def fnEnvKeyFindsEveryKeyFromItsVariableSpec : ChangeSpec := { name := "fnEnvKeyFindsEveryKeyFromItsVariable", fn := fun _ => fun
  | [d1, d2, d3, d4, d5, d6, d7] => { results := [.lit (.bool true)], args := [d1, d2, d3, d4, d5, d6, d7] }
  | _ => none }
def fnEnvKeyFindsEveryKeyFromItsVariableRow : OpenClaim := { program := "qxb6603130a", sum := "c7573a0b046104d97a496f1c3191a11b72d20fa015e072841b4bfed27b0cf09a", func := "example.com/rutterchart/rutterchart/zzlaws_manifests_b1.FnEnvKeyFindsEveryKeyFromItsVariable", spec := "fnEnvKeyFindsEveryKeyFromItsVariable", apart := false }
def FnEnvKeyFindsEveryKeyFromItsVariableSaid : Prop := fnEnvKeyFindsEveryKeyFromItsVariableRow.holds Try.pinned (OpenSpec.ofChange fnEnvKeyFindsEveryKeyFromItsVariableSpec)

/-- ITS FALSE NEIGHBOUR: 'it returns false'. Refute it at one input. -/
def fnEnvKeyFindsEveryKeyFromItsVariableWrong : ChangeSpec := { name := "fnEnvKeyFindsEveryKeyFromItsVariable", fn := fun _ => fun
  | [d1, d2, d3, d4, d5, d6, d7] => { results := [.lit (.bool false)], args := [d1, d2, d3, d4, d5, d6, d7] }
  | _ => none }
def FnEnvKeyFindsEveryKeyFromItsVariableWrongFalsely : Prop := fnEnvKeyFindsEveryKeyFromItsVariableRow.holds Try.pinned (OpenSpec.ofChange fnEnvKeyFindsEveryKeyFromItsVariableWrong)

/-- 'zzlaws_manifests_b1.FnEnvKeyHangsOnTheWholeNameAlone': WHATEVER THE INPUT: true; the input reads as it did. -/
def fnEnvKeyHangsOnTheWholeNameAloneSpec : ChangeSpec := { name := "fnEnvKeyHangsOnTheWholeNameAlone", fn := fun _ => fun
  | [d1, d2, d3, d4, d5, d6, d7] => { results := [.lit (.bool true)], args := [d1, d2, d3, d4, d5, d6, d7] }
  | _ => none }
def fnEnvKeyHangsOnTheWholeNameAloneRow : OpenClaim := { program := "qxb6603130a", sum := "c7573a0b046104d97a496f1c3191a11b72d20fa015e072841b4bfed27b0cf09a", func := "example.com/rutterchart/rutterchart/zzlaws_manifests_b1.FnEnvKeyHangsOnTheWholeNameAlone", spec := "fnEnvKeyHangsOnTheWholeNameAlone", apart := false }
def FnEnvKeyHangsOnTheWholeNameAloneSaid : Prop := fnEnvKeyHangsOnTheWholeNameAloneRow.holds Try.pinned (OpenSpec.ofChange fnEnvKeyHangsOnTheWholeNameAloneSpec)

/-- ITS FALSE NEIGHBOUR: 'it returns false'. Refute it at one input. -/
def fnEnvKeyHangsOnTheWholeNameAloneWrong : ChangeSpec := { name := "fnEnvKeyHangsOnTheWholeNameAlone", fn := fun _ => fun
  | [d1, d2, d3, d4, d5, d6, d7] => { results := [.lit (.bool false)], args := [d1, d2, d3, d4, d5, d6, d7] }
  | _ => none }
def FnEnvKeyHangsOnTheWholeNameAloneWrongFalsely : Prop := fnEnvKeyHangsOnTheWholeNameAloneRow.holds Try.pinned (OpenSpec.ofChange fnEnvKeyHangsOnTheWholeNameAloneWrong)

end Rows
end Go.Proofs.Qxb6603130a
