/-
  No cell of these rows narrows 'for every input' (looked for: loops, veiled, ifaces, maps, wideKeys, modest, calm, conditions, laid).
  DERIVED. THE GIVEN ROWS OF THIS SEAT. 7 by the template 'for every input the law returns true; each argument reads behind the call as it read before'; 0 by the template 'total and deterministic' (their statements: Qxb6603221aTotals.lean).
  GIVEN WITH THE SEED: the statements are not yours to turn. If you find one false, say at which input.
  Laid BY PROGRAM, IN A SANDBOX (cutbox-rows.mjs): the forced cells as the released guide's own fill.sh prints them over the translation d25e42d5cdb542a7… (all of the seat's roots in one cut). By AI agents, Wed Nov 11 2026. No macro, syntax, notation, axiom, sorry.
-/
import Derived.Test.Qxb6603221aChecked
import GoSem.Claim
import GoSem.ClaimJoined
import GoSem.ClaimMapViews
import Derived.JoinedTies
import Derived.KernelRfl
namespace Go.Proofs.Qxb6603221a
/- THE CELL 'sum', in the pinned program and in every row, IS THE sha256 OF THE DUMP (.gsa) THAT Qxb6603221aProg.lean LOADS. Nothing in Lean hashes anything: it is a label: what it is worth is what the hold of that sum in a sandbox is worth. -/
noncomputable def Try.pinned : Pinned := { name := "qxb6603221a", sum := "d25e42d5cdb542a77d774f471db4ad2e74029fa8c2dcafda5f9a8ed04e65196a", checked := Try.checked }
namespace Rows
def none {H : Type} : Left H := { results := [], args := [] }

/-- 'zzlaws_internal_strictjson_b1.FnReadNumberMatchesAutomaton': WHATEVER THE INPUT: true; the input reads as it did. -/
def fnReadNumberMatchesAutomatonSpec : ChangeSpec := { name := "fnReadNumberMatchesAutomaton", fn := fun _ => fun
  | [d1, d2] => { results := [.lit (.bool true)], args := [d1, d2] }
  | _ => none }
def fnReadNumberMatchesAutomatonRow : OpenClaim := { program := "qxb6603221a", sum := "d25e42d5cdb542a77d774f471db4ad2e74029fa8c2dcafda5f9a8ed04e65196a", func := "example.com/termsmith/termsmith/zzlaws_internal_strictjson_b1.FnReadNumberMatchesAutomaton", spec := "fnReadNumberMatchesAutomaton", apart := false }
def FnReadNumberMatchesAutomatonSaid : Prop := fnReadNumberMatchesAutomatonRow.holds Try.pinned (OpenSpec.ofChange fnReadNumberMatchesAutomatonSpec)

/-- ITS FALSE NEIGHBOUR: 'it returns false'. Refute it at one input. -/
def fnReadNumberMatchesAutomatonWrong : ChangeSpec := { name := "fnReadNumberMatchesAutomaton", fn := fun _ => fun
  | [d1, d2] => { results := [.lit (.bool false)], args := [d1, d2] }
  | _ => none }
def FnReadNumberMatchesAutomatonWrongFalsely : Prop := fnReadNumberMatchesAutomatonRow.holds Try.pinned (OpenSpec.ofChange fnReadNumberMatchesAutomatonWrong)

/-- 'zzlaws_internal_strictjson_b1.FnReadNumberCutPrefix': WHATEVER THE INPUT: true; the input reads as it did. -/
def fnReadNumberCutPrefixSpec : ChangeSpec := { name := "fnReadNumberCutPrefix", fn := fun _ => fun
  | [d1, d2, d3] => { results := [.lit (.bool true)], args := [d1, d2, d3] }
  | _ => none }
def fnReadNumberCutPrefixRow : OpenClaim := { program := "qxb6603221a", sum := "d25e42d5cdb542a77d774f471db4ad2e74029fa8c2dcafda5f9a8ed04e65196a", func := "example.com/termsmith/termsmith/zzlaws_internal_strictjson_b1.FnReadNumberCutPrefix", spec := "fnReadNumberCutPrefix", apart := false }
def FnReadNumberCutPrefixSaid : Prop := fnReadNumberCutPrefixRow.holds Try.pinned (OpenSpec.ofChange fnReadNumberCutPrefixSpec)

/-- ITS FALSE NEIGHBOUR: 'it returns false'. Refute it at one input. -/
def fnReadNumberCutPrefixWrong : ChangeSpec := { name := "fnReadNumberCutPrefix", fn := fun _ => fun
  | [d1, d2, d3] => { results := [.lit (.bool false)], args := [d1, d2, d3] }
  | _ => none }
def FnReadNumberCutPrefixWrongFalsely : Prop := fnReadNumberCutPrefixRow.holds Try.pinned (OpenSpec.ofChange fnReadNumberCutPrefixWrong)

/-- 'zzlaws_internal_strictjson_b1.FnReadNumberShift': WHATEVER THE INPUT: true; the input reads as it did. -/
def fnReadNumberShiftSpec : ChangeSpec := { name := "fnReadNumberShift", fn := fun _ => fun
  | [d1, d2, d3] => { results := [.lit (.bool true)], args := [d1, d2, d3] }
  | _ => none }
def fnReadNumberShiftRow : OpenClaim := { program := "qxb6603221a", sum := "d25e42d5cdb542a77d774f471db4ad2e74029fa8c2dcafda5f9a8ed04e65196a", func := "example.com/termsmith/termsmith/zzlaws_internal_strictjson_b1.FnReadNumberShift", spec := "fnReadNumberShift", apart := false }
def FnReadNumberShiftSaid : Prop := fnReadNumberShiftRow.holds Try.pinned (OpenSpec.ofChange fnReadNumberShiftSpec)

/-- ITS FALSE NEIGHBOUR: 'it returns false'. Refute it at one input. -/
def fnReadNumberShiftWrong : ChangeSpec := { name := "fnReadNumberShift", fn := fun _ => fun
  | [d1, d2, d3] => { results := [.lit (.bool false)], args := [d1, d2, d3] }
  | _ => none }
def FnReadNumberShiftWrongFalsely : Prop := fnReadNumberShiftRow.holds Try.pinned (OpenSpec.ofChange fnReadNumberShiftWrong)

/-- 'zzlaws_internal_strictjson_b1.FnReadAfterValueFromInsideSpace': WHATEVER THE INPUT: true; the input reads as it did. -/
def fnReadAfterValueFromInsideSpaceSpec : ChangeSpec := { name := "fnReadAfterValueFromInsideSpace", fn := fun _ => fun
  | [d1, d2, d3, d4] => { results := [.lit (.bool true)], args := [d1, d2, d3, d4] }
  | _ => none }
def fnReadAfterValueFromInsideSpaceRow : OpenClaim := { program := "qxb6603221a", sum := "d25e42d5cdb542a77d774f471db4ad2e74029fa8c2dcafda5f9a8ed04e65196a", func := "example.com/termsmith/termsmith/zzlaws_internal_strictjson_b1.FnReadAfterValueFromInsideSpace", spec := "fnReadAfterValueFromInsideSpace", apart := false }
def FnReadAfterValueFromInsideSpaceSaid : Prop := fnReadAfterValueFromInsideSpaceRow.holds Try.pinned (OpenSpec.ofChange fnReadAfterValueFromInsideSpaceSpec)

/-- ITS FALSE NEIGHBOUR: 'it returns false'. Refute it at one input. -/
def fnReadAfterValueFromInsideSpaceWrong : ChangeSpec := { name := "fnReadAfterValueFromInsideSpace", fn := fun _ => fun
  | [d1, d2, d3, d4] => { results := [.lit (.bool false)], args := [d1, d2, d3, d4] }
  | _ => none }
def FnReadAfterValueFromInsideSpaceWrongFalsely : Prop := fnReadAfterValueFromInsideSpaceRow.holds Try.pinned (OpenSpec.ofChange fnReadAfterValueFromInsideSpaceWrong)

/-- 'zzlaws_internal_strictjson_b1.FnReadAfterValueShift': WHATEVER THE INPUT: true; the input reads as it did. -/
def fnReadAfterValueShiftSpec : ChangeSpec := { name := "fnReadAfterValueShift", fn := fun _ => fun
  | [d1, d2, d3, d4] => { results := [.lit (.bool true)], args := [d1, d2, d3, d4] }
  | _ => none }
def fnReadAfterValueShiftRow : OpenClaim := { program := "qxb6603221a", sum := "d25e42d5cdb542a77d774f471db4ad2e74029fa8c2dcafda5f9a8ed04e65196a", func := "example.com/termsmith/termsmith/zzlaws_internal_strictjson_b1.FnReadAfterValueShift", spec := "fnReadAfterValueShift", apart := false }
def FnReadAfterValueShiftSaid : Prop := fnReadAfterValueShiftRow.holds Try.pinned (OpenSpec.ofChange fnReadAfterValueShiftSpec)

/-- ITS FALSE NEIGHBOUR: 'it returns false'. Refute it at one input. -/
def fnReadAfterValueShiftWrong : ChangeSpec := { name := "fnReadAfterValueShift", fn := fun _ => fun
  | [d1, d2, d3, d4] => { results := [.lit (.bool false)], args := [d1, d2, d3, d4] }
  | _ => none }
def FnReadAfterValueShiftWrongFalsely : Prop := fnReadAfterValueShiftRow.holds Try.pinned (OpenSpec.ofChange fnReadAfterValueShiftWrong)

/-- 'zzlaws_internal_strictjson_b1.FnReadAfterValueCutPrefix': WHATEVER THE INPUT: true; the input reads as it did. -/
def fnReadAfterValueCutPrefixSpec : ChangeSpec := { name := "fnReadAfterValueCutPrefix", fn := fun _ => fun
  | [d1, d2, d3, d4] => { results := [.lit (.bool true)], args := [d1, d2, d3, d4] }
  | _ => none }
def fnReadAfterValueCutPrefixRow : OpenClaim := { program := "qxb6603221a", sum := "d25e42d5cdb542a77d774f471db4ad2e74029fa8c2dcafda5f9a8ed04e65196a", func := "example.com/termsmith/termsmith/zzlaws_internal_strictjson_b1.FnReadAfterValueCutPrefix", spec := "fnReadAfterValueCutPrefix", apart := false }
def FnReadAfterValueCutPrefixSaid : Prop := fnReadAfterValueCutPrefixRow.holds Try.pinned (OpenSpec.ofChange fnReadAfterValueCutPrefixSpec)

/-- ITS FALSE NEIGHBOUR: 'it returns false'. Refute it at one input. -/
def fnReadAfterValueCutPrefixWrong : ChangeSpec := { name := "fnReadAfterValueCutPrefix", fn := fun _ => fun
  | [d1, d2, d3, d4] => { results := [.lit (.bool false)], args := [d1, d2, d3, d4] }
  | _ => none }
def FnReadAfterValueCutPrefixWrongFalsely : Prop := fnReadAfterValueCutPrefixRow.holds Try.pinned (OpenSpec.ofChange fnReadAfterValueCutPrefixWrong)

/-- 'zzlaws_internal_strictjson_b1.FnReadWordCutPrefix': WHATEVER THE INPUT: true; the input reads as it did. -/
def fnReadWordCutPrefixSpec : ChangeSpec := { name := "fnReadWordCutPrefix", fn := fun _ => fun
  | [d1, d2, d3, d4] => { results := [.lit (.bool true)], args := [d1, d2, d3, d4] }
  | _ => none }
def fnReadWordCutPrefixRow : OpenClaim := { program := "qxb6603221a", sum := "d25e42d5cdb542a77d774f471db4ad2e74029fa8c2dcafda5f9a8ed04e65196a", func := "example.com/termsmith/termsmith/zzlaws_internal_strictjson_b1.FnReadWordCutPrefix", spec := "fnReadWordCutPrefix", apart := false }
def FnReadWordCutPrefixSaid : Prop := fnReadWordCutPrefixRow.holds Try.pinned (OpenSpec.ofChange fnReadWordCutPrefixSpec)

/-- ITS FALSE NEIGHBOUR: 'it returns false'. Refute it at one input. -/
def fnReadWordCutPrefixWrong : ChangeSpec := { name := "fnReadWordCutPrefix", fn := fun _ => fun
  | [d1, d2, d3, d4] => { results := [.lit (.bool false)], args := [d1, d2, d3, d4] }
  | _ => none }
def FnReadWordCutPrefixWrongFalsely : Prop := fnReadWordCutPrefixRow.holds Try.pinned (OpenSpec.ofChange fnReadWordCutPrefixWrong)

end Rows
end Go.Proofs.Qxb6603221a
