/-
  No cell of these rows narrows 'for every input' (looked for: loops, veiled, ifaces, maps, wideKeys, modest, calm, conditions, laid).
  DERIVED. THE GIVEN ROWS OF THIS SEAT. 7 by the template 'for every input the law returns true; each argument reads behind the call as it read before'; 0 by the template 'total and deterministic' (their statements: Qxb6602424aTotals.lean).
  GIVEN WITH THE SEED: the statements are not yours to turn. If you find one false, say at which input.
  Laid BY PROGRAM, IN A SANDBOX (cutbox-rows.mjs): the forced cells as the released guide's own fill.sh prints them over the translation 6642fa070dcb62f4… (all of the seat's roots in one cut). By AI agents, Wed Nov 11 2026. No macro, syntax, notation, axiom, sorry.
-/
import Derived.Test.Qxb6602424aChecked
import GoSem.Claim
import GoSem.ClaimJoined
import GoSem.ClaimMapViews
import Derived.JoinedTies
import Derived.KernelRfl
namespace Go.Proofs.Qxb6602424a
/- THE CELL 'sum', in the pinned program and in every row, IS THE sha256 OF THE DUMP (.gsa) THAT Qxb6602424aProg.lean LOADS. Nothing in Lean hashes anything: it is a label: what it is worth is what the hold of that sum in a sandbox is worth. -/
noncomputable def Try.pinned : Pinned := { name := "qxb6602424a", sum := "6642fa070dcb62f42f97904003b38d4207adc398ff88f3b02c54a9f546bb5de6", checked := Try.checked }
namespace Rows
def none {H : Type} : Left H := { results := [], args := [] }

/-- 'zzlaws_internal_membership_b1.FnIsUUIDAgreesWithGroupModel': WHATEVER THE INPUT: true; the input reads as it did. -/
def fnIsUUIDAgreesWithGroupModelSpec : ChangeSpec := { name := "fnIsUUIDAgreesWithGroupModel", fn := fun _ => fun
  | [d] => { results := [.lit (.bool true)], args := [d] }
  | _ => none }
def fnIsUUIDAgreesWithGroupModelRow : OpenClaim := { program := "qxb6602424a", sum := "6642fa070dcb62f42f97904003b38d4207adc398ff88f3b02c54a9f546bb5de6", func := "example.com/tenure/tenure/zzlaws_internal_membership_b1.FnIsUUIDAgreesWithGroupModel", spec := "fnIsUUIDAgreesWithGroupModel", apart := false }
def FnIsUUIDAgreesWithGroupModelSaid : Prop := fnIsUUIDAgreesWithGroupModelRow.holds Try.pinned (OpenSpec.ofChange fnIsUUIDAgreesWithGroupModelSpec)

/-- ITS FALSE NEIGHBOUR: 'it returns false'. Refute it at one input. -/
def fnIsUUIDAgreesWithGroupModelWrong : ChangeSpec := { name := "fnIsUUIDAgreesWithGroupModel", fn := fun _ => fun
  | [d] => { results := [.lit (.bool false)], args := [d] }
  | _ => none }
def FnIsUUIDAgreesWithGroupModelWrongFalsely : Prop := fnIsUUIDAgreesWithGroupModelRow.holds Try.pinned (OpenSpec.ofChange fnIsUUIDAgreesWithGroupModelWrong)

/-- 'zzlaws_internal_membership_b1.FnIsUUIDIgnoresASCIICase': WHATEVER THE INPUT: true; the input reads as it did. -/
def fnIsUUIDIgnoresASCIICaseSpec : ChangeSpec := { name := "fnIsUUIDIgnoresASCIICase", fn := fun _ => fun
  | [d] => { results := [.lit (.bool true)], args := [d] }
  | _ => none }
def fnIsUUIDIgnoresASCIICaseRow : OpenClaim := { program := "qxb6602424a", sum := "6642fa070dcb62f42f97904003b38d4207adc398ff88f3b02c54a9f546bb5de6", func := "example.com/tenure/tenure/zzlaws_internal_membership_b1.FnIsUUIDIgnoresASCIICase", spec := "fnIsUUIDIgnoresASCIICase", apart := false }
def FnIsUUIDIgnoresASCIICaseSaid : Prop := fnIsUUIDIgnoresASCIICaseRow.holds Try.pinned (OpenSpec.ofChange fnIsUUIDIgnoresASCIICaseSpec)

/-- ITS FALSE NEIGHBOUR: 'it returns false'. Refute it at one input. -/
def fnIsUUIDIgnoresASCIICaseWrong : ChangeSpec := { name := "fnIsUUIDIgnoresASCIICase", fn := fun _ => fun
  | [d] => { results := [.lit (.bool false)], args := [d] }
  | _ => none }
def FnIsUUIDIgnoresASCIICaseWrongFalsely : Prop := fnIsUUIDIgnoresASCIICaseRow.holds Try.pinned (OpenSpec.ofChange fnIsUUIDIgnoresASCIICaseWrong)

/-- 'zzlaws_internal_membership_b1.FnUUIDStringMatchesByteModel': WHATEVER THE INPUT: true; the input reads as it did. -/
def fnUUIDStringMatchesByteModelSpec : ChangeSpec := { name := "fnUUIDStringMatchesByteModel", fn := fun _ => fun
  | [d] => { results := [.lit (.bool true)], args := [d] }
  | _ => none }
def fnUUIDStringMatchesByteModelRow : OpenClaim := { program := "qxb6602424a", sum := "6642fa070dcb62f42f97904003b38d4207adc398ff88f3b02c54a9f546bb5de6", func := "example.com/tenure/tenure/zzlaws_internal_membership_b1.FnUUIDStringMatchesByteModel", spec := "fnUUIDStringMatchesByteModel", apart := false }
def FnUUIDStringMatchesByteModelSaid : Prop := fnUUIDStringMatchesByteModelRow.holds Try.pinned (OpenSpec.ofChange fnUUIDStringMatchesByteModelSpec)

/-- ITS FALSE NEIGHBOUR: 'it returns false'. Refute it at one input. -/
def fnUUIDStringMatchesByteModelWrong : ChangeSpec := { name := "fnUUIDStringMatchesByteModel", fn := fun _ => fun
  | [d] => { results := [.lit (.bool false)], args := [d] }
  | _ => none }
def FnUUIDStringMatchesByteModelWrongFalsely : Prop := fnUUIDStringMatchesByteModelRow.holds Try.pinned (OpenSpec.ofChange fnUUIDStringMatchesByteModelWrong)

/-- 'zzlaws_internal_membership_b1.FnUUIDStringParseRoundTrip': WHATEVER THE INPUT: true; the input reads as it did. -/
def fnUUIDStringParseRoundTripSpec : ChangeSpec := { name := "fnUUIDStringParseRoundTrip", fn := fun _ => fun
  | [d] => { results := [.lit (.bool true)], args := [d] }
  | _ => none }
def fnUUIDStringParseRoundTripRow : OpenClaim := { program := "qxb6602424a", sum := "6642fa070dcb62f42f97904003b38d4207adc398ff88f3b02c54a9f546bb5de6", func := "example.com/tenure/tenure/zzlaws_internal_membership_b1.FnUUIDStringParseRoundTrip", spec := "fnUUIDStringParseRoundTrip", apart := false }
def FnUUIDStringParseRoundTripSaid : Prop := fnUUIDStringParseRoundTripRow.holds Try.pinned (OpenSpec.ofChange fnUUIDStringParseRoundTripSpec)

/-- ITS FALSE NEIGHBOUR: 'it returns false'. Refute it at one input. -/
def fnUUIDStringParseRoundTripWrong : ChangeSpec := { name := "fnUUIDStringParseRoundTrip", fn := fun _ => fun
  | [d] => { results := [.lit (.bool false)], args := [d] }
  | _ => none }
def FnUUIDStringParseRoundTripWrongFalsely : Prop := fnUUIDStringParseRoundTripRow.holds Try.pinned (OpenSpec.ofChange fnUUIDStringParseRoundTripWrong)

/-- 'zzlaws_internal_membership_b1.FnParseUUIDMatchesOffsetModel': WHATEVER THE INPUT: true; the input reads as it did. -/
def fnParseUUIDMatchesOffsetModelSpec : ChangeSpec := { name := "fnParseUUIDMatchesOffsetModel", fn := fun _ => fun
  | [d] => { results := [.lit (.bool true)], args := [d] }
  | _ => none }
def fnParseUUIDMatchesOffsetModelRow : OpenClaim := { program := "qxb6602424a", sum := "6642fa070dcb62f42f97904003b38d4207adc398ff88f3b02c54a9f546bb5de6", func := "example.com/tenure/tenure/zzlaws_internal_membership_b1.FnParseUUIDMatchesOffsetModel", spec := "fnParseUUIDMatchesOffsetModel", apart := false }
def FnParseUUIDMatchesOffsetModelSaid : Prop := fnParseUUIDMatchesOffsetModelRow.holds Try.pinned (OpenSpec.ofChange fnParseUUIDMatchesOffsetModelSpec)

/-- ITS FALSE NEIGHBOUR: 'it returns false'. Refute it at one input. -/
def fnParseUUIDMatchesOffsetModelWrong : ChangeSpec := { name := "fnParseUUIDMatchesOffsetModel", fn := fun _ => fun
  | [d] => { results := [.lit (.bool false)], args := [d] }
  | _ => none }
def FnParseUUIDMatchesOffsetModelWrongFalsely : Prop := fnParseUUIDMatchesOffsetModelRow.holds Try.pinned (OpenSpec.ofChange fnParseUUIDMatchesOffsetModelWrong)

/-- 'zzlaws_internal_membership_b1.FnParseUUIDThenStringIsLowerCase': WHATEVER THE INPUT: true; the input reads as it did. -/
def fnParseUUIDThenStringIsLowerCaseSpec : ChangeSpec := { name := "fnParseUUIDThenStringIsLowerCase", fn := fun _ => fun
  | [d] => { results := [.lit (.bool true)], args := [d] }
  | _ => none }
def fnParseUUIDThenStringIsLowerCaseRow : OpenClaim := { program := "qxb6602424a", sum := "6642fa070dcb62f42f97904003b38d4207adc398ff88f3b02c54a9f546bb5de6", func := "example.com/tenure/tenure/zzlaws_internal_membership_b1.FnParseUUIDThenStringIsLowerCase", spec := "fnParseUUIDThenStringIsLowerCase", apart := false }
def FnParseUUIDThenStringIsLowerCaseSaid : Prop := fnParseUUIDThenStringIsLowerCaseRow.holds Try.pinned (OpenSpec.ofChange fnParseUUIDThenStringIsLowerCaseSpec)

/-- ITS FALSE NEIGHBOUR: 'it returns false'. Refute it at one input. -/
def fnParseUUIDThenStringIsLowerCaseWrong : ChangeSpec := { name := "fnParseUUIDThenStringIsLowerCase", fn := fun _ => fun
  | [d] => { results := [.lit (.bool false)], args := [d] }
  | _ => none }
def FnParseUUIDThenStringIsLowerCaseWrongFalsely : Prop := fnParseUUIDThenStringIsLowerCaseRow.holds Try.pinned (OpenSpec.ofChange fnParseUUIDThenStringIsLowerCaseWrong)

/-- 'zzlaws_internal_membership_b1.FnParseUUIDEqualIffSameIgnoringCase': WHATEVER THE INPUT: true; the input reads as it did. -/
def fnParseUUIDEqualIffSameIgnoringCaseSpec : ChangeSpec := { name := "fnParseUUIDEqualIffSameIgnoringCase", fn := fun _ => fun
  | [d1, d2] => { results := [.lit (.bool true)], args := [d1, d2] }
  | _ => none }
def fnParseUUIDEqualIffSameIgnoringCaseRow : OpenClaim := { program := "qxb6602424a", sum := "6642fa070dcb62f42f97904003b38d4207adc398ff88f3b02c54a9f546bb5de6", func := "example.com/tenure/tenure/zzlaws_internal_membership_b1.FnParseUUIDEqualIffSameIgnoringCase", spec := "fnParseUUIDEqualIffSameIgnoringCase", apart := false }
def FnParseUUIDEqualIffSameIgnoringCaseSaid : Prop := fnParseUUIDEqualIffSameIgnoringCaseRow.holds Try.pinned (OpenSpec.ofChange fnParseUUIDEqualIffSameIgnoringCaseSpec)

/-- ITS FALSE NEIGHBOUR: 'it returns false'. Refute it at one input. -/
def fnParseUUIDEqualIffSameIgnoringCaseWrong : ChangeSpec := { name := "fnParseUUIDEqualIffSameIgnoringCase", fn := fun _ => fun
  | [d1, d2] => { results := [.lit (.bool false)], args := [d1, d2] }
  | _ => none }
def FnParseUUIDEqualIffSameIgnoringCaseWrongFalsely : Prop := fnParseUUIDEqualIffSameIgnoringCaseRow.holds Try.pinned (OpenSpec.ofChange fnParseUUIDEqualIffSameIgnoringCaseWrong)

end Rows
end Go.Proofs.Qxb6602424a
