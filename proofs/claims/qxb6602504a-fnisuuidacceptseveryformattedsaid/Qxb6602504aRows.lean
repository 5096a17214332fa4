/-
  No cell of these rows narrows 'for every input' (looked for: loops, veiled, ifaces, maps, wideKeys, modest, calm, conditions, laid).
  DERIVED. THE GIVEN ROWS OF THIS SEAT. 4 by the template 'for every input the law returns true; each argument reads behind the call as it read before'; 0 by the template 'total and deterministic' (their statements: Qxb6602504aTotals.lean).
  GIVEN WITH THE SEED: the statements are not yours to turn. If you find one false, say at which input.
  Laid BY PROGRAM, IN A SANDBOX (cutbox-rows.mjs): the forced cells as the released guide's own fill.sh prints them over the translation 3769d7c14fcf2c81… (all of the seat's roots in one cut). By AI agents, Wed Nov 11 2026. No macro, syntax, notation, axiom, sorry.
-/
import Derived.Test.Qxb6602504aChecked
import GoSem.Claim
import GoSem.ClaimJoined
import GoSem.ClaimMapViews
import Derived.JoinedTies
import Derived.KernelRfl
namespace Go.Proofs.Qxb6602504a
/- THE CELL 'sum', in the pinned program and in every row, IS THE sha256 OF THE DUMP (.gsa) THAT Qxb6602504aProg.lean LOADS. Nothing in Lean hashes anything: it is a label: what it is worth is what the hold of that sum in a sandbox is worth. -/
noncomputable def Try.pinned : Pinned := { name := "qxb6602504a", sum := "3769d7c14fcf2c818ae9f42bf6dd700d0d79ea9dccbf12d3ec25fc407c7f1ff9", checked := Try.checked }
namespace Rows
def none {H : Type} : Left H := { results := [], args := [] }

/-- 'zzlaws_credential_b1.FnJsonKindOfConcatenation': WHATEVER THE INPUT: true; the input reads as it did. -/
def fnJsonKindOfConcatenationSpec : ChangeSpec := { name := "fnJsonKindOfConcatenation", fn := fun _ => fun
  | [d1, d2] => { results := [.lit (.bool true)], args := [d1, d2] }
  | _ => none }
def fnJsonKindOfConcatenationRow : OpenClaim := { program := "qxb6602504a", sum := "3769d7c14fcf2c818ae9f42bf6dd700d0d79ea9dccbf12d3ec25fc407c7f1ff9", func := "example.com/governed-credentials/governed-credentials/zzlaws_credential_b1.FnJsonKindOfConcatenation", spec := "fnJsonKindOfConcatenation", apart := false }
def FnJsonKindOfConcatenationSaid : Prop := fnJsonKindOfConcatenationRow.holds Try.pinned (OpenSpec.ofChange fnJsonKindOfConcatenationSpec)

/-- ITS FALSE NEIGHBOUR: 'it returns false'. Refute it at one input. -/
def fnJsonKindOfConcatenationWrong : ChangeSpec := { name := "fnJsonKindOfConcatenation", fn := fun _ => fun
  | [d1, d2] => { results := [.lit (.bool false)], args := [d1, d2] }
  | _ => none }
def FnJsonKindOfConcatenationWrongFalsely : Prop := fnJsonKindOfConcatenationRow.holds Try.pinned (OpenSpec.ofChange fnJsonKindOfConcatenationWrong)

/-- 'zzlaws_credential_b1.FnIsUUIDIsGroupGrammar': WHATEVER THE INPUT: true; the input reads as it did. -/
def fnIsUUIDIsGroupGrammarSpec : ChangeSpec := { name := "fnIsUUIDIsGroupGrammar", fn := fun _ => fun
  | [d] => { results := [.lit (.bool true)], args := [d] }
  | _ => none }
def fnIsUUIDIsGroupGrammarRow : OpenClaim := { program := "qxb6602504a", sum := "3769d7c14fcf2c818ae9f42bf6dd700d0d79ea9dccbf12d3ec25fc407c7f1ff9", func := "example.com/governed-credentials/governed-credentials/zzlaws_credential_b1.FnIsUUIDIsGroupGrammar", spec := "fnIsUUIDIsGroupGrammar", apart := false }
def FnIsUUIDIsGroupGrammarSaid : Prop := fnIsUUIDIsGroupGrammarRow.holds Try.pinned (OpenSpec.ofChange fnIsUUIDIsGroupGrammarSpec)

/-- ITS FALSE NEIGHBOUR: 'it returns false'. Refute it at one input. -/
def fnIsUUIDIsGroupGrammarWrong : ChangeSpec := { name := "fnIsUUIDIsGroupGrammar", fn := fun _ => fun
  | [d] => { results := [.lit (.bool false)], args := [d] }
  | _ => none }
def FnIsUUIDIsGroupGrammarWrongFalsely : Prop := fnIsUUIDIsGroupGrammarRow.holds Try.pinned (OpenSpec.ofChange fnIsUUIDIsGroupGrammarWrong)

/-- 'zzlaws_credential_b1.FnIsUUIDAcceptsEveryFormatted': WHATEVER THE INPUT: true; the input reads as it did. -/
def fnIsUUIDAcceptsEveryFormattedSpec : ChangeSpec := { name := "fnIsUUIDAcceptsEveryFormatted", fn := fun _ => fun
  | [d] => { results := [.lit (.bool true)], args := [d] }
  | _ => none }
def fnIsUUIDAcceptsEveryFormattedRow : OpenClaim := { program := "qxb6602504a", sum := "3769d7c14fcf2c818ae9f42bf6dd700d0d79ea9dccbf12d3ec25fc407c7f1ff9", func := "example.com/governed-credentials/governed-credentials/zzlaws_credential_b1.FnIsUUIDAcceptsEveryFormatted", spec := "fnIsUUIDAcceptsEveryFormatted", apart := false }
def FnIsUUIDAcceptsEveryFormattedSaid : Prop := fnIsUUIDAcceptsEveryFormattedRow.holds Try.pinned (OpenSpec.ofChange fnIsUUIDAcceptsEveryFormattedSpec)

/-- ITS FALSE NEIGHBOUR: 'it returns false'. Refute it at one input. -/
def fnIsUUIDAcceptsEveryFormattedWrong : ChangeSpec := { name := "fnIsUUIDAcceptsEveryFormatted", fn := fun _ => fun
  | [d] => { results := [.lit (.bool false)], args := [d] }
  | _ => none }
def FnIsUUIDAcceptsEveryFormattedWrongFalsely : Prop := fnIsUUIDAcceptsEveryFormattedRow.holds Try.pinned (OpenSpec.ofChange fnIsUUIDAcceptsEveryFormattedWrong)

/-- 'zzlaws_credential_b1.FnIsUUIDAcceptedIsCanonicalEncoding': WHATEVER THE INPUT: true; the input reads as it did. -/
def fnIsUUIDAcceptedIsCanonicalEncodingSpec : ChangeSpec := { name := "fnIsUUIDAcceptedIsCanonicalEncoding", fn := fun _ => fun
  | [d] => { results := [.lit (.bool true)], args := [d] }
  | _ => none }
def fnIsUUIDAcceptedIsCanonicalEncodingRow : OpenClaim := { program := "qxb6602504a", sum := "3769d7c14fcf2c818ae9f42bf6dd700d0d79ea9dccbf12d3ec25fc407c7f1ff9", func := "example.com/governed-credentials/governed-credentials/zzlaws_credential_b1.FnIsUUIDAcceptedIsCanonicalEncoding", spec := "fnIsUUIDAcceptedIsCanonicalEncoding", apart := false }
def FnIsUUIDAcceptedIsCanonicalEncodingSaid : Prop := fnIsUUIDAcceptedIsCanonicalEncodingRow.holds Try.pinned (OpenSpec.ofChange fnIsUUIDAcceptedIsCanonicalEncodingSpec)

/-- ITS FALSE NEIGHBOUR: 'it returns false'. Refute it at one input. -/
def fnIsUUIDAcceptedIsCanonicalEncodingWrong : ChangeSpec := { name := "fnIsUUIDAcceptedIsCanonicalEncoding", fn := fun _ => fun
  | [d] => { results := [.lit (.bool false)], args := [d] }
  | _ => none }
def FnIsUUIDAcceptedIsCanonicalEncodingWrongFalsely : Prop := fnIsUUIDAcceptedIsCanonicalEncodingRow.holds Try.pinned (OpenSpec.ofChange fnIsUUIDAcceptedIsCanonicalEncodingWrong)

end Rows
end Go.Proofs.Qxb6602504a
