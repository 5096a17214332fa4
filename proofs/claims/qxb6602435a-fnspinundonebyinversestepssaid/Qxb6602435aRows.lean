/-
  No cell of these rows narrows 'for every input' (looked for: loops, veiled, ifaces, maps, wideKeys, modest, calm, conditions, laid).
  DERIVED. THE GIVEN ROWS OF THIS SEAT. 2 by the template 'for every input the law returns true; each argument reads behind the call as it read before'; 0 by the template 'total and deterministic' (their statements: Qxb6602435aTotals.lean).
  GIVEN WITH THE SEED: the statements are not yours to turn. If you find one false, say at which input.
  Laid BY PROGRAM, IN A SANDBOX (cutbox-rows.mjs): the forced cells as the released guide's own fill.sh prints them over the translation 1628976ab644d912… (all of the seat's roots in one cut). By AI agents, Wed Nov 11 2026. No macro, syntax, notation, axiom, sorry.
-/
import Derived.Test.Qxb6602435aChecked
import GoSem.Claim
import GoSem.ClaimJoined
import GoSem.ClaimMapViews
import Derived.JoinedTies
import Derived.KernelRfl
namespace Go.Proofs.Qxb6602435a
/- THE CELL 'sum', in the pinned program and in every row, IS THE sha256 OF THE DUMP (.gsa) THAT Qxb6602435aProg.lean LOADS. Nothing in Lean hashes anything: it is a label: what it is worth is what the hold of that sum in a sandbox is worth. -/
noncomputable def Try.pinned : Pinned := { name := "qxb6602435a", sum := "1628976ab644d9124b97d0ef3c01a57c41f391a8b585f9d12f8210a454bcb1b2", checked := Try.checked }
namespace Rows
def none {H : Type} : Left H := { results := [], args := [] }

/-- 'zzlaws_internal_bench_b1.FnSpinUndoneByInverseSteps': WHATEVER THE INPUT: true; the input reads as it did. -/
def fnSpinUndoneByInverseStepsSpec : ChangeSpec := { name := "fnSpinUndoneByInverseSteps", fn := fun _ => fun
  | [d1, d2] => { results := [.lit (.bool true)], args := [d1, d2] }
  | _ => none }
def fnSpinUndoneByInverseStepsRow : OpenClaim := { program := "qxb6602435a", sum := "1628976ab644d9124b97d0ef3c01a57c41f391a8b585f9d12f8210a454bcb1b2", func := "example.com/stampwise/stampwise/zzlaws_internal_bench_b1.FnSpinUndoneByInverseSteps", spec := "fnSpinUndoneByInverseSteps", apart := false }
def FnSpinUndoneByInverseStepsSaid : Prop := fnSpinUndoneByInverseStepsRow.holds Try.pinned (OpenSpec.ofChange fnSpinUndoneByInverseStepsSpec)

/-- ITS FALSE NEIGHBOUR: 'it returns false'. Refute it at one input. -/
def fnSpinUndoneByInverseStepsWrong : ChangeSpec := { name := "fnSpinUndoneByInverseSteps", fn := fun _ => fun
  | [d1, d2] => { results := [.lit (.bool false)], args := [d1, d2] }
  | _ => none }
def FnSpinUndoneByInverseStepsWrongFalsely : Prop := fnSpinUndoneByInverseStepsRow.holds Try.pinned (OpenSpec.ofChange fnSpinUndoneByInverseStepsWrong)

/-- 'zzlaws_internal_bench_b1.FnSpinNeverZero': WHATEVER THE INPUT: true; the input reads as it did. -/
def fnSpinNeverZeroSpec : ChangeSpec := { name := "fnSpinNeverZero", fn := fun _ => fun
  | [d1, d2] => { results := [.lit (.bool true)], args := [d1, d2] }
  | _ => none }
def fnSpinNeverZeroRow : OpenClaim := { program := "qxb6602435a", sum := "1628976ab644d9124b97d0ef3c01a57c41f391a8b585f9d12f8210a454bcb1b2", func := "example.com/stampwise/stampwise/zzlaws_internal_bench_b1.FnSpinNeverZero", spec := "fnSpinNeverZero", apart := false }
def FnSpinNeverZeroSaid : Prop := fnSpinNeverZeroRow.holds Try.pinned (OpenSpec.ofChange fnSpinNeverZeroSpec)

/-- ITS FALSE NEIGHBOUR: 'it returns false'. Refute it at one input. -/
def fnSpinNeverZeroWrong : ChangeSpec := { name := "fnSpinNeverZero", fn := fun _ => fun
  | [d1, d2] => { results := [.lit (.bool false)], args := [d1, d2] }
  | _ => none }
def FnSpinNeverZeroWrongFalsely : Prop := fnSpinNeverZeroRow.holds Try.pinned (OpenSpec.ofChange fnSpinNeverZeroWrong)

end Rows
end Go.Proofs.Qxb6602435a
