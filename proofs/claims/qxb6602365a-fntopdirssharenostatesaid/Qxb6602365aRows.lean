/-
  No cell of these rows narrows 'for every input' (looked for: loops, veiled, ifaces, maps, wideKeys, modest, calm, conditions, laid).
  DERIVED. THE GIVEN ROWS OF THIS SEAT. 2 by the template 'for every input the law returns true; each argument reads behind the call as it read before'; 0 by the template 'total and deterministic' (their statements: Qxb6602365aTotals.lean).
  GIVEN WITH THE SEED: the statements are not yours to turn. If you find one false, say at which input.
  Laid BY PROGRAM, IN A SANDBOX (cutbox-rows.mjs): the forced cells as the released guide's own fill.sh prints them over the translation e354f91880e2967a… (all of the seat's roots in one cut). By AI agents, Wed Nov 11 2026. No macro, syntax, notation, axiom, sorry.
-/
import Derived.Test.Qxb6602365aChecked
import GoSem.Claim
import GoSem.ClaimJoined
import GoSem.ClaimMapViews
import Derived.JoinedTies
import Derived.KernelRfl
namespace Go.Proofs.Qxb6602365a
/- THE CELL 'sum', in the pinned program and in every row, IS THE sha256 OF THE DUMP (.gsa) THAT Qxb6602365aProg.lean LOADS. Nothing in Lean hashes anything: it is a label: what it is worth is what the hold of that sum in a sandbox is worth. -/
noncomputable def Try.pinned : Pinned := { name := "qxb6602365a", sum := "e354f91880e2967a837f35ef86292108329358fa4c76a1050e2140735b41504b", checked := Try.checked }
namespace Rows
def none {H : Type} : Left H := { results := [], args := [] }

/-- 'zzlaws_pkg_pattern_b1.FnAtTopStatesShareNoMemory': WHATEVER THE INPUT: true; the input reads as it did. -/
def fnAtTopStatesShareNoMemorySpec : ChangeSpec := { name := "fnAtTopStatesShareNoMemory", fn := fun _ => fun
  | [d] => { results := [.lit (.bool true)], args := [d] }
  | _ => none }
def fnAtTopStatesShareNoMemoryRow : OpenClaim := { program := "qxb6602365a", sum := "e354f91880e2967a837f35ef86292108329358fa4c76a1050e2140735b41504b", func := "example.com/holdfast/holdfast/zzlaws_pkg_pattern_b1.FnAtTopStatesShareNoMemory", spec := "fnAtTopStatesShareNoMemory", apart := false }
def FnAtTopStatesShareNoMemorySaid : Prop := fnAtTopStatesShareNoMemoryRow.holds Try.pinned (OpenSpec.ofChange fnAtTopStatesShareNoMemorySpec)

/-- ITS FALSE NEIGHBOUR: 'it returns false'. Refute it at one input. -/
def fnAtTopStatesShareNoMemoryWrong : ChangeSpec := { name := "fnAtTopStatesShareNoMemory", fn := fun _ => fun
  | [d] => { results := [.lit (.bool false)], args := [d] }
  | _ => none }
def FnAtTopStatesShareNoMemoryWrongFalsely : Prop := fnAtTopStatesShareNoMemoryRow.holds Try.pinned (OpenSpec.ofChange fnAtTopStatesShareNoMemoryWrong)

/-- 'zzlaws_pkg_pattern_b1.FnTopDirsShareNoState': WHATEVER THE INPUT: true; the input reads as it did. -/
def fnTopDirsShareNoStateSpec : ChangeSpec := { name := "fnTopDirsShareNoState", fn := fun _ => fun
  | [d1, d2] => { results := [.lit (.bool true)], args := [d1, d2] }
  | _ => none }
def fnTopDirsShareNoStateRow : OpenClaim := { program := "qxb6602365a", sum := "e354f91880e2967a837f35ef86292108329358fa4c76a1050e2140735b41504b", func := "example.com/holdfast/holdfast/zzlaws_pkg_pattern_b1.FnTopDirsShareNoState", spec := "fnTopDirsShareNoState", apart := false }
def FnTopDirsShareNoStateSaid : Prop := fnTopDirsShareNoStateRow.holds Try.pinned (OpenSpec.ofChange fnTopDirsShareNoStateSpec)

/-- ITS FALSE NEIGHBOUR: 'it returns false'. Refute it at one input. -/
def fnTopDirsShareNoStateWrong : ChangeSpec := { name := "fnTopDirsShareNoState", fn := fun _ => fun
  | [d1, d2] => { results := [.lit (.bool false)], args := [d1, d2] }
  | _ => none }
def FnTopDirsShareNoStateWrongFalsely : Prop := fnTopDirsShareNoStateRow.holds Try.pinned (OpenSpec.ofChange fnTopDirsShareNoStateWrong)

end Rows
end Go.Proofs.Qxb6602365a
