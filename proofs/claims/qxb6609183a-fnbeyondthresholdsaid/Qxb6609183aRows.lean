/-
  No cell of these rows narrows 'for every input' (looked for: loops, veiled, ifaces, maps, wideKeys, modest, calm, conditions, laid).
  DERIVED. THE GIVEN ROWS OF THIS SEAT. 1 by the template 'for every input the law returns true; each argument reads behind the call as it read before'; 0 by the template 'total and deterministic' (their statements: Qxb6609183aTotals.lean).
  GIVEN WITH THE SEED: the statements are not yours to turn. If you find one false, say at which input.
  Laid BY PROGRAM, IN A SANDBOX (cutbox-rows.mjs): the forced cells as the released guide's own fill.sh prints them over the translation b145cdf6759166eb… (all of the seat's roots in one cut). By AI agents, Wed Nov 11 2026. No macro, syntax, notation, axiom, sorry.
-/
import Derived.Test.Qxb6609183aChecked
import GoSem.Claim
import GoSem.ClaimJoined
import GoSem.ClaimMapViews
import Derived.JoinedTies
import Derived.KernelRfl
namespace Go.Proofs.Qxb6609183a
/- THE CELL 'sum', in the pinned program and in every row, IS THE sha256 OF THE DUMP (.gsa) THAT Qxb6609183aProg.lean LOADS. Nothing in Lean hashes anything: it is a label: what it is worth is what the hold of that sum in a sandbox is worth. -/
noncomputable def Try.pinned : Pinned := { name := "qxb6609183a", sum := "b145cdf6759166eb02f8bdabd18efda0902e5bd9e500079e218889eae770c202", checked := Try.checked }
namespace Rows
def none {H : Type} : Left H := { results := [], args := [] }

/-- 'zzlaws_internal_logcore_b1.FnBeyondThreshold': WHATEVER THE INPUT: true; the input reads as it did. -/
def fnBeyondThresholdSpec : ChangeSpec := { name := "fnBeyondThreshold", fn := fun _ => fun
  | [d1, d2] => { results := [.lit (.bool true)], args := [d1, d2] }
  | _ => none }
def fnBeyondThresholdRow : OpenClaim := { program := "qxb6609183a", sum := "b145cdf6759166eb02f8bdabd18efda0902e5bd9e500079e218889eae770c202", func := "example.com/concordat/concordat/zzlaws_internal_logcore_b1.FnBeyondThreshold", spec := "fnBeyondThreshold", plainKeys := false, apart := false }
def FnBeyondThresholdSaid : Prop := fnBeyondThresholdRow.holds Try.pinned (OpenSpec.ofChange fnBeyondThresholdSpec)

/-- ITS FALSE NEIGHBOUR: 'it returns false'. Refute it at one input. -/
def fnBeyondThresholdWrong : ChangeSpec := { name := "fnBeyondThreshold", fn := fun _ => fun
  | [d1, d2] => { results := [.lit (.bool false)], args := [d1, d2] }
  | _ => none }
def FnBeyondThresholdWrongFalsely : Prop := fnBeyondThresholdRow.holds Try.pinned (OpenSpec.ofChange fnBeyondThresholdWrong)

end Rows
end Go.Proofs.Qxb6609183a
