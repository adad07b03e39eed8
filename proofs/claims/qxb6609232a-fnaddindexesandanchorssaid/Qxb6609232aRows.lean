/-
  No cell of these rows narrows 'for every input' (looked for: loops, veiled, ifaces, maps, wideKeys, modest, calm, conditions, laid).
  DERIVED. THE GIVEN ROWS OF THIS SEAT. 1 by the template 'for every input the law returns true; each argument reads behind the call as it read before'; 0 by the template 'total and deterministic' (their statements: Qxb6609232aTotals.lean).
  GIVEN WITH THE SEED: the statements are not yours to turn. If you find one false, say at which input.
  Laid BY PROGRAM, IN A SANDBOX (cutbox-rows.mjs): the forced cells as the released guide's own fill.sh prints them over the translation 68bcc34efe1cc1c5… (all of the seat's roots in one cut). By AI agents, Wed Nov 11 2026. No macro, syntax, notation, axiom, sorry.
-/
import Derived.Test.Qxb6609232aChecked
import GoSem.Claim
import GoSem.ClaimJoined
import GoSem.ClaimMapViews
import Derived.JoinedTies
import Derived.KernelRfl
namespace Go.Proofs.Qxb6609232a
/- THE CELL 'sum', in the pinned program and in every row, IS THE sha256 OF THE DUMP (.gsa) THAT Qxb6609232aProg.lean LOADS. Nothing in Lean hashes anything: it is a label: what it is worth is what the hold of that sum in a sandbox is worth. -/
noncomputable def Try.pinned : Pinned := { name := "qxb6609232a", sum := "68bcc34efe1cc1c520ef3dc71c6d10111f1faee267e259c1c9e36efad3ed2ba0", checked := Try.checked }
namespace Rows
def none {H : Type} : Left H := { results := [], args := [] }

/-- 'zzlaws_internal_document_b1.FnAddIndexesAndAnchors': WHATEVER THE INPUT: true; the input reads as it did. -/
def fnAddIndexesAndAnchorsSpec : ChangeSpec := { name := "fnAddIndexesAndAnchors", fn := fun _ => fun
  | [d] => { results := [.lit (.bool true)], args := [d] }
  | _ => none }
def fnAddIndexesAndAnchorsRow : OpenClaim := { program := "qxb6609232a", sum := "68bcc34efe1cc1c520ef3dc71c6d10111f1faee267e259c1c9e36efad3ed2ba0", func := "example.com/kindcheck/kindcheck/zzlaws_internal_document_b1.FnAddIndexesAndAnchors", spec := "fnAddIndexesAndAnchors", apart := false }
def FnAddIndexesAndAnchorsSaid : Prop := fnAddIndexesAndAnchorsRow.holds Try.pinned (OpenSpec.ofChange fnAddIndexesAndAnchorsSpec)

/-- ITS FALSE NEIGHBOUR: 'it returns false'. Refute it at one input. -/
def fnAddIndexesAndAnchorsWrong : ChangeSpec := { name := "fnAddIndexesAndAnchors", fn := fun _ => fun
  | [d] => { results := [.lit (.bool false)], args := [d] }
  | _ => none }
def FnAddIndexesAndAnchorsWrongFalsely : Prop := fnAddIndexesAndAnchorsRow.holds Try.pinned (OpenSpec.ofChange fnAddIndexesAndAnchorsWrong)

end Rows
end Go.Proofs.Qxb6609232a
