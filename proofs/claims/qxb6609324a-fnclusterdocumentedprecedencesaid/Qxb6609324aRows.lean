/-
  No cell of these rows narrows 'for every input' (looked for: loops, veiled, ifaces, maps, wideKeys, modest, calm, conditions, laid).
  DERIVED. THE GIVEN ROWS OF THIS SEAT. 1 by the template 'for every input the law returns true; each argument reads behind the call as it read before'; 0 by the template 'total and deterministic' (their statements: Qxb6609324aTotals.lean).
  GIVEN WITH THE SEED: the statements are not yours to turn. If you find one false, say at which input.
  Laid BY PROGRAM, IN A SANDBOX (cutbox-rows.mjs): the forced cells as the released guide's own fill.sh prints them over the translation 3b614a0aafa697d9… (all of the seat's roots in one cut). By AI agents, Wed Nov 11 2026. No macro, syntax, notation, axiom, sorry.
-/
import Derived.Test.Qxb6609324aChecked
import GoSem.Claim
import GoSem.ClaimJoined
import GoSem.ClaimMapViews
import Derived.JoinedTies
import Derived.KernelRfl
namespace Go.Proofs.Qxb6609324a
/- THE CELL 'sum', in the pinned program and in every row, IS THE sha256 OF THE DUMP (.gsa) THAT Qxb6609324aProg.lean LOADS. Nothing in Lean hashes anything: it is a label: what it is worth is what the hold of that sum in a sandbox is worth. -/
noncomputable def Try.pinned : Pinned := { name := "qxb6609324a", sum := "3b614a0aafa697d9ebd3459031654023f18fed665de4d9e0f9c47e632d2f0bd0", checked := Try.checked }
namespace Rows
def none {H : Type} : Left H := { results := [], args := [] }

/-- 'zzlaws_internal_fleet_b1.FnClusterDocumentedPrecedence': WHATEVER THE INPUT: true; the input reads as it did. -/
def fnClusterDocumentedPrecedenceSpec : ChangeSpec := { name := "fnClusterDocumentedPrecedence", fn := fun _ => fun
  | [d1, d2, d3, d4, d5, d6, d7, d8, d9, d10, d11, d12] => { results := [.lit (.bool true)], args := [d1, d2, d3, d4, d5, d6, d7, d8, d9, d10, d11, d12] }
  | _ => none }
def fnClusterDocumentedPrecedenceRow : OpenClaim := { program := "qxb6609324a", sum := "3b614a0aafa697d9ebd3459031654023f18fed665de4d9e0f9c47e632d2f0bd0", func := "example.com/leasewright/leasewright/zzlaws_internal_fleet_b1.FnClusterDocumentedPrecedence", spec := "fnClusterDocumentedPrecedence", apart := false }
def FnClusterDocumentedPrecedenceSaid : Prop := fnClusterDocumentedPrecedenceRow.holds Try.pinned (OpenSpec.ofChange fnClusterDocumentedPrecedenceSpec)

/-- ITS FALSE NEIGHBOUR: 'it returns false'. Refute it at one input. -/
def fnClusterDocumentedPrecedenceWrong : ChangeSpec := { name := "fnClusterDocumentedPrecedence", fn := fun _ => fun
  | [d1, d2, d3, d4, d5, d6, d7, d8, d9, d10, d11, d12] => { results := [.lit (.bool false)], args := [d1, d2, d3, d4, d5, d6, d7, d8, d9, d10, d11, d12] }
  | _ => none }
def FnClusterDocumentedPrecedenceWrongFalsely : Prop := fnClusterDocumentedPrecedenceRow.holds Try.pinned (OpenSpec.ofChange fnClusterDocumentedPrecedenceWrong)

end Rows
end Go.Proofs.Qxb6609324a
