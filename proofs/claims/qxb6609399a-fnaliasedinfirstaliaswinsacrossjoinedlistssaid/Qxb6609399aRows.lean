/-
  No cell of these rows narrows 'for every input' (looked for: loops, veiled, ifaces, maps, wideKeys, modest, calm, conditions, laid).
  DERIVED. THE GIVEN ROWS OF THIS SEAT. 1 by the template 'for every input the law returns true; each argument reads behind the call as it read before'; 0 by the template 'total and deterministic' (their statements: Qxb6609399aTotals.lean).
  GIVEN WITH THE SEED: the statements are not yours to turn. If you find one false, say at which input.
  Laid BY PROGRAM, IN A SANDBOX (cutbox-rows.mjs): the forced cells as the released guide's own fill.sh prints them over the translation 8492c9e327ba5de9… (all of the seat's roots in one cut). By AI agents, Wed Nov 11 2026. No macro, syntax, notation, axiom, sorry.
-/
import Derived.Test.Qxb6609399aChecked
import GoSem.Claim
import GoSem.ClaimJoined
import GoSem.ClaimMapViews
import Derived.JoinedTies
import Derived.KernelRfl
namespace Go.Proofs.Qxb6609399a
/- THE CELL 'sum', in the pinned program and in every row, IS THE sha256 OF THE DUMP (.gsa) THAT Qxb6609399aProg.lean LOADS. Nothing in Lean hashes anything: it is a label: what it is worth is what the hold of that sum in a sandbox is worth. -/
noncomputable def Try.pinned : Pinned := { name := "qxb6609399a", sum := "8492c9e327ba5de94a766657a5482e60ca68547c5ab6cfdae7320eee7eb569ef", checked := Try.checked }
namespace Rows
def none {H : Type} : Left H := { results := [], args := [] }

/-- 'zzlaws_root_b1.FnAliasedInFirstAliasWinsAcrossJoinedLists': WHATEVER THE INPUT: true; the input reads as it did. -/
def fnAliasedInFirstAliasWinsAcrossJoinedListsSpec : ChangeSpec := { name := "fnAliasedInFirstAliasWinsAcrossJoinedLists", fn := fun _ => fun
  | [d1, d2, d3, d4] => { results := [.lit (.bool true)], args := [d1, d2, d3, d4] }
  | _ => none }
def fnAliasedInFirstAliasWinsAcrossJoinedListsRow : OpenClaim := { program := "qxb6609399a", sum := "8492c9e327ba5de94a766657a5482e60ca68547c5ab6cfdae7320eee7eb569ef", func := "example.com/tenon/tenon/zzlaws_root_b1.FnAliasedInFirstAliasWinsAcrossJoinedLists", spec := "fnAliasedInFirstAliasWinsAcrossJoinedLists", apart := false }
def FnAliasedInFirstAliasWinsAcrossJoinedListsSaid : Prop := fnAliasedInFirstAliasWinsAcrossJoinedListsRow.holds Try.pinned (OpenSpec.ofChange fnAliasedInFirstAliasWinsAcrossJoinedListsSpec)

/-- ITS FALSE NEIGHBOUR: 'it returns false'. Refute it at one input. -/
def fnAliasedInFirstAliasWinsAcrossJoinedListsWrong : ChangeSpec := { name := "fnAliasedInFirstAliasWinsAcrossJoinedLists", fn := fun _ => fun
  | [d1, d2, d3, d4] => { results := [.lit (.bool false)], args := [d1, d2, d3, d4] }
  | _ => none }
def FnAliasedInFirstAliasWinsAcrossJoinedListsWrongFalsely : Prop := fnAliasedInFirstAliasWinsAcrossJoinedListsRow.holds Try.pinned (OpenSpec.ofChange fnAliasedInFirstAliasWinsAcrossJoinedListsWrong)

end Rows
end Go.Proofs.Qxb6609399a
