/-
  NARROWER THAN 'FOR EVERY INPUT', by the rows' own cells (each row's printed sentence says how): FnExcludesCutAnyPlace: maps.
  DERIVED. THE GIVEN ROWS OF THIS SEAT. 2 by the template 'for every input the law returns true; each argument reads behind the call as it read before'; 0 by the template 'total and deterministic' (their statements: Qxb6612635aTotals.lean).
  GIVEN WITH THE SEED: the statements are not yours to turn. If you find one false, say at which input.
  Laid BY PROGRAM, IN A SANDBOX (cutbox-rows.mjs): the forced cells as the released guide's own fill.sh prints them over the translation 4fc1a82e45b575ab… (all of the seat's roots in one cut). By AI agents, Wed Nov 11 2026. No macro, syntax, notation, axiom, sorry.
-/
import Derived.Test.Qxb6612635aChecked
import GoSem.Claim
import GoSem.ClaimJoined
import GoSem.ClaimMapViews
import Derived.JoinedTies
import Derived.KernelRfl
namespace Go.Proofs.Qxb6612635a
/- THE CELL 'sum', in the pinned program and in every row, IS THE sha256 OF THE DUMP (.gsa) THAT Qxb6612635aProg.lean LOADS. Nothing in Lean hashes anything: it is a label: what it is worth is what the hold of that sum in a sandbox is worth. -/
noncomputable def Try.pinned : Pinned := { name := "qxb6612635a", sum := "4fc1a82e45b575abe4af51e2a76f332db148ae9a001af823d600beaedf64a9db", checked := Try.checked }
namespace Rows
def none {H : Type} : Left H := { results := [], args := [] }

/-- 'zzlaws_credentials_b1.FnIsSecretOnlyUsernameShown': WHATEVER THE INPUT: true; the input reads as it did. -/
def fnIsSecretOnlyUsernameShownSpec : ChangeSpec := { name := "fnIsSecretOnlyUsernameShown", fn := fun _ => fun
  | [d1, d2] => { results := [.lit (.bool true)], args := [d1, d2] }
  | _ => none }
def fnIsSecretOnlyUsernameShownRow : OpenClaim := { program := "qxb6612635a", sum := "4fc1a82e45b575abe4af51e2a76f332db148ae9a001af823d600beaedf64a9db", func := "example.com/ambit/ambit/zzlaws_credentials_b1.FnIsSecretOnlyUsernameShown", spec := "fnIsSecretOnlyUsernameShown", apart := false }
def FnIsSecretOnlyUsernameShownSaid : Prop := fnIsSecretOnlyUsernameShownRow.holds Try.pinned (OpenSpec.ofChange fnIsSecretOnlyUsernameShownSpec)

/-- ITS FALSE NEIGHBOUR: 'it returns false'. Refute it at one input. -/
def fnIsSecretOnlyUsernameShownWrong : ChangeSpec := { name := "fnIsSecretOnlyUsernameShown", fn := fun _ => fun
  | [d1, d2] => { results := [.lit (.bool false)], args := [d1, d2] }
  | _ => none }
def FnIsSecretOnlyUsernameShownWrongFalsely : Prop := fnIsSecretOnlyUsernameShownRow.holds Try.pinned (OpenSpec.ofChange fnIsSecretOnlyUsernameShownWrong)

/-- 'zzlaws_credentials_b1.FnExcludesCutAnyPlace': WHATEVER THE INPUT: true; the input reads as it did. -/
def fnExcludesCutAnyPlaceSpec : ChangeSpec := { name := "fnExcludesCutAnyPlace", fn := fun _ => fun
  | [d1, d2, d3, d4, d5] => { results := [.lit (.bool true)], args := [d1, d2, d3, d4, d5] }
  | _ => none }
def fnExcludesCutAnyPlaceRow : OpenClaim := { program := "qxb6612635a", sum := "4fc1a82e45b575abe4af51e2a76f332db148ae9a001af823d600beaedf64a9db", func := "example.com/ambit/ambit/zzlaws_credentials_b1.FnExcludesCutAnyPlace", spec := "fnExcludesCutAnyPlace", maps := true, apart := false }
def FnExcludesCutAnyPlaceSaid : Prop := fnExcludesCutAnyPlaceRow.holds Try.pinned (OpenSpec.ofChange fnExcludesCutAnyPlaceSpec)

/-- ITS FALSE NEIGHBOUR: 'it returns false'. Refute it at one input. -/
def fnExcludesCutAnyPlaceWrong : ChangeSpec := { name := "fnExcludesCutAnyPlace", fn := fun _ => fun
  | [d1, d2, d3, d4, d5] => { results := [.lit (.bool false)], args := [d1, d2, d3, d4, d5] }
  | _ => none }
def FnExcludesCutAnyPlaceWrongFalsely : Prop := fnExcludesCutAnyPlaceRow.holds Try.pinned (OpenSpec.ofChange fnExcludesCutAnyPlaceWrong)

end Rows
end Go.Proofs.Qxb6612635a
