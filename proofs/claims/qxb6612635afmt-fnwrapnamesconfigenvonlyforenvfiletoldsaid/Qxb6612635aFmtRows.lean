/-
  No cell of these rows narrows 'for every input' (looked for: loops, veiled, ifaces, maps, wideKeys, modest, calm, conditions, laid).
  DERIVED. THE GIVEN ROWS OF THIS SEAT. 2 by the template 'for every input the law returns true; each argument reads behind the call as it read before'; 0 by the template 'total and deterministic' (their statements: Qxb6612635aFmtTotals.lean).
  GIVEN WITH THE SEED: the statements are not yours to turn. If you find one false, say at which input.
  Laid BY PROGRAM, IN A SANDBOX (cutbox-rows.mjs): the forced cells as the released guide's own fill.sh prints them over the translation 2b1b165c187eab7e… (all of the seat's roots in one cut). By AI agents, Wed Nov 11 2026. No macro, syntax, notation, axiom, sorry.
-/
import Derived.Test.Qxb6612635aFmtChecked
import GoSem.Claim
import GoSem.ClaimJoined
import GoSem.ClaimMapViews
import Derived.JoinedTies
import Derived.KernelRfl
namespace Go.Proofs.Qxb6612635aFmt
/- THE CELL 'sum', in the pinned program and in every row, IS THE sha256 OF THE DUMP (.gsa) THAT Qxb6612635aFmtProg.lean LOADS. Nothing in Lean hashes anything: it is a label: what it is worth is what the hold of that sum in a sandbox is worth. -/
noncomputable def Tryf.pinned : Pinned := { name := "qxb6612635afmt", sum := "2b1b165c187eab7ee0bbd0726097f0965335280b3dec5e9a291e157738fb2cc2", checked := Tryf.checked }
namespace Rows
def none {H : Type} : Left H := { results := [], args := [] }

/-- 'zzlaws_credentials_b1.FnWrapNamesConfigEnvOnlyForEnvFile': WHATEVER THE INPUT: true; the input reads as it did. -/
def fnWrapNamesConfigEnvOnlyForEnvFileSpec : ChangeSpec := { name := "fnWrapNamesConfigEnvOnlyForEnvFile", fn := fun _ => fun
  | [d1, d2, d3, d4] => { results := [.lit (.bool true)], args := [d1, d2, d3, d4] }
  | _ => none }
def fnWrapNamesConfigEnvOnlyForEnvFileRow : OpenClaim := { program := "qxb6612635afmt", sum := "2b1b165c187eab7ee0bbd0726097f0965335280b3dec5e9a291e157738fb2cc2", func := "example.com/ambit/ambit/zzlaws_credentials_b1.FnWrapNamesConfigEnvOnlyForEnvFile", spec := "fnWrapNamesConfigEnvOnlyForEnvFile", stops := ["fmt.errorf"], inPlace := ["fmt.errorf"], unfollowed := true, recurses := true, apart := false }
/-- NO THEOREM (fmt's text is open here; it may be false): for the released tool's asking of the row's closed facts alone. THE STATEMENT IS 'FnWrapNamesConfigEnvOnlyForEnvFileToldSaid' (Qxb6612635aFmtCards.lean). -/
def FnWrapNamesConfigEnvOnlyForEnvFileFormAsk : Prop := fnWrapNamesConfigEnvOnlyForEnvFileRow.holds Tryf.pinned (OpenSpec.ofChange fnWrapNamesConfigEnvOnlyForEnvFileSpec)

/-- ITS FALSE NEIGHBOUR: 'it returns false'. Refute it at one input. -/
def fnWrapNamesConfigEnvOnlyForEnvFileWrong : ChangeSpec := { name := "fnWrapNamesConfigEnvOnlyForEnvFile", fn := fun _ => fun
  | [d1, d2, d3, d4] => { results := [.lit (.bool false)], args := [d1, d2, d3, d4] }
  | _ => none }
def FnWrapNamesConfigEnvOnlyForEnvFileWrongFormAsk : Prop := fnWrapNamesConfigEnvOnlyForEnvFileRow.holds Tryf.pinned (OpenSpec.ofChange fnWrapNamesConfigEnvOnlyForEnvFileWrong)

/-- 'zzlaws_credentials_b1.FnWrapOneLayerPerEnvFile': WHATEVER THE INPUT: true; the input reads as it did. -/
def fnWrapOneLayerPerEnvFileSpec : ChangeSpec := { name := "fnWrapOneLayerPerEnvFile", fn := fun _ => fun
  | [d1, d2, d3, d4, d5] => { results := [.lit (.bool true)], args := [d1, d2, d3, d4, d5] }
  | _ => none }
def fnWrapOneLayerPerEnvFileRow : OpenClaim := { program := "qxb6612635afmt", sum := "2b1b165c187eab7ee0bbd0726097f0965335280b3dec5e9a291e157738fb2cc2", func := "example.com/ambit/ambit/zzlaws_credentials_b1.FnWrapOneLayerPerEnvFile", spec := "fnWrapOneLayerPerEnvFile", stops := ["fmt.errorf"], inPlace := ["fmt.errorf"], unfollowed := true, recurses := true, apart := false }
/-- NO THEOREM (fmt's text is open here; it may be false): for the released tool's asking of the row's closed facts alone. THE STATEMENT IS 'FnWrapOneLayerPerEnvFileToldSaid' (Qxb6612635aFmtCards.lean). -/
def FnWrapOneLayerPerEnvFileFormAsk : Prop := fnWrapOneLayerPerEnvFileRow.holds Tryf.pinned (OpenSpec.ofChange fnWrapOneLayerPerEnvFileSpec)

/-- ITS FALSE NEIGHBOUR: 'it returns false'. Refute it at one input. -/
def fnWrapOneLayerPerEnvFileWrong : ChangeSpec := { name := "fnWrapOneLayerPerEnvFile", fn := fun _ => fun
  | [d1, d2, d3, d4, d5] => { results := [.lit (.bool false)], args := [d1, d2, d3, d4, d5] }
  | _ => none }
def FnWrapOneLayerPerEnvFileWrongFormAsk : Prop := fnWrapOneLayerPerEnvFileRow.holds Tryf.pinned (OpenSpec.ofChange fnWrapOneLayerPerEnvFileWrong)

end Rows
end Go.Proofs.Qxb6612635aFmt
