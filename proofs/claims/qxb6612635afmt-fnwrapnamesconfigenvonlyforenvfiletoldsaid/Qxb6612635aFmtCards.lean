/-
  DERIVED. GIVEN WITH THE SEED: THE CARDS: each row of Qxb6612635aFmtRows.lean that lists a variable, with what it lists TIED to the program's text (the seventh form; the later family's looks); each row that meets fmt, with fmt's text TOLD by the authors' own Lean function (tested against real Go, not proved from fmt's source: count such statements apart). THE CARD IS WHAT COUNTS. Prove the row's statement (the work); the ties are given (Qxb6612635aFmtTie.lean); close each card by the builder's one call (the guide's Derived/Test/ToyasCard.lean, 'card_holds'). Laid BY PROGRAM, IN A SANDBOX (cutbox-door.mjs). By AI agents, Wed Nov 11 2026. No macro, syntax, notation, axiom, sorry.
-/
import Derived.Test.Qxb6612635aFmtRows
import GoSem.ClaimSeven
namespace Go.Proofs.Qxb6612635aFmt
namespace Rows

/-- THE TOLD CARD OF 'zzlaws_credentials_b1.FnWrapNamesConfigEnvOnlyForEnvFile'. -/
def fnWrapNamesConfigEnvOnlyForEnvFileCard : Claim7 := { stood := { row := fnWrapNamesConfigEnvOnlyForEnvFileRow, standIns := [], harness := (true, "135d777a3229a350e7d5819d749955f54a33b7727ac192cf40101df49fd617ca"), looks := true }, told := true, goes := false }
def FnWrapNamesConfigEnvOnlyForEnvFileToldSaid : Prop := Claim7.holds Tryf.pinned (.plain (OpenSpec.ofChange fnWrapNamesConfigEnvOnlyForEnvFileSpec)) fnWrapNamesConfigEnvOnlyForEnvFileCard
/-- ITS FALSE NEIGHBOUR. Refute it at one input. -/
def FnWrapNamesConfigEnvOnlyForEnvFileToldWrongFalsely : Prop := Claim7.holds Tryf.pinned (.plain (OpenSpec.ofChange fnWrapNamesConfigEnvOnlyForEnvFileWrong)) fnWrapNamesConfigEnvOnlyForEnvFileCard

/-- THE TOLD CARD OF 'zzlaws_credentials_b1.FnWrapOneLayerPerEnvFile'. -/
def fnWrapOneLayerPerEnvFileCard : Claim7 := { stood := { row := fnWrapOneLayerPerEnvFileRow, standIns := [], harness := (true, "135d777a3229a350e7d5819d749955f54a33b7727ac192cf40101df49fd617ca"), looks := true }, told := true, goes := false }
def FnWrapOneLayerPerEnvFileToldSaid : Prop := Claim7.holds Tryf.pinned (.plain (OpenSpec.ofChange fnWrapOneLayerPerEnvFileSpec)) fnWrapOneLayerPerEnvFileCard
/-- ITS FALSE NEIGHBOUR. Refute it at one input. -/
def FnWrapOneLayerPerEnvFileToldWrongFalsely : Prop := Claim7.holds Tryf.pinned (.plain (OpenSpec.ofChange fnWrapOneLayerPerEnvFileWrong)) fnWrapOneLayerPerEnvFileCard
end Rows
end Go.Proofs.Qxb6612635aFmt
