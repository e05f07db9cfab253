/-
  No cell of these rows narrows 'for every input' (looked for: loops, veiled, ifaces, maps, wideKeys, modest, calm, conditions, laid).
  DERIVED. THE GIVEN ROWS OF THIS SEAT. 5 by the template 'for every input the law returns true; each argument reads behind the call as it read before'; 0 by the template 'total and deterministic' (their statements: Qxb6609223aTotals.lean).
  GIVEN WITH THE SEED: the statements are not yours to turn. If you find one false, say at which input.
  Laid BY PROGRAM, IN A SANDBOX (cutbox-rows.mjs): the forced cells as the released guide's own fill.sh prints them over the translation a798f3d80254ade8… (all of the seat's roots in one cut). By AI agents, Wed Nov 11 2026. No macro, syntax, notation, axiom, sorry.
-/
import Derived.Test.Qxb6609223aChecked
import GoSem.Claim
import GoSem.ClaimJoined
import GoSem.ClaimMapViews
import Derived.JoinedTies
import Derived.KernelRfl
namespace Go.Proofs.Qxb6609223a
/- THE CELL 'sum', in the pinned program and in every row, IS THE sha256 OF THE DUMP (.gsa) THAT Qxb6609223aProg.lean LOADS. Nothing in Lean hashes anything: it is a label: what it is worth is what the hold of that sum in a sandbox is worth. -/
noncomputable def Try.pinned : Pinned := { name := "qxb6609223a", sum := "a798f3d80254ade82cb01cc99397db64d98b3f8aeaeb3ca3b071f7677ef7183a", checked := Try.checked }
namespace Rows
def none {H : Type} : Left H := { results := [], args := [] }

/-- 'zzlaws_lock_b1.FnRequestGrantedExactlyWhenNotWaiting': WHATEVER THE INPUT: true; the input reads as it did. -/
def fnRequestGrantedExactlyWhenNotWaitingSpec : ChangeSpec := { name := "fnRequestGrantedExactlyWhenNotWaiting", fn := fun _ => fun
  | [d1, d2, d3] => { results := [.lit (.bool true)], args := [d1, d2, d3] }
  | _ => none }
def fnRequestGrantedExactlyWhenNotWaitingRow : OpenClaim := { program := "qxb6609223a", sum := "a798f3d80254ade82cb01cc99397db64d98b3f8aeaeb3ca3b071f7677ef7183a", func := "example.com/edgechase/edgechase/zzlaws_lock_b1.FnRequestGrantedExactlyWhenNotWaiting", spec := "fnRequestGrantedExactlyWhenNotWaiting", unfollowed := true, recurses := true, apart := false }
def FnRequestGrantedExactlyWhenNotWaitingSaid : Prop := fnRequestGrantedExactlyWhenNotWaitingRow.holds Try.pinned (OpenSpec.ofChange fnRequestGrantedExactlyWhenNotWaitingSpec)

/-- ITS FALSE NEIGHBOUR: 'it returns false'. Refute it at one input. -/
def fnRequestGrantedExactlyWhenNotWaitingWrong : ChangeSpec := { name := "fnRequestGrantedExactlyWhenNotWaiting", fn := fun _ => fun
  | [d1, d2, d3] => { results := [.lit (.bool false)], args := [d1, d2, d3] }
  | _ => none }
def FnRequestGrantedExactlyWhenNotWaitingWrongFalsely : Prop := fnRequestGrantedExactlyWhenNotWaitingRow.holds Try.pinned (OpenSpec.ofChange fnRequestGrantedExactlyWhenNotWaitingWrong)

/-- 'zzlaws_lock_b1.FnWaitsForWalkGivesEachOnce': WHATEVER THE INPUT: true; the input reads as it did. -/
def fnWaitsForWalkGivesEachOnceSpec : ChangeSpec := { name := "fnWaitsForWalkGivesEachOnce", fn := fun _ => fun
  | [d1, d2, d3, d4, d5] => { results := [.lit (.bool true)], args := [d1, d2, d3, d4, d5] }
  | _ => none }
def fnWaitsForWalkGivesEachOnceRow : OpenClaim := { program := "qxb6609223a", sum := "a798f3d80254ade82cb01cc99397db64d98b3f8aeaeb3ca3b071f7677ef7183a", func := "example.com/edgechase/edgechase/zzlaws_lock_b1.FnWaitsForWalkGivesEachOnce", spec := "fnWaitsForWalkGivesEachOnce", unfollowed := true, recurses := true, apart := false }
def FnWaitsForWalkGivesEachOnceSaid : Prop := fnWaitsForWalkGivesEachOnceRow.holds Try.pinned (OpenSpec.ofChange fnWaitsForWalkGivesEachOnceSpec)

/-- ITS FALSE NEIGHBOUR: 'it returns false'. Refute it at one input. -/
def fnWaitsForWalkGivesEachOnceWrong : ChangeSpec := { name := "fnWaitsForWalkGivesEachOnce", fn := fun _ => fun
  | [d1, d2, d3, d4, d5] => { results := [.lit (.bool false)], args := [d1, d2, d3, d4, d5] }
  | _ => none }
def FnWaitsForWalkGivesEachOnceWrongFalsely : Prop := fnWaitsForWalkGivesEachOnceRow.holds Try.pinned (OpenSpec.ofChange fnWaitsForWalkGivesEachOnceWrong)

/-- 'zzlaws_lock_b1.FnWaitedByIsConverseOfWaitsFor': WHATEVER THE INPUT: true; the input reads as it did. -/
def fnWaitedByIsConverseOfWaitsForSpec : ChangeSpec := { name := "fnWaitedByIsConverseOfWaitsFor", fn := fun _ => fun
  | [d1, d2, d3, d4, d5] => { results := [.lit (.bool true)], args := [d1, d2, d3, d4, d5] }
  | _ => none }
def fnWaitedByIsConverseOfWaitsForRow : OpenClaim := { program := "qxb6609223a", sum := "a798f3d80254ade82cb01cc99397db64d98b3f8aeaeb3ca3b071f7677ef7183a", func := "example.com/edgechase/edgechase/zzlaws_lock_b1.FnWaitedByIsConverseOfWaitsFor", spec := "fnWaitedByIsConverseOfWaitsFor", unfollowed := true, recurses := true, apart := false }
def FnWaitedByIsConverseOfWaitsForSaid : Prop := fnWaitedByIsConverseOfWaitsForRow.holds Try.pinned (OpenSpec.ofChange fnWaitedByIsConverseOfWaitsForSpec)

/-- ITS FALSE NEIGHBOUR: 'it returns false'. Refute it at one input. -/
def fnWaitedByIsConverseOfWaitsForWrong : ChangeSpec := { name := "fnWaitedByIsConverseOfWaitsFor", fn := fun _ => fun
  | [d1, d2, d3, d4, d5] => { results := [.lit (.bool false)], args := [d1, d2, d3, d4, d5] }
  | _ => none }
def FnWaitedByIsConverseOfWaitsForWrongFalsely : Prop := fnWaitedByIsConverseOfWaitsForRow.holds Try.pinned (OpenSpec.ofChange fnWaitedByIsConverseOfWaitsForWrong)

/-- 'zzlaws_lock_b1.FnNextAgreesWithModelAcrossChanges': WHATEVER THE INPUT: true; the input reads as it did. -/
def fnNextAgreesWithModelAcrossChangesSpec : ChangeSpec := { name := "fnNextAgreesWithModelAcrossChanges", fn := fun _ => fun
  | [d1, d2, d3, d4, d5, d6] => { results := [.lit (.bool true)], args := [d1, d2, d3, d4, d5, d6] }
  | _ => none }
def fnNextAgreesWithModelAcrossChangesRow : OpenClaim := { program := "qxb6609223a", sum := "a798f3d80254ade82cb01cc99397db64d98b3f8aeaeb3ca3b071f7677ef7183a", func := "example.com/edgechase/edgechase/zzlaws_lock_b1.FnNextAgreesWithModelAcrossChanges", spec := "fnNextAgreesWithModelAcrossChanges", unfollowed := true, recurses := true, apart := false }
def FnNextAgreesWithModelAcrossChangesSaid : Prop := fnNextAgreesWithModelAcrossChangesRow.holds Try.pinned (OpenSpec.ofChange fnNextAgreesWithModelAcrossChangesSpec)

/-- ITS FALSE NEIGHBOUR: 'it returns false'. Refute it at one input. -/
def fnNextAgreesWithModelAcrossChangesWrong : ChangeSpec := { name := "fnNextAgreesWithModelAcrossChanges", fn := fun _ => fun
  | [d1, d2, d3, d4, d5, d6] => { results := [.lit (.bool false)], args := [d1, d2, d3, d4, d5, d6] }
  | _ => none }
def FnNextAgreesWithModelAcrossChangesWrongFalsely : Prop := fnNextAgreesWithModelAcrossChangesRow.holds Try.pinned (OpenSpec.ofChange fnNextAgreesWithModelAcrossChangesWrong)

/-- 'zzlaws_lock_b1.FnNextSearchReachesModelClosure': WHATEVER THE INPUT: true; the input reads as it did. -/
def fnNextSearchReachesModelClosureSpec : ChangeSpec := { name := "fnNextSearchReachesModelClosure", fn := fun _ => fun
  | [d1, d2, d3, d4, d5, d6] => { results := [.lit (.bool true)], args := [d1, d2, d3, d4, d5, d6] }
  | _ => none }
def fnNextSearchReachesModelClosureRow : OpenClaim := { program := "qxb6609223a", sum := "a798f3d80254ade82cb01cc99397db64d98b3f8aeaeb3ca3b071f7677ef7183a", func := "example.com/edgechase/edgechase/zzlaws_lock_b1.FnNextSearchReachesModelClosure", spec := "fnNextSearchReachesModelClosure", unfollowed := true, recurses := true, apart := false }
def FnNextSearchReachesModelClosureSaid : Prop := fnNextSearchReachesModelClosureRow.holds Try.pinned (OpenSpec.ofChange fnNextSearchReachesModelClosureSpec)

/-- ITS FALSE NEIGHBOUR: 'it returns false'. Refute it at one input. -/
def fnNextSearchReachesModelClosureWrong : ChangeSpec := { name := "fnNextSearchReachesModelClosure", fn := fun _ => fun
  | [d1, d2, d3, d4, d5, d6] => { results := [.lit (.bool false)], args := [d1, d2, d3, d4, d5, d6] }
  | _ => none }
def FnNextSearchReachesModelClosureWrongFalsely : Prop := fnNextSearchReachesModelClosureRow.holds Try.pinned (OpenSpec.ofChange fnNextSearchReachesModelClosureWrong)

end Rows
end Go.Proofs.Qxb6609223a
