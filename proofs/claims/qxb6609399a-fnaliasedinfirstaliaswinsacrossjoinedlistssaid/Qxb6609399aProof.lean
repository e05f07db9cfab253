/-
  A proof of Rows.FnAliasedInFirstAliasWinsAcrossJoinedListsSaid: the walk lifted to the row.
-/
import Derived.Test.Qxb6609399aRows
import Derived.Test.Qxb6609399aKit
import Derived.Test.Qxb6609399aOpen
import Derived.OpenShut
namespace Go.Proofs.Qxb6609399a.fnAliasedInFirstAliasWinsAcrossJoinedLists
open Go.ChangeShapes Go.WideShapes Go.ChangeAt Go.RowKit
open Go.ChangeMaps (open_string)
open Go.Proofs.Qxb6609399a.Kit (law_post)

theorem own : ownKnob Try.prog.godebug = none := by kernel_rfl
theorem laidOut : laidOutB Try.prog = true := by kernel_rfl

set_option maxRecDepth 100000 in
theorem lifted (os : Os) (started : os.Started) (H : Type) (enc : TypeId × Value → H) :
    ReturnsInHanded {} Try.checked os 3 .any (Rows.fnAliasedInFirstAliasWinsAcrossJoinedListsSpec.pre6 enc Try.prog Try.f3 Rows.fnAliasedInFirstAliasWinsAcrossJoinedListsRow.domain false) (Rows.fnAliasedInFirstAliasWinsAcrossJoinedListsSpec.post enc Try.prog Try.f3 false true false false) := by
  refine returnsInHanded_of_change (C := Try.checked) own started (by kernel_rfl) Try.func3
    (ChangeSpec.witness6 (enc := enc) (C := Try.checked) false ⟨#[], #[.slice none 0 0, .slice none 0 0, .string ByteArray.empty, .string ByteArray.empty], []⟩ 8 (by kernel_rfl) (by kernel_rfl) (by kernel_rfl) (by kernel_rfl)) ?_
  intro W base args ds gs before hval0 hW hcnd _
  have hval : ∀ (j : Nat) t v, Try.f3.params[j]? = some t → args[j]? = some v → Value.okWide Try.prog W .any base t v := hval0
  have hW' := hW
  obtain ⟨p, q, hA0, hV, rfl, hfz, hnd⟩ := hW
  have hA : DataW.TrodAll enc Try.prog W 0 (fun _ => true) true Try.f3.params.toList args.toList ds p := hA0
  rw [Try.params3] at hA hval
  obtain ⟨v0, vs0, d0, ds0, p0, q0, hargs, rfl, rfl, h0, r0⟩ := trodAll_cons hA
  obtain ⟨v1, vs1, d1, ds1, p1, q1, rfl, rfl, rfl, h1, r1⟩ := trodAll_cons r0
  obtain ⟨v2, vs2, d2, ds2, p2, q2, rfl, rfl, rfl, h2, r2⟩ := trodAll_cons r1
  obtain ⟨v3, vs3, d3, ds3, p3, q3, rfl, rfl, rfl, h3, r3⟩ := trodAll_cons r2
  obtain ⟨rfl, rfl, rfl⟩ := trodAll_nil r3
  obtain rfl : args = #[v0, v1, v2, v3] := by cases args; simp_all
  obtain ⟨rfl, rfl⟩ := trodVars_none hV
  obtain ⟨A, i0⟩ := isItems_of (hval 0 22 v0 rfl rfl) h0
  obtain ⟨B, i1⟩ := isItems_of (hval 1 22 v1 rfl rfl) h1
  obtain ⟨a2, rfl, rfl, rfl, w2⟩ := open_string Try.underlying9 (hval 2 9 v2 rfl rfl) h2
  obtain ⟨a3, rfl, rfl, rfl, w3⟩ := open_string Try.underlying9 (hval 3 9 v3 rfl rfl) h3
  clear hA0 hval0
  refine (law_walk v0 v1 A B a2 a3 W i0 i1).mono fun e W' ⟨he, hg⟩ => ?_
  subst he
  exact ⟨_, rfl, law_post laidOut (by kernel_rfl) rfl (by kernel_rfl) Try.underlying4 hW' (fun _ => ⟨rfl, rfl, rfl⟩) hg⟩

theorem over : Rows.fnAliasedInFirstAliasWinsAcrossJoinedListsRow.holds Try.pinned (OpenSpec.ofChange Rows.fnAliasedInFirstAliasWinsAcrossJoinedListsSpec) :=
  OpenClaim.holds_of_wide 3 Try.f3 rfl rfl rfl rfl rfl rfl rfl ⟨rfl, rfl, rfl, rfl, rfl⟩ rfl rfl rfl rfl rfl (by kernel_rfl) Try.func3 (by kernel_rfl)
    (of_decide_eq_true (by kernel_rfl)) (by unfold Func.isWrapper; first | (rw [if_pos (by decide +kernel)]; kernel_rfl) | (rw [if_neg (by decide +kernel)]; exact ⟨rfl, rfl⟩))
    (fun os started H enc _ => lifted os started H enc)

end Go.Proofs.Qxb6609399a.fnAliasedInFirstAliasWinsAcrossJoinedLists

namespace Go.Proofs.Qxb6609399a
/-- THE STATEMENT. -/
theorem fnAliasedInFirstAliasWinsAcrossJoinedLists_proved : Rows.FnAliasedInFirstAliasWinsAcrossJoinedListsSaid :=
  fnAliasedInFirstAliasWinsAcrossJoinedLists.over
end Go.Proofs.Qxb6609399a
