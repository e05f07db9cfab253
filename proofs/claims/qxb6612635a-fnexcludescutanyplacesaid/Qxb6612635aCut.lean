/-
  A proof of Rows.FnExcludesCutAnyPlaceSaid: the walk (Qxb6612635aExcl) lifted to the row.
-/
import Derived.Test.Qxb6612635aRows
import Derived.Test.Qxb6612635aKit
import Derived.Test.Qxb6612635aExcl
import Derived.OpenShut
namespace Go.Proofs.Qxb6612635a.fnExcludesCutAnyPlace
open Go.ChangeShapes Go.WideShapes Go.ChangeAt Go.RowKit
open Go.Proofs.Qxb6612635a.Kit

theorem own : ownKnob Try.prog.godebug = none := by kernel_rfl
theorem laidOut : laidOutB Try.prog = true := by kernel_rfl
theorem cells9 : Try.prog.cellsOf 9 = 1 := by kernel_rfl

set_option maxRecDepth 100000 in
theorem lifted (os : Os) (started : os.Started) (H : Type) (enc : TypeId × Value → H) :
    ReturnsInHanded {} Try.checked os 4 .any (Rows.fnExcludesCutAnyPlaceSpec.pre6 enc Try.prog Try.f4 Rows.fnExcludesCutAnyPlaceRow.domain false) (Rows.fnExcludesCutAnyPlaceSpec.post enc Try.prog Try.f4 false true false false) := by
  refine returnsInHanded_of_change (C := Try.checked) own started (by kernel_rfl) Try.func4
    (ChangeSpec.witness6 (enc := enc) (C := Try.checked) false ⟨#[], #[.map none, .map none, .slice none 0 0, .map none, .int .i64 0], []⟩ 8 (by kernel_rfl) (by kernel_rfl) (by kernel_rfl) (by kernel_rfl)) ?_
  intro W base args ds gs before hval0 hW hcnd _
  have hval : ∀ (j : Nat) t v, Try.f4.params[j]? = some t → args[j]? = some v → Value.okWide Try.prog W .any base t v := hval0
  have hW' := hW
  have hlt := hW.lt
  obtain ⟨p, q, hA0, hV, rfl, hfz, hnd⟩ := hW
  have hA : DataW.TrodAll enc Try.prog W 0 (fun _ => true) true Try.f4.params.toList args.toList ds p := hA0
  rw [Try.params4] at hA hval
  obtain ⟨v0, vs0, d0, ds0, p0, q0, hargs, rfl, rfl, h0, r0⟩ := trodAll_cons hA
  obtain ⟨v1, vs1, d1, ds1, p1, q1, rfl, rfl, rfl, h1, r1⟩ := trodAll_cons r0
  obtain ⟨v2, vs2, d2, ds2, p2, q2, rfl, rfl, rfl, h2, r2⟩ := trodAll_cons r1
  obtain ⟨v3, vs3, d3, ds3, p3, q3, rfl, rfl, rfl, h3, r3⟩ := trodAll_cons r2
  obtain ⟨v4, vs4, d4, ds4, p4, q4, rfl, rfl, rfl, h4, r4⟩ := trodAll_cons r3
  obtain ⟨rfl, rfl, rfl⟩ := trodAll_nil r4
  obtain rfl : args = #[v0, v1, v2, v3, v4] := by cases args; simp_all
  obtain ⟨rfl, rfl⟩ := trodVars_none hV
  have zero : ∀ w : World, (zeroValue 9).run Try.prog w = .ok (.string ByteArray.empty) w := fun _ => by kernel_rfl
  have hts : ∀ t' ∈ [24, 30], Try.prog.underlying t' = some (.map 9 9) := by
    intro t' h
    simp only [List.mem_cons, List.not_mem_nil, or_false] at h
    rcases h with rfl | rfl
    · exact Try.underlying24
    · exact Try.underlying30
  have k0 := okWide_map Try.underlying24 (hval 0 24 v0 rfl rfl)
  have k1 := okWide_map Try.underlying24 (hval 1 24 v1 rfl rfl)
  have k3 := okWide_map Try.underlying24 (hval 3 24 v3 rfl rfl)
  obtain ⟨l0, has0, m0⟩ := isMap_of Try.underlying9 Try.underlying24 hts zero k0 h0 (fun x hx => hlt x (by simp [hx]))
  obtain ⟨l1, has1, m1⟩ := isMap_of Try.underlying9 Try.underlying24 hts zero k1 h1 (fun x hx => hlt x (by simp [hx]))
  obtain ⟨l3, has3, m3⟩ := isMap_of Try.underlying9 Try.underlying24 hts zero k3 h3 (fun x hx => hlt x (by simp [hx]))
  obtain ⟨n, S, s2⟩ := isStrs_of Try.underlying25 Try.underlying9 cells9 (hval 2 25 v2 rfl rfl) h2 (fun x hx => hlt x (by simp [hx]))
  obtain ⟨o0, rfl⟩ := k0
  obtain ⟨o1, rfl⟩ := k1
  obtain ⟨a4, rfl, rfl, rfl, w4⟩ := open_int Try.underlying3 (hval 4 3 v4 rfl rfl) h4
  clear hA0 hval0
  refine (Excl.walk o0 o1 v2 v3 n l0 l1 l3 S has0 has1 has3 a4 W m0 m1 s2 m3 w4).mono fun e W' ⟨he, hg⟩ => ?_
  subst he
  exact ⟨_, rfl, law_post laidOut (by kernel_rfl) rfl (by kernel_rfl) Try.underlying4 hW' (fun _ => ⟨rfl, rfl, rfl⟩) hg⟩

theorem over : Rows.fnExcludesCutAnyPlaceRow.holds Try.pinned (OpenSpec.ofChange Rows.fnExcludesCutAnyPlaceSpec) :=
  OpenClaim.holds_of_wide 4 Try.f4 rfl rfl rfl rfl rfl rfl rfl ⟨rfl, rfl, rfl, rfl, rfl⟩ rfl rfl rfl rfl rfl (by kernel_rfl) Try.func4 (by kernel_rfl)
    (of_decide_eq_true (by kernel_rfl)) (by unfold Func.isWrapper; first | (rw [if_pos (by decide +kernel)]; kernel_rfl) | (rw [if_neg (by decide +kernel)]; exact ⟨rfl, rfl⟩))
    (fun os started H enc _ => lifted os started H enc)

end Go.Proofs.Qxb6612635a.fnExcludesCutAnyPlace

namespace Go.Proofs.Qxb6612635a
/-- THE STATEMENT. -/
theorem fnExcludesCutAnyPlace_proved : Rows.FnExcludesCutAnyPlaceSaid :=
  fnExcludesCutAnyPlace.over
end Go.Proofs.Qxb6612635a
