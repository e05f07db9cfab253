/-
  A proof of Rows.FnRequestGrantedExactlyWhenNotWaitingSaid: the walk lifted to the row.
-/
import Derived.Test.Qxb6609223aRows
import Derived.Test.Qxb6609223aKit
import Derived.Test.Qxb6609223aLaw
import Derived.OpenShut
import Derived.SliceStrings
import Derived.ChangeSlices
namespace Go.Proofs.Qxb6609223a.fnRequestGrantedExactlyWhenNotWaiting
open Go.ChangeShapes Go.WideShapes Go.ChangeAt Go.RowKit
open Go.Proofs.Qxb6609223a.Kit

theorem own : ownKnob Try.prog.godebug = none := by kernel_rfl
theorem laidOut : laidOutB Try.prog = true := by kernel_rfl
theorem cells9 : Try.prog.cellsOf 9 = 1 := by kernel_rfl
theorem cells5 : Try.prog.cellsOf 5 = 1 := by kernel_rfl

set_option maxRecDepth 100000 in
theorem strs_of {H : Type} {enc : TypeId × Value → H} {W : World} {v : Value} {d : DataW H} {ps : List MemPlace} {base : Nat} (hok : Value.okWide Try.prog W .any base 22 v) (h : DataW.Trod enc Try.prog W 0 (fun _ => true) true 22 v d ps) : ∃ n S, Strs W v n S ∧ n ≤ maxLen := by
  obtain ⟨o, n, cap, rfl⟩ := okWide_slice Try.underlying22 hok
  have hw := spot_of Try.underlying22 hok
  obtain ⟨fuel, hf⟩ := h
  rcases open_strings Try.underlying22 Try.underlying9 cells9 hf with ⟨hcs, hx⟩ | ⟨a, len', cap', ss, hcs, _, hl, hm, hz, hx, hcell, hsz⟩
  · simp [Value.cells] at hcs
    obtain ⟨rfl, rfl, rfl⟩ := hcs
    exact ⟨0, fun _ => ByteArray.empty, ⟨none, 0, rfl, fun i hi => by omega⟩, Nat.zero_le _⟩
  · simp [Value.cells] at hcs
    obtain ⟨rfl, rfl, rfl⟩ := hcs
    obtain ⟨b, off, wn⟩ := a
    obtain rfl : wn = none := hw _ rfl
    simp only [if_true] at hz
    refine ⟨n, fun i => ss.getD i ByteArray.empty, ⟨_, cap, rfl, fun i hi => ?_⟩, by omega⟩
    have hc := hcell i (by omega)
    rw [addr_add] at hc
    refine ⟨b, off, rfl, cell_lt hc, hc, ?_⟩
    have : i < ss.length := by omega
    show (ss.getD i ByteArray.empty).size ≤ maxLen
    rw [List.getD_eq_getElem?_getD, List.getElem?_eq_getElem this]
    exact hsz _ (List.getElem_mem this)

set_option maxRecDepth 100000 in
theorem byts_of {H : Type} {enc : TypeId × Value → H} {W : World} {v : Value} {d : DataW H} {ps : List MemPlace} {base : Nat} (hok : Value.okWide Try.prog W .any base 23 v) (h : DataW.Trod enc Try.prog W 0 (fun _ => true) true 23 v d ps) : ∃ n M, Byts W v n M ∧ n ≤ maxLen := by
  obtain ⟨o, n, cap, rfl⟩ := okWide_slice Try.underlying23 hok
  have hw := spot_of Try.underlying23 hok
  obtain ⟨fuel, hf⟩ := h
  rcases open_ints Try.underlying23 Try.underlying5 cells5 hf with ⟨hcs, hx⟩ | ⟨a, len', cap', zs, hcs, _, hl, hm, hz, hx, hcell, hwf⟩
  · simp [Value.cells] at hcs
    obtain ⟨rfl, rfl, rfl⟩ := hcs
    exact ⟨0, fun _ => 0, ⟨none, 0, rfl, fun i hi => by omega⟩, Nat.zero_le _⟩
  · simp [Value.cells] at hcs
    obtain ⟨rfl, rfl, rfl⟩ := hcs
    obtain ⟨b, off, wn⟩ := a
    obtain rfl : wn = none := hw _ rfl
    simp only [if_true] at hz
    refine ⟨n, fun i => (zs.getD i 0).toNat, ⟨_, cap, rfl, fun i hi => ?_⟩, by omega⟩
    have hc := hcell i (by omega)
    rw [addr_add] at hc
    refine ⟨b, off, rfl, cell_lt hc, ?_⟩
    have hi' : i < zs.length := by omega
    have hge : 0 ≤ zs.getD i 0 := by
      rw [List.getD_eq_getElem?_getD, List.getElem?_eq_getElem hi']
      have := hwf _ (List.getElem_mem hi')
      simp [Lit.wf] at this
      exact this.1
    rw [hc]
    show some (Value.int .u8 (zs.getD i 0)) = some (Value.int .u8 (((zs.getD i 0).toNat : Nat) : Int))
    rw [Int.toNat_of_nonneg hge]

set_option maxRecDepth 100000 in
theorem lifted (os : Os) (started : os.Started) (H : Type) (enc : TypeId × Value → H) :
    ReturnsInHanded {} Try.checked os 3 .any (Rows.fnRequestGrantedExactlyWhenNotWaitingSpec.pre6 enc Try.prog Try.f3 Rows.fnRequestGrantedExactlyWhenNotWaitingRow.domain false) (Rows.fnRequestGrantedExactlyWhenNotWaitingSpec.post enc Try.prog Try.f3 false true false false) := by
  refine returnsInHanded_of_change (C := Try.checked) own started (by kernel_rfl) Try.func3
    (ChangeSpec.witness6 (enc := enc) (C := Try.checked) false ⟨#[], #[.slice none 0 0, .slice none 0 0, .slice none 0 0], []⟩ 8 (by kernel_rfl) (by kernel_rfl) (by kernel_rfl) (by kernel_rfl)) ?_
  intro W base args ds gs before hval0 hW hcnd _
  have hval : ∀ (j : Nat) t v, Try.f3.params[j]? = some t → args[j]? = some v → Value.okWide Try.prog W .any base t v := hval0
  have hW' := hW
  obtain ⟨p, q, hA0, hV, rfl, hfz, hnd⟩ := hW
  have hA : DataW.TrodAll enc Try.prog W 0 (fun _ => true) true Try.f3.params.toList args.toList ds p := hA0
  rw [Try.params3] at hA hval
  obtain ⟨v0, vs0, d0, ds0, p0, q0, hargs, rfl, rfl, h0, r0⟩ := trodAll_cons hA
  obtain ⟨v1, vs1, d1, ds1, p1, q1, rfl, rfl, rfl, h1, r1⟩ := trodAll_cons r0
  obtain ⟨v2, vs2, d2, ds2, p2, q2, rfl, rfl, rfl, h2, r2⟩ := trodAll_cons r1
  obtain ⟨rfl, rfl, rfl⟩ := trodAll_nil r2
  obtain rfl : args = #[v0, v1, v2] := by cases args; simp_all
  obtain ⟨rfl, rfl⟩ := trodVars_none hV
  obtain ⟨n0, S0, s0, m0⟩ := strs_of (hval 0 22 v0 rfl rfl) h0
  obtain ⟨n1, S1, s1, m1⟩ := strs_of (hval 1 22 v1 rfl rfl) h1
  obtain ⟨n2, M, s2, m2⟩ := byts_of (hval 2 23 v2 rfl rfl) h2
  clear hA0 hval0
  refine (law_walk v0 v1 v2 n0 n1 n2 S0 S1 M W s0 s1 s2 m0 m1 m2).mono fun e W' ⟨he, hg⟩ => ?_
  subst he
  exact ⟨_, rfl, law_post laidOut (by kernel_rfl) rfl (by kernel_rfl) Try.underlying4 hW' (fun _ => ⟨rfl, rfl, rfl⟩) hg⟩

theorem over : Rows.fnRequestGrantedExactlyWhenNotWaitingRow.holds Try.pinned (OpenSpec.ofChange Rows.fnRequestGrantedExactlyWhenNotWaitingSpec) :=
  OpenClaim.holds_of_wide 3 Try.f3 rfl rfl rfl rfl rfl rfl rfl ⟨rfl, rfl, rfl, rfl, rfl⟩ rfl rfl rfl rfl rfl (by kernel_rfl) Try.func3 (by kernel_rfl)
    (of_decide_eq_true (by kernel_rfl)) (by unfold Func.isWrapper; first | (rw [if_pos (by decide +kernel)]; kernel_rfl) | (rw [if_neg (by decide +kernel)]; exact ⟨rfl, rfl⟩))
    (fun os started H enc _ => lifted os started H enc)

end Go.Proofs.Qxb6609223a.fnRequestGrantedExactlyWhenNotWaiting

namespace Go.Proofs.Qxb6609223a
/-- THE STATEMENT. -/
theorem fnRequestGrantedExactlyWhenNotWaiting_proved : Rows.FnRequestGrantedExactlyWhenNotWaitingSaid :=
  fnRequestGrantedExactlyWhenNotWaiting.over
end Go.Proofs.Qxb6609223a
