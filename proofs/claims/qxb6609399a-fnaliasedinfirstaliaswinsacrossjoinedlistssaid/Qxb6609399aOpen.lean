/-
  A slice of items that came in, opened.
-/
import Derived.Test.Qxb6609399aLaw
import Derived.Deep.Strs
namespace Go.Proofs.Qxb6609399a
open Go.ChangeShapes Go.WideShapes Go.RowKit
open Go.Proofs.Qxb6609399a.Kit

theorem isItems_of {H : Type} {enc : TypeId × Value → H} {W : World} {v : Value} {d : DataW H} {ps : List MemPlace} {base : Nat} (hok : Value.okWide Try.prog W .any base 22 v)
    (h : DataW.Trod enc Try.prog W 0 (fun _ => true) true 22 v d ps) : ∃ L, IsItems W v L := by
  obtain ⟨o, n, cap, rfl⟩ := okWide_slice Try.underlying22 hok
  have hw := spot_of Try.underlying22 hok
  obtain ⟨fuel, hf⟩ := h
  rcases DataW.trod_slice Try.underlying22 hf with ⟨hcs, hx⟩ | ⟨a, len, cap', elems, rest, m, _, hcs, hx, _, hl, hm, hlen, hel, _, _⟩
  · simp [Value.cells] at hcs
    obtain ⟨rfl, rfl, rfl⟩ := hcs
    exact ⟨[], none, 0, rfl, Nat.le_refl _, Nat.zero_le _, Or.inl rfl⟩
  · simp [Value.cells] at hcs
    obtain ⟨rfl, rfl, rfl⟩ := hcs
    obtain ⟨b, off, wn⟩ := a
    obtain rfl : wn = none := hw _ rfl
    rw [Try.cells26] at hel
    have each : ∀ i, i < n → ∃ x : Item, W.cell? ⟨b, off + i * 3, none⟩ = some (.string x.alias) ∧ W.cell? ⟨b, off + i * 3 + 1, none⟩ = some (.string x.what) ∧ W.cell? ⟨b, off + i * 3 + 2, none⟩ = some (.bool x.flag) := by
      intro i hi
      have hy := hel i hi
      rw [List.getElem?_eq_getElem (by omega), Option.bind_eq_some_iff] at hy
      obtain ⟨cs, hc, ht⟩ := hy
      obtain ⟨_, hl3, hcell⟩ := World.cells?_some hc
      obtain ⟨y0, y1, y2, k, _, _, t0, t1, t2⟩ := Go.Deep.trod_struct3 Try.underlying26 ht
      match cs, hl3 with
      | [c0, c1, c2], _ =>
        simp only [Try.cells9, Try.cells4, List.drop_zero, List.drop_succ_cons, List.take_succ_cons, List.take_zero] at t0 t1 t2
        obtain ⟨s0, e0, _⟩ := DataW.trod_string Try.underlying9 t0
        obtain ⟨s1, e1, _⟩ := DataW.trod_string Try.underlying9 t1
        obtain ⟨b2, e2, _⟩ := DataW.trod_bool Try.underlying4 t2
        simp only [List.cons.injEq, and_true] at e0 e1 e2
        subst e0 e1 e2
        have f0 := hcell 0 (by omega)
        have f1 := hcell 1 (by omega)
        have f2 := hcell 2 (by omega)
        rw [addr_add, addr_add] at f0 f1 f2
        exact ⟨⟨s0, s1, b2⟩, by simpa using f0, by simpa using f1, by simpa using f2⟩
    refine ⟨(List.range n).map fun i => if h : i < n then Classical.choose (each i h) else ⟨ByteArray.empty, ByteArray.empty, false⟩, some ⟨b, off, none⟩, cap, by simp, by simpa using hl, hm, ?_⟩
    by_cases h0 : n = 0
    · left; subst h0; rfl
    · right
      refine ⟨b, off, rfl, ?_, fun i hi => ?_⟩
      · exact World.block_lt_of_cell? W ⟨b, off + 0 * 3, none⟩ (Classical.choose_spec (each 0 (by omega))).1
      · simp only [List.length_map, List.length_range] at hi
        have e : at_ ((List.range n).map fun i => if h : i < n then Classical.choose (each i h) else ⟨ByteArray.empty, ByteArray.empty, false⟩) i = Classical.choose (each i hi) := by
          unfold at_
          rw [List.getD_eq_getElem?_getD, List.getElem?_map, List.getElem?_range hi]
          simp [hi]
        rw [e]
        exact Classical.choose_spec (each i hi)

end Go.Proofs.Qxb6609399a
