/-
  Program-independent helpers for a law that only reads: what a call leaves (law_post).
-/
import Derived.WalkKit
import Derived.ProofKit
import Derived.Carry
namespace Go.Proofs.Qxb6609223a.Kit
open Go.ChangeShapes Go.WideShapes Go.ChangeAt Go.WideMaps Go.WideElems Go.RowKit

theorem hide {p : Prop} (h : p) : Hid p := h
theorem ret_bool {a b : Bool} (h : a = b) : Ending.returned (.bool a) = .returned (.bool b) := by rw [h]

section
variable {H : Type} {enc : TypeId × Value → H} {P : Program}

theorem trodAll_stays (hl : laidOutB P = true) {W W' : World} {sp : Nat → Bool} : ∀ {ts : List TypeId} {vs : List Value} {ds : List (DataW H)} {ps : List MemPlace},
    (∀ t ∈ ts, P.readableRec t = true ∧ t < P.types.size) → DataW.TrodAll enc P W 0 (fun _ => true) true ts vs ds ps → (∀ p ∈ ps, W.sameAt W' p) → (∀ p ∈ ps, sp p.block = true) →
    DataW.TrodAll enc P W' 0 sp true ts vs ds ps
  | [], [], [], _, _, h, _, _ => h
  | _ :: _, _ :: _, _ :: _, _, hT, ⟨p, q, h1, h2, e⟩, hs, hb =>
    ⟨p, q, Trod_stays hl (hT _ (List.mem_cons.2 (Or.inl rfl))).1 (hT _ (List.mem_cons.2 (Or.inl rfl))).2 h1 (fun x hx => hs x (by rw [e]; exact List.mem_append_left _ hx)) (fun x hx => hb x (by rw [e]; exact List.mem_append_left _ hx)),
      trodAll_stays hl (fun t ht => hT t (List.mem_cons.2 (Or.inr ht))) h2 (fun x hx => hs x (by rw [e]; exact List.mem_append_right _ hx)) (fun x hx => hb x (by rw [e]; exact List.mem_append_right _ hx)), e⟩

/-- What a law that only reads leaves: below the old heap nothing has turned, the answer is true: so the row's word. -/
theorem law_post {f : Func} {s : ChangeSpec} {W W' : World} {args : Array Value} {ds gs : List (DataW H)} {before : List MemPlace} {tb : TypeId}
    (hl : laidOutB P = true) (hr : (f.params.toList.all fun t => P.readableRec t && decide (t < P.types.size)) = true) (hv : s.vars = []) (hres : f.resultTypes = #[tb]) (htb : P.underlying tb = some .bool)
    (hW : DataW.Whole enc P f.params.toList s.vars false W args.toList ds gs before)
    (hfn : gs = [] → (s.fn H (ds ++ gs)).results = [.lit (.bool true)] ∧ (s.fn H (ds ++ gs)).args = ds ∧ (s.fn H (ds ++ gs)).vars = [])
    (hb : Below W.heap.size W W') : s.post enc P f false true false false W args (.bool true) W' := by
  have hlt := hW.lt
  have hW' := hW
  obtain ⟨p, q, hA, hV, rfl, hfz, hnd⟩ := hW
  rw [hv] at hV
  obtain ⟨rfl, rfl⟩ := trodVars_none hV
  obtain ⟨e1, e2, e3⟩ := hfn rfl
  refine ⟨ds, [], p ++ [], [], p, [], hW', ?_, ?_, ?_, hb.frame _, fun h => by cases h⟩
  · rw [e1, hres]
    exact ⟨[], [], shut_bool htb _, rfl, rfl⟩
  · rw [e2]
    refine trodAll_stays hl (fun t ht => ?_) hA (fun x hx => hb.same (hlt x (by simpa using hx))) (fun x hx => by simpa using hlt x (by simpa using hx))
    have := List.all_eq_true.1 hr t ht
    simp only [Bool.and_eq_true, decide_eq_true_eq] at this
    exact this
  · rw [e3, hv]; rfl
end

theorem addr_add (b off i : Nat) : (⟨b, off, none⟩ : Addr).add i = ⟨b, off + i, none⟩ := by
  unfold Addr.add
  split
  · rename_i h; subst h; rfl
  · rfl

theorem spot_of {P : Program} {t e : TypeId} {W : World} {r : Reach} {base : Nat} {o : Option Addr} {n cap : Nat} (ht : P.underlying t = some (.slice e)) (hok : Value.okWide P W r base t (.slice o n cap)) : ∀ a, o = some a → a.spot = none := by
  rintro a rfl
  simp only [Value.okWide, ht, Cell.okWide, Cell.ok, World.has] at hok
  exact hok.2.2.2.1

end Go.Proofs.Qxb6609223a.Kit
