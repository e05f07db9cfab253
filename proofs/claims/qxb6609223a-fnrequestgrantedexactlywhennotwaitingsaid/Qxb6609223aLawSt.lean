/-
  What the law's loop keeps.
-/
import Derived.Test.Qxb6609223aZz
namespace Go.Proofs.Qxb6609223a
open Go.RowKit
open Go.Proofs.Qxb6609223a.Kit

/-- A slice of names of the law's own. -/
structure Ow (w wr : World) (tag : Nat → Own) (k : Nat) (v : Value) (l : List ByteArray) : Prop where
  own : wr.ownsRow w.heap.size 9 1 v l.length (l.map .string)
  tg : ∀ b, v.ownBlock = some b → tag b = .law k
  size : ∀ s ∈ l, s.size ≤ maxLen

theorem Ow.kept {w wr w1 : World} {tag tag1 : Nat → Own} {k : Nat} {v : Value} {l : List ByteArray} (h : Ow w wr tag k v l) (hb : ∀ b, b < wr.heap.size → tag b = .law k → w1.heap[b]? = wr.heap[b]? ∧ tag1 b = tag b) : Ow w w1 tag1 k v l := by
  refine ⟨?_, fun b hv => (hb b (h.own.lt b hv).2 (h.tg b hv)).2.trans (h.tg b hv), h.size⟩
  rcases h.own with ⟨h1, h2 | ⟨g, cap, cur, rfl, hb0, hg, rest⟩⟩
  · exact ⟨h1, Or.inl h2⟩
  · exact ⟨h1, Or.inr ⟨g, cap, cur, rfl, hb0, by rw [(hb g (Array.getElem?_eq_some_iff.1 hg).1 (h.tg g rfl)).1]; exact hg, rest⟩⟩

theorem Ow.strs {w wr : World} {tag : Nat → Own} {k : Nat} {v : Value} {l : List ByteArray} (h : Ow w wr tag k v l) : Strs wr v l.length (fun i => l.getD i ByteArray.empty) := by
  obtain ⟨p, cap, rfl, hc⟩ := own9_read h.own
  refine ⟨p, cap, rfl, fun i hi => ?_⟩
  have e : l[i]? = some l[i] := List.getElem?_eq_getElem hi
  obtain ⟨gb, h1, h2, h3⟩ := hc i _ e
  have e2 : l.getD i ByteArray.empty = l[i] := by
    rw [List.getD_eq_getElem?_getD, e]
    rfl
  refine ⟨gb, 0, h1, h2, ?_, ?_⟩
  · show _ = some (Value.string (l.getD i ByteArray.empty))
    rw [Nat.zero_add, h3, e2]
  · show (l.getD i ByteArray.empty).size ≤ maxLen
    rw [e2]
    exact h.size _ (List.getElem_mem hi)

structure LS (w wr : World) (T : Nat) (tag : Nat → Own) (g : Gh) (N : Nat) (v0 v1 v2 v3 : Value) (l0 l1 l2 l3 : List ByteArray) : Prop where
  mod : Mod (fun _ => False) w wr
  ti : TI wr T tag g N
  inv : Inv g
  free : ∀ b, b < w.heap.size → tag b = .free
  o0 : Ow w wr tag 0 v0 l0
  o1 : Ow w wr tag 1 v1 l1
  o2 : Ow w wr tag 2 v2 l2
  o3 : Ow w wr tag 3 v3 l3

section
variable {w wr w1 : World} {T : Nat} {tag : Nat → Own} {g : Gh} {N : Nat} {v0 v1 v2 v3 : Value} {l0 l1 l2 l3 : List ByteArray}

theorem LS.step {g' : Gh} {N' : Nat} (h : LS w wr T tag g N v0 v1 v2 v3 l0 l1 l2 l3) (hs : St wr w1 T tag g' N') (hi : Inv g') : ∃ tag', LS w w1 T tag' g' N' v0 v1 v2 v3 l0 l1 l2 l3 := by
  obtain ⟨⟨tag', h1, e1⟩, m1⟩ := hs
  have kp : ∀ k b, b < wr.heap.size → tag b = .law k → w1.heap[b]? = wr.heap[b]? ∧ tag' b = tag b := fun k b hb ht => ⟨m1.block b hb (by rw [ht]; exact fun h => h), e1 b hb⟩
  refine ⟨tag', ⟨h.mod.trans m1 (fun i hi' ho => by rw [h.free i hi'] at ho; exact ho), h1, hi, fun b hb => (e1 b (Nat.lt_of_lt_of_le hb h.mod.size)).trans (h.free b hb), h.o0.kept (kp 0), h.o1.kept (kp 1), h.o2.kept (kp 2), h.o3.kept (kp 3)⟩⟩

theorem LS.quiet (h : LS w wr T tag g N v0 v1 v2 v3 l0 l1 l2 l3) (hm : Mod (fun _ => False) wr w1) : LS w w1 T tag g N v0 v1 v2 v3 l0 l1 l2 l3 := by
  have kp : ∀ k b, b < wr.heap.size → tag b = .law k → w1.heap[b]? = wr.heap[b]? ∧ tag b = tag b := fun k b hb _ => ⟨hm.block b hb (fun h => h), rfl⟩
  exact ⟨h.mod.trans hm (fun _ _ h => h), h.ti.kept hm, h.inv, h.free, h.o0.kept (kp 0), h.o1.kept (kp 1), h.o2.kept (kp 2), h.o3.kept (kp 3)⟩

/-- What an append to slice k leaves of the rest. -/
theorem app_facts {o : Obj} {k : Nat} {v v' : Value} {l : List ByteArray} {s : ByteArray} (h : LS w wr T tag g N v0 v1 v2 v3 l0 l1 l2 l3) (hk : Ow w wr tag k v l) (hs : s.size ≤ maxLen) (hg : (wr.alloc o).grownBy w1 v.ownBlock) (ho : w1.ownsRow w.heap.size 9 1 v' (l.length + 1) (l.map .string ++ [.string s]))
    (hat : v'.ownBlock = v.ownBlock ∨ v'.ownBlock = some (wr.heap.size + 1)) :
    Mod (fun _ => False) w w1 ∧ TI w1 T (ext wr tag (.law k)) g N ∧ (∀ b, b < w.heap.size → ext wr tag (.law k) b = .free) ∧ Ow w w1 (ext wr tag (.law k)) k v' (l ++ [s]) ∧ ∀ j, j ≠ k → ∀ u m, Ow w wr tag j u m → Ow w w1 (ext wr tag (.law k)) j u m := by
  have sz : wr.heap.size + 1 ≤ w1.heap.size := by have := hg.size; simpa using this
  have far : ∀ b, b < wr.heap.size → tag b ≠ .law k → w1.heap[b]? = wr.heap[b]? ∧ ext wr tag (.law k) b = tag b := fun b hb hne => ⟨by
    rw [hg.block b (by simp; omega) (fun e => hne (hk.tg b e.symm))]
    exact Below.heap_alloc _ _ _ hb, ext_old hb⟩
  refine ⟨⟨hg.os.trans h.mod.os, hg.tape.trans h.mod.tape, hg.output.trans h.mod.output, by have := h.mod.size; omega, fun b hb hn => ?_⟩, h.ti.congr (fun b hb ht => far b hb (fun e => by rw [e] at ht; exact ht)) (Nat.le_refl _), fun b hb => (ext_old (Nat.lt_of_lt_of_le hb h.mod.size)).trans (h.free b hb), ⟨?_, ?_, ?_⟩, fun j hj u m hu => hu.kept (fun b hb ht => far b hb (by rw [ht]; simp [hj]))⟩
  · rw [(far b (Nat.lt_of_lt_of_le hb h.mod.size) (by rw [h.free b hb]; simp)).1]
    exact h.mod.block b hb hn
  · simpa using ho
  · intro b hb
    rcases hat with e | e
    · rw [e] at hb
      exact (ext_old (hk.own.lt b hb).2).trans (hk.tg b hb)
    · rw [e] at hb
      simp at hb
      exact ext_new (by omega)
  · intro x hx
    rcases List.mem_append.1 hx with hx | hx
    · exact hk.size x hx
    · simp only [List.mem_singleton] at hx
      subst hx
      exact hs
end

/-- What the lists say of the table. -/
structure LQ (g : Gh) (l0 l1 l2 l3 : List ByteArray) (i : Nat) : Prop where
  que : ∀ t, t ∈ l0 ↔ g.que t ≠ none
  res : ∀ n, n ∈ l1 ↔ g.res n ≠ none
  len : l2.length = l3.length
  grants : ∀ (k : Nat) (n t : ByteArray), l2[k]? = some n → l3[k]? = some t → HoldsG g n t
  b0 : l0.length ≤ i
  b1 : l1.length ≤ i
  b2 : l2.length ≤ i

theorem mem_getD {l : List ByteArray} {s : ByteArray} : (∃ i, i < l.length ∧ l.getD i ByteArray.empty = s) ↔ s ∈ l := by
  constructor
  · rintro ⟨i, hi, rfl⟩
    rw [List.getD_eq_getElem?_getD, List.getElem?_eq_getElem hi]
    exact List.getElem_mem hi
  · intro h
    obtain ⟨i, hi, e⟩ := List.mem_iff_getElem.1 h
    exact ⟨i, hi, by rw [List.getD_eq_getElem?_getD, List.getElem?_eq_getElem hi]; exact e⟩

/-- The request was queued. -/
theorem LQ.no {g g' : Gh} {l0 l1 l2 l3 : List ByteArray} {i m : Nat} {n t : ByteArray} (h : LQ g l0 l1 l2 l3 i) (r : Req g g' n t m false) (hs : n ∈ l1) : LQ g' (l0 ++ [t]) l1 l2 l3 (i + 1) := by
  refine ⟨fun t' => ?_, fun n' => ?_, h.len, fun k n' t' h1 h2 => r.keep n' t' (h.grants k n' t' h1 h2), by have := h.b0; simp; omega, by have := h.b1; omega, by have := h.b2; omega⟩
  · rw [List.mem_append, List.mem_singleton]
    by_cases e : t' = t
    · subst e
      simp [(r.no rfl).1]
    · rw [(r.no rfl).2 t' e, ← h.que t']
      simp [e]
  · by_cases e : n' = n
    · subst e
      exact ⟨fun _ => r.here, fun _ => hs⟩
    · rw [r.there n' e]
      exact h.res n'

/-- The request was granted; the resource was known, or is noted now. -/
theorem LQ.yes {g g' : Gh} {l0 l1 l2 l3 : List ByteArray} {i m : Nat} {n t : ByteArray} (h : LQ g l0 l1 l2 l3 i) (r : Req g g' n t m true) {l1' : List ByteArray} (hl : (l1' = l1 ∧ n ∈ l1) ∨ l1' = l1 ++ [n]) : LQ g' l0 l1' (l2 ++ [n]) (l3 ++ [t]) (i + 1) := by
  have hq := (r.yes rfl).1
  obtain ⟨r', hr', k, hk, e, he, et, _⟩ := (r.yes rfl).2
  refine ⟨fun t' => by rw [hq]; exact h.que t', fun n' => ?_, by have := h.len; simp [this], fun j n' t' h1 h2 => ?_, by have := h.b0; omega, ?_, by have := h.b2; simp; omega⟩
  · by_cases en : n' = n
    · subst en
      refine ⟨fun _ => r.here, fun _ => ?_⟩
      rcases hl with ⟨rfl, hm⟩ | rfl
      · exact hm
      · simp
    · rw [r.there n' en, ← h.res n']
      rcases hl with ⟨rfl, hm⟩ | rfl
      · exact Iff.rfl
      · simp [en]
  · have hlen := h.len
    by_cases hj : j < l2.length
    · rw [List.getElem?_append_left hj] at h1
      rw [List.getElem?_append_left (by omega)] at h2
      exact r.keep n' t' (h.grants j n' t' h1 h2)
    · rw [List.getElem?_append_right (by omega)] at h1
      rw [List.getElem?_append_right (by omega)] at h2
      have e1 : n = n' := by
        rcases Nat.eq_zero_or_pos (j - l2.length) with z | z
        · rw [z] at h1; simpa using h1
        · rw [List.getElem?_eq_none (by simp; omega)] at h1; cases h1
      have e2 : t = t' := by
        rcases Nat.eq_zero_or_pos (j - l3.length) with z | z
        · rw [z] at h2; simpa using h2
        · rw [List.getElem?_eq_none (by simp; omega)] at h2; cases h2
      subst e1 e2
      exact ⟨r', hr', k, hk, e, he, et⟩
  · have := h.b1
    rcases hl with ⟨rfl, _⟩ | rfl
    · omega
    · simp; omega

end Go.Proofs.Qxb6609223a
