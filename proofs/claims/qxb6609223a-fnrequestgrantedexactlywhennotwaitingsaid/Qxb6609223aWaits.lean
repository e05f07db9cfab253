/-
  The walk of waitedBy, for a transaction that is not queued.
-/
import Derived.Test.Qxb6609223aAgain
namespace Go.Proofs.Qxb6609223a
open Go.RowKit
open Go.Proofs.Qxb6609223a.Kit

/-- The mode in which t stands in the lists. -/
def modeOf (H : Nat → List Ent) (t : ByteArray) : Nat := if (H 0).any (fun e => decide (e.txn = t)) then 0 else if (H 1).any (fun e => decide (e.txn = t)) then 1 else 2

theorem LU.uniq {w : World} {F : Nat → Prop} {R o J : Nat} {U : Nat → List Ent} (h : LU w F R o U J) {k k' : Nat} (hk : k < 3) (hk' : k' < 3) {e e' : Ent} (he : e ∈ U k) (he' : e' ∈ U k') (ht : e.txn = e'.txn) : k = k' := by
  rcases h.map with ⟨_, h2⟩ | ⟨mb, f, _, _, _, h4⟩
  · rw [h2 k hk] at he
    simp at he
  · have a := (h4 e.txn _).2 ⟨k, hk, e, he, rfl, rfl⟩
    have b := (h4 e'.txn _).2 ⟨k', hk', e', he', rfl, rfl⟩
    rw [ht, b] at a
    have : e'.blk = e.blk := by simpa [np] using a
    exact Classical.byContradiction fun c => h.apart k k' hk hk' c e he e' he' this.symm

theorem modeOf_eq {w : World} {F : Nat → Prop} {R o J : Nat} {U : Nat → List Ent} (h : LU w F R o U J) {k : Nat} (hk : k < 3) {e : Ent} (he : e ∈ U k) : modeOf U e.txn = k := by
  have q : ∀ j, j < 3 → (U j).any (fun x => decide (x.txn = e.txn)) = true → j = k := fun j hj hq => by
    obtain ⟨x, hx, hxe⟩ := List.any_eq_true.1 hq
    exact h.uniq hj hk hx he (by simpa using hxe)
  have y : (U k).any (fun x => decide (x.txn = e.txn)) = true := List.any_eq_true.2 ⟨e, he, by simp⟩
  unfold modeOf
  obtain rfl | rfl | rfl : k = 0 ∨ k = 1 ∨ k = 2 := by omega
  · rw [if_pos y]
  · have n0 : ¬ (U 0).any (fun x => decide (x.txn = e.txn)) = true := fun c => by have := q 0 (by omega) c; omega
    rw [if_neg n0, if_pos y]
  · have n0 : ¬ (U 0).any (fun x => decide (x.txn = e.txn)) = true := fun c => by have := q 0 (by omega) c; omega
    have n1 : ¬ (U 1).any (fun x => decide (x.txn = e.txn)) = true := fun c => by have := q 1 (by omega) c; omega
    rw [if_neg n0, if_neg n1]

/-- Who waits for t at n. -/
def wbN (g : Gh) (t n : ByteArray) : List ByteArray :=
  match g.res n with
  | none => []
  | some r => (srtE (fndTo (modeOf r.H t) r.Q 3)).map (·.1)

/-- Who waits for t. -/
def wbOf (g : Gh) (t : ByteArray) : List ByteArray := (g.heldOf t).2.flatMap (wbN g t)

/-- The slice of names so far. -/
structure WS (w wr : World) (v : Value) (ys : List ByteArray) : Prop where
  mod : Mod (fun _ => False) w wr
  own : wr.ownsRow w.heap.size 9 1 v ys.length (ys.map .string)

/-- .. and beside it the entries that are read. -/
structure IS (w wr : World) (v : Value) (ys : List ByteArray) (u : Value) (X : List En) : Prop where
  ws : WS w wr v ys
  rd : Rd wr u X
  ne : ∀ b, u.ownBlock = some b → v.ownBlock ≠ some b

theorem IS.step {w wr w1 : World} {v v' u : Value} {ys : List ByteArray} {X : List En} {o1 o2 : Obj} {y : ByteArray} (h : IS w wr v ys u X) (hg : ((wr.alloc o1).alloc o2).grownBy w1 v.ownBlock) (ho : w1.ownsRow w.heap.size 9 1 v' (ys.length + 1) (ys.map .string ++ [.string y]))
    (hv : v'.ownBlock = v.ownBlock ∨ v'.ownBlock = some ((wr.alloc o1).alloc o2).heap.size) : IS w w1 v' (ys ++ [y]) u X := by
  have sz : wr.heap.size + 2 ≤ w1.heap.size := by have := hg.size; simpa using this
  have far : ∀ k, k < wr.heap.size → v.ownBlock ≠ some k → w1.heap[k]? = wr.heap[k]? := fun k hk hne => by
    rw [hg.block k (by simp; omega) (fun e => hne e.symm), Below.heap_alloc _ _ _ (by simp; omega)]
    exact Below.heap_alloc _ _ _ hk
  refine ⟨⟨⟨hg.os.trans h.ws.mod.os, hg.tape.trans h.ws.mod.tape, hg.output.trans h.ws.mod.output, by have := h.ws.mod.size; omega, fun k hk hn => ?_⟩, by simpa using ho⟩, ?_, ?_⟩
  · rw [far k (Nat.lt_of_lt_of_le hk h.ws.mod.size) (fun e => by have := (h.ws.own.lt k e).1; omega)]
    exact h.ws.mod.block k hk hn
  · rcases h.rd with a | ⟨gb, cap, rfl, b2, b3⟩
    · exact Or.inl a
    · refine Or.inr ⟨gb, cap, rfl, by omega, fun j x hj => ?_⟩
      have e := far gb b2 (h.ne gb rfl)
      obtain ⟨p, q, s⟩ := b3 j x hj
      exact ⟨by rw [World.cell?_of_block (a := ⟨gb, j * 3, none⟩) e]; exact p, by rw [World.cell?_of_block (a := ⟨gb, j * 3 + 1, none⟩) e]; exact q, by rw [World.cell?_of_block (a := ⟨gb, j * 3 + 2, none⟩) e]; exact s⟩
  · intro b hb
    rcases hv with hv | hv
    · rw [hv]; exact h.ne b hb
    · rw [hv]
      intro c
      simp at c
      have : b < wr.heap.size := by
        rcases h.rd with ⟨rfl, _⟩ | ⟨gb, cap, rfl, b2, _⟩
        · simp [Value.ownBlock] at hb
        · simp [Value.ownBlock] at hb
          omega
      omega

theorem srtE_fnd_len {m : Nat} {U : Nat → List Ent} (hU : ∀ k, k < 3 → (U k).length ≤ 100000) : (srtE (fndTo m U 3)).length ≤ 300000 := by
  rw [srtE_len]
  have := fndTo_len m U 100000 hU 3 (by omega)
  omega

end Go.Proofs.Qxb6609223a
