/-
  A table in memory: a new resource, a queued transaction, a held name.
-/
import Derived.Test.Qxb6609223aTable
namespace Go.Proofs.Qxb6609223a
open Go.RowKit
open Go.Proofs.Qxb6609223a.Kit

/-- A resource's zero cells. -/
def z75 : Array Value :=
  #[.pointer none, .pointer none, .pointer none, .nilIface, .int .i64 0, .pointer none, .pointer none, .pointer none, .nilIface, .int .i64 0, .pointer none, .pointer none, .pointer none, .nilIface, .int .i64 0, .map none, .int .u64 0,
    .pointer none, .pointer none, .pointer none, .nilIface, .int .i64 0, .pointer none, .pointer none, .pointer none, .nilIface, .int .i64 0, .pointer none, .pointer none, .pointer none, .nilIface, .int .i64 0, .map none, .int .u64 0]

theorem LU_zero {w : World} {F : Nat → Prop} {R o : Nat} (hR : w.heap[R]? = some (.cells z75 75 (0, 0))) (ho : o = 0 ∨ o = 17) : LU w F R o (fun _ => []) 0 := by
  have c : ∀ j, w.cell? ⟨R, j, none⟩ = z75[j]? := fun j => cell_of_row w R j z75 75 (0, 0) hR
  refine ⟨fun k hk => ⟨by simp, by simp, ?_, Or.inl ⟨rfl, ?_⟩⟩, by simp, by simp, ?_, by simp, Or.inl ⟨?_, by simp⟩⟩
  · rw [c]
    rcases ho with rfl | rfl <;> (obtain rfl | rfl | rfl : k = 0 ∨ k = 1 ∨ k = 2 := by omega) <;> rfl
  · rw [c]
    rcases ho with rfl | rfl <;> (obtain rfl | rfl | rfl : k = 0 ∨ k = 1 ∨ k = 2 := by omega) <;> rfl
  · rw [c]
    rcases ho with rfl | rfl <;> rfl
  · rw [c]
    rcases ho with rfl | rfl <;> rfl

/-- U2: a new resource. -/
theorem TI.newRes {w w2 : World} {T b : Nat} {tag : Nat → Own} {g : Gh} {N : Nat} (h : TI w T tag g N) {n : ByteArray} (hn : g.res n = none) (hb : w.cell? ⟨T, 0, none⟩ = some (.map (some b)))
    (hs : SM w2 b (fun s => if s = n then some (.pointer (some ⟨w.heap.size, 0, none⟩)) else (g.res s).map fun r => .pointer (some ⟨r.blk, 0, none⟩))) (hm : Mod (fun i => i = b) (w.alloc (.cells z75 75)) w2) :
    TI w2 T (ext w tag (.blk n)) (g.setRes n ⟨w.heap.size, fun _ => [], 0, fun _ => [], 0⟩) N := by
  obtain ⟨b', hb', ht, hsm⟩ := h.rm
  have : b' = b := by rw [hb'] at hb; simpa using hb
  subst this
  have hbl := hsm.lt
  have far : ∀ i, i < w.heap.size → tag i ≠ .rmap → w2.heap[i]? = w.heap[i]? ∧ ext w tag (.blk n) i = tag i := fun i hi h1 => ⟨by
    rw [hm.block i (by simp; omega) (fun e => h1 (by rw [e]; exact ht))]
    exact Below.heap_alloc _ _ _ hi, ext_old hi⟩
  have hT := far T h.blk.lt (by rw [h.tg]; simp)
  have cT : ∀ j, w2.cell? ⟨T, j, none⟩ = w.cell? ⟨T, j, none⟩ := fun j => World.cell?_of_block (a := ⟨T, j, none⟩) hT.1
  have hnew : w2.heap[w.heap.size]? = some (.cells z75 75 (0, 0)) := by
    rw [hm.block _ (by simp) (by omega)]
    exact heap_alloc_new w _
  refine ⟨hT.2.trans h.tg, h.blk.kept hT.1, ⟨b', by rw [cT]; exact hb', (ext_old hbl).trans ht, ?_⟩, ?_, ?_, ?_, fun n' r' hr' => ?_, fun t v ns ht' => (h.held t v ns ht').congr (fun i hi ho => far i hi (by rw [ho]; simp)) (Nat.le_refl _)⟩
  · have e : (fun n' => ((g.setRes n ⟨w.heap.size, fun _ => [], 0, fun _ => [], 0⟩).res n').map fun r => Value.pointer (some ⟨r.blk, 0, none⟩)) = fun s => if s = n then some (.pointer (some ⟨w.heap.size, 0, none⟩)) else (g.res s).map fun r => .pointer (some ⟨r.blk, 0, none⟩) := by
      funext n'
      by_cases e : n' = n
      · simp [Gh.setRes, e]
      · simp [Gh.setRes, e]
    rw [e]
    exact hs
  · obtain ⟨i, h1, h2, h3⟩ := h.hm
    have := far i h3.lt (by rw [h2]; simp)
    exact ⟨i, by rw [cT]; exact h1, this.2.trans h2, h3.kept this.1⟩
  · obtain ⟨i, h1, h2, h3⟩ := h.qm
    have := far i h3.lt (by rw [h2]; simp)
    exact ⟨i, by rw [cT]; exact h1, this.2.trans h2, h3.kept this.1⟩
  · obtain ⟨c, h1, h2⟩ := h.ch
    exact ⟨c, by rw [cT]; exact h1, h2⟩
  · by_cases e : n' = n
    · subst e
      simp only [Gh.setRes, if_true, Option.some.injEq] at hr'
      subst hr'
      exact ⟨ext_new (Nat.le_refl _), ⟨z75, hnew, rfl⟩, LU_zero hnew (Or.inl rfl), LU_zero hnew (Or.inr rfl), Nat.zero_le _, Nat.zero_le _⟩
    · simp only [Gh.setRes, e, if_false] at hr'
      exact (h.res n' r' hr').congr (fun i hi ho => far i hi (by rcases ho with ho | ho | ho <;> rw [ho] <;> simp)) (Nat.le_refl _)

/-- U5: a queued transaction. -/
theorem TI.setQ {w w2 : World} {T b : Nat} {tag : Nat → Own} {g : Gh} {N : Nat} (h : TI w T tag g N) {t n : ByteArray} (hb : w.cell? ⟨T, 2, none⟩ = some (.map (some b)))
    (hs : SM w2 b (fun s => if s = t then some (.string n) else (g.que s).map Value.string)) (hm : Mod (fun i => i = b) w w2) : TI w2 T tag (g.setQue t n) N := by
  obtain ⟨b', hb', ht, hsm⟩ := h.qm
  have : b' = b := by rw [hb'] at hb; simpa using hb
  subst this
  have far : ∀ i, i < w.heap.size → tag i ≠ .qmap → w2.heap[i]? = w.heap[i]? ∧ tag i = tag i := fun i hi h1 => ⟨hm.block i hi (fun e => h1 (by rw [e]; exact ht)), rfl⟩
  have hT := far T h.blk.lt (by rw [h.tg]; simp)
  have cT : ∀ j, w2.cell? ⟨T, j, none⟩ = w.cell? ⟨T, j, none⟩ := fun j => World.cell?_of_block (a := ⟨T, j, none⟩) hT.1
  refine ⟨h.tg, h.blk.kept hT.1, ?_, ?_, ⟨b', by rw [cT]; exact hb', ht, ?_⟩, ?_, fun n' r' hr' => (h.res n' r' hr').congr (fun i hi ho => far i hi (by rcases ho with ho | ho | ho <;> rw [ho] <;> simp)) (Nat.le_refl _), fun t v ns ht' => (h.held t v ns ht').congr (fun i hi ho => far i hi (by rw [ho]; simp)) (Nat.le_refl _)⟩
  · obtain ⟨i, h1, h2, h3⟩ := h.rm
    have := far i h3.lt (by rw [h2]; simp)
    exact ⟨i, by rw [cT]; exact h1, h2, h3.kept this.1⟩
  · obtain ⟨i, h1, h2, h3⟩ := h.hm
    have := far i h3.lt (by rw [h2]; simp)
    exact ⟨i, by rw [cT]; exact h1, h2, h3.kept this.1⟩
  · have e : (fun s => ((g.setQue t n).que s).map Value.string) = fun s => if s = t then some (.string n) else (g.que s).map Value.string := by
      funext s
      by_cases e : s = t
      · simp [Gh.setQue, e]
      · simp [Gh.setQue, e]
    rw [e]
    exact hs
  · obtain ⟨c, h1, h2⟩ := h.ch
    exact ⟨c, by rw [cT]; exact h1, h2⟩

/-- What the table holds of t's names. -/
def Gh.heldOf (g : Gh) (t : ByteArray) : Value × List ByteArray := (g.held t).getD (.slice none 0 0, [])

theorem TI.heldOf {w : World} {T : Nat} {tag : Nat → Own} {g : Gh} {N : Nat} (h : TI w T tag g N) (t : ByteArray) : HI w tag t (g.heldOf t).1 (g.heldOf t).2 N := by
  unfold Gh.heldOf
  cases e : g.held t with
  | none => exact ⟨World.ownsRow_nil _ _ _ _, fun b hb => by simp [Value.ownBlock] at hb, Nat.zero_le _, by simp⟩
  | some x => exact h.held t x.1 x.2 e

/-- U6: a name more for t. -/
theorem TI.setH {w w1 w2 : World} {T b : Nat} {tag : Nat → Own} {g : Gh} {N : Nat} {o : Obj} {v' : Value} (h : TI w T tag g N) {t n : ByteArray} (hn : n.size ≤ maxLen) (hlen : (g.heldOf t).2.length + 1 ≤ N) (hb : w.cell? ⟨T, 1, none⟩ = some (.map (some b)))
    (hg : (w.alloc o).grownBy w1 (g.heldOf t).1.ownBlock) (ho : w1.ownsRow 0 9 1 v' ((g.heldOf t).2.length + 1) ((g.heldOf t).2.map .string ++ [.string n])) (hv : v'.ownBlock = (g.heldOf t).1.ownBlock ∨ v'.ownBlock = some (w.alloc o).heap.size)
    (hs : SM w2 b (fun s => if s = t then some v' else (g.held s).map Prod.fst)) (hm : Mod (fun i => i = b) w1 w2) : TI w2 T (ext w tag (.arr t)) (g.setHeld t v' ((g.heldOf t).2 ++ [n])) N := by
  obtain ⟨b', hb', ht, hsm⟩ := h.hm
  have : b' = b := by rw [hb'] at hb; simpa using hb
  subst this
  have hbl := hsm.lt
  have hof := h.heldOf t
  have s1 : w.heap.size + 1 ≤ w1.heap.size := by have := hg.size; simpa using this
  have far : ∀ i, i < w.heap.size → tag i ≠ .hmap → tag i ≠ .arr t → w2.heap[i]? = w.heap[i]? ∧ ext w tag (.arr t) i = tag i := fun i hi h1 h2 => ⟨by
    rw [hm.block i (by omega) (fun e => h1 (by rw [e]; exact ht)), hg.block i (by simp; omega) (fun e => h2 (hof.tg i e.symm))]
    exact Below.heap_alloc _ _ _ hi, ext_old hi⟩
  have hT := far T h.blk.lt (by rw [h.tg]; simp) (by rw [h.tg]; simp)
  have cT : ∀ j, w2.cell? ⟨T, j, none⟩ = w.cell? ⟨T, j, none⟩ := fun j => World.cell?_of_block (a := ⟨T, j, none⟩) hT.1
  refine ⟨hT.2.trans h.tg, h.blk.kept hT.1, ?_, ⟨b', by rw [cT]; exact hb', (ext_old hbl).trans ht, ?_⟩, ?_, ?_, fun n' r' hr' => (h.res n' r' hr').congr (fun i hi ho => far i hi (by rcases ho with ho | ho | ho <;> rw [ho] <;> simp) (by rcases ho with ho | ho | ho <;> rw [ho] <;> simp)) (Nat.le_refl _), fun t' v ns ht' => ?_⟩
  · obtain ⟨i, h1, h2, h3⟩ := h.rm
    have := far i h3.lt (by rw [h2]; simp) (by rw [h2]; simp)
    exact ⟨i, by rw [cT]; exact h1, this.2.trans h2, h3.kept this.1⟩
  · have e : (fun s => ((g.setHeld t v' ((g.heldOf t).2 ++ [n])).held s).map Prod.fst) = fun s => if s = t then some v' else (g.held s).map Prod.fst := by
      funext s
      by_cases e : s = t
      · simp [Gh.setHeld, e]
      · simp [Gh.setHeld, e]
    rw [e]
    exact hs
  · obtain ⟨i, h1, h2, h3⟩ := h.qm
    have := far i h3.lt (by rw [h2]; simp) (by rw [h2]; simp)
    exact ⟨i, by rw [cT]; exact h1, this.2.trans h2, h3.kept this.1⟩
  · obtain ⟨c, h1, h2⟩ := h.ch
    exact ⟨c, by rw [cT]; exact h1, h2⟩
  · by_cases e : t' = t
    · subst e
      simp only [Gh.setHeld, if_true, Option.some.injEq, Prod.mk.injEq] at ht'
      obtain ⟨rfl, rfl⟩ := ht'
      refine ⟨?_, fun i hi => ?_, by simpa using hlen, fun x hx => ?_⟩
      · rw [List.length_append, List.length_singleton, List.map_append]
        have hbb : v'.ownBlock = none ∨ v'.ownBlock ≠ some b' := by
          rcases hv with hv | hv
          · right
            intro e
            rw [hv] at e
            have := hof.tg b' e
            rw [ht] at this
            cases this
          · right
            rw [hv]
            simp
            omega
        exact ho.kept ⟨hm.os, hm.tape, hm.output, hm.size, fun k hk hne => hm.block k hk (fun e => hne (by rw [e]))⟩ hbb
      · rcases hv with hv | hv
        · rw [hv] at hi
          have := hof.tg i hi
          exact (ext_old (hof.own.lt i hi).2).trans this
        · rw [hv] at hi
          simp at hi
          exact ext_new (by omega)
      · rcases List.mem_append.1 hx with hx | hx
        · exact hof.size x hx
        · simp only [List.mem_singleton] at hx
          subst hx
          exact hn
    · simp only [Gh.setHeld, e, if_false] at ht'
      exact (h.held t' v ns ht').congr (fun i hi ho => far i hi (by rw [ho]; simp) (by rw [ho]; simp [e])) (Nat.le_refl _)

end Go.Proofs.Qxb6609223a
