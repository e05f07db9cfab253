/-
  A table in memory: the ghost state G, the owners of blocks, what each update leaves.
-/
import Derived.Test.Qxb6609223aSort
namespace Go.Proofs.Qxb6609223a
open Go.RowKit
open Go.Proofs.Qxb6609223a.Kit

/-- Who owns a block. -/
inductive Own where
  | free
  | tab
  | rmap
  | hmap
  | qmap
  | arr (t : ByteArray)
  | blk (n : ByteArray)
  | hold (n : ByteArray)
  | que (n : ByteArray)
  | law (i : Nat)

/-- A resource: its block, the holders' lists and count, the queue's. -/
structure RS where
  blk : Nat
  H : Nat → List Ent
  JH : Nat
  Q : Nat → List Ent
  JQ : Nat

structure Gh where
  res : ByteArray → Option RS
  held : ByteArray → Option (Value × List ByteArray)
  que : ByteArray → Option ByteArray

/-- A resource in memory. -/
structure RI (w : World) (tag : Nat → Own) (n : ByteArray) (r : RS) (N : Nat) : Prop where
  tg : tag r.blk = .blk n
  blk : Blk w r.blk 75 34
  hold : LU w (fun b => tag b = .hold n) r.blk 0 r.H r.JH
  que : LU w (fun b => tag b = .que n) r.blk 17 r.Q r.JQ
  jh : r.JH ≤ N
  jq : r.JQ ≤ N

theorem RI.congr {w w' : World} {tag tag' : Nat → Own} {n : ByteArray} {r : RS} {N N' : Nat} (h : RI w tag n r N) (hb : ∀ b, b < w.heap.size → (tag b = .blk n ∨ tag b = .hold n ∨ tag b = .que n) → w'.heap[b]? = w.heap[b]? ∧ tag' b = tag b) (hN : N ≤ N') : RI w' tag' n r N' := by
  have hR := hb r.blk h.blk.lt (Or.inl h.tg)
  have cR : ∀ j, w'.cell? ⟨r.blk, j, none⟩ = w.cell? ⟨r.blk, j, none⟩ := fun j => World.cell?_of_block (a := ⟨r.blk, j, none⟩) hR.1
  refine ⟨hR.2.trans h.tg, h.blk.kept hR.1, h.hold.congr (fun j _ _ => cR j) (fun b hb' hf => (hb b hb' (Or.inr (Or.inl hf))).1) (fun b hb' hf => (hb b hb' (Or.inr (Or.inl hf))).2.trans hf), h.que.congr (fun j _ _ => cR j) (fun b hb' hf => (hb b hb' (Or.inr (Or.inr hf))).1) (fun b hb' hf => (hb b hb' (Or.inr (Or.inr hf))).2.trans hf), Nat.le_trans h.jh hN, Nat.le_trans h.jq hN⟩

/-- A slice of names in memory. -/
structure HI (w : World) (tag : Nat → Own) (t : ByteArray) (v : Value) (ns : List ByteArray) (N : Nat) : Prop where
  own : w.ownsRow 0 9 1 v ns.length (ns.map .string)
  tg : ∀ b, v.ownBlock = some b → tag b = .arr t
  len : ns.length ≤ N
  size : ∀ n ∈ ns, n.size ≤ maxLen

theorem HI.congr {w w' : World} {tag tag' : Nat → Own} {t : ByteArray} {v : Value} {ns : List ByteArray} {N N' : Nat} (h : HI w tag t v ns N) (hb : ∀ b, b < w.heap.size → tag b = .arr t → w'.heap[b]? = w.heap[b]? ∧ tag' b = tag b) (hN : N ≤ N') : HI w' tag' t v ns N' := by
  refine ⟨?_, fun b hv => (hb b (h.own.lt b hv).2 (h.tg b hv)).2.trans (h.tg b hv), Nat.le_trans h.len hN, h.size⟩
  rcases h.own with ⟨h1, h2 | ⟨g, cap, cur, rfl, hb0, hg, rest⟩⟩
  · exact ⟨h1, Or.inl h2⟩
  · exact ⟨h1, Or.inr ⟨g, cap, cur, rfl, hb0, by rw [(hb g (Array.getElem?_eq_some_iff.1 hg).1 (h.tg g rfl)).1]; exact hg, rest⟩⟩

/-- A table in memory. -/
structure TI (w : World) (T : Nat) (tag : Nat → Own) (g : Gh) (N : Nat) : Prop where
  tg : tag T = .tab
  blk : Blk w T 61 4
  rm : ∃ b, w.cell? ⟨T, 0, none⟩ = some (.map (some b)) ∧ tag b = .rmap ∧ SM w b (fun n => (g.res n).map fun r => .pointer (some ⟨r.blk, 0, none⟩))
  hm : ∃ b, w.cell? ⟨T, 1, none⟩ = some (.map (some b)) ∧ tag b = .hmap ∧ SM w b (fun t => (g.held t).map Prod.fst)
  qm : ∃ b, w.cell? ⟨T, 2, none⟩ = some (.map (some b)) ∧ tag b = .qmap ∧ SM w b (fun t => (g.que t).map Value.string)
  ch : ∃ c : Nat, w.cell? ⟨T, 3, none⟩ = some (.int .u64 c) ∧ c ≤ N
  res : ∀ n r, g.res n = some r → RI w tag n r N
  held : ∀ t v ns, g.held t = some (v, ns) → HI w tag t v ns N

/-- The table's own blocks. -/
def Own.isTab : Own → Prop
  | .free => False
  | .law _ => False
  | _ => True

theorem TI.congr {w w' : World} {T : Nat} {tag tag' : Nat → Own} {g : Gh} {N N' : Nat} (h : TI w T tag g N) (hb : ∀ b, b < w.heap.size → (tag b).isTab → w'.heap[b]? = w.heap[b]? ∧ tag' b = tag b) (hN : N ≤ N') : TI w' T tag' g N' := by
  have hT := hb T h.blk.lt (by rw [h.tg]; trivial)
  have cT : ∀ j, w'.cell? ⟨T, j, none⟩ = w.cell? ⟨T, j, none⟩ := fun j => World.cell?_of_block (a := ⟨T, j, none⟩) hT.1
  refine ⟨hT.2.trans h.tg, h.blk.kept hT.1, ?_, ?_, ?_, ?_, fun n r hr => (h.res n r hr).congr (fun b hb' ho => hb b hb' ?_) hN, fun t v ns ht => (h.held t v ns ht).congr (fun b hb' ho => hb b hb' ?_) hN⟩
  · obtain ⟨b, h1, h2, h3⟩ := h.rm
    have := hb b h3.lt (by rw [h2]; trivial)
    exact ⟨b, by rw [cT]; exact h1, this.2.trans h2, h3.kept this.1⟩
  · obtain ⟨b, h1, h2, h3⟩ := h.hm
    have := hb b h3.lt (by rw [h2]; trivial)
    exact ⟨b, by rw [cT]; exact h1, this.2.trans h2, h3.kept this.1⟩
  · obtain ⟨b, h1, h2, h3⟩ := h.qm
    have := hb b h3.lt (by rw [h2]; trivial)
    exact ⟨b, by rw [cT]; exact h1, this.2.trans h2, h3.kept this.1⟩
  · obtain ⟨c, h1, h2⟩ := h.ch
    exact ⟨c, by rw [cT]; exact h1, Nat.le_trans h2 hN⟩
  · rcases ho with ho | ho | ho <;> rw [ho] <;> trivial
  · rw [ho]; trivial

/-- Behind steps that only lay new blocks. -/
theorem TI.kept {w w' : World} {T : Nat} {tag : Nat → Own} {g : Gh} {N : Nat} (h : TI w T tag g N) (hm : Mod (fun _ => False) w w') : TI w' T tag g N :=
  h.congr (fun b hb _ => ⟨hm.block b hb (fun h => h), rfl⟩) (Nat.le_refl _)

/-- New blocks get the owner X. -/
def ext (w : World) (tag : Nat → Own) (X : Own) (b : Nat) : Own := if b < w.heap.size then tag b else X

theorem ext_old {w : World} {tag : Nat → Own} {X : Own} {b : Nat} (h : b < w.heap.size) : ext w tag X b = tag b := by simp [ext, h]
theorem ext_new {w : World} {tag : Nat → Own} {X : Own} {b : Nat} (h : w.heap.size ≤ b) : ext w tag X b = X := by
  have : ¬ b < w.heap.size := by omega
  simp [ext, this]

/-- U1: changes++. -/
theorem TI.bump {w : World} {T : Nat} {tag : Nat → Own} {g : Gh} {N : Nat} (h : TI w T tag g N) (c : Nat) (hc : c ≤ N + 1) : TI (w.setCell ⟨T, 3, none⟩ (.int .u64 c)) T tag g (N + 1) := by
  obtain ⟨u, hu⟩ := h.blk.some (o := 3) (by omega)
  have far : ∀ b, b ≠ T → (w.setCell ⟨T, 3, none⟩ (.int .u64 c)).heap[b]? = w.heap[b]? := fun b hb => Below.heap_setCell _ _ _ _ hb
  have ne : ∀ b, tag b ≠ .tab → b ≠ T := fun b hb e => hb (by rw [e]; exact h.tg)
  refine ⟨h.tg, h.blk.setCell _ _, ?_, ?_, ?_, ⟨c, cell_set_same _ _ hu, hc⟩, fun n r hr => (h.res n r hr).congr (fun b _ ho => ⟨far b (ne b ?_), rfl⟩) (by omega), fun t v ns ht => (h.held t v ns ht).congr (fun b _ ho => ⟨far b (ne b ?_), rfl⟩) (by omega)⟩
  · obtain ⟨b, h1, h2, h3⟩ := h.rm
    exact ⟨b, by rw [cell_set_ne _ _ _ (by simp)]; exact h1, h2, h3.kept (far b (ne b (by rw [h2]; simp)))⟩
  · obtain ⟨b, h1, h2, h3⟩ := h.hm
    exact ⟨b, by rw [cell_set_ne _ _ _ (by simp)]; exact h1, h2, h3.kept (far b (ne b (by rw [h2]; simp)))⟩
  · obtain ⟨b, h1, h2, h3⟩ := h.qm
    exact ⟨b, by rw [cell_set_ne _ _ _ (by simp)]; exact h1, h2, h3.kept (far b (ne b (by rw [h2]; simp)))⟩
  · rcases ho with ho | ho | ho <;> rw [ho] <;> simp
  · rw [ho]; simp

def Gh.setRes (g : Gh) (n : ByteArray) (r : RS) : Gh := { g with res := fun n' => if n' = n then some r else g.res n' }
def Gh.setHeld (g : Gh) (t : ByteArray) (v : Value) (ns : List ByteArray) : Gh := { g with held := fun t' => if t' = t then some (v, ns) else g.held t' }
def Gh.setQue (g : Gh) (t n : ByteArray) : Gh := { g with que := fun t' => if t' = t then some n else g.que t' }

/-- U3: the holders of n turn. -/
theorem TI.setHold {w w' : World} {T : Nat} {tag : Nat → Own} {g : Gh} {N : Nat} (h : TI w T tag g N) {n : ByteArray} {r : RS} (hr : g.res n = some r) {H' : Nat → List Ent} {J' : Nat} (hl : LUs w w' (fun b => tag b = .hold n) r.blk 0 H' J') (hJ : J' ≤ N) :
    TI w' T (ext w tag (.hold n)) (g.setRes n { r with H := H', JH := J' }) N := by
  have hri := h.res n r hr
  have far : ∀ b, b < w.heap.size → tag b ≠ .hold n → tag b ≠ .blk n → w'.heap[b]? = w.heap[b]? ∧ ext w tag (.hold n) b = tag b := fun b hb h1 h2 => ⟨hl.mod.block b hb (by
    rintro (e | e)
    · exact h2 (by rw [e]; exact hri.tg)
    · exact h1 e), ext_old hb⟩
  have hT := far T h.blk.lt (by rw [h.tg]; simp) (by rw [h.tg]; simp)
  have cT : ∀ j, w'.cell? ⟨T, j, none⟩ = w.cell? ⟨T, j, none⟩ := fun j => World.cell?_of_block (a := ⟨T, j, none⟩) hT.1
  refine ⟨hT.2.trans h.tg, h.blk.kept hT.1, ?_, ?_, ?_, ?_, fun n' r' hr' => ?_, fun t v ns ht => (h.held t v ns ht).congr (fun b hb ho => far b hb (by rw [ho]; simp) (by rw [ho]; simp)) (Nat.le_refl _)⟩
  · obtain ⟨b, h1, h2, h3⟩ := h.rm
    have := far b h3.lt (by rw [h2]; simp) (by rw [h2]; simp)
    refine ⟨b, by rw [cT]; exact h1, this.2.trans h2, ?_⟩
    have e : (fun n' => ((g.setRes n { r with H := H', JH := J' }).res n').map fun r => Value.pointer (some ⟨r.blk, 0, none⟩)) = fun n' => (g.res n').map fun r => Value.pointer (some ⟨r.blk, 0, none⟩) := by
      funext n'
      by_cases e : n' = n
      · subst e
        simp [Gh.setRes, hr]
      · simp [Gh.setRes, e]
    rw [e]
    exact h3.kept this.1
  · obtain ⟨b, h1, h2, h3⟩ := h.hm
    have := far b h3.lt (by rw [h2]; simp) (by rw [h2]; simp)
    exact ⟨b, by rw [cT]; exact h1, this.2.trans h2, h3.kept this.1⟩
  · obtain ⟨b, h1, h2, h3⟩ := h.qm
    have := far b h3.lt (by rw [h2]; simp) (by rw [h2]; simp)
    exact ⟨b, by rw [cT]; exact h1, this.2.trans h2, h3.kept this.1⟩
  · obtain ⟨c, h1, h2⟩ := h.ch
    exact ⟨c, by rw [cT]; exact h1, h2⟩
  · by_cases e : n' = n
    · subst e
      simp only [Gh.setRes, if_true, Option.some.injEq] at hr'
      subst hr'
      refine ⟨(ext_old hri.blk.lt).trans hri.tg, hl.blk, ?_, ?_, hJ, hri.jq⟩
      · refine hl.lu.congr (fun _ _ _ => rfl) (fun _ _ _ => rfl) (fun b _ hf => ?_)
        rcases hf with hf | hf
        · by_cases hb : b < w.heap.size
          · exact (ext_old hb).trans hf
          · exact ext_new (by omega)
        · exact ext_new hf
      · refine hri.que.congr (fun j h1 h2 => hl.cells j (by omega)) (fun b hb hf => (far b hb (by rw [hf]; simp) (by rw [hf]; simp)).1) (fun b hb hf => (ext_old hb).trans hf)
    · simp only [Gh.setRes, e, if_false] at hr'
      exact (h.res n' r' hr').congr (fun b hb ho => far b hb (by rcases ho with ho | ho | ho <;> rw [ho] <;> simp [e]) (by rcases ho with ho | ho | ho <;> rw [ho] <;> simp [e])) (Nat.le_refl _)

/-- U4: the queue of n turns. -/
theorem TI.setQueue {w w' : World} {T : Nat} {tag : Nat → Own} {g : Gh} {N : Nat} (h : TI w T tag g N) {n : ByteArray} {r : RS} (hr : g.res n = some r) {Q' : Nat → List Ent} {J' : Nat} (hl : LUs w w' (fun b => tag b = .que n) r.blk 17 Q' J') (hJ : J' ≤ N) :
    TI w' T (ext w tag (.que n)) (g.setRes n { r with Q := Q', JQ := J' }) N := by
  have hri := h.res n r hr
  have far : ∀ b, b < w.heap.size → tag b ≠ .que n → tag b ≠ .blk n → w'.heap[b]? = w.heap[b]? ∧ ext w tag (.que n) b = tag b := fun b hb h1 h2 => ⟨hl.mod.block b hb (by
    rintro (e | e)
    · exact h2 (by rw [e]; exact hri.tg)
    · exact h1 e), ext_old hb⟩
  have hT := far T h.blk.lt (by rw [h.tg]; simp) (by rw [h.tg]; simp)
  have cT : ∀ j, w'.cell? ⟨T, j, none⟩ = w.cell? ⟨T, j, none⟩ := fun j => World.cell?_of_block (a := ⟨T, j, none⟩) hT.1
  refine ⟨hT.2.trans h.tg, h.blk.kept hT.1, ?_, ?_, ?_, ?_, fun n' r' hr' => ?_, fun t v ns ht => (h.held t v ns ht).congr (fun b hb ho => far b hb (by rw [ho]; simp) (by rw [ho]; simp)) (Nat.le_refl _)⟩
  · obtain ⟨b, h1, h2, h3⟩ := h.rm
    have := far b h3.lt (by rw [h2]; simp) (by rw [h2]; simp)
    refine ⟨b, by rw [cT]; exact h1, this.2.trans h2, ?_⟩
    have e : (fun n' => ((g.setRes n { r with Q := Q', JQ := J' }).res n').map fun r => Value.pointer (some ⟨r.blk, 0, none⟩)) = fun n' => (g.res n').map fun r => Value.pointer (some ⟨r.blk, 0, none⟩) := by
      funext n'
      by_cases e : n' = n
      · subst e
        simp [Gh.setRes, hr]
      · simp [Gh.setRes, e]
    rw [e]
    exact h3.kept this.1
  · obtain ⟨b, h1, h2, h3⟩ := h.hm
    have := far b h3.lt (by rw [h2]; simp) (by rw [h2]; simp)
    exact ⟨b, by rw [cT]; exact h1, this.2.trans h2, h3.kept this.1⟩
  · obtain ⟨b, h1, h2, h3⟩ := h.qm
    have := far b h3.lt (by rw [h2]; simp) (by rw [h2]; simp)
    exact ⟨b, by rw [cT]; exact h1, this.2.trans h2, h3.kept this.1⟩
  · obtain ⟨c, h1, h2⟩ := h.ch
    exact ⟨c, by rw [cT]; exact h1, h2⟩
  · by_cases e : n' = n
    · subst e
      simp only [Gh.setRes, if_true, Option.some.injEq] at hr'
      subst hr'
      refine ⟨(ext_old hri.blk.lt).trans hri.tg, hl.blk, ?_, ?_, hri.jh, hJ⟩
      · refine hri.hold.congr (fun j h1 h2 => hl.cells j (by omega)) (fun b hb hf => (far b hb (by rw [hf]; simp) (by rw [hf]; simp)).1) (fun b hb hf => (ext_old hb).trans hf)
      · refine hl.lu.congr (fun _ _ _ => rfl) (fun _ _ _ => rfl) (fun b _ hf => ?_)
        rcases hf with hf | hf
        · by_cases hb : b < w.heap.size
          · exact (ext_old hb).trans hf
          · exact ext_new (by omega)
        · exact ext_new hf
    · simp only [Gh.setRes, e, if_false] at hr'
      exact (h.res n' r' hr').congr (fun b hb ho => far b hb (by rcases ho with ho | ho | ho <;> rw [ho] <;> simp [e]) (by rcases ho with ho | ho | ho <;> rw [ho] <;> simp [e])) (Nat.le_refl _)

end Go.Proofs.Qxb6609223a
