/-
  The walk of grant.
-/
import Derived.Test.Qxb6609223aTable2
import Derived.Deep.RegionLaw
import Derived.Maps.AppendAt
namespace Go.Proofs.Qxb6609223a
open Go.RowKit
open Go.Proofs.Qxb6609223a.Kit

/-- append on a row of the caller's own, as one step of a region that draws. -/
theorem step_append_own_at {P : Program} {ops : Array Oper} {o : Oper} {a : Act} {w : World} {K : Act → World → Prop} {Q : Exit → Act → World → Prop} {E : Prop}
    (hg : o.guard = none) (s x : Operand) (t : TypeId) (hop : o.op = Op.call { callee := Callee.builtin Builtin.append, args := #[s, x], argTypes := #[t, t] })
    (base : Nat) (e : TypeId) (i : TypeInfo) (z : Value) (size bytes : Nat) (ht : P.underlying t = some (.slice e)) (hi : P.info? e = some i) (hz : i.zero = some z)
    (hsize : i.size = size) (hby : i.bytes = bytes) (hzs : z.cells.size = size) (hsz : 0 < size)
    (v : Value) (n : Nat) (xs : List Value) (hs : a.eval s = v) (hown : w.ownsRow base e size v n xs)
    (ad : Addr) (m c : Nat) (news : List Value) (hx : a.eval x = .slice (some ad) m c) (hl : news.length = m * size) (hnews : ∀ j u, news[j]? = some u → w.cell? (ad.add j) = some u) (h1 : ∀ u ∈ news, u.oneCell' = true)
    (h63 : n + m ≤ maxLen) (hbytes : (n + m) * bytes ≤ 140737488355328) (hbase : base ≤ w.heap.size)
    (h : ∀ v' w', w'.ownsRow base e size v' (n + m) (xs ++ news) → w.grownBy w' v.ownBlock → (v'.ownBlock = v.ownBlock ∨ v'.ownBlock = some w.heap.size) → K (a.put o.dst v') w') :
    if Region.wanted o (yielded ops a.tmps) = true then Oper.wp P o a w K Q else E := by
  have hw : Region.wanted o (yielded ops a.tmps) = true := by simp [Region.wanted, hg]
  rw [if_pos hw]
  obtain ⟨v', w', hr, h2, h3, h4, h5⟩ := run_append_own_at (P := P) w base t o.type e i z size bytes ht hi hz hsize hby hzs hsz v n xs hown ad m c news hl hnews h1 h63 hbytes hbase
  unfold Oper.wp
  simp [execOp, hop, resolve, invoke, builtin, hs, hx, hr, Result.andThen]
  exact h v' w' h2 h3 h5

theorem one_new (w : World) (x : Value) (t : TypeId) : ∀ j u, [x][j]? = some u → (w.alloc (.cells #[x] t)).cell? ((⟨w.heap.size, 0, none⟩ : Addr).add j) = some u := by
  intro j u hu
  rw [addr_add, Nat.zero_add, cell_of_row _ _ j #[x] t (0, 0) (heap_alloc_new w _)]
  simpa using hu

theorem info9 : (Try.prog.info? 9).map (fun i => (i.zero, i.size, i.bytes)) = some (some (.string ⟨#[]⟩), 1, 16) := by kernel_rfl

theorem TI.drew {w : World} {T : Nat} {tag : Nat → Own} {g : Gh} {N : Nat} (h : TI w T tag g N) : TI w.drew T tag g N := h.congr (fun _ _ _ => ⟨rfl, rfl⟩) (Nat.le_refl _)

/-- What a step that turns blocks of the table alone leaves. -/
structure St (w w' : World) (T : Nat) (tag : Nat → Own) (g' : Gh) (N : Nat) : Prop where
  ti : ∃ tag', TI w' T tag' g' N ∧ ∀ b, b < w.heap.size → tag' b = tag b
  mod : Mod (fun b => (tag b).isTab) w w'

theorem St.then {w w1 w2 : World} {T : Nat} {tag : Nat → Own} {g1 : Gh} {N : Nat} (h : St w w1 T tag g1 N) {g2 : Gh} {N2 : Nat} (k : ∀ tag1, TI w1 T tag1 g1 N → St w1 w2 T tag1 g2 N2) : St w w2 T tag g2 N2 := by
  obtain ⟨⟨tag1, h1, e1⟩, m1⟩ := h
  obtain ⟨⟨tag2, h2, e2⟩, m2⟩ := k tag1 h1
  refine ⟨⟨tag2, h2, fun b hb => (e2 b (Nat.lt_of_lt_of_le hb m1.size)).trans (e1 b hb)⟩, m1.trans m2 (fun i hi ho => ?_)⟩
  rw [← e1 i hi]
  exact ho

theorem St.quiet {w w' : World} {T : Nat} {tag : Nat → Own} {g : Gh} {N : Nat} (h : TI w T tag g N) (hm : Mod (fun _ => False) w w') : St w w' T tag g N :=
  ⟨⟨tag, h.kept hm, fun _ _ => rfl⟩, hm.mono (fun _ _ h => h.elim)⟩

theorem St.hold {w w' : World} {T : Nat} {tag : Nat → Own} {g : Gh} {N : Nat} (h : TI w T tag g N) {n : ByteArray} {r : RS} (hr : g.res n = some r) {H' : Nat → List Ent} {J' : Nat} (hl : LUs w w' (fun b => tag b = .hold n) r.blk 0 H' J') (hJ : J' ≤ N) :
    St w w' T tag (g.setRes n { r with H := H', JH := J' }) N :=
  ⟨⟨_, h.setHold hr hl hJ, fun b hb => ext_old hb⟩, hl.mod.mono (fun i _ ho => by
    rcases ho with ho | ho
    · rw [ho, (h.res n r hr).tg]; trivial
    · rw [ho]; trivial)⟩

theorem St.queue {w w' : World} {T : Nat} {tag : Nat → Own} {g : Gh} {N : Nat} (h : TI w T tag g N) {n : ByteArray} {r : RS} (hr : g.res n = some r) {Q' : Nat → List Ent} {J' : Nat} (hl : LUs w w' (fun b => tag b = .que n) r.blk 17 Q' J') (hJ : J' ≤ N) :
    St w w' T tag (g.setRes n { r with Q := Q', JQ := J' }) N :=
  ⟨⟨_, h.setQueue hr hl hJ, fun b hb => ext_old hb⟩, hl.mod.mono (fun i _ ho => by
    rcases ho with ho | ho
    · rw [ho, (h.res n r hr).tg]; trivial
    · rw [ho]; trivial)⟩

/-- The append to t's names and its store. -/
theorem St.held {w w1 w2 : World} {T b : Nat} {tag : Nat → Own} {g : Gh} {N : Nat} {o : Obj} {v' : Value} (h : TI w T tag g N) {t n : ByteArray} (hn : n.size ≤ maxLen) (hlen : (g.heldOf t).2.length + 1 ≤ N) (hb : w.cell? ⟨T, 1, none⟩ = some (.map (some b)))
    (hg : (w.alloc o).grownBy w1 (g.heldOf t).1.ownBlock) (ho : w1.ownsRow 0 9 1 v' ((g.heldOf t).2.length + 1) ((g.heldOf t).2.map .string ++ [.string n])) (hv : v'.ownBlock = (g.heldOf t).1.ownBlock ∨ v'.ownBlock = some (w.alloc o).heap.size)
    (hs : SM w2 b (fun s => if s = t then some v' else (g.held s).map Prod.fst)) (hm : Mod (fun i => i = b) w1 w2) : St w w2 T tag (g.setHeld t v' ((g.heldOf t).2 ++ [n])) N := by
  refine ⟨⟨_, h.setH hn hlen hb hg ho hv hs hm, fun b hb => ext_old hb⟩, ?_⟩
  have hof := h.heldOf t
  obtain ⟨b', hb', ht, hsm⟩ := h.hm
  have : b' = b := by rw [hb'] at hb; simpa using hb
  subst this
  refine Mod.trans (G := fun i => i = b') ⟨hg.os, hg.tape, hg.output, by have := hg.size; simp at this; omega, fun k hk hne => ?_⟩ hm (fun i _ e => by subst e; rw [ht]; trivial)
  rw [hg.block k (by simp; omega) (fun e => hne (by rw [hof.tg k e.symm]; trivial))]
  exact Below.heap_alloc _ _ _ hk

end Go.Proofs.Qxb6609223a
