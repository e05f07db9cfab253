/-
  The walks of Request where the lock that is held serves, of Waiting and of NewTable.
-/
import Derived.Test.Qxb6609223aRequest
namespace Go.Proofs.Qxb6609223a
open Go.RowKit
open Go.Proofs.Qxb6609223a.Kit

set_option maxRecDepth 10000 in
set_option maxHeartbeats 4000000 in
theorem request_again (w : World) {T : Nat} {tag : Nat → Own} {g : Gh} {N : Nat} (h : TI w T tag g N) {n : ByteArray} {r : RS} {m k : Nat} {e : Ent} (hN : N ≤ 50000) (ht : e.txn.size ≤ maxLen) (hn : n.size ≤ maxLen) (hq : g.que e.txn = none)
    (hr : g.res n = some r) (hk : k < 3) (he : e ∈ r.H k) (hkm : k = 2 ∨ k = m) :
    Calls Try.prog 13 #[.pointer (some ⟨T, 0, none⟩), .string e.txn, .string n, .int .u8 m] w fun e1 w' => e1 = .returned (.bool true) ∧ St w w' T tag g (N + 1) := by
  obtain ⟨bq, c2, tq, sq⟩ := h.qm
  obtain ⟨br, c0, tr, sr⟩ := h.rm
  obtain ⟨c, c3, hc⟩ := h.ch
  have f3 := h.blk.frozen 3
  have hT := h.blk.lt
  have lkq : (Instr.lookup 58 (.map (some bq)) (.string e.txn) true).run Try.prog w = .ok (.tuple #[.string ⟨#[]⟩, .bool false]) w := by
    have := (sq.look Try.underlying9 Try.underlying58 (zero9 _) ht).1
    rw [hq] at this
    exact this
  have HB : Hid (TI (w.setCell ⟨T, 3, none⟩ (.int .u64 ((c : Int) + 1))) T tag g (N + 1)) := h.bump (c + 1) (by omega)
  have HBM : Hid (Mod (fun b => (tag b).isTab) w (w.setCell ⟨T, 3, none⟩ (.int .u64 ((c : Int) + 1)))) := Mod.setCell w ⟨T, 3, none⟩ _ (by show (tag T).isTab; rw [h.tg]; trivial)
  have SR : SM (w.setCell ⟨T, 3, none⟩ (.int .u64 ((c : Int) + 1))) br (fun n => (g.res n).map fun r => .pointer (some ⟨r.blk, 0, none⟩)) := sr.kept (Below.heap_setCell _ _ _ _ (fun e => by
    change br = T at e
    rw [e, h.tg] at tr
    cases tr))
  have lkr : (Instr.lookup 56 (.map (some br)) (.string n) false).run Try.prog (w.setCell ⟨T, 3, none⟩ (.int .u64 ((c : Int) + 1))) = .ok (.pointer (some ⟨r.blk, 0, none⟩)) (w.setCell ⟨T, 3, none⟩ (.int .u64 ((c : Int) + 1))) := by
    have := (SR.look Try.underlying9 Try.underlying56 (zero63 _) hn).2
    rw [this, hr]
    rfl
  have HG := hide (get_some (w.setCell ⟨T, 3, none⟩ (.int .u64 ((c : Int) + 1))) (HB.out.res n r hr).hold hk he ht)
  obtain ⟨R, hR⟩ : ∃ R, r.blk = R := ⟨_, rfl⟩
  rw [hR] at HG lkr
  have tok : True := trivial
  clear h hq sq sr SR tr tq hr hR he
  go_enter Try.func13, Try.ntmps13
  go_wp2_with (first | (at_lookup; have _t := tok; refine wpList_lookup_run _ rfl _ _ _ _ rfl _ lkq ?_; clear tok) | (at_lookup; refine wpList_lookup_run _ rfl _ _ _ _ rfl _ lkr ?_))
  refine HG.out.mono ?_
  rintro e1 w1 ⟨rfl, hm1⟩
  unfold entA
  have HM1 := hide (hm1.trans (Mod.alloc (fun _ => False) w1 (.cells #[.string e.txn, .int .u8 k, .int .u64 e.seq] 77)) (fun _ _ h => h))
  clear hm1
  have FIN := hide (St.comp (tag1 := tag) (fun _ _ => rfl) HBM.out (St.quiet HB.out HM1.out))
  by_cases hk2 : k = 2
  · subst hk2
    go_wp2
    go_ret
    exact ⟨rfl, FIN.out⟩
  · obtain rfl : k = m := hkm.resolve_left hk2
    have hk2' : ((k : Int) == 2) = false := by simp; omega
    go_wp2
    go_ret
    exact ⟨rfl, FIN.out⟩

theorem waiting_any (w : World) {T : Nat} {tag : Nat → Own} {g : Gh} {N : Nat} (h : TI w T tag g N) (t : ByteArray) (ht : t.size ≤ maxLen) :
    Calls Try.prog 14 #[.pointer (some ⟨T, 0, none⟩), .string t] w fun e w' => e = .returned (.bool (g.que t).isSome) ∧ w' = w := by
  obtain ⟨bq, c2, tq, sq⟩ := h.qm
  obtain ⟨s, b, hb, lkq⟩ : ∃ s b, b = (g.que t).isSome ∧ (Instr.lookup 58 (.map (some bq)) (.string t) true).run Try.prog w = .ok (.tuple #[.string s, .bool b]) w := by
    have := (sq.look Try.underlying9 Try.underlying58 (zero9 _) ht).1
    cases hq : g.que t with
    | none => rw [hq] at this; exact ⟨_, _, rfl, this⟩
    | some x => rw [hq] at this; exact ⟨_, _, rfl, this⟩
  rw [← hb]
  clear h hb sq tq
  go_enter Try.func14, Try.ntmps14
  go_wp2_with (first | (at_lookup; refine wpList_lookup_run _ rfl _ _ _ _ rfl _ lkq ?_))
  go_ret
  exact ⟨rfl, rfl⟩

/-- The empty table. -/
def g0 : Gh := ⟨fun _ => none, fun _ => none, fun _ => none⟩

theorem inv0 : Inv g0 := ⟨(fun _ _ h => by cases h), (fun _ _ h => by cases h), (fun _ _ _ h => by cases h)⟩

/-- Who owns the blocks of a new table laid at B. -/
def tag0 (B b : Nat) : Own := if b < B then .free else if b = B then .rmap else if b = B + 1 then .hmap else if b = B + 2 then .qmap else if b = B + 3 then .tab else .free

/-- The world with a new table. -/
def newW (w : World) : World := (((w.alloc (.map #[] 0)).alloc (.map #[] 0)).alloc (.map #[] 0)).alloc (.cells #[.map (some w.heap.size), .map (some (w.heap.size + 1)), .map (some (w.heap.size + 1 + 1)), .int .u64 0] 61)

theorem newW_TI (w : World) : TI (newW w) (w.heap.size + 3) (tag0 w.heap.size) g0 0 ∧ Mod (fun _ => False) w (newW w) ∧ (newW w).heap.size = w.heap.size + 4 := by
  have a0 : (newW w).heap[w.heap.size]? = some (.map #[] 0) := by
    unfold newW
    rw [Below.heap_alloc _ _ _ (by simp; omega), Below.heap_alloc _ _ _ (by simp; omega), Below.heap_alloc _ _ _ (by simp)]
    exact heap_alloc_new w _
  have a1 : (newW w).heap[w.heap.size + 1]? = some (.map #[] 0) := by
    unfold newW
    rw [Below.heap_alloc _ _ _ (by simp), Below.heap_alloc _ _ _ (by simp)]
    exact alloc_at (by simp) _
  have a2 : (newW w).heap[w.heap.size + 2]? = some (.map #[] 0) := by
    unfold newW
    rw [Below.heap_alloc _ _ _ (by simp)]
    exact alloc_at (by simp) _
  have a3 : (newW w).heap[w.heap.size + 3]? = some (.cells #[.map (some w.heap.size), .map (some (w.heap.size + 1)), .map (some (w.heap.size + 1 + 1)), .int .u64 0] 61) := by
    unfold newW
    exact alloc_at (by simp) _
  have c : ∀ j, (newW w).cell? ⟨w.heap.size + 3, j, none⟩ = (#[.map (some w.heap.size), .map (some (w.heap.size + 1)), .map (some (w.heap.size + 1 + 1)), .int .u64 0] : Array Value)[j]? := fun j => cell_of_row _ _ j _ 61 (0, 0) a3
  refine ⟨⟨?_, ⟨_, a3, rfl⟩, ⟨w.heap.size, c 0, ?_, ?_⟩, ⟨w.heap.size + 1, c 1, ?_, ?_⟩, ⟨w.heap.size + 2, c 2, ?_, ?_⟩, ⟨0, c 3, Nat.le_refl _⟩, (fun n r h => by cases h), (fun t v ns h => by cases h)⟩, ?_, ?_⟩
  · simp [tag0]
  · simp [tag0]
  · exact ⟨#[], 0, a0, by simp, fun s h => absurd rfl h, by simp⟩
  · simp [tag0]
  · exact ⟨#[], 0, a1, by simp, fun s h => absurd rfl h, by simp⟩
  · simp [tag0]
  · exact ⟨#[], 0, a2, by simp, fun s h => absurd rfl h, by simp⟩
  · unfold newW
    exact (((Mod.alloc _ _ _).trans (Mod.alloc (fun _ => False) _ _) (fun _ _ h => h)).trans (Mod.alloc (fun _ => False) _ _) (fun _ _ h => h)).trans (Mod.alloc (fun _ => False) _ _) (fun _ _ h => h)
  · simp [newW]

set_option maxHeartbeats 1000000 in
theorem newTable_any (w : World) : Calls Try.prog 11 #[] w fun e w' => e = .returned (.pointer (some ⟨w.heap.size + 3, 0, none⟩)) ∧ TI w' (w.heap.size + 3) (tag0 w.heap.size) g0 0 ∧ Mod (fun _ => False) w w' ∧ w'.heap.size = w.heap.size + 4 := by
  have mk1 : ∀ (t : TypeId) (w : World), (Instr.makeMap t none).run Try.prog w = .ok (.map (some w.heap.size)) (w.alloc (.map #[] 0)) := fun t w => run_makeMap t w
  go_enter Try.func11, Try.ntmps11
  go_wp2
  go_ret
  exact ⟨rfl, newW_TI w⟩

end Go.Proofs.Qxb6609223a
