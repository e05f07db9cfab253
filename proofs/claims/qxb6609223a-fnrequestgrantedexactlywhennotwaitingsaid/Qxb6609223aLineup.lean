/-
  A lineup in memory (LU), and the walks of get, len, Compatible, admits.
-/
import Derived.Test.Qxb6609223aOps
namespace Go.Proofs.Qxb6609223a
open Go.RowKit
open Go.Proofs.Qxb6609223a.Kit

theorem cell_lt {w : World} {b o : Nat} {v : Value} (h : w.cell? ⟨b, o, none⟩ = some v) : b < w.heap.size := by
  rcases Nat.lt_or_ge b w.heap.size with hb | hb
  · exact hb
  · rw [World.cell?, Array.getElem?_eq_none hb] at h
    simp at h

/-- The lineup at (R, o): its three lists U, the count J of those that joined; its own blocks lie in F. -/
structure LU (w : World) (F : Nat → Prop) (R o : Nat) (U : Nat → List Ent) (J : Nat) : Prop where
  ll : ∀ k, k < 3 → LL w R (o + k * 5) k (U k)
  apart : ∀ k k', k < 3 → k' < 3 → k ≠ k' → ∀ e ∈ U k, ∀ e' ∈ U k', e.blk ≠ e'.blk
  foot : ∀ k, k < 3 → ∀ e ∈ U k, F e.blk
  joined : w.cell? ⟨R, o + 16, none⟩ = some (.int .u64 J)
  len : ∀ k, k < 3 → (U k).length ≤ J
  map : (w.cell? ⟨R, o + 15, none⟩ = some (.map none) ∧ ∀ k, k < 3 → U k = []) ∨ ∃ mb f, w.cell? ⟨R, o + 15, none⟩ = some (.map (some mb)) ∧ F mb ∧ SM w mb f ∧
    ∀ t v, f t = some v ↔ ∃ k, k < 3 ∧ ∃ e ∈ U k, e.txn = t ∧ v = np (e.blk, 0)

theorem LU.congr {w w' : World} {F F' : Nat → Prop} {R o J : Nat} {U : Nat → List Ent} (h : LU w F R o U J) (hR : ∀ j, o ≤ j → j < o + 17 → w'.cell? ⟨R, j, none⟩ = w.cell? ⟨R, j, none⟩)
    (hb : ∀ b, b < w.heap.size → F b → w'.heap[b]? = w.heap[b]?) (hF : ∀ b, b < w.heap.size → F b → F' b) : LU w' F' R o U J := by
  refine ⟨fun k hk => (h.ll k hk).congr (fun j hj => hR j (by omega) (by omega)) (fun e he => hb _ ((h.ll k hk).each e he).1.lt (h.foot k hk e he)), h.apart, fun k hk e he => hF _ ((h.ll k hk).each e he).1.lt (h.foot k hk e he), ?_, h.len, ?_⟩
  · rw [hR _ (by omega) (by omega)]
    exact h.joined
  · rw [hR (o + 15) (by omega) (by omega)]
    rcases h.map with h1 | ⟨mb, f, h1, h2, h3, h4⟩
    · exact Or.inl h1
    · exact Or.inr ⟨mb, f, h1, hF _ h3.lt h2, h3.kept (hb _ h3.lt h2), h4⟩

/-- Behind steps that turn none of its blocks. -/
theorem LU.kept {w w' : World} {F G : Nat → Prop} {R o J : Nat} {U : Nat → List Ent} (h : LU w F R o U J) (hm : Mod G w w') (hR : R < w.heap.size) (hG : ¬ G R) (hF : ∀ b, b < w.heap.size → F b → ¬ G b) : LU w' F R o U J :=
  h.congr (fun _ _ _ => hm.cell hR hG) (fun b hb hf => hm.block b hb (hF b hb hf)) (fun _ _ h => h)

@[go_sem] theorem as77 (v : Value) (w : World) : (Instr.typeAssert (.iface 77 v) 20 77 false).run Try.prog w = .ok v w := by kernel_rfl

/-- What get answers: the zero entry where txn has none. -/
def entA (k : Nat) (e : Ent) : Value := .agg #[.string e.txn, .int .u8 k, .int .u64 e.seq]

theorem get_none (w : World) {F : Nat → Prop} {R o J : Nat} {U : Nat → List Ent} (h : LU w F R o U J) (t : ByteArray) (ht : t.size ≤ maxLen) (hn : ∀ k, k < 3 → ∀ e ∈ U k, e.txn ≠ t) :
    Calls Try.prog 33 #[.pointer (some ⟨R, o, none⟩), .string t] w fun r w' => r = .returned (.tuple #[.agg #[.string ⟨#[]⟩, .int .u8 0, .int .u64 0], .bool false]) ∧ Mod (fun _ => False) w w' := by
  obtain ⟨m, c15, look⟩ : ∃ m, w.cell? ⟨R, o + 15, none⟩ = some (.map m) ∧ ∀ x : Obj, (Instr.lookup 71 (.map m) (.string t) true).run Try.prog (w.alloc x) = .ok (.tuple #[.pointer none, .bool false]) (w.alloc x) := by
    rcases h.map with ⟨h1, _⟩ | ⟨mb, f, h1, h2, h3, h4⟩
    · exact ⟨none, h1, fun x => (nil_look Try.underlying9 Try.underlying71 (zero64 _) ht).1⟩
    · refine ⟨some mb, h1, fun x => ?_⟩
      have := ((h3.kept (w' := w.alloc x) (Below.heap_alloc _ _ _ h3.lt)).look Try.underlying9 Try.underlying71 (zero64 _) ht).1
      have hf : f t = none := by
        cases hf : f t with
        | none => rfl
        | some v =>
          obtain ⟨k, hk, e, he, et, _⟩ := (h4 t v).1 hf
          exact absurd et (hn k hk e he)
      rw [hf] at this
      exact this
  have hR := cell_lt c15
  clear h hn
  go_enter Try.func33, Try.ntmps33
  go_wp2_with (first | (at_lookup; refine wpList_lookup_run _ rfl _ _ _ _ rfl _ (look _) ?_))
  refine bodyPost_ret (v := .tuple #[.agg #[.string ⟨#[]⟩, .int .u8 0, .int .u64 0], .bool false]) (by simp [results, Try.results33, go_sem]) rfl ⟨rfl, ?_⟩
  exact Mod.alloc _ _ _

theorem LU.find (w : World) {F : Nat → Prop} {R o J : Nat} {U : Nat → List Ent} (h : LU w F R o U J) {k : Nat} (hk : k < 3) {e : Ent} (he : e ∈ U k) :
    ∃ mb f, w.cell? ⟨R, o + 15, none⟩ = some (.map (some mb)) ∧ F mb ∧ SM w mb f ∧ f e.txn = some (np (e.blk, 0)) := by
  rcases h.map with ⟨_, h2⟩ | ⟨mb, f, h1, h2, h3, h4⟩
  · rw [h2 k hk] at he
    simp at he
  · exact ⟨mb, f, h1, h2, h3, (h4 _ _).2 ⟨k, hk, e, he, rfl, rfl⟩⟩

set_option maxRecDepth 8000 in
theorem get_some (w : World) {F : Nat → Prop} {R o J : Nat} {U : Nat → List Ent} (h : LU w F R o U J) {k : Nat} (hk : k < 3) {e : Ent} (he : e ∈ U k) (ht : e.txn.size ≤ maxLen) :
    Calls Try.prog 33 #[.pointer (some ⟨R, o, none⟩), .string e.txn] w fun r w' => r = .returned (.tuple #[entA k e, .bool true]) ∧ Mod (fun _ => False) w w' := by
  obtain ⟨mb, f, c15, h2, h3, h4⟩ := h.find w hk he
  have look : ∀ x : Obj, (Instr.lookup 71 (.map (some mb)) (.string e.txn) true).run Try.prog (w.alloc x) = .ok (.tuple #[.pointer (some ⟨e.blk, 0, none⟩), .bool true]) (w.alloc x) := fun x => by
    have := ((h3.kept (w' := w.alloc x) (Below.heap_alloc _ _ _ h3.lt)).look Try.underlying9 Try.underlying71 (zero64 _) ht).1
    rw [h4] at this
    exact this
  obtain ⟨eB, _, _, e3⟩ := (h.ll k hk).each e he
  have el := eB.lt
  have e3' : w.cell? ⟨e.blk, 3, none⟩ = some (.iface 77 (.agg #[.string e.txn, .int .u8 k, .int .u64 e.seq])) := e3
  have hR := cell_lt c15
  clear h h3 h4 eB e3
  go_enter Try.func33, Try.ntmps33
  go_wp2_with (first | (at_lookup; refine wpList_lookup_run _ rfl _ _ _ _ rfl _ (look _) ?_))
  refine bodyPost_ret (v := .tuple #[entA k e, .bool true]) (by simp [results, Try.results33, go_sem, entA]) rfl ⟨rfl, ?_⟩
  exact Mod.alloc _ _ _

theorem len_any (w : World) {F : Nat → Prop} {R o J : Nat} {U : Nat → List Ent} (h : LU w F R o U J) :
    Calls Try.prog 34 #[.pointer (some ⟨R, o, none⟩)] w fun r w' => ∃ n : Nat, r = .returned (.int .i64 n) ∧ w' = w ∧ (w.cell? ⟨R, o + 15, none⟩ = some (.map none) → n = 0) := by
  obtain ⟨m, n, c15, hlen, hn⟩ : ∃ m, ∃ n : Nat, w.cell? ⟨R, o + 15, none⟩ = some (.map m) ∧ (∀ ty, (Builtin.len_ #[71] ty #[.map m]).run Try.prog w = .ok (.int .i64 n) w) ∧ (m = none → n = 0) := by
    rcases h.map with ⟨h1, _⟩ | ⟨mb, f, h1, h2, h3, h4⟩
    · exact ⟨none, 0, h1, fun ty => by simp [Builtin.len_, run_underlying Try.underlying71]; rfl, fun _ => rfl⟩
    · obtain ⟨n, hn⟩ := h3.len Try.underlying71 0
      exact ⟨some mb, n, h1, fun _ => hn, fun e => by cases e⟩
  clear h
  go_enter Try.func34, Try.ntmps34
  go_wp2_with (first | (at_len; refine wpList_len_run _ rfl _ _ rfl _ (hlen _) ?_))
  go_ret
  refine ⟨n, rfl, rfl, fun hc => hn ?_⟩
  rw [c15] at hc
  simpa using hc

theorem compatible (m k : Nat) (w : World) : Calls Try.prog 47 #[.int .u8 m, .int .u8 k] w fun r w' => r = .returned (.bool (decide (m = 1 ∧ k = 1))) ∧ w' = w := by
  by_cases hm : m = 1
  · by_cases hk : k = 1
    · subst hm hk
      go_enter Try.func47, Try.ntmps47
      go_wp2
      go_ret
      exact ⟨rfl, rfl⟩
    · subst hm
      have h1 : ((k : Int) == 1) = false := by simp; omega
      go_enter Try.func47, Try.ntmps47
      go_wp2
      go_ret
      exact ⟨by simp [hk], rfl⟩
  · have h1 : ((m : Int) == 1) = false := by simp; omega
    go_enter Try.func47, Try.ntmps47
    go_wp2
    go_ret
    exact ⟨by simp [hm], rfl⟩

end Go.Proofs.Qxb6609223a
