/-
  What Request does to the ghost state: the plain laws.
-/
import Derived.Test.Qxb6609223aGrant3
namespace Go.Proofs.Qxb6609223a
open Go.RowKit
open Go.Proofs.Qxb6609223a.Kit

def HoldsR (r : RS) (t : ByteArray) : Prop := ∃ k, k < 3 ∧ ∃ e ∈ r.H k, e.txn = t
def HoldsG (g : Gh) (n t : ByteArray) : Prop := ∃ r, g.res n = some r ∧ HoldsR r t

/-- A holder of a mode other than Shared is alone. -/
def Alone (H : Nat → List Ent) : Prop := (H 0 = [] ∧ H 2 = []) ∨ ∃ k e, k < 3 ∧ H k = [e] ∧ ∀ k', k' < 3 → k' ≠ k → H k' = []

structure Inv (g : Gh) : Prop where
  alone : ∀ n r, g.res n = some r → Alone r.H
  que : ∀ n r, g.res n = some r → ∀ k, k < 3 → ∀ e ∈ r.Q k, g.que e.txn ≠ none
  held : ∀ t v ns, g.held t = some (v, ns) → ∀ n ∈ ns, HoldsG g n t

structure Req (g g' : Gh) (n t : ByteArray) (m : Nat) (got : Bool) : Prop where
  inv : Inv g'
  yes : got = true → g'.que = g.que ∧ ∃ r, g'.res n = some r ∧ ∃ k, k < 3 ∧ ∃ e ∈ r.H k, e.txn = t ∧ (k = 2 ∨ k = m)
  no : got = false → g'.que t = some n ∧ ∀ t', t' ≠ t → g'.que t' = g.que t'
  here : g'.res n ≠ none
  there : ∀ n', n' ≠ n → g'.res n' = g.res n'
  keep : ∀ n' t', HoldsG g n' t' → HoldsG g' n' t'
  other : got = true → m ≠ 1 → ∀ t', HoldsG g n t' → t' = t
  fresh : g.res n = none → got = true

/-- Behind the making of the resource. -/
structure Pre (g g1 : Gh) (n : ByteArray) (r1 : RS) : Prop where
  res : g1.res n = some r1
  ways : g1 = g ∨ (g.res n = none ∧ g1 = g.setRes n r1 ∧ (∀ k, r1.H k = []) ∧ ∀ k, r1.Q k = [])

theorem Pre.holds {g g1 : Gh} {n : ByteArray} {r1 : RS} (h : Pre g g1 n r1) {n' t' : ByteArray} (k : HoldsG g n' t') : HoldsG g1 n' t' := by
  rcases h.ways with e | ⟨h1, e, _⟩
  · rw [e]; exact k
  · obtain ⟨r, hr, hh⟩ := k
    have hne : n' ≠ n := by
      rintro rfl
      rw [h1] at hr
      cases hr
    exact ⟨r, by rw [e]; simp [Gh.setRes, hne, hr], hh⟩

theorem Pre.there {g g1 : Gh} {n : ByteArray} {r1 : RS} (h : Pre g g1 n r1) {n' : ByteArray} (hne : n' ≠ n) : g1.res n' = g.res n' := by
  rcases h.ways with e | ⟨_, e, _⟩
  · rw [e]
  · rw [e]; simp [Gh.setRes, hne]

theorem Pre.que {g g1 : Gh} {n : ByteArray} {r1 : RS} (h : Pre g g1 n r1) : g1.que = g.que := by
  rcases h.ways with e | ⟨_, e, _⟩ <;> rw [e] <;> rfl

theorem Pre.held {g g1 : Gh} {n : ByteArray} {r1 : RS} (h : Pre g g1 n r1) : g1.held = g.held := by
  rcases h.ways with e | ⟨_, e, _⟩ <;> rw [e] <;> rfl

theorem Pre.inv {g g1 : Gh} {n : ByteArray} {r1 : RS} (h : Pre g g1 n r1) (k : Inv g) : Inv g1 := by
  refine ⟨fun n' r hr => ?_, fun n' r hr => ?_, fun t v ns ht n' hn' => h.holds (k.held t v ns (by rw [← h.held]; exact ht) n' hn')⟩
  · by_cases e : n' = n
    · subst e
      rcases h.ways with e | ⟨_, _, hH, _⟩
      · rw [e] at hr
        exact k.alone n' r hr
      · rw [h.res] at hr
        cases hr
        exact Or.inl ⟨hH 0, hH 2⟩
    · rw [h.there e] at hr
      exact k.alone n' r hr
  · rw [h.que]
    by_cases e : n' = n
    · subst e
      rcases h.ways with e | ⟨_, _, _, hQ⟩
      · rw [e] at hr
        exact k.que n' r hr
      · rw [h.res] at hr
        cases hr
        intro k' _ e he
        rw [hQ k'] at he
        simp at he
    · rw [h.there e] at hr
      exact k.que n' r hr

theorem holds_res {g1 : Gh} {n : ByteArray} {r1 : RS} (h : g1.res n = some r1) {t : ByteArray} : HoldsG g1 n t ↔ HoldsR r1 t := by
  constructor
  · rintro ⟨r, hr, hh⟩
    rw [h] at hr
    cases hr
    exact hh
  · exact fun hh => ⟨r1, h, hh⟩

/-- The request is queued. -/
theorem Req.queued {g g1 : Gh} {n t : ByteArray} {r1 : RS} {m : Nat} (p : Pre g g1 n r1) (hi : Inv g) (hf : g.res n ≠ none) (x J : Nat) :
    Req g ((g1.setRes n { r1 with Q := fun k => if k = m then r1.Q m ++ [⟨x, t, J⟩] else r1.Q k, JQ := J }).setQue t n) n t m false := by
  have i1 := p.inv hi
  have hk : ∀ n' t', HoldsG g1 n' t' → HoldsG ((g1.setRes n { r1 with Q := fun k => if k = m then r1.Q m ++ [⟨x, t, J⟩] else r1.Q k, JQ := J }).setQue t n) n' t' := by
    rintro n' t' ⟨r, hr, hh⟩
    by_cases e : n' = n
    · subst e
      rw [p.res] at hr
      cases hr
      exact ⟨{ r1 with Q := fun k => if k = m then r1.Q m ++ [⟨x, t, J⟩] else r1.Q k, JQ := J }, by simp [Gh.setRes, Gh.setQue], hh⟩
    · exact ⟨r, by simp [Gh.setRes, Gh.setQue, e, hr], hh⟩
  refine ⟨⟨fun n' r hr => ?_, fun n' r hr => ?_, fun t' v ns ht n' hn' => hk n' t' (i1.held t' v ns ht n' hn')⟩, (fun h => by cases h), fun _ => ⟨by simp [Gh.setQue], fun t' hne => by simp [Gh.setQue, hne, Gh.setRes, p.que]⟩, by simp [Gh.setRes, Gh.setQue], fun n' hne => by simp [Gh.setRes, Gh.setQue, hne, p.there hne], fun n' t' hh => hk n' t' (p.holds hh), (fun h => by cases h), fun h => absurd h hf⟩
  · by_cases e : n' = n
    · subst e
      simp only [Gh.setRes, Gh.setQue, if_true, Option.some.injEq] at hr
      subst hr
      exact i1.alone n' r1 p.res
    · simp only [Gh.setRes, Gh.setQue, e, if_false] at hr
      exact i1.alone n' r hr
  · intro k hk' e he
    by_cases et : e.txn = t
    · simp [Gh.setQue, et]
    · simp only [Gh.setQue, Gh.setRes, et, if_false]
      by_cases en : n' = n
      · subst en
        simp only [Gh.setRes, Gh.setQue, if_true, Option.some.injEq] at hr
        subst hr
        by_cases km : k = m
        · subst km
          simp only [if_true] at he
          rcases List.mem_append.1 he with he | he
          · exact i1.que n' r1 p.res k hk' e he
          · simp only [List.mem_singleton] at he
            subst he
            exact absurd rfl et
        · simp only [km, if_false] at he
          exact i1.que n' r1 p.res k hk' e he
      · simp only [Gh.setRes, Gh.setQue, en, if_false] at hr
        exact i1.que n' r hr k hk' e he

/-- The lock is granted to one who held none. -/
theorem Req.newly {g g1 : Gh} {n t : ByteArray} {r1 : RS} {m : Nat} (p : Pre g g1 n r1) (hi : Inv g) (hm : m < 3) (ha : admB r1.H false 0 m = true) (v' : Value) (x J : Nat) :
    Req g ((g1.setHeld t v' ((g1.heldOf t).2 ++ [n])).setRes n { r1 with H := fun k => if k = m then r1.H m ++ [⟨x, t, J⟩] else r1.H k, JH := J }) n t m true := by
  have i1 := p.inv hi
  have hc : ∀ k, k < 3 → ¬ (m = 1 ∧ k = 1) → r1.H k = [] := fun k hk h => by
    rcases admB_yes.1 ha k hk with h1 | h1
    · simp only [cntOf, Bool.false_eq_true, false_and, if_false] at h1
      exact List.eq_nil_of_length_eq_zero (by omega)
    · exact absurd h1 h
  have hk : ∀ n' t', HoldsG g1 n' t' → HoldsG ((g1.setHeld t v' ((g1.heldOf t).2 ++ [n])).setRes n { r1 with H := fun k => if k = m then r1.H m ++ [⟨x, t, J⟩] else r1.H k, JH := J }) n' t' := by
    rintro n' t' ⟨r, hr, hh⟩
    by_cases e : n' = n
    · subst e
      rw [p.res] at hr
      cases hr
      refine ⟨{ r1 with H := fun k => if k = m then r1.H m ++ [⟨x, t, J⟩] else r1.H k, JH := J }, by simp [Gh.setRes], ?_⟩
      obtain ⟨k, hk, e, he, et⟩ := hh
      refine ⟨k, hk, e, ?_, et⟩
      by_cases km : k = m
      · subst km; simp [he]
      · simp [km, he]
    · exact ⟨r, by simp [Gh.setRes, Gh.setHeld, e, hr], hh⟩
  have hnew : HoldsG ((g1.setHeld t v' ((g1.heldOf t).2 ++ [n])).setRes n { r1 with H := fun k => if k = m then r1.H m ++ [⟨x, t, J⟩] else r1.H k, JH := J }) n t :=
    ⟨_, by simp [Gh.setRes]; rfl, m, hm, ⟨x, t, J⟩, by simp, rfl⟩
  refine ⟨⟨fun n' r hr => ?_, fun n' r hr => ?_, fun t' v ns ht n' hn' => ?_⟩, fun _ => ⟨p.que, _, by simp [Gh.setRes]; rfl, m, hm, ⟨x, t, J⟩, by simp, rfl, Or.inr rfl⟩, (fun h => by cases h), by simp [Gh.setRes], fun n' hne => by simp [Gh.setRes, Gh.setHeld, hne, p.there hne], fun n' t' hh => hk n' t' (p.holds hh), fun _ m1 t' hh => ?_, fun _ => rfl⟩
  · by_cases e : n' = n
    · subst e
      simp only [Gh.setRes, if_true, Option.some.injEq] at hr
      subst hr
      by_cases m1 : m = 1
      · subst m1
        refine Or.inl ⟨?_, ?_⟩
        · simp [hc 0 (by omega) (by simp)]
        · simp [hc 2 (by omega) (by simp)]
      · refine Or.inr ⟨m, ⟨x, t, J⟩, hm, by simp [hc m hm (by simp [m1])], fun k' hk' hne => by simp [hne, hc k' hk' (by simp [m1])]⟩
    · simp only [Gh.setRes, Gh.setHeld, e, if_false] at hr
      exact i1.alone n' r hr
  · by_cases e : n' = n
    · subst e
      simp only [Gh.setRes, if_true, Option.some.injEq] at hr
      subst hr
      exact i1.que n' r1 p.res
    · simp only [Gh.setRes, Gh.setHeld, e, if_false] at hr
      exact i1.que n' r hr
  · by_cases e : t' = t
    · subst e
      simp only [Gh.setRes, Gh.setHeld, if_true, Option.some.injEq, Prod.mk.injEq] at ht
      obtain ⟨rfl, rfl⟩ := ht
      rcases List.mem_append.1 hn' with hn' | hn'
      · refine hk n' t' ?_
        unfold Gh.heldOf at hn'
        cases hq : g1.held t' with
        | none => rw [hq] at hn'; simp at hn'
        | some y => rw [hq] at hn'; exact i1.held t' y.1 y.2 hq n' hn'
      · simp only [List.mem_singleton] at hn'
        subst hn'
        exact hnew
    · simp only [Gh.setRes, Gh.setHeld, e, if_false] at ht
      exact hk n' t' (i1.held t' v ns ht n' hn')
  · obtain ⟨k, hk', e, he, _⟩ := (holds_res p.res).1 (p.holds hh)
    rw [hc k hk' (by simp [m1])] at he
    simp at he

/-- One who holds, and to whom another mode is granted, is the one holder. -/
theorem sole {H : Nat → List Ent} {k m : Nat} {e : Ent} (ha : Alone H) (hk : k < 3) (he : e ∈ H k) (hm : k ≠ m) (hadm : admB H true k m = true) : H k = [e] ∧ ∀ k', k' < 3 → k' ≠ k → H k' = [] := by
  by_cases m1 : m = 1
  · rcases ha with ⟨h0, h2⟩ | ⟨k1, e1, hk1, h1, h0⟩
    · obtain rfl | rfl : k = 0 ∨ k = 2 := by omega
      · rw [h0] at he; simp at he
      · rw [h2] at he; simp at he
    · have : k = k1 := Classical.byContradiction fun c => by
        rw [h0 k hk c] at he
        simp at he
      subst this
      rw [h1] at he
      simp only [List.mem_singleton] at he
      subst he
      exact ⟨h1, h0⟩
  · have hc := fun k' hk' => (admB_yes.1 hadm k' hk').resolve_right (fun c => m1 c.1)
    refine ⟨?_, fun k' hk' hne => ?_⟩
    · have := hc k hk
      simp only [cntOf, true_and, if_true] at this
      cases hl : H k with
      | nil => rw [hl] at he; simp at he
      | cons a l =>
        rw [hl] at this he
        simp only [List.length_cons] at this
        have : l = [] := List.eq_nil_of_length_eq_zero (by omega)
        subst this
        simp only [List.mem_singleton] at he
        rw [he]
    · have := hc k' hk'
      have hne' : ¬ k = k' := Ne.symm hne
      simp only [cntOf, true_and, hne', if_false] at this
      exact List.eq_nil_of_length_eq_zero (by omega)

/-- The lock is raised. -/
theorem Req.raised {g g1 : Gh} {n : ByteArray} {r1 : RS} {m k : Nat} {e : Ent} (p : Pre g g1 n r1) (hi : Inv g) (hm : m < 3) (hk : k < 3) (h1 : r1.H k = [e]) (h0 : ∀ k', k' < 3 → k' ≠ k → r1.H k' = []) (x J : Nat) :
    Req g (g1.setRes n { r1 with H := fun k => if k = m then [⟨x, e.txn, J⟩] else [], JH := J }) n e.txn m true := by
  have i1 := p.inv hi
  have only : ∀ t', HoldsG g1 n t' → t' = e.txn := fun t' hh => by
    obtain ⟨k', hk', e', he', rfl⟩ := (holds_res p.res).1 hh
    by_cases ek : k' = k
    · subst ek
      rw [h1] at he'
      simp only [List.mem_singleton] at he'
      rw [he']
    · rw [h0 k' hk' ek] at he'
      simp at he'
  have hkp : ∀ n' t', HoldsG g1 n' t' → HoldsG (g1.setRes n { r1 with H := fun k => if k = m then [⟨x, e.txn, J⟩] else [], JH := J }) n' t' := by
    intro n' t' hh
    by_cases en : n' = n
    · subst en
      rw [only t' hh]
      exact ⟨_, by simp [Gh.setRes]; rfl, m, hm, ⟨x, e.txn, J⟩, by simp, rfl⟩
    · obtain ⟨r, hr, hh⟩ := hh
      exact ⟨r, by simp [Gh.setRes, en, hr], hh⟩
  refine ⟨⟨fun n' r hr => ?_, fun n' r hr => ?_, fun t' v ns ht n' hn' => hkp n' t' (i1.held t' v ns ht n' hn')⟩, fun _ => ⟨p.que, _, by simp [Gh.setRes]; rfl, m, hm, ⟨x, e.txn, J⟩, by simp, rfl, Or.inr rfl⟩, (fun h => by cases h), by simp [Gh.setRes], fun n' hne => by simp [Gh.setRes, hne, p.there hne], fun n' t' hh => hkp n' t' (p.holds hh), fun _ _ t' hh => only t' (p.holds hh), fun _ => rfl⟩
  · by_cases en : n' = n
    · subst en
      simp only [Gh.setRes, if_true, Option.some.injEq] at hr
      subst hr
      exact Or.inr ⟨m, ⟨x, e.txn, J⟩, hm, by simp, fun k' _ hne => by simp [hne]⟩
    · simp only [Gh.setRes, en, if_false] at hr
      exact i1.alone n' r hr
  · by_cases en : n' = n
    · subst en
      simp only [Gh.setRes, if_true, Option.some.injEq] at hr
      subst hr
      exact i1.que n' r1 p.res
    · simp only [Gh.setRes, en, if_false] at hr
      exact i1.que n' r hr

/-- The lock that is held serves. -/
theorem Req.serves {g g1 : Gh} {n : ByteArray} {r1 : RS} {m k : Nat} {e : Ent} (p : Pre g g1 n r1) (hi : Inv g) (hk : k < 3) (he : e ∈ r1.H k) (hq : k = 2 ∨ k = m) : Req g g1 n e.txn m true := by
  have i1 := p.inv hi
  refine ⟨i1, fun _ => ⟨p.que, r1, p.res, k, hk, e, he, rfl, hq⟩, (fun h => by cases h), by rw [p.res]; simp, fun n' hne => p.there hne, fun n' t' hh => p.holds hh, fun _ m1 t' hh => ?_, fun _ => rfl⟩
  obtain ⟨k', hk', e', he', rfl⟩ := (holds_res p.res).1 (p.holds hh)
  have k1 : k ≠ 1 := by omega
  rcases i1.alone n r1 p.res with ⟨a0, a2⟩ | ⟨k2, e2, hk2, a1, a0⟩
  · obtain rfl | rfl : k = 0 ∨ k = 2 := by omega
    · rw [a0] at he; simp at he
    · rw [a2] at he; simp at he
  · have f : ∀ k'' e'', k'' < 3 → e'' ∈ r1.H k'' → e'' = e2 := fun k'' e'' hk'' he'' => by
      by_cases c : k'' = k2
      · subst c
        rw [a1] at he''
        simpa using he''
      · rw [a0 k'' hk'' c] at he''
        simp at he''
    rw [f k' e' hk' he', f k e hk he]

end Go.Proofs.Qxb6609223a
