/-
  The walk of remove, at a lineup of one entry.
-/
import Derived.Test.Qxb6609223aAdd
namespace Go.Proofs.Qxb6609223a
open Go.RowKit
open Go.Proofs.Qxb6609223a.Kit

@[go_sem] theorem fld77_0 (a b c : Value) (w : World) : (Instr.field 77 (.agg #[a, b, c]) 0).run Try.prog w = .ok a w := by kernel_rfl
@[go_sem] theorem fld77_1 (a b c : Value) (w : World) : (Instr.field 77 (.agg #[a, b, c]) 1).run Try.prog w = .ok b w := by kernel_rfl
@[go_sem] theorem fld77_2 (a b c : Value) (w : World) : (Instr.field 77 (.agg #[a, b, c]) 2).run Try.prog w = .ok c w := by kernel_rfl

theorem removed_LUs {w w2 w3 : World} {F : Nat → Prop} {R o J k0 mb : Nat} {U : Nat → List Ent} {e : Ent} {f : ByteArray → Option Value} (hR : Blk w R 75 34) (h : LU w F R o U J) (hk : k0 < 3) (h1 : U k0 = [e]) (h0 : ∀ k, k < 3 → k ≠ k0 → U k = [])
    (hl : LL w2 R (o + k0 * 5) k0 []) (hb2 : Blk w2 R 75 34) (hmod : Mod (fun b => b = R ∨ b = e.blk) w w2) (hc : ∀ j, ¬ (o + k0 * 5 ≤ j ∧ j ≤ o + k0 * 5 + 4) → w2.cell? ⟨R, j, none⟩ = w.cell? ⟨R, j, none⟩)
    (c15 : w.cell? ⟨R, o + 15, none⟩ = some (.map (some mb))) (hF : F mb) (s : SM w mb f) (hf : ∀ t v, f t = some v ↔ ∃ k, k < 3 ∧ ∃ e ∈ U k, e.txn = t ∧ v = np (e.blk, 0))
    (s3 : SM w3 mb (fun s' => if s' = e.txn then none else f s')) (hm3 : Mod (fun b => b = mb) w2 w3) : LUs w w3 F R o (fun _ => []) J := by
  have hRm : R ≠ mb := hR.ne_SM s
  have cR : ∀ j, w3.cell? ⟨R, j, none⟩ = w2.cell? ⟨R, j, none⟩ := fun j => hm3.cell hb2.lt hRm
  refine ⟨⟨fun k hk' => ?_, fun _ _ _ _ _ e he => by simp at he, fun _ _ e he => by simp at he, by rw [cR, hc _ (by omega)]; exact h.joined, fun _ _ => Nat.zero_le _, Or.inr ⟨mb, _, by rw [cR, hc _ (by omega)]; exact c15, Or.inl hF, s3, fun t v => ?_⟩⟩, hb2.kept (hm3.block _ hb2.lt hRm), ?_, fun j hj => by rw [cR, hc j (by omega)]⟩
  · by_cases ek : k = k0
    · subst ek
      exact hl.congr (fun j _ => cR j) (fun x hx => by simp at hx)
    · have := h.ll k hk'
      rw [h0 k hk' ek] at this
      exact this.congr (fun j hj => by rw [cR, hc j (by omega)]) (fun x hx => by simp at hx)
  · constructor
    · intro hv
      by_cases a : t = e.txn
      · simp [a] at hv
      · simp only [a, if_false] at hv
        obtain ⟨k, hk', x, hx, e1, _⟩ := (hf t v).1 hv
        by_cases ek : k = k0
        · subst ek
          rw [h1] at hx
          simp only [List.mem_singleton] at hx
          subst hx
          exact absurd e1.symm a
        · rw [h0 k hk' ek] at hx
          simp at hx
    · rintro ⟨k, _, x, hx, _⟩
      simp at hx
  · refine (hmod.mono (G := fun b => b = R ∨ F b) ?_).trans (G := fun b => b = mb) hm3 ?_
    · rintro i hi (rfl | rfl)
      · exact Or.inl rfl
      · exact Or.inr (h.foot k0 hk e (by rw [h1]; simp))
    · rintro i hi rfl
      exact Or.inr hF

set_option maxRecDepth 8000 in
set_option maxHeartbeats 2000000 in
theorem remove_LU (w : World) {F : Nat → Prop} {R o J k0 : Nat} {U : Nat → List Ent} {e : Ent} (hB : Blk w R 75 34) (ho : o + 16 < 34) (h : LU w F R o U J) (hk : k0 < 3) (h1 : U k0 = [e]) (h0 : ∀ k, k < 3 → k ≠ k0 → U k = []) (ht : e.txn.size ≤ maxLen) :
    Calls Try.prog 48 #[.pointer (some ⟨R, o, none⟩), .string e.txn] w fun r w' => r = .returned (.tuple #[]) ∧ LUs w w' F R o (fun _ => []) J := by
  have he : e ∈ U k0 := by rw [h1]; simp
  obtain ⟨mb, f, c15, hF, s, hf⟩ : ∃ mb f, w.cell? ⟨R, o + 15, none⟩ = some (.map (some mb)) ∧ F mb ∧ SM w mb f ∧ ∀ t v, f t = some v ↔ ∃ k, k < 3 ∧ ∃ e ∈ U k, e.txn = t ∧ v = np (e.blk, 0) := by
    rcases h.map with ⟨_, h2⟩ | h2
    · rw [h2 k0 hk] at he
      simp at he
    · exact h2
  have look : (Instr.lookup 71 (.map (some mb)) (.string e.txn) true).run Try.prog w = .ok (.tuple #[.pointer (some ⟨e.blk, 0, none⟩), .bool true]) w := by
    have := (s.look Try.underlying9 Try.underlying71 (zero64 _) ht).1
    rw [(hf _ _).2 ⟨k0, hk, e, he, rfl, rfl⟩] at this
    exact this
  obtain ⟨eB, _, _, e3⟩ := (h.ll k0 hk).each e he
  have e3' : w.cell? ⟨e.blk, 3, none⟩ = some (.iface 77 (.agg #[.string e.txn, .int .u8 k0, .int .u64 e.seq])) := e3
  have el := eB.lt
  have hR := hB.lt
  have HP : Hid (Calls Try.prog 58 #[.pointer (some ⟨R, o + k0 * 5, none⟩), .pointer (some ⟨e.blk, 0, none⟩)] w.drew fun r w2 => (∃ v, r = .returned v) ∧ w2.cell? ⟨R, o + 15, none⟩ = some (.map (some mb)) ∧
      ∃ w3, (∀ ty, (Builtin.delete_ #[71, 9] ty #[.map (some mb), .string e.txn]).run Try.prog w2 = .ok (.tuple #[]) w3) ∧ Hid (LUs w w3 F R o (fun _ => []) J)) := by
    refine (remove_LL R (o + k0 * 5) k0 e w.drew hB (by omega) (LL.congr (w := w) (by have := h.ll k0 hk; rw [h1] at this; exact this) (fun _ _ => rfl) (fun _ _ => rfl))).mono ?_
    rintro r w2 ⟨rfl, hl, hb2, hs, hmod, hc⟩
    have hmod' : Mod (fun b => b = R ∨ b = e.blk) w w2 := ⟨hmod.os, hmod.tape, hmod.output, hmod.size, hmod.block⟩
    have s2 : SM w2 mb f := s.kept (hmod'.block mb s.lt (by
      rintro (x | x)
      · exact hB.ne_SM s x.symm
      · exact eB.ne_SM s x.symm))
    obtain ⟨w3, r3, s3, m3⟩ := s2.delete (tk := 9) Try.underlying9 Try.underlying71 ht 0
    exact ⟨⟨_, rfl⟩, by rw [hc _ (by omega)]; exact c15, w3, fun _ => r3, removed_LUs hB h hk h1 h0 hl hb2 hmod' hc c15 hF s hf s3 m3⟩
  clear hB h he h1 h0 s hf eB e3
  go_enter Try.func48, Try.ntmps48
  go_wp2_with (first | (at_lookup; refine wpList_lookup_run _ rfl _ _ _ _ rfl _ look ?_))
  go_region_with (go_at_call 58; refine HP.out.mono ?_; rintro r w2 ⟨⟨v, rfl⟩, e15, w3, hrun, HF⟩)
  all_goals
    go_wp2_with (first | (at_delete; refine wpList_delete_run _ rfl _ _ _ _ rfl w3 (hrun _) ?_))
    go_end0
    exact ⟨rfl, HF.out⟩

end Go.Proofs.Qxb6609223a
