/-
  The walk of add.
-/
import Derived.Test.Qxb6609223aAdmits
import Derived.WalkSpells
import Derived.Deep.DeepCutAuto
namespace Go.Proofs.Qxb6609223a
open Go.RowKit
open Go.Proofs.Qxb6609223a.Kit

/-- A lineup behind steps of its own: what turned, what stands. -/
structure LUs (w w' : World) (F : Nat → Prop) (R o : Nat) (U : Nat → List Ent) (J : Nat) : Prop where
  lu : LU w' (fun b => F b ∨ w.heap.size ≤ b) R o U J
  blk : Blk w' R 75 34
  mod : Mod (fun b => b = R ∨ F b) w w'
  cells : ∀ j, ¬ (o ≤ j ∧ j < o + 17) → w'.cell? ⟨R, j, none⟩ = w.cell? ⟨R, j, none⟩

theorem eql71 (w : World) (r : Option Nat) : (binOp .eql 71 (.map r) (.map none)).run Try.prog w = .ok (.bool r.isNone) w := run_eql_map_nil w _ _ _ r Try.underlying71

theorem make71 (w : World) : (Instr.makeMap 71 none).run Try.prog w = .ok (.map (some w.heap.size)) (w.alloc (.map #[] 0)) := run_makeMap 71 w

/-- The world with a new map in the lineup. -/
def mapped (w : World) (R o : Nat) : World := (w.setCell ⟨R, o + 15, none⟩ (.map (some w.heap.size))).alloc (.map #[] 0)

theorem mapped_LUs {w : World} {F : Nat → Prop} {R o J : Nat} {U : Nat → List Ent} (hB : Blk w R 75 34) (ho : o + 16 < 34) (h : LU w F R o U J) (hU : ∀ k, k < 3 → U k = []) :
    LUs w (mapped w R o) F R o U J ∧ (mapped w R o).cell? ⟨R, o + 15, none⟩ = some (.map (some w.heap.size)) := by
  have hR := hB.lt
  obtain ⟨u, hu⟩ := hB.some (o := o + 15) (by omega)
  have al : ∀ j, (mapped w R o).cell? ⟨R, j, none⟩ = (w.setCell ⟨R, o + 15, none⟩ (.map (some w.heap.size))).cell? ⟨R, j, none⟩ := fun j => by
    unfold mapped
    rw [World.cell?_of_block (a := ⟨R, j, none⟩) (Below.heap_alloc _ _ R (by simp [World.setCell]; exact hR))]
  have c15 : (mapped w R o).cell? ⟨R, o + 15, none⟩ = some (.map (some w.heap.size)) := by
    rw [al]
    exact cell_set_same _ _ hu
  have ce : ∀ j, j ≠ o + 15 → (mapped w R o).cell? ⟨R, j, none⟩ = w.cell? ⟨R, j, none⟩ := fun j hj => by
    rw [al, cell_set_ne _ _ _ (fun c => hj c.2)]
  have mod : Mod (fun b => b = R ∨ F b) w (mapped w R o) := (Mod.setCell (F := fun b => b = R ∨ F b) w ⟨R, o + 15, none⟩ _ (Or.inl rfl)).trans (Mod.alloc (fun b => b = R ∨ F b) _ _) (fun _ _ h => h)
  refine ⟨⟨⟨fun k hk => ?_, h.apart, fun k hk e he => Or.inl (h.foot k hk e he), by rw [ce _ (by omega)]; exact h.joined, h.len, Or.inr ⟨w.heap.size, fun _ => none, c15, Or.inr (Nat.le_refl _), ?_, ?_⟩⟩, ?_, mod, fun j hj => ce j (by omega)⟩, c15⟩
  · refine (h.ll k hk).congr (fun j hj => ce j (by omega)) (fun e he => ?_)
    rw [hU k hk] at he
    simp at he
  · refine ⟨#[], 0, ?_, by simp, by simp, by simp⟩
    exact alloc_at (by simp [World.setCell]) _
  · intro t v
    constructor
    · intro h; cases h
    · rintro ⟨k, hk, e, he, _⟩
      rw [hU k hk] at he
      simp at he
  · have b := hB.setCell ⟨R, o + 15, none⟩ (.map (some w.heap.size))
    exact b.kept (Below.heap_alloc _ _ _ b.lt)

theorem LUs.refl {w : World} {F : Nat → Prop} {R o J : Nat} {U : Nat → List Ent} (hB : Blk w R 75 34) (h : LU w F R o U J) : LUs w w F R o U J :=
  ⟨h.congr (fun _ _ _ => rfl) (fun _ _ _ => rfl) (fun _ _ h => Or.inl h), hB, Mod.refl _ _, fun _ _ => rfl⟩

theorem Blk.ne_SM {w : World} {b b' n : Nat} {t : TypeId} {f : ByteArray → Option Value} (h : Blk w b t n) (k : SM w b' f) : b ≠ b' := by
  rintro rfl
  obtain ⟨c, h1, _⟩ := h
  obtain ⟨es, cl, h2, _⟩ := k
  rw [h1] at h2
  cases h2

/-- joined++. -/
theorem LUs.bump {w wc : World} {F : Nat → Prop} {R o J : Nat} {U : Nat → List Ent} (h : LUs w wc F R o U J) (ho : o + 16 < 34) (hF : ¬ F R) (hR : R < w.heap.size) : LUs w (wc.setCell ⟨R, o + 16, none⟩ (.int .u64 (J + 1 : Nat))) F R o U (J + 1) := by
  obtain ⟨u, hu⟩ := h.blk.some (o := o + 16) (by omega)
  have ce : ∀ j, j ≠ o + 16 → (wc.setCell ⟨R, o + 16, none⟩ (.int .u64 (J + 1 : Nat))).cell? ⟨R, j, none⟩ = wc.cell? ⟨R, j, none⟩ := fun j hj => cell_set_ne _ _ _ (fun c => hj c.2)
  have hb : ∀ b, F b ∨ w.heap.size ≤ b → (wc.setCell ⟨R, o + 16, none⟩ (.int .u64 (J + 1 : Nat))).heap[b]? = wc.heap[b]? := fun b hb => Below.heap_setCell _ _ _ _ (fun e => by
    change b = R at e
    subst e
    rcases hb with hb | hb
    · exact hF hb
    · omega)
  refine ⟨⟨fun k hk => (h.lu.ll k hk).congr (fun j hj => ce j (by omega)) (fun e he => hb _ (h.lu.foot k hk e he)), h.lu.apart, h.lu.foot, cell_set_same _ _ hu, fun k hk => Nat.le_succ_of_le (h.lu.len k hk), ?_⟩, h.blk.setCell _ _, h.mod.trans (Mod.setCell (F := fun b => b = R) _ ⟨R, o + 16, none⟩ _ rfl) (fun _ _ e => Or.inl e), fun j hj => by rw [ce j (by omega)]; exact h.cells j hj⟩
  rw [ce (o + 15) (by omega)]
  rcases h.lu.map with h1 | ⟨mb, f, h1, h2, h3, h4⟩
  · exact Or.inl h1
  · exact Or.inr ⟨mb, f, h1, h2, h3.kept (hb _ h2), h4⟩

theorem LUs.added {w wd w2 : World} {F : Nat → Prop} {R o J m mb : Nat} {U : Nat → List Ent} {t : ByteArray} (h : LUs w wd F R o U (J + 1)) (hU : ∀ k, k < 3 → (U k).length ≤ J) (hm : m < 3) (hn : ∀ k, k < 3 → ∀ e ∈ U k, e.txn ≠ t)
    (hl : LL w2 R (o + m * 5) m (U m ++ [⟨wd.heap.size, t, J + 1⟩])) (hb2 : Blk w2 R 75 34) (hs : w2.heap.size = wd.heap.size + 1) (hmod : Mod (fun b => b = R ∨ ∃ e ∈ U m, e.blk = b) wd w2)
    (hc : ∀ j, ¬ (o + m * 5 ≤ j ∧ j ≤ o + m * 5 + 4) → w2.cell? ⟨R, j, none⟩ = wd.cell? ⟨R, j, none⟩) (c15 : wd.cell? ⟨R, o + 15, none⟩ = some (.map (some mb))) :
    ∃ f, SM w2 mb f ∧ ∀ w3, SM w3 mb (fun s => if s = t then some (np (wd.heap.size, 0)) else f s) → Mod (fun b => b = mb) w2 w3 → LUs w w3 F R o (fun k => if k = m then U m ++ [⟨wd.heap.size, t, J + 1⟩] else U k) (J + 1) := by
  obtain ⟨f, h2, h3, h4⟩ : ∃ f, (F mb ∨ w.heap.size ≤ mb) ∧ SM wd mb f ∧ ∀ t v, f t = some v ↔ ∃ k, k < 3 ∧ ∃ e ∈ U k, e.txn = t ∧ v = np (e.blk, 0) := by
    rcases h.lu.map with ⟨h1, _⟩ | ⟨mb', f, h1, h2, h3, h4⟩
    · rw [h1] at c15
      cases c15
    · rw [h1] at c15
      cases c15
      exact ⟨f, h2, h3, h4⟩
  have hRm : R ≠ mb := h.blk.ne_SM h3
  have hem : ∀ k, k < 3 → ∀ e ∈ U k, e.blk ≠ mb := fun k hk e he => ((h.lu.ll k hk).each e he).1.ne_SM h3
  have hlt : ∀ k, k < 3 → ∀ e ∈ U k, e.blk < wd.heap.size := fun k hk e he => ((h.lu.ll k hk).each e he).1.lt
  have s2 : SM w2 mb f := h3.kept (hmod.block mb h3.lt (by
    rintro (e | ⟨e, he, e2⟩)
    · exact hRm e.symm
    · exact hem m hm e he e2))
  refine ⟨f, s2, fun w3 s3 hm3 => ?_⟩
  have hwd : w.heap.size ≤ wd.heap.size := h.mod.size
  have cR : ∀ j, w3.cell? ⟨R, j, none⟩ = w2.cell? ⟨R, j, none⟩ := fun j => hm3.cell hb2.lt hRm
  refine ⟨⟨fun k hk => ?_, ?_, ?_, ?_, ?_, ?_⟩, hb2.kept (hm3.block _ hb2.lt hRm), ?_, ?_⟩
  · by_cases e : k = m
    · subst e
      simp only [if_true]
      refine hl.congr (fun j _ => cR j) (fun e he => hm3.block _ (hl.each e he).1.lt ?_)
      rcases List.mem_append.1 he with he | he
      · exact hem k hk e he
      · simp only [List.mem_singleton] at he
        subst he
        have := h3.lt
        simp only
        omega
    · simp only [e, if_false]
      refine (h.lu.ll k hk).congr (fun j hj => by rw [cR, hc j (by omega)]) (fun x hx => ?_)
      have lx := hlt k hk x hx
      rw [hm3.block _ (by omega) (hem k hk x hx)]
      refine hmod.block _ lx ?_
      rintro (e2 | ⟨y, hy, e2⟩)
      · exact ((h.lu.ll k hk).each x hx).2.1 e2
      · exact h.lu.apart m k hm hk (Ne.symm e) y hy x hx e2
  · intro k k' hk hk' hkk e he e' he'
    by_cases a : k = m
    · subst a
      have b : ¬ k' = k := Ne.symm hkk
      simp only [if_true] at he
      simp only [b, if_false] at he'
      rcases List.mem_append.1 he with he | he
      · exact h.lu.apart k k' hk hk' hkk e he e' he'
      · simp only [List.mem_singleton] at he
        subst he
        have := hlt k' hk' e' he'
        simp only
        omega
    · simp only [a, if_false] at he
      by_cases b : k' = m
      · subst b
        simp only [if_true] at he'
        rcases List.mem_append.1 he' with he' | he'
        · exact h.lu.apart k k' hk hk' hkk e he e' he'
        · simp only [List.mem_singleton] at he'
          subst he'
          have := hlt k hk e he
          simp only
          omega
      · simp only [b, if_false] at he'
        exact h.lu.apart k k' hk hk' hkk e he e' he'
  · intro k hk e he
    by_cases a : k = m
    · subst a
      simp only [if_true] at he
      rcases List.mem_append.1 he with he | he
      · exact h.lu.foot k hk e he
      · simp only [List.mem_singleton] at he
        subst he
        exact Or.inr hwd
    · simp only [a, if_false] at he
      exact h.lu.foot k hk e he
  · rw [cR, hc _ (by omega)]
    exact h.lu.joined
  · intro k hk
    by_cases a : k = m
    · simp only [a, if_true, List.length_append, List.length_singleton]
      have := hU m hm
      omega
    · simp only [a, if_false]
      have := hU k hk
      omega
  · refine Or.inr ⟨mb, _, by rw [cR, hc _ (by omega)]; exact c15, h2, s3, fun s v => ?_⟩
    by_cases a : s = t
    · subst a
      simp only [if_true, Option.some.injEq]
      constructor
      · rintro rfl
        exact ⟨m, hm, ⟨wd.heap.size, s, J + 1⟩, by simp, rfl, rfl⟩
      · rintro ⟨k, hk, e, he, e1, rfl⟩
        by_cases b : k = m
        · subst b
          simp only [if_true] at he
          rcases List.mem_append.1 he with he | he
          · exact absurd e1 (hn k hk e he)
          · simp only [List.mem_singleton] at he
            subst he
            rfl
        · simp only [b, if_false] at he
          exact absurd e1 (hn k hk e he)
    · simp only [a, if_false]
      rw [h4]
      constructor
      · rintro ⟨k, hk, e, he, e1, e2⟩
        refine ⟨k, hk, e, ?_, e1, e2⟩
        by_cases b : k = m
        · subst b
          simp [he]
        · simp only [b, if_false]
          exact he
      · rintro ⟨k, hk, e, he, e1, e2⟩
        refine ⟨k, hk, e, ?_, e1, e2⟩
        by_cases b : k = m
        · subst b
          simp only [if_true] at he
          rcases List.mem_append.1 he with he | he
          · exact he
          · simp only [List.mem_singleton] at he
            subst he
            exact absurd e1.symm a
        · simp only [b, if_false] at he
          exact he
  · refine (h.mod.trans (G := fun b => b = R ∨ ∃ e ∈ U m, e.blk = b) hmod ?_).trans (G := fun b => b = mb) hm3 ?_
    · rintro i hi (rfl | ⟨e, he, rfl⟩)
      · exact Or.inl rfl
      · rcases h.lu.foot m hm e he with hf | hf
        · exact Or.inr hf
        · omega
    · rintro i hi rfl
      rcases h2 with hf | hf
      · exact Or.inr hf
      · omega
  · intro j hj
    rw [cR, hc j (by omega)]
    exact h.cells j hj

set_option maxRecDepth 8000 in
set_option maxHeartbeats 2000000 in
theorem add_LU (w : World) {F : Nat → Prop} {R o J m : Nat} {U : Nat → List Ent} (hB : Blk w R 75 34) (ho : o + 16 < 34) (h : LU w F R o U J) (hF : ¬ F R) (hm : m < 3) (t : ByteArray) (ht : t.size ≤ maxLen) (hJ : J ≤ 1000000)
    (hn : ∀ k, k < 3 → ∀ e ∈ U k, e.txn ≠ t) :
    Calls Try.prog 37 #[.pointer (some ⟨R, o, none⟩), .string t, .int .u8 m] w fun r w' => r = .returned (.tuple #[]) ∧
      ∃ x, w.heap.size ≤ x ∧ LUs w w' F R o (fun k => if k = m then U m ++ [⟨x, t, J + 1⟩] else U k) (J + 1) := by
  have HB := hide hB
  have H := hide h
  have hR := hB.lt
  have f15 := hB.frozen (o + 15)
  have q71 := eql71
  have mk71 := make71
  obtain ⟨mm, c15, HE⟩ : ∃ mm, w.cell? ⟨R, o + 15, none⟩ = some (.map mm) ∧ Hid (mm = none → ∀ k, k < 3 → U k = []) := by
    rcases h.map with ⟨h1, h2⟩ | ⟨mb, f, h1, _⟩
    · exact ⟨none, h1, fun _ => h2⟩
    · exact ⟨some mb, h1, fun e => by cases e⟩
  clear hB h
  go_enter Try.func37, Try.ntmps37
  go_upto_if 10 with fail
  go_cut [] from 6 to 14 (fun wx => Hid (LUs w wx F R o U J ∧ ∃ mb, wx.cell? ⟨R, o + 15, none⟩ = some (.map (some mb))))
  case first =>
    cases mm
    · go_wp2
      go_meet
      exact ⟨(mapped_LUs HB.out ho H.out (HE.out (by trivial))).1, _, (mapped_LUs HB.out ho H.out (HE.out (by trivial))).2⟩
    · go_wp2
      go_meet
      exact ⟨LUs.refl HB.out H.out, _, c15⟩
  case rest =>
    clear c15 f15 HE
    obtain ⟨hL, mb, c15⟩ := hcut.out
    have hR1 := hL.blk.lt
    have c16 := hL.lu.joined
    have f16 := hL.blk.frozen (o + 16)
    have HD := hide (hL.bump ho hF hR)
    have HLen := hide hL.lu.len
    clear hL
    go_upto_region 3 with fail
    obtain ⟨wd, HWD⟩ : ∃ wd, Hid (wd = wc.setCell ⟨R, o + 16, none⟩ (.int .u64 (J + 1 : Nat))) := ⟨_, rfl⟩
    have e1 : wc.setCell ⟨R, o + 16, none⟩ (.int .u64 ((J : Int) + 1)) = wd := HWD.out.symm
    rw [e1]
    rw [← HWD.out] at HD
    have d15 : wd.cell? ⟨R, o + 15, none⟩ = some (.map (some mb)) := by
      rw [HWD.out, cell_set_ne _ _ _ (by simp)]
      exact c15
    clear e1 HWD c15 c16 f16 hR1 hcut
    have d16 := HD.out.lu.joined
    have HP : Hid (Calls Try.prog 49 #[.pointer (some ⟨R, o + m * 5, none⟩), .iface 77 (.agg #[.string t, .int .u8 m, .int .u64 ((J : Int) + 1)])] wd.drew fun r w2 => r = .returned (.pointer (some ⟨wd.heap.size, 0, none⟩)) ∧
        w2.cell? ⟨R, o + 15, none⟩ = some (.map (some mb)) ∧ ∃ w3, (Instr.mapUpdate 71 (.map (some mb)) (.string t) (.pointer (some ⟨wd.heap.size, 0, none⟩))).run Try.prog w2 = .ok () w3 ∧
        Hid (∃ x, w.heap.size ≤ x ∧ LUs w w3 F R o (fun k => if k = m then U m ++ [⟨x, t, J + 1⟩] else U k) (J + 1))) := by
      refine (push_LL R (o + m * 5) m (U m) t (J + 1) wd.drew HD.out.blk (by omega) (LL.congr (HD.out.lu.ll m hm) (fun _ _ => rfl) (fun _ _ => rfl)) (by have := HLen.out m hm; omega)).mono ?_
      rintro r w2 ⟨rfl, hl, hb2, hs, hmod, hc⟩
      obtain ⟨f, s2, fin⟩ := LUs.added HD.out HLen.out hm hn hl hb2 hs ⟨hmod.os, hmod.tape, hmod.output, hmod.size, hmod.block⟩ hc d15
      obtain ⟨w3, r3, s3, m3⟩ := s2.update Try.underlying9 Try.underlying71 ht (np (wd.heap.size, 0))
      exact ⟨rfl, by rw [hc _ (by omega)]; exact d15, w3, r3, _, HD.out.mod.size, fin w3 s3 m3⟩
    go_region_with (go_at_call 49; refine HP.out.mono ?_; rintro r w2 ⟨rfl, e15, w3, hrun, HF⟩)
    all_goals
      go_end0
      exact ⟨rfl, HF.out⟩

end Go.Proofs.Qxb6609223a
