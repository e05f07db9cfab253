/-
  The walk of grant.
-/
import Derived.Test.Qxb6609223aGrant
namespace Go.Proofs.Qxb6609223a
open Go.RowKit
open Go.Proofs.Qxb6609223a.Kit

theorem LU_drew {w : World} {F : Nat → Prop} {R o J : Nat} {U : Nat → List Ent} (h : LU w F R o U J) : LU w.drew F R o U J := h.congr (fun _ _ _ => rfl) (fun _ _ _ => rfl) (fun _ _ h => h)

theorem LUs.trans {w w1 w2 : World} {F : Nat → Prop} {R o J1 J2 : Nat} {U1 U2 : Nat → List Ent} (h : LUs w w1 F R o U1 J1) (k : LUs w1 w2 (fun b => F b ∨ w.heap.size ≤ b) R o U2 J2) : LUs w w2 F R o U2 J2 := by
  refine ⟨k.lu.congr (fun _ _ _ => rfl) (fun _ _ _ => rfl) (fun b _ hf => ?_), k.blk, h.mod.trans k.mod (fun i hi ho => ?_), fun j hj => (k.cells j hj).trans (h.cells j hj)⟩
  · rcases hf with (hf | hf) | hf
    · exact Or.inl hf
    · exact Or.inr hf
    · exact Or.inr (Nat.le_trans h.mod.size hf)
  · rcases ho with ho | ho | ho
    · exact Or.inl ho
    · exact Or.inr ho
    · omega

theorem St.comp {w w1 w2 : World} {T : Nat} {tag tag1 : Nat → Own} {g2 : Gh} {N2 : Nat} (e1 : ∀ b, b < w.heap.size → tag1 b = tag b) (m1 : Mod (fun b => (tag b).isTab) w w1) (k : St w1 w2 T tag1 g2 N2) : St w w2 T tag g2 N2 := by
  obtain ⟨⟨tag2, h2, e2⟩, m2⟩ := k
  refine ⟨⟨tag2, h2, fun b hb => (e2 b (Nat.lt_of_lt_of_le hb m1.size)).trans (e1 b hb)⟩, m1.trans m2 (fun i hi ho => ?_)⟩
  rw [← e1 i hi]
  exact ho

set_option maxRecDepth 10000 in
set_option maxHeartbeats 4000000 in
theorem grant_new (w : World) {T : Nat} {tag : Nat → Own} {g : Gh} {N : Nat} (h : TI w T tag g N) {n t : ByteArray} {r : RS} {m : Nat} (hr : g.res n = some r) (hm : m < 3) (hN : N ≤ 100000) (ht : t.size ≤ maxLen) (hn : n.size ≤ maxLen)
    (hno : ∀ k, k < 3 → ∀ e ∈ r.H k, e.txn ≠ t) (hlen : (g.heldOf t).2.length + 1 ≤ N) (hJ : r.JH + 1 ≤ N) :
    Calls Try.prog 36 #[.pointer (some ⟨T, 0, none⟩), .string n, .pointer (some ⟨r.blk, 0, none⟩), .string t, .int .u8 m] w fun e w' => e = .returned (.tuple #[]) ∧
      ∃ v' x, St w w' T tag ((g.setHeld t v' ((g.heldOf t).2 ++ [n])).setRes n { r with H := fun k => if k = m then r.H m ++ [⟨x, t, r.JH + 1⟩] else r.H k, JH := r.JH + 1 }) N := by
  obtain ⟨i9, hi, hz, hs, hb⟩ := info_parts info9
  have HI := hide (And.intro hi (And.intro hz (And.intro hs hb)))
  clear hi hz hs hb
  have H := hide h
  have HR := hide hr
  have HNO := hide hno
  have HLEN := hide hlen
  obtain ⟨R, hR⟩ : ∃ R, r.blk = R := ⟨_, rfl⟩
  have HRB := hide hR
  rw [hR]
  have HRI := hide (h.res n r hr)
  clear h hr hno hlen hR
  go_enter Try.func36, Try.ntmps36
  go_wp2_with fail
  refine (get_none (F := fun b => tag b = .hold n) (U := r.H) (J := r.JH) w (by have := HRI.out.hold; rw [HRB.out] at this; exact this) t ht HNO.out).mono ?_
  rintro e w1 ⟨rfl, hm1⟩
  have HS1 := hide (St.quiet H.out (hm1.trans (Mod.alloc (fun _ => False) w1 (.cells #[.string ⟨#[]⟩, .int .u8 0, .int .u64 0] 77)) (fun _ _ h => h)))
  clear hm1
  go_upto_region 3 with fail
  obtain ⟨wa, HWA⟩ : ∃ wa, Hid (wa = w1.alloc (.cells #[.string ⟨#[]⟩, .int .u8 0, .int .u64 0] 77)) := ⟨_, rfl⟩
  rw [← HWA.out] at HS1
  rw [← HWA.out]
  clear HWA
  obtain ⟨tag1, h1, e1⟩ := HS1.out.ti
  obtain ⟨b, c1, tb, sm⟩ := h1.hm
  obtain ⟨V, HV⟩ : ∃ V, Hid (V = (g.heldOf t).1) := ⟨_, rfl⟩
  obtain ⟨L, HL⟩ : ∃ L, Hid (L = (g.heldOf t).2) := ⟨_, rfl⟩
  have hVz : ((g.held t).map Prod.fst).getD (.slice none 0 0) = V := by
    rw [HV.out]
    unfold Gh.heldOf
    cases g.held t <;> rfl
  have lk1 : (Instr.lookup 57 (.map (some b)) (.string t) false).run Try.prog wa.drew = .ok V wa.drew := by
    have := ((sm.kept (w' := wa.drew) rfl).look Try.underlying9 Try.underlying57 (zero22 _) ht).2
    rw [hVz] at this
    exact this
  have lk2 : ∀ x, (Instr.lookup 57 (.map (some b)) (.string t) false).run Try.prog (wa.alloc x).drew = .ok V (wa.alloc x).drew := fun x => by
    have := ((sm.kept (w' := (wa.alloc x).drew) (Below.heap_alloc _ _ _ sm.lt)).look Try.underlying9 Try.underlying57 (zero22 _) ht).2
    rw [hVz] at this
    exact this
  have hT := h1.blk.lt
  have HOWN0 : Hid (wa.drew.ownsRow 0 9 1 V L.length (L.map .string)) := by
    have := (h1.drew.heldOf t).own
    rw [← HV.out, ← HL.out] at this
    exact this
  have HOWN : Hid (((wa.alloc (.cells #[.string n] 9)).drew).ownsRow 0 9 1 V L.length (L.map .string)) := HOWN0.out.alloc _
  have HNEW : Hid (∀ j u, [Value.string n][j]? = some u → ((wa.alloc (.cells #[.string n] 9)).drew).cell? ((⟨wa.heap.size, 0, none⟩ : Addr).add j) = some u) := one_new wa _ 9
  rw [← HL.out] at HLEN
  have FIN : Hid (∀ v' w3, w3.ownsRow 0 9 1 v' (L.length + 1) (L.map .string ++ [.string n]) → ((wa.alloc (.cells #[.string n] 9)).drew).grownBy w3 V.ownBlock → (v'.ownBlock = V.ownBlock ∨ v'.ownBlock = some ((wa.alloc (.cells #[.string n] 9)).drew).heap.size) →
      w3.cell? ⟨T, 1, none⟩ = some (.map (some b)) ∧ ∃ w4, (Instr.mapUpdate 57 (.map (some b)) (.string t) v').run Try.prog w3 = .ok () w4 ∧ Hid (St w w4 T tag (g.setHeld t v' (L ++ [n])) N)) := by
    intro v' w3 ho hg hv
    have hof := h1.drew.heldOf t
    rw [← HV.out, ← HL.out] at hof
    have kp : ∀ i, i < wa.heap.size → tag1 i ≠ .arr t → w3.heap[i]? = wa.heap[i]? := fun i hi hne => by
      rw [hg.block i (by show i < (wa.heap.push _).size; simp; omega) (fun e => hne (hof.tg i e.symm))]
      exact Below.heap_alloc _ _ _ hi
    have hTT := kp T hT (by rw [h1.tg]; simp)
    have s3 := sm.kept (kp b sm.lt (by rw [tb]; simp))
    obtain ⟨w4, r4, s4, m4⟩ := s3.update Try.underlying9 Try.underlying57 ht v'
    refine ⟨by rw [World.cell?_of_block (a := ⟨T, 1, none⟩) hTT]; exact c1, w4, r4, ?_⟩
    show St w w4 T tag (g.setHeld t v' (L ++ [n])) N
    refine St.then (w1 := wa.drew) (g1 := g) (N := N) ⟨⟨tag1, h1.drew, e1⟩, HS1.out.mod.trans (Mod.drewN (fun _ => False) wa 1) (fun _ _ h => h.elim)⟩ (fun tag2 h2 => ?_)
    rw [HL.out]
    exact St.held (o := .cells #[.string n] 9) h2 hn (by rw [← HL.out]; exact HLEN.out) c1 (by rw [← HV.out]; exact hg) (by rw [← HL.out]; exact ho) (by rw [← HV.out]; exact hv) s4 m4
  have c1a := c1
  clear sm tb e1 h1 hVz
  go_cut [] from 26 to 39 (fun wx => Hid (∃ v', St w wx T tag (g.setHeld t v' (L ++ [n])) N))
  case first =>
    go_region_law (refine step_append_own_at rfl (.tmp 36) (.tmp 38) 22 rfl 0 9 i9 (.string ⟨#[]⟩) 1 16 Try.underlying22 HI.out.1 HI.out.2.1 HI.out.2.2.1 HI.out.2.2.2 rfl (by decide) V L.length (L.map .string) (by simp [Act.eval]) HOWN.out ⟨wa.heap.size, 0, none⟩ 1 1 [.string n] (by simp [Act.eval]) rfl HNEW.out (fun u hu => by simp at hu; subst hu; rfl) (by have := HLEN.out; unfold maxLen; omega) (by have := HLEN.out; omega) (Nat.zero_le _) ?_; intro v' w3 ho hg hv; obtain ⟨c1b, w4, hrun, HST⟩ := FIN.out v' w3 ho hg hv; clear ho hg hv)
    all_goals
      go_wp2_with fail
      go_meet
      exact ⟨_, HST.out⟩
  case rest =>
    obtain ⟨v', hst⟩ := hcut.out
    obtain ⟨tag2, h2, e2⟩ := hst.ti
    have hri := h2.res n r HR.out
    have HX := hide (And.intro h2 (And.intro e2 (And.intro hst hri)))
    clear h2 e2 hst hri hcut lk1 lk2 c1 c1a hT
    have HC : Hid (Calls Try.prog 37 #[.pointer (some ⟨R, 0, none⟩), .string t, .int .u8 m] wc fun r1 w' => r1 = .returned (.tuple #[]) ∧ ∃ x, wc.heap.size ≤ x ∧ LUs wc w' (fun b => tag2 b = .hold n) r.blk 0 (fun k => if k = m then r.H m ++ [⟨x, t, r.JH + 1⟩] else r.H k) (r.JH + 1)) := by
      have := add_LU wc HX.out.2.2.2.blk (by omega) HX.out.2.2.2.hold (by rw [HX.out.2.2.2.tg]; simp) hm t ht (by omega) HNO.out
      rw [HRB.out] at this ⊢
      exact this
    go_wp2_with (go_at_call 37; refine HC.out.mono ?_; rintro e w5 ⟨rfl, x, hx, hl⟩)
    go_end0
    refine ⟨rfl, v', x, ?_⟩
    have fin := St.comp HX.out.2.1 HX.out.2.2.1.mod (St.hold HX.out.1 HR.out hl hJ)
    rw [← HL.out, ← HRB.out]
    exact fin

end Go.Proofs.Qxb6609223a
