/-
  The walk of splitItems.
-/
import Derived.Test.Qxb6609399aItems
namespace Go.Proofs.Qxb6609399a
open Go.RowKit
open Go.Proofs.Qxb6609399a.Kit

theorem Try.info9 : (Try.prog.info? 9).map (fun i => (i.zero, i.size, i.bytes)) = some (some (.string ByteArray.empty), 1, 16) := by kernel_rfl
theorem Try.info4 : (Try.prog.info? 4).map (fun i => (i.zero, i.size, i.bytes)) = some (some (.bool false), 1, 1) := by kernel_rfl

/-- A row of n strings or bools at the head of a block. -/
def Col (W : World) (g n : Nat) (f : Nat → Value) : Prop := g < W.heap.size ∧ ∀ i, i < n → W.cell? ⟨g, i, none⟩ = some (f i)

/-- What the three rows hold behind j rounds. -/
def Rows3 (w wr : World) (L : List Item) (g0 g1 g2 n j : Nat) : Prop :=
  ∃ xs0 xs1 xs2, wr.ownsRow w.heap.size 9 1 (.slice (some ⟨g0, 0, none⟩) n n) n xs0 ∧ wr.ownsRow w.heap.size 9 1 (.slice (some ⟨g1, 0, none⟩) n n) n xs1 ∧ wr.ownsRow w.heap.size 4 1 (.slice (some ⟨g2, 0, none⟩) n n) n xs2 ∧
    Below w.heap.size w wr ∧ ∀ i, i < j → xs0[i]? = some (.string (at_ L i).alias) ∧ xs1[i]? = some (.string (at_ L i).what) ∧ xs2[i]? = some (.bool (at_ L i).flag)

theorem Rows3.next {w wr : World} {L : List Item} {g0 g1 g2 n j : Nat} (h : Rows3 w wr L g0 g1 g2 n j) (h01 : g0 < g1) (h12 : g1 < g2) (hj : j < n) :
    Rows3 w (((wr.setCell ⟨g0, j, none⟩ (.string (at_ L j).alias)).setCell ⟨g1, j, none⟩ (.string (at_ L j).what)).setCell ⟨g2, j, none⟩ (.bool (at_ L j).flag)) L g0 g1 g2 n (j + 1) := by
  obtain ⟨xs0, xs1, xs2, r0, r1, r2, hb, hall⟩ := h
  have b0 := (r0.lt _ rfl).1
  have b1 := (r1.lt _ rfl).1
  have b2 := (r2.lt _ rfl).1
  have l0 := r0.1
  have l1 := r1.1
  have l2 := r2.1
  obtain ⟨s0, k0⟩ := r0.stored j (.string (at_ L j).alias)
  have r1 := r1.kept k0 (Or.inr (by simp [Value.ownBlock]; omega))
  have r2 := r2.kept k0 (Or.inr (by simp [Value.ownBlock]; omega))
  obtain ⟨s1, k1⟩ := r1.stored j (.string (at_ L j).what)
  have s0 := s0.kept k1 (Or.inr (by simp [Value.ownBlock]; omega))
  have r2 := r2.kept k1 (Or.inr (by simp [Value.ownBlock]; omega))
  obtain ⟨s2, k2⟩ := r2.stored j (.bool (at_ L j).flag)
  have s0 := s0.kept k2 (Or.inr (by simp [Value.ownBlock]; omega))
  have s1 := s1.kept k2 (Or.inr (by simp [Value.ownBlock]; omega))
  refine ⟨_, _, _, s0, s1, s2, ((hb.setCell (p := ⟨g0, j, none⟩) b0 _).setCell (p := ⟨g1, j, none⟩) b1 _).setCell (p := ⟨g2, j, none⟩) b2 _, fun i hi => ?_⟩
  simp only [List.getElem?_set]
  by_cases e : j = i
  · subst e
    simp
    omega
  · simp [e]
    exact hall i (by omega)

theorem Rows3.col {w wr : World} {L : List Item} {g0 g1 g2 n : Nat} (h : Rows3 w wr L g0 g1 g2 n n) :
    Below w.heap.size w wr ∧ Col wr g0 n (fun i => .string (at_ L i).alias) ∧ Col wr g1 n (fun i => .string (at_ L i).what) ∧ Col wr g2 n (fun i => .bool (at_ L i).flag) := by
  obtain ⟨xs0, xs1, xs2, r0, r1, r2, hb, hall⟩ := h
  refine ⟨hb, ⟨(r0.lt _ rfl).2, fun i hi => ?_⟩, ⟨(r1.lt _ rfl).2, fun i hi => ?_⟩, ⟨(r2.lt _ rfl).2, fun i hi => ?_⟩⟩
  · rw [r0.cellAt i (by omega)]; exact (hall i hi).1
  · rw [r1.cellAt i (by omega)]; exact (hall i hi).2.1
  · rw [r2.cellAt i (by omega)]; exact (hall i hi).2.2

theorem Rows3.facts {w wr : World} {L : List Item} {g0 g1 g2 n j : Nat} (h : Rows3 w wr L g0 g1 g2 n j) (hj : j < n) :
    (∃ u0, wr.cell? ⟨g0, j, none⟩ = some u0) ∧ (∃ u1, wr.cell? ⟨g1, j, none⟩ = some u1) ∧ (∃ u2, wr.cell? ⟨g2, j, none⟩ = some u2) ∧
    wr.frozen? ⟨g0, j, none⟩ = false ∧ wr.frozen? ⟨g1, j, none⟩ = false ∧ wr.frozen? ⟨g2, j, none⟩ = false ∧ w.heap.size ≤ g0 := by
  obtain ⟨xs0, xs1, xs2, r0, r1, r2, hb, hall⟩ := h
  have l0 := r0.1
  have l1 := r1.1
  have l2 := r2.1
  refine ⟨⟨xs0[j]'(by omega), ?_⟩, ⟨xs1[j]'(by omega), ?_⟩, ⟨xs2[j]'(by omega), ?_⟩, r0.frozenAt j, r1.frozenAt j, r2.frozenAt j, (r0.lt _ rfl).1⟩
  · rw [r0.cellAt j (by omega)]; exact List.getElem?_eq_getElem _
  · rw [r1.cellAt j (by omega)]; exact List.getElem?_eq_getElem _
  · rw [r2.cellAt j (by omega)]; exact List.getElem?_eq_getElem _

set_option maxHeartbeats 1000000 in
theorem split_any (v : Value) (L : List Item) (w : World) (hv : IsItems w v L) (hL : L.length ≤ 262144) :
    Calls Try.prog 7 #[v] w fun e w' => ∃ g0 g1 g2 : Nat, e = .returned (.tuple #[.slice (some ⟨g0, 0, none⟩) L.length L.length, .slice (some ⟨g1, 0, none⟩) L.length L.length, .slice (some ⟨g2, 0, none⟩) L.length L.length]) ∧
      Below w.heap.size w w' ∧ Col w' g0 L.length (fun i => .string (at_ L i).alias) ∧ Col w' g1 L.length (fun i => .string (at_ L i).what) ∧ Col w' g2 L.length (fun i => .bool (at_ L i).flag) := by
  obtain ⟨o, cap, rfl, hn, hc, ho⟩ := hv
  unfold maxLen at hc
  have HO := hide ho
  clear ho
  obtain ⟨i9, hi9, hz9, hs9, hb9⟩ := info_parts Try.info9
  obtain ⟨i4, hi4, hz4, hs4, hb4⟩ := info_parts Try.info4
  have HI9 := hide (And.intro hi9 (And.intro hz9 (And.intro hs9 hb9)))
  have HI4 := hide (And.intro hi4 (And.intro hz4 (And.intro hs4 hb4)))
  clear hi9 hz9 hs9 hb9 hi4 hz4 hs4 hb4
  generalize hN : L.length = n at *
  have HN := hide hN
  clear hN
  go_enter Try.func7, Try.ntmps7
  go_wp2_with (first | (at_make; refine wpList_make_full _ rfl _ _ 29 rfl w.heap.size 9 i9 (.string ByteArray.empty) 1 Try.underlying29 HI9.out.1 HI9.out.2.1 HI9.out.2.2.1 _ _ _ _ n rfl rfl rfl rfl ?b2 ?b3 ?b4 ?_))
  case b2 => rw [HI9.out.2.2.2]; omega
  case b3 => unfold maxLen; omega
  case b4 => exact Nat.le_refl _
  intro w1 own0 gr1
  have H0 := hide own0
  have G1 := hide gr1
  clear own0 gr1
  go_wp2_with (first | (at_make; refine wpList_make_full _ rfl _ _ 29 rfl w.heap.size 9 i9 (.string ByteArray.empty) 1 Try.underlying29 HI9.out.1 HI9.out.2.1 HI9.out.2.2.1 _ _ _ _ n rfl rfl rfl rfl ?b2 ?b3 ?b4 ?_))
  case b2 => rw [HI9.out.2.2.2]; omega
  case b3 => unfold maxLen; omega
  case b4 => exact G1.out.size
  intro w2 own1 gr2
  have H1 := hide own1
  have G2 := hide gr2
  clear own1 gr2
  go_wp2_with (first | (at_make; refine wpList_make_full _ rfl _ _ 30 rfl w.heap.size 4 i4 (.bool false) 1 Try.underlying30 HI4.out.1 HI4.out.2.1 HI4.out.2.2.1 _ _ _ _ n rfl rfl rfl rfl ?b2 ?b3 ?b4 ?_))
  case b2 => rw [HI4.out.2.2.2]; omega
  case b3 => unfold maxLen; omega
  case b4 => exact Nat.le_trans G1.out.size G2.out.size
  intro w3 own2 gr3
  have hg0 : w.heap.size < w1.heap.size := (H0.out.lt _ rfl).2
  have hg1 : w1.heap.size < w2.heap.size := (H1.out.lt _ rfl).2
  have hg2 : w2.heap.size < w3.heap.size := (own2.lt _ rfl).2
  have R0 := hide ((H0.out.kept G2.out (Or.inr (by simp [Value.ownBlock]))).kept gr3 (Or.inr (by simp [Value.ownBlock])))
  have R1 := hide (H1.out.kept gr3 (Or.inr (by simp [Value.ownBlock])))
  have R2 := hide own2
  have BW := hide ((((Below.refl w.heap.size w).grown G1.out (Nat.le_refl _) (by simp)).grown G2.out G1.out.size (by simp)).grown gr3 (Nat.le_trans G1.out.size G2.out.size) (by simp))
  have RR : Rows3 w w3 L w.heap.size w1.heap.size w2.heap.size n 0 := ⟨_, _, _, R0.out, R1.out, R2.out, BW.out, fun i hi => by omega⟩
  have HR := hide RR
  have h01 : w.heap.size < w1.heap.size := hg0
  clear H0 H1 own2 G1 G2 gr3 R0 R1 R2 BW RR HI9 HI4
  generalize w1.heap.size = g1 at *
  generalize w2.heap.size = g2 at *
  have hgg : ∃ g0, g0 = w.heap.size := ⟨_, rfl⟩
  obtain ⟨g0, hg0e⟩ := hgg
  have HG0 := hide hg0e
  rw [← hg0e] at h01 HR ⊢
  clear hg0e hg0
  go_wp2
  go_loopw [8] (fun k wr => ∃ j : Nat, j ≤ n ∧ k = .int .i64 j ∧ Hid (Rows3 w wr L g0 g1 g2 n j)) (fun k _ => n - (intOf k).toNat)
  case atStart => exact ⟨0, Nat.zero_le _, rfl, HR⟩
  case round =>
    obtain ⟨j, hj, rfl, HJ⟩ := hrel
    by_cases hlt : j < n
    · rcases HO.out with h0 | ⟨b, off, rfl, hbw, hcell⟩
      · have := HN.out; rw [h0] at this; simp at this; omega
      have hB := HJ.out
      obtain ⟨_, _, _, _, _, _, hBel, _⟩ := hB
      obtain ⟨⟨u0, k0⟩, ⟨u1, k1⟩, ⟨u2, k2⟩, f0, f1, f2, hge⟩ := HJ.out.facts hlt
      obtain ⟨e1, e2, e3⟩ := hcell j (by have := HN.out; omega)
      have d1 : wr.cell? ⟨b, off + j * 3, none⟩ = some (.string (at_ L j).alias) := by rw [hBel.cell (p := ⟨b, off + j * 3, none⟩) hbw]; exact e1
      have d2 : wr.cell? ⟨b, off + j * 3 + 1, none⟩ = some (.string (at_ L j).what) := by rw [hBel.cell (p := ⟨b, off + j * 3 + 1, none⟩) hbw]; exact e2
      have d3 : wr.cell? ⟨b, off + j * 3 + 2, none⟩ = some (.bool (at_ L j).flag) := by rw [hBel.cell (p := ⟨b, off + j * 3 + 2, none⟩) hbw]; exact e3
      have n0 : b ≠ g0 := by omega
      have n1 : b ≠ g1 := by omega
      have n2 : b ≠ g2 := by omega
      have n01 : g1 ≠ g0 := by omega
      have n02 : g2 ≠ g0 := by omega
      have n12 : g2 ≠ g1 := by omega
      clear hcell HO e1 e2 e3 hBel
      go_wp2
      go_roundw
      case rel => exact ⟨j + 1, by omega, by go_num, HJ.out.next (by omega) (by omega) hlt⟩
      case measure => simp [intOf]; omega
    · obtain rfl : j = n := by omega
      go_wp2
      go_ret3
      exact ⟨g0, g1, g2, rfl, HJ.out.col⟩

end Go.Proofs.Qxb6609399a
