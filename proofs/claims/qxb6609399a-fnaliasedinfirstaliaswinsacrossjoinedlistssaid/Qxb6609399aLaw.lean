/-
  The walk of the law.
-/
import Derived.Test.Qxb6609399aLookup
namespace Go.Proofs.Qxb6609399a
open Go.RowKit
open Go.Proofs.Qxb6609399a.Kit

theorem Try.info26 : (Try.prog.info? 26).map (fun i => (i.zero, i.size, i.bytes)) = some (some (.agg #[.string ⟨#[]⟩, .string ⟨#[]⟩, .bool false]), 3, 40) := by kernel_rfl

/-! ### Plain facts on lists of items -/
/-- An item's three cells. -/
def cells3 (x : Item) : List Value := [.string x.alias, .string x.what, .bool x.flag]

theorem flat_append (A B : List Item) : flat (A ++ B) = flat A ++ flat B := by simp [flat]
theorem flat_length (A : List Item) : (flat A).length = A.length * 3 := by
  induction A with
  | nil => rfl
  | cons x A ih =>
    have : flat (x :: A) = cells3 x ++ flat A := rfl
    rw [this, List.length_append, ih]
    simp [cells3]
    omega

theorem take_snoc (L : List Item) (j : Nat) (h : j < L.length) : L.take (j + 1) = L.take j ++ [at_ L j] := by
  rw [List.take_succ_eq_append_getElem h]
  congr 2
  unfold at_
  rw [List.getD_eq_getElem?_getD, List.getElem?_eq_getElem h]
  rfl

theorem flat_snoc (P L : List Item) (j : Nat) (h : j < L.length) : flat (P ++ L.take (j + 1)) = flat (P ++ L.take j) ++ cells3 (at_ L j) := by
  rw [take_snoc L j h, ← List.append_assoc, flat_append]
  rfl

theorem flat_get (L : List Item) (i : Nat) (h : i < L.length) : (flat L)[i * 3]? = some (.string (at_ L i).alias) ∧ (flat L)[i * 3 + 1]? = some (.string (at_ L i).what) ∧ (flat L)[i * 3 + 2]? = some (.bool (at_ L i).flag) := by
  have e : L = L.take i ++ [at_ L i] ++ L.drop (i + 1) := by
    rw [← take_snoc L i h, List.take_append_drop]
  have hf : flat L = flat (L.take i) ++ (cells3 (at_ L i) ++ flat (L.drop (i + 1))) := by
    have : flat L = flat (L.take i ++ [at_ L i] ++ L.drop (i + 1)) := by rw [← e]
    rw [this, flat_append, flat_append, List.append_assoc]
    rfl
  have hl : (flat (L.take i)).length = i * 3 := by rw [flat_length, List.length_take, Nat.min_eq_left (by omega)]
  rw [hf]
  refine ⟨?_, ?_, ?_⟩
  · rw [List.getElem?_append_right (by omega), hl]; simp [cells3]
  · rw [List.getElem?_append_right (by omega), hl]; simp [cells3]
  · rw [List.getElem?_append_right (by omega), hl]; simp [cells3]

/-- The items that the call itself has gathered, as a slice of items. -/
theorem items_of_owns {w : World} {base g cap : Nat} {L : List Item} (h : w.ownsRow base 26 3 (.slice (some ⟨g, 0, none⟩) L.length cap) L.length (flat L)) : IsItems w (.slice (some ⟨g, 0, none⟩) L.length cap) L := by
  have hlt := (h.lt _ rfl).2
  rcases h.2 with ⟨h', _⟩ | ⟨g', cap', cur, h', _, _, hle, hmax, _⟩
  · simp at h'
  · simp only [Value.slice.injEq, true_and] at h'
    obtain ⟨_, rfl⟩ := h'
    refine ⟨_, _, rfl, hle, hmax, Or.inr ⟨g, 0, rfl, hlt, fun i hi => ?_⟩⟩
    obtain ⟨e1, e2, e3⟩ := flat_get L i hi
    refine ⟨?_, ?_, ?_⟩
    · rw [h.cellAt _ (by omega)]; simpa using e1
    · rw [h.cellAt _ (by omega)]; simpa using e2
    · rw [h.cellAt _ (by omega)]; simpa using e3

theorem IsItems.mono {W w : World} {v : Value} {L : List Item} (h : IsItems W v L) (hb : Below W.heap.size W w) : IsItems w v L := by
  obtain ⟨o, cap, rfl, h1, h2, h3⟩ := h
  refine ⟨o, cap, rfl, h1, h2, ?_⟩
  rcases h3 with h3 | ⟨b, off, rfl, hlt, hc⟩
  · exact Or.inl h3
  · refine Or.inr ⟨b, off, rfl, Nat.lt_of_lt_of_le hlt hb.size, fun i hi => ?_⟩
    obtain ⟨e1, e2, e3⟩ := hc i hi
    refine ⟨?_, ?_, ?_⟩
    · rw [hb.cell (p := ⟨b, off + i * 3, none⟩) hlt]; exact e1
    · rw [hb.cell (p := ⟨b, off + i * 3 + 1, none⟩) hlt]; exact e2
    · rw [hb.cell (p := ⟨b, off + i * 3 + 2, none⟩) hlt]; exact e3

theorem three_new (w : World) (a b c : Value) (t : TypeId) : ∀ j u, [a, b, c][j]? = some u → (w.alloc (.cells #[a, b, c] t)).cell? ((⟨w.heap.size, 0, none⟩ : Addr).add j) = some u := by
  intro j u hu
  match j, hu with
  | 0, hu => simp at hu; subst hu; simp [Addr.add]
  | 1, hu => simp at hu; subst hu; simp [Addr.add]
  | 2, hu => simp at hu; subst hu; simp [Addr.add]

theorem drew_below (w : World) (n : Nat) : Below w.heap.size w (w.drewN n) := ⟨rfl, rfl, rfl, Nat.le_refl _, fun _ _ => rfl⟩

/-- The search over a joined list. -/
theorem look_append (A B : List Item) (s : ByteArray) : look (A ++ B) s = (look A s).or (look B s) := by
  unfold look
  exact List.find?_append

theorem look_front (A : List Item) (s t : ByteArray) : look (⟨s, t, true⟩ :: A) s = some ⟨s, t, true⟩ := by
  unfold look
  rw [List.find?_cons]
  simp [hit]

/-- The slice of capacity cap at the head of block g holds the items P, all gathered since w0. -/
def Gath (w0 wr : World) (g cap : Nat) (P : List Item) : Prop :=
  Below w0.heap.size w0 wr ∧ wr.ownsRow w0.heap.size 26 3 (.slice (some ⟨g, 0, none⟩) P.length cap) P.length (flat P)

theorem Gath.at {w0 wr : World} {g cap j : Nat} {P : List Item} (h : Gath w0 wr g cap P) (hj : P.length = j) : wr.ownsRow w0.heap.size 26 3 (.slice (some ⟨g, 0, none⟩) j cap) j (flat P) := by
  subst hj; exact h.2

theorem Gath.next {w0 wr w1 : World} {g cap j : Nat} {P : List Item} {x : Item} {o : Obj} (h : Gath w0 wr g cap P) (hj : P.length = j) (hown : w1.ownsRow w0.heap.size 26 3 (.slice (some ⟨g, 0, none⟩) (j + 1) cap) (j + 1) (flat P ++ cells3 x)) (hgr : (wr.alloc o).grownBy w1 (some g)) :
    Gath w0 w1 g cap (P ++ [x]) := by
  have hg := (h.2.lt _ rfl).1
  refine ⟨(h.1.alloc h.1.size o).grown hgr (Nat.le_trans h.1.size (by simp)) (fun k hk => by cases hk; exact hg), ?_⟩
  have e : (P ++ [x]).length = j + 1 := by simp [hj]
  rw [e, flat_append]
  exact hown

theorem Gath.items {w0 wr : World} {g cap : Nat} {P : List Item} (h : Gath w0 wr g cap P) : IsItems wr (.slice (some ⟨g, 0, none⟩) P.length cap) P := items_of_owns h.2

theorem cells3_one (x : Item) : ∀ u ∈ cells3 x, u.oneCell' = true := by
  intro u hu
  simp [cells3] at hu
  rcases hu with rfl | rfl | rfl <;> rfl

/-- The three cells of an item of a slice that holds items. -/
theorem IsItems.get {w : World} {o : Option Addr} {n cap i : Nat} {L : List Item} (h : IsItems w (.slice o n cap) L) (hi : i < L.length) : ∃ b off, o = some ⟨b, off, none⟩ ∧
    w.cell? ⟨b, off + i * 3, none⟩ = some (.string (at_ L i).alias) ∧ w.cell? ⟨b, off + i * 3 + 1, none⟩ = some (.string (at_ L i).what) ∧ w.cell? ⟨b, off + i * 3 + 2, none⟩ = some (.bool (at_ L i).flag) := by
  obtain ⟨o', cap', he, _, _, h3⟩ := h
  simp only [Value.slice.injEq] at he
  obtain ⟨rfl, _, _⟩ := he
  rcases h3 with rfl | ⟨b, off, rfl, _, hc⟩
  · simp at hi
  · exact ⟨b, off, rfl, hc i hi⟩

set_option maxRecDepth 100000 in
set_option maxHeartbeats 4000000 in
theorem law_walk (v0 v1 : Value) (A B : List Item) (s t : ByteArray) (w : World) (h0 : IsItems w v0 A) (h1 : IsItems w v1 B) :
    Calls Try.prog 3 #[v0, v1, .string s, .string t] w fun e w' => e = .returned (.bool true) ∧ Below w.heap.size w w' := by

  have HV0 := hide h0
  have HV1 := hide h1
  obtain ⟨o0, cap0, rfl, hn0, hc0, ho0⟩ := h0
  obtain ⟨o1, cap1, rfl, hn1, hc1, ho1⟩ := h1
  unfold maxLen at hc0 hc1
  have HO0 := hide ho0
  have HO1 := hide ho1
  clear ho0 ho1
  obtain ⟨i26, hi26, hz26, hs26, hb26⟩ := info_parts Try.info26
  have HI := hide (And.intro hi26 (And.intro hz26 (And.intro hs26 hb26)))
  clear hi26 hz26 hs26 hb26
  obtain ⟨la, hla⟩ : ∃ n, n = A.length := ⟨_, rfl⟩
  obtain ⟨lb, hlb⟩ : ∃ n, n = B.length := ⟨_, rfl⟩
  rw [← hla] at hn0 HV0 ⊢
  rw [← hlb] at hn1 HV1 ⊢
  have HLA := hide hla
  have HLB := hide hlb
  clear hla hlb
  go_enter Try.func3, Try.ntmps3
  go_wp2_with fail
  refine (zz_any _ _ A B s t _ HV0.out HV1.out).mono ?_
  rintro e w' ⟨⟨big, rfl⟩, rfl⟩
  cases big
  · go_wp2
    go_ret
    exact ⟨rfl, Below.refl _ _⟩
  by_cases c0 : 65536 < (la : Int)
  · go_wp2
    go_ret
    exact ⟨rfl, Below.refl _ _⟩
  by_cases c1 : 65536 < (lb : Int)
  · go_wp2
    go_ret
    exact ⟨rfl, Below.refl _ _⟩
  by_cases c2 : 262144 < (s.size : Int)
  · go_wp2
    go_ret
    exact ⟨rfl, Below.refl _ _⟩
  by_cases c3 : 262144 < (t.size : Int)
  · go_wp2
    go_ret
    exact ⟨rfl, Below.refl _ _⟩
  have b0 : decide (65536 < (la : Int)) = false := by simpa using c0
  have b1 : decide (65536 < (lb : Int)) = false := by simpa using c1
  have b2 : decide (262144 < (s.size : Int)) = false := by simpa using c2
  have b3 : decide (262144 < (t.size : Int)) = false := by simpa using c3
  go_wp2_with fail
  refine (itemBytes_any _ A _ HV0.out).mono ?_
  rintro e w1 ⟨⟨q0, rfl⟩, d0, rfl⟩
  go_wp2_with fail
  refine (itemBytes_any _ B _ (by exact IsItems.mono HV1.out (drew_below _ _))).mono ?_
  rintro e w1 ⟨⟨q1, rfl⟩, d1, rfl⟩
  by_cases c4 : 1048576 < wrap64 (wrap64 (wrap64 (q0 + q1) + (s.size : Int)) + (t.size : Int))
  · go_wp2
    go_ret
    exact ⟨rfl, drew_below _ _⟩
  have b4 : decide (1048576 < wrap64 (wrap64 (wrap64 (q0 + q1) + (s.size : Int)) + (t.size : Int))) = false := by simpa using c4
  clear c4
  go_wp2_with (first | (at_make; refine wpList_make_own _ rfl _ _ 22 rfl w'.heap.size 26 i26 _ 3 Try.underlying22 HI.out.1 HI.out.2.1 HI.out.2.2.1 _ _ _ (la + lb) rfl rfl ?b1 ?b2 ?b3 ?b4 ?_))
  case b1 => omega
  case b2 => rw [HI.out.2.2.2]; omega
  case b3 => unfold maxLen; omega
  case b4 => exact Nat.le_refl _
  intro w2 own0 gr2
  have G0 : Gath w' w2 w'.heap.size (la + lb) [] := ⟨(drew_below w' (d0 + d1)).grown gr2 (Nat.le_refl _) (by simp), own0⟩
  have HG0 := hide G0
  clear own0 gr2 G0
  obtain ⟨g, hg⟩ : ∃ g, g = w'.heap.size := ⟨_, rfl⟩
  rw [← hg] at HG0 ⊢
  clear hg
  go_wp2
  go_loopw [9, 10] (fun v k wr => ∃ j : Nat, j ≤ la ∧ k = .int .i64 j ∧ v = .slice (some ⟨g, 0, none⟩) j (la + lb) ∧ Hid (Gath w' wr g (la + lb) (A.take j))) (fun _ k _ => la - (intOf k).toNat)
  case atStart => exact ⟨0, Nat.zero_le _, rfl, rfl, HG0⟩
  case round =>
    obtain ⟨j, hj, rfl, rfl, HG⟩ := hrel
    by_cases hlt : j < la
    · have hlen : (A.take j).length = j := by rw [List.length_take]; have := HLA.out; omega
      have HLEN := hide hlen
      clear hlen
      obtain ⟨b, off, rfl, e1, e2, e3⟩ := (HV0.out.mono HG.out.1).get (i := j) (by have := HLA.out; omega)
      clear HO0 HO1
      go_wp2_with (first | (at_builtin; refine wpList_append_fits _ rfl _ _ 22 rfl w'.heap.size 26 i26 3 Try.underlying22 HI.out.1 HI.out.2.2.1 g j (la + lb) (flat (A.take j)) rfl (by exact (HG.out.at HLEN.out).alloc _) ⟨wr.heap.size, 0, none⟩ 1 1 (cells3 (at_ A j)) rfl rfl ?c1 ?c2 ?c3 ?_))
      case c1 => exact three_new _ _ _ _ 26
      case c2 => exact cells3_one _
      case c3 => omega
      intro w3 hown hgr
      have HN := hide (HG.out.next HLEN.out hown hgr)
      clear hown hgr
      go_wp2
      go_roundw
      case rel => exact ⟨j + 1, by omega, by go_num, rfl, by have := HN.out; rw [← take_snoc A j (by have := HLA.out; omega)] at this; exact this⟩
      case measure => simp [intOf]; omega
    · obtain rfl : j = la := by omega
      have HGA := hide (show Gath w' wr g (j + lb) A by have := HG.out; rw [List.take_of_length_le (by have := HLA.out; omega)] at this; exact this)
      clear HG HO0 HO1 HG0
      go_wp2
      go_loopw [9, 11] (fun v k wr => ∃ i : Nat, i ≤ lb ∧ k = .int .i64 i ∧ v = .slice (some ⟨g, 0, none⟩) (j + i) (j + lb) ∧ Hid (Gath w' wr g (j + lb) (A ++ B.take i))) (fun _ k _ => lb - (intOf k).toNat)
      case atStart => exact ⟨0, Nat.zero_le _, rfl, rfl, by show Gath _ _ _ _ _; rw [List.take_zero, List.append_nil]; exact HGA.out⟩
      case round =>
        obtain ⟨i, hi, rfl, rfl, HG⟩ := hrel
        by_cases hlt2 : i < lb
        · have hlen : (A ++ B.take i).length = j + i := by rw [List.length_append, List.length_take]; have := HLA.out; have := HLB.out; omega
          have HLEN := hide hlen
          clear hlen
          obtain ⟨b, off, rfl, e1, e2, e3⟩ := (HV1.out.mono HG.out.1).get (i := i) (by have := HLB.out; omega)
          clear HGA
          go_wp2_with (first | (at_builtin; refine wpList_append_fits _ rfl _ _ 22 rfl w'.heap.size 26 i26 3 Try.underlying22 HI.out.1 HI.out.2.2.1 g (j + i) (j + lb) (flat (A ++ B.take i)) rfl (by exact (HG.out.at HLEN.out).alloc _) ⟨wr.heap.size, 0, none⟩ 1 1 (cells3 (at_ B i)) rfl rfl ?c1 ?c2 ?c3 ?_))
          case c1 => exact three_new _ _ _ _ 26
          case c2 => exact cells3_one _
          case c3 => omega
          intro w3 hown hgr
          have HN := hide (HG.out.next HLEN.out hown hgr)
          clear hown hgr
          go_wp2
          go_roundw
          case rel => exact ⟨i + 1, by omega, by go_num, rfl, by have := HN.out; rw [List.append_assoc, ← take_snoc B i (by have := HLB.out; omega)] at this; exact this⟩
          case measure => simp [intOf]; omega
        · obtain rfl : i = lb := by omega
          have hAB : (A ++ B).length = j + i := by rw [List.length_append]; have := HLA.out; have := HLB.out; omega
          have HAB := hide hAB
          clear hAB
          have HGAB := hide (show Gath w' wr g (j + i) (A ++ B) by have := HG.out; rw [List.take_of_length_le (by have := HLB.out; omega)] at this; exact this)
          have HIT := hide (show IsItems wr (.slice (some ⟨g, 0, none⟩) (j + i) (j + i)) (A ++ B) by have := HGAB.out.items; rw [HAB.out] at this; exact this)
          clear HG HGA
          obtain ⟨wb, hwb⟩ : ∃ wb, wb = wr := ⟨_, rfl⟩
          subst hwb
          generalize hQ : A ++ B = AB at *
          have HQ := hide hQ
          clear hQ
          go_wp2_with (first | (at_make; refine wpList_make_own _ rfl _ _ 22 rfl wb.heap.size 26 i26 _ 3 Try.underlying22 HI.out.1 HI.out.2.1 HI.out.2.2.1 _ _ _ (j + i + 1) rfl rfl ?b1 ?b2 ?b3 ?b4 ?_))
          case b1 => omega
          case b2 => rw [HI.out.2.2.2]; omega
          case b3 => unfold maxLen; omega
          case b4 => exact Nat.le_refl _
          intro w3 own3 gr3
          have G3 : Gath wb w3 wb.heap.size (j + i + 1) [] := ⟨(Below.refl _ _).grown gr3 (Nat.le_refl _) (by simp), own3⟩
          have HG3 := hide G3
          clear own3 gr3 G3
          obtain ⟨g3, hg3⟩ : ∃ g3, g3 = wb.heap.size := ⟨_, rfl⟩
          rw [← hg3] at HG3 ⊢
          clear hg3
          go_wp2_with (first | (at_builtin; refine wpList_append_fits _ rfl _ _ 22 rfl wb.heap.size 26 i26 3 Try.underlying22 HI.out.1 HI.out.2.2.1 g3 0 (j + i + 1) (flat []) rfl (by exact (HG3.out.at rfl).alloc _) ⟨w3.heap.size, 0, none⟩ 1 1 (cells3 ⟨s, t, true⟩) rfl rfl ?c1 ?c2 ?c3 ?_))
          case c1 => exact three_new _ _ _ _ 26
          case c2 => exact cells3_one _
          case c3 => omega
          intro w4 hown hgr
          have HG4 := hide (HG3.out.next rfl hown hgr)
          clear hown hgr HG3
          go_wp2
          go_loopw [12, 13] (fun v k wz => ∃ z : Nat, z ≤ j + i ∧ k = .int .i64 z ∧ v = .slice (some ⟨g3, 0, none⟩) (1 + z) (j + i + 1) ∧ Hid (Gath wb wz g3 (j + i + 1) (⟨s, t, true⟩ :: AB.take z))) (fun _ k _ => j + i - (intOf k).toNat)
          case atStart => exact ⟨0, Nat.zero_le _, rfl, rfl, HG4⟩
          case round =>
            obtain ⟨z, hz, rfl, rfl, HG⟩ := hrel
            by_cases hlt3 : z < j + i
            · have hlen : ((⟨s, t, true⟩ : Item) :: AB.take z).length = 1 + z := by rw [List.length_cons, List.length_take, HAB.out]; omega
              have HLEN := hide hlen
              clear hlen
              obtain ⟨b, off, hbo, e1, e2, e3⟩ := (HIT.out.mono HG.out.1).get (i := z) (by rw [HAB.out]; exact hlt3)
              simp only [Option.some.injEq, Addr.mk.injEq, and_true] at hbo
              obtain ⟨rfl, rfl⟩ := hbo
              simp only [Nat.zero_add] at e1 e2 e3
              clear HG4
              go_wp2_with (first | (at_builtin; refine wpList_append_fits _ rfl _ _ 22 rfl wb.heap.size 26 i26 3 Try.underlying22 HI.out.1 HI.out.2.2.1 g3 (1 + z) (j + i + 1) (flat (⟨s, t, true⟩ :: AB.take z)) rfl (by exact (HG.out.at HLEN.out).alloc _) ⟨wr.heap.size, 0, none⟩ 1 1 (cells3 (at_ AB z)) rfl rfl ?c1 ?c2 ?c3 ?_))
              case c1 => exact three_new _ _ _ _ 26
              case c2 => exact cells3_one _
              case c3 => omega
              intro w5 hown hgr
              have HN := hide (HG.out.next HLEN.out hown hgr)
              clear hown hgr
              go_wp2
              go_roundw
              case rel => exact ⟨z + 1, by omega, by go_num, rfl, by have := HN.out; rw [List.cons_append, ← take_snoc AB z (by rw [HAB.out]; exact hlt3)] at this; exact this⟩
              case measure => simp [intOf]; omega
            · obtain rfl : z = j + i := by omega
              have HGF := hide (show Gath wb wr g3 (j + i + 1) (⟨s, t, true⟩ :: AB) by have := HG.out; rw [List.take_of_length_le (by rw [HAB.out]; omega)] at this; exact this)
              have HFR := hide (show IsItems wr (.slice (some ⟨g3, 0, none⟩) (1 + (j + i)) (j + i + 1)) (⟨s, t, true⟩ :: AB) by have := HGF.out.items; rw [List.length_cons, HAB.out] at this; rw [Nat.add_comm 1 (j + i)]; exact this)
              have HB1 := hide (HGAB.out.1.trans (HGF.out.1.mono HGAB.out.1.size))
              have HAI := hide (HV0.out.mono HB1.out)
              have HBI := hide (HV1.out.mono HB1.out)
              have HABI := hide (HIT.out.mono HGF.out.1)
              have hA : A.length ≤ 262144 := by have := HLA.out; omega
              have hB : B.length ≤ 262144 := by have := HLB.out; omega
              have hAB : AB.length ≤ 262144 := by rw [HAB.out]; omega
              have hF : ((⟨s, t, true⟩ : Item) :: AB).length ≤ 262144 := by rw [List.length_cons, HAB.out]; omega
              have K1 := hide hA
              have K2 := hide hB
              have K3 := hide hAB
              have K4 := hide hF
              clear hA hB hAB hF HG HG4 HGF HIT HGAB
              cases hla : look A s with
              | none =>
                have HLQ := hide hla
                cases hlb : look B s with
                | none =>
                have HBQ := hide hlb
                clear hla hlb
                have HAQ : Hid (look AB s = none) := hide (by rw [← HQ.out, look_append, HLQ.out, HBQ.out]; rfl)
                go_wp2_with fail
                refine (lookup_any A _ s _ K1.out HAI.out).mono ?_
                rintro e w6 ⟨rfl, hb6⟩
                rw [show ans (look A s) = ans (none) by rw [HLQ.out]]
                have HB6 := hide hb6
                clear hb6
                unfold ans
                go_wp2_with fail
                refine (lookup_any B _ s _ K2.out (by exact HBI.out.mono HB6.out)).mono ?_
                rintro e w7 ⟨rfl, hb7⟩
                rw [show ans (look B s) = ans (none) by rw [HBQ.out]]
                have HB7 := hide (after HB6.out hb7)
                clear hb7
                unfold ans
                go_wp2_with fail
                refine (lookup_any AB _ s _ K3.out (by exact HABI.out.mono HB7.out)).mono ?_
                rintro e w8 ⟨rfl, hb8⟩
                rw [show ans (look AB s) = ans (none) by rw [HAQ.out]]
                have HB8 := hide (after HB7.out hb8)
                clear hb8
                unfold ans
                go_wp2_with fail
                refine (lookup_any (⟨s, t, true⟩ :: AB) _ s _ K4.out (by exact HFR.out.mono HB8.out)).mono ?_
                rintro e w9 ⟨rfl, hb9⟩
                rw [show ans (look (⟨s, t, true⟩ :: AB) s) = ans (some ⟨s, t, true⟩) by rw [look_front]]
                have HB9 := hide (after HB8.out hb9)
                clear hb9
                unfold ans
                go_wp2
                go_ret
                exact ⟨rfl, HB1.out.trans (HB9.out.mono HB1.out.size)⟩
                | some xb =>
                have HBQ := hide hlb
                clear hla hlb
                have HAQ : Hid (look AB s = some xb) := hide (by rw [← HQ.out, look_append, HLQ.out, HBQ.out]; rfl)
                go_wp2_with fail
                refine (lookup_any A _ s _ K1.out HAI.out).mono ?_
                rintro e w6 ⟨rfl, hb6⟩
                rw [show ans (look A s) = ans (none) by rw [HLQ.out]]
                have HB6 := hide hb6
                clear hb6
                unfold ans
                go_wp2_with fail
                refine (lookup_any B _ s _ K2.out (by exact HBI.out.mono HB6.out)).mono ?_
                rintro e w7 ⟨rfl, hb7⟩
                rw [show ans (look B s) = ans (some xb) by rw [HBQ.out]]
                have HB7 := hide (after HB6.out hb7)
                clear hb7
                unfold ans
                go_wp2_with fail
                refine (lookup_any AB _ s _ K3.out (by exact HABI.out.mono HB7.out)).mono ?_
                rintro e w8 ⟨rfl, hb8⟩
                rw [show ans (look AB s) = ans (some xb) by rw [HAQ.out]]
                have HB8 := hide (after HB7.out hb8)
                clear hb8
                unfold ans
                go_wp2_with fail
                refine (lookup_any (⟨s, t, true⟩ :: AB) _ s _ K4.out (by exact HFR.out.mono HB8.out)).mono ?_
                rintro e w9 ⟨rfl, hb9⟩
                rw [show ans (look (⟨s, t, true⟩ :: AB) s) = ans (some ⟨s, t, true⟩) by rw [look_front]]
                have HB9 := hide (after HB8.out hb9)
                clear hb9
                unfold ans
                go_wp2
                go_ret
                exact ⟨rfl, HB1.out.trans (HB9.out.mono HB1.out.size)⟩
              | some xa =>
                have HLQ := hide hla
                cases hlb : look B s with
                | none =>
                have HBQ := hide hlb
                clear hla hlb
                have HAQ : Hid (look AB s = some xa) := hide (by rw [← HQ.out, look_append, HLQ.out, HBQ.out]; rfl)
                go_wp2_with fail
                refine (lookup_any A _ s _ K1.out HAI.out).mono ?_
                rintro e w6 ⟨rfl, hb6⟩
                rw [show ans (look A s) = ans (some xa) by rw [HLQ.out]]
                have HB6 := hide hb6
                clear hb6
                unfold ans
                go_wp2_with fail
                refine (lookup_any B _ s _ K2.out (by exact HBI.out.mono HB6.out)).mono ?_
                rintro e w7 ⟨rfl, hb7⟩
                rw [show ans (look B s) = ans (none) by rw [HBQ.out]]
                have HB7 := hide (after HB6.out hb7)
                clear hb7
                unfold ans
                go_wp2_with fail
                refine (lookup_any AB _ s _ K3.out (by exact HABI.out.mono HB7.out)).mono ?_
                rintro e w8 ⟨rfl, hb8⟩
                rw [show ans (look AB s) = ans (some xa) by rw [HAQ.out]]
                have HB8 := hide (after HB7.out hb8)
                clear hb8
                unfold ans
                go_wp2_with fail
                refine (lookup_any (⟨s, t, true⟩ :: AB) _ s _ K4.out (by exact HFR.out.mono HB8.out)).mono ?_
                rintro e w9 ⟨rfl, hb9⟩
                rw [show ans (look (⟨s, t, true⟩ :: AB) s) = ans (some ⟨s, t, true⟩) by rw [look_front]]
                have HB9 := hide (after HB8.out hb9)
                clear hb9
                unfold ans
                go_wp2
                go_ret
                exact ⟨rfl, HB1.out.trans (HB9.out.mono HB1.out.size)⟩
                | some xb =>
                have HBQ := hide hlb
                clear hla hlb
                have HAQ : Hid (look AB s = some xa) := hide (by rw [← HQ.out, look_append, HLQ.out, HBQ.out]; rfl)
                go_wp2_with fail
                refine (lookup_any A _ s _ K1.out HAI.out).mono ?_
                rintro e w6 ⟨rfl, hb6⟩
                rw [show ans (look A s) = ans (some xa) by rw [HLQ.out]]
                have HB6 := hide hb6
                clear hb6
                unfold ans
                go_wp2_with fail
                refine (lookup_any B _ s _ K2.out (by exact HBI.out.mono HB6.out)).mono ?_
                rintro e w7 ⟨rfl, hb7⟩
                rw [show ans (look B s) = ans (some xb) by rw [HBQ.out]]
                have HB7 := hide (after HB6.out hb7)
                clear hb7
                unfold ans
                go_wp2_with fail
                refine (lookup_any AB _ s _ K3.out (by exact HABI.out.mono HB7.out)).mono ?_
                rintro e w8 ⟨rfl, hb8⟩
                rw [show ans (look AB s) = ans (some xa) by rw [HAQ.out]]
                have HB8 := hide (after HB7.out hb8)
                clear hb8
                unfold ans
                go_wp2_with fail
                refine (lookup_any (⟨s, t, true⟩ :: AB) _ s _ K4.out (by exact HFR.out.mono HB8.out)).mono ?_
                rintro e w9 ⟨rfl, hb9⟩
                rw [show ans (look (⟨s, t, true⟩ :: AB) s) = ans (some ⟨s, t, true⟩) by rw [look_front]]
                have HB9 := hide (after HB8.out hb9)
                clear hb9
                unfold ans
                go_wp2
                go_ret
                exact ⟨rfl, HB1.out.trans (HB9.out.mono HB1.out.size)⟩

end Go.Proofs.Qxb6609399a
