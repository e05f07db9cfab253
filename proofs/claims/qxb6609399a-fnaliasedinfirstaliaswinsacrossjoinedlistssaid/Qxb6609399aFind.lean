/-
  The walk of aliasedIn and ZZaliasedIn.
-/
import Derived.Test.Qxb6609399aKey
namespace Go.Proofs.Qxb6609399a
open Go.RowKit
open Go.Proofs.Qxb6609399a.Kit

/-- Is the item a column aliased to s? -/
def hit (s : ByteArray) (x : Item) : Bool := x.flag && (x.alias.toList == s.toList)

/-- The first item aliased to s. -/
def look (L : List Item) (s : ByteArray) : Option Item := L.find? (hit s)

/-- A subject of n parts whose first is s. -/
def res (o : Option Item) : Value :=
  match o with
  | some x => .tuple #[.agg #[.string ⟨#[]⟩, .nilIface, .int .i64 1, .string x.what, .string ⟨#[]⟩, .slice none 0 0], .bool true]
  | none => .tuple #[.agg #[.string ⟨#[]⟩, .nilIface, .int .i64 0, .string ⟨#[]⟩, .string ⟨#[]⟩, .slice none 0 0], .bool false]

theorem assert50 (v : Value) (w : World) : (Instr.typeAssert (.iface 50 v) 20 50 true).run Try.prog w = .ok (.tuple #[v, .bool true]) w := by kernel_rfl
theorem assert39 (v : Value) (w : World) : (Instr.typeAssert (.iface 39 v) 20 50 true).run Try.prog w =
    .ok (.tuple #[.agg #[.string ⟨#[]⟩, .nilIface, .int .i64 0, .string ⟨#[]⟩, .string ⟨#[]⟩, .slice none 0 0, .string ⟨#[]⟩, .bool false], .bool false]) w := by kernel_rfl

/-- What the call's own three blocks hold while it searches. -/
def Fr (wr : World) (B : Nat) (c0 c1 c2 : Value) (s : ByteArray) : Prop :=
  (wr.cell? ⟨B, 0, none⟩ = some c0 ∧ wr.cell? ⟨B, 1, none⟩ = some c1 ∧ wr.cell? ⟨B, 2, none⟩ = some c2) ∧
  (wr.cell? ⟨B + 1, 3, none⟩ = some (.string s) ∧ wr.cell? ⟨B + 1, 5, none⟩ = some (.slice none 0 0)) ∧
  (wr.cell? ⟨B + 1 + 1, 0, none⟩ = some (.string ⟨#[]⟩) ∧ wr.cell? ⟨B + 1 + 1, 1, none⟩ = some .nilIface ∧ wr.cell? ⟨B + 1 + 1, 2, none⟩ = some (.int .i64 0) ∧
    wr.cell? ⟨B + 1 + 1, 3, none⟩ = some (.string ⟨#[]⟩) ∧ wr.cell? ⟨B + 1 + 1, 4, none⟩ = some (.string ⟨#[]⟩) ∧ wr.cell? ⟨B + 1 + 1, 5, none⟩ = some (.slice none 0 0)) ∧
  (wr.frozen? ⟨B + 1 + 1, 0, none⟩ = false ∧ wr.frozen? ⟨B + 1 + 1, 1, none⟩ = false ∧ wr.frozen? ⟨B + 1 + 1, 2, none⟩ = false ∧
    wr.frozen? ⟨B + 1 + 1, 3, none⟩ = false ∧ wr.frozen? ⟨B + 1 + 1, 4, none⟩ = false ∧ wr.frozen? ⟨B + 1 + 1, 5, none⟩ = false) ∧
  B + 1 + 1 < wr.heap.size

theorem Fr.mono {wr w1 : World} {B : Nat} {c0 c1 c2 : Value} {s : ByteArray} (h : Fr wr B c0 c1 c2 s) (hb : Below wr.heap.size wr w1) : Fr w1 B c0 c1 c2 s := by
  obtain ⟨⟨a0, a1, a2⟩, ⟨k3, k5⟩, ⟨z0, z1, z2, z3, z4, z5⟩, ⟨f0, f1, f2, f3, f4, f5⟩, hs⟩ := h
  have e : ∀ b o, b < wr.heap.size → w1.cell? ⟨b, o, none⟩ = wr.cell? ⟨b, o, none⟩ := fun b o h => hb.cell (p := ⟨b, o, none⟩) h
  have f : ∀ b o, b < wr.heap.size → w1.frozen? ⟨b, o, none⟩ = wr.frozen? ⟨b, o, none⟩ := fun b o h => hb.frozen (p := ⟨b, o, none⟩) h
  refine ⟨⟨?_, ?_, ?_⟩, ⟨?_, ?_⟩, ⟨?_, ?_, ?_, ?_, ?_, ?_⟩, ⟨?_, ?_, ?_, ?_, ?_, ?_⟩, Nat.lt_of_lt_of_le hs hb.size⟩
  all_goals first | (rw [e _ _ (by omega)]; assumption) | (rw [f _ _ (by omega)]; assumption)

theorem Fr.start (w : World) (c0 c1 c2 : Value) (s : ByteArray) : Fr (((w.alloc (.cells #[c0, c1, c2] 44)).alloc (.cells #[.string ⟨#[]⟩, .nilIface, .int .i64 1, .string s, .string ⟨#[]⟩, .slice none 0 0] 39)).alloc (.cells #[.string ⟨#[]⟩, .nilIface, .int .i64 0, .string ⟨#[]⟩, .string ⟨#[]⟩, .slice none 0 0] 39)) w.heap.size c0 c1 c2 s := by
  refine ⟨⟨?_, ?_, ?_⟩, ⟨?_, ?_⟩, ⟨?_, ?_, ?_, ?_, ?_, ?_⟩, ⟨?_, ?_, ?_, ?_, ?_, ?_⟩, ?_⟩ <;> go_simp

theorem three_below (w : World) (o1 o2 o3 : Obj) : Below w.heap.size w (((w.alloc o1).alloc o2).alloc o3) := (((Below.refl _ _).alloc (Nat.le_refl _) _).alloc (by simp) _).alloc (by simp; omega) _

theorem after {a b c : World} (h : Below a.heap.size a b) (k : Below b.heap.size b c) : Below a.heap.size a c := h.trans (k.mono h.size)

theorem alloc_drew (w : World) (o : Obj) (d : Nat) : Below w.heap.size w ((w.alloc o).drewN d) := ((Below.refl _ _).alloc (Nat.le_refl _) _).trans ⟨rfl, rfl, rfl, Nat.le_refl _, fun _ _ => rfl⟩

theorem six_below {w w1 : World} {B g : Nat} (h : Below B w w1) (hg : B ≤ g) (v0 v1 v2 v3 v4 v5 : Value) :
    Below B w ((((((w1.setCell ⟨g, 0, none⟩ v0).setCell ⟨g, 1, none⟩ v1).setCell ⟨g, 2, none⟩ v2).setCell ⟨g, 3, none⟩ v3).setCell ⟨g, 4, none⟩ v4).setCell ⟨g, 5, none⟩ v5) :=
  (((((h.setCell (p := ⟨g, 0, none⟩) hg _).setCell (p := ⟨g, 1, none⟩) hg _).setCell (p := ⟨g, 2, none⟩) hg _).setCell (p := ⟨g, 3, none⟩) hg _).setCell (p := ⟨g, 4, none⟩) hg _).setCell (p := ⟨g, 5, none⟩) hg _

theorem look_none {L : List Item} {s : ByteArray} (h : ∀ i, i < L.length → hit s (at_ L i) = false) : look L s = none := by
  unfold look
  rw [List.find?_eq_none]
  intro x hx hc
  obtain ⟨i, hi, rfl⟩ := List.getElem_of_mem hx
  have := h i hi
  unfold at_ at this
  rw [List.getD_eq_getElem?_getD, List.getElem?_eq_getElem hi] at this
  simp only [Option.getD_some] at this
  rw [this] at hc
  cases hc

theorem look_some {L : List Item} {s : ByteArray} {j : Nat} (hj : j < L.length) (h : ∀ i, i < j → hit s (at_ L i) = false) (hh : hit s (at_ L j) = true) : look L s = some (at_ L j) := by
  unfold look
  rw [List.find?_eq_some_iff_getElem]
  have e : ∀ i (hi : i < L.length), at_ L i = L[i] := fun i hi => by
    unfold at_
    rw [List.getD_eq_getElem?_getD, List.getElem?_eq_getElem hi]
    rfl
  refine ⟨hh, j, hj, (e j hj).symm, fun i hi => ?_⟩
  have := h i hi
  rw [e i (by omega)] at this
  simp [this]

set_option maxHeartbeats 1000000 in
theorem find_none (s : ByteArray) (w : World) :
    Calls Try.prog 12 #[.agg #[.nilIface, .slice none 0 0, .bool false], .agg #[.string ⟨#[]⟩, .nilIface, .int .i64 1, .string s, .string ⟨#[]⟩, .slice none 0 0]] w fun e w' =>
      e = .returned (res none) ∧ Below w.heap.size w w' := by
  go_enter Try.func12, Try.ntmps12
  go_wp2_with fail
  refine (len_none _).mono ?_
  rintro e w1 ⟨rfl, hb⟩
  have HB := hide (after (three_below _ _ _ _) hb)
  obtain ⟨_, _, ⟨z0, z1, z2, z3, z4, z5⟩, ⟨f0, f1, f2, f3, f4, f5⟩, hs⟩ := (Fr.start w .nilIface (.slice none 0 0) (.bool false) s).mono hb
  clear hb
  go_wp2
  go_loop [26] (fun k => k = .int .i64 0) (fun _ => 0)
  case atStart => rfl
  case round =>
    subst hrel
    go_wp2
    refine bodyPost_ret (v := res none) (by simp [res, results, Try.results12, go_sem, z0, z1, z2, z3, z4, z5]) rfl ⟨rfl, ?_⟩
    exact six_below HB.out (by omega) _ _ _ _ _ _

set_option maxHeartbeats 1000000 in
theorem find_some (L : List Item) (rest : Value) (s : ByteArray) (w : World) (hL : L.length ≤ 262144) (h0 : 0 < L.length) (ht : Tail w rest (L.length - 1) (fun i => colVal (at_ L (i + 1)))) :
    Calls Try.prog 12 #[.agg #[colVal (at_ L 0), rest, .bool true], .agg #[.string ⟨#[]⟩, .nilIface, .int .i64 1, .string s, .string ⟨#[]⟩, .slice none 0 0]] w fun e w' =>
      e = .returned (res (look L s)) ∧ Below w.heap.size w w' := by
  have HT := hide ht
  obtain ⟨ct, cy, hcv⟩ := colVal_iface (at_ L 0)
  rw [hcv]
  have HCV := hide hcv
  clear hcv
  obtain ⟨ro, rcap, rfl, h1, h2, h3⟩ := ht
  clear h2 h3
  have H1 := hide h1
  clear h1
  obtain ⟨n, hN⟩ : ∃ n, n = L.length := ⟨_, rfl⟩
  obtain ⟨m, hm⟩ : ∃ m, m = L.length - 1 := ⟨_, rfl⟩
  rw [← hm] at HT H1 ⊢
  rw [← hN] at hL h0
  have HN := hide hN
  have HM := hide hm
  have hm1 : (m : Int) ≤ 1000000 := by omega
  have hmn : n = 1 + m := by omega
  have HMN := hide hmn
  clear hN hm hmn
  go_enter Try.func12, Try.ntmps12
  go_wp2_with fail
  refine (len_any ct cy ro m rcap hm1 _).mono ?_
  rintro e w1 ⟨rfl, hb⟩
  have HB := hide (after (three_below _ _ _ _) hb)
  have HF := hide ((Fr.start w (.iface ct cy) (.slice ro m rcap) (.bool true) s).mono hb)
  clear hb
  have e1 : (1 : Int) + m = n := by have := HMN.out; omega
  rw [e1]
  clear e1
  go_wp2
  go_loopw [26] (fun k wr => ∃ j : Nat, j ≤ n ∧ k = .int .i64 j ∧ Hid (Below w.heap.size w wr) ∧ Hid (Fr wr w.heap.size (.iface ct cy) (.slice ro m rcap) (.bool true) s) ∧ Hid (∀ i, i < j → hit s (at_ L i) = false)) (fun k _ => n - (intOf k).toNat)
  case atStart => exact ⟨0, Nat.zero_le _, rfl, HB, HF, fun i hi => by omega⟩
  case round =>
    obtain ⟨j, hj, rfl, HBr, HFr, HA⟩ := hrel
    obtain ⟨⟨a0, a1, a2⟩, ⟨k3, k5⟩, ⟨z0, z1, z2, z3, z4, z5⟩, ⟨f0, f1, f2, f3, f4, f5⟩, hs⟩ := HFr.out
    by_cases hlt : j < n
    · have ha1 := assert50
      have ha2 := assert39
      cases hfl : (at_ L j).flag
      · have HFL := hide hfl
        clear hfl
        go_wp2_with fail
        refine (at_any L ct cy (.slice ro m rcap) j wr HCV.out (by have := HN.out; omega) (by have := HN.out; omega) (by have := HT.out.mono HBr.out; rw [HM.out] at this ⊢; exact this)).mono ?_
        rintro e w2 ⟨rfl, hb2⟩
        have hcol : colVal (at_ L j) = (.iface 39 (.agg #[.string ⟨#[]⟩, .nilIface, .int .i64 1, .string (at_ L j).alias, .string ⟨#[]⟩, .slice none 0 0])) := by simp [colVal, HFL.out , subj]; rfl
        rw [hcol]
        clear hcol
        have HB2 := hide (after HBr.out hb2)
        have HF2 := hide (HFr.out.mono hb2)
        obtain ⟨⟨b0, b1, b2⟩, ⟨l3, l5⟩, ⟨y0, y1, y2, y3, y4, y5⟩, ⟨g0, g1, g2, g3, g4, g5⟩, hs2⟩ := HF2.out
        clear hb2 a0 a1 a2 k3 k5 z0 z1 z2 z3 z4 z5 f0 f1 f2 f3 f4 f5 hs
        go_wp2
        go_quiet (fail)
        go_wp2
        go_roundw
        case rel => exact ⟨j + 1, by omega, by go_num, after HB2.out (alloc_drew _ _ _), HF2.out.mono (alloc_drew _ _ _), fun i hi => by
          by_cases e : i < j
          · exact HA.out i e
          · obtain rfl : i = j := by omega
            simp [hit, HFL.out]⟩
        case measure => simp [intOf]; omega
      · have HFL := hide hfl
        clear hfl
        go_wp2_with fail
        refine (at_any L ct cy (.slice ro m rcap) j wr HCV.out (by have := HN.out; omega) (by have := HN.out; omega) (by have := HT.out.mono HBr.out; rw [HM.out] at this ⊢; exact this)).mono ?_
        rintro e w2 ⟨rfl, hb2⟩
        have hcol : colVal (at_ L j) = (.iface 50 (.agg #[.string ⟨#[]⟩, .nilIface, .int .i64 1, .string (at_ L j).what, .string ⟨#[]⟩, .slice none 0 0, .string (at_ L j).alias, .bool false])) := by simp [colVal, HFL.out ]; rfl
        rw [hcol]
        clear hcol
        have HB2 := hide (after HBr.out hb2)
        have HF2 := hide (HFr.out.mono hb2)
        obtain ⟨⟨b0, b1, b2⟩, ⟨l3, l5⟩, ⟨y0, y1, y2, y3, y4, y5⟩, ⟨g0, g1, g2, g3, g4, g5⟩, hs2⟩ := HF2.out
        clear hb2 a0 a1 a2 k3 k5 z0 z1 z2 z3 z4 z5 f0 f1 f2 f3 f4 f5 hs
        have m3 : ∀ o, (w2.alloc o).cell? ⟨w.heap.size + 1, 3, none⟩ = some (.string s) := fun o => by rw [((Below.refl w2.heap.size w2).alloc (Nat.le_refl _) o).cell (p := ⟨w.heap.size + 1, 3, none⟩) (by show w.heap.size + 1 < w2.heap.size; omega)]; exact l3
        have m5 : ∀ o, (w2.alloc o).cell? ⟨w.heap.size + 1, 5, none⟩ = some (.slice none 0 0) := fun o => by rw [((Below.refl w2.heap.size w2).alloc (Nat.le_refl _) o).cell (p := ⟨w.heap.size + 1, 5, none⟩) (by show w.heap.size + 1 < w2.heap.size; omega)]; exact l5
        cases hq : ((at_ L j).alias.toList == s.toList)
        · go_wp2
          go_quiet ((go_at_call 16; exact Calls.quiet_of_same (part_any _ _ _ (by exact m3 _) (by exact m5 _))))
          go_wp2
          go_roundw
          case rel => exact ⟨j + 1, by omega, by go_num, after HB2.out (alloc_drew _ _ _), HF2.out.mono (alloc_drew _ _ _), fun i hi => by
            by_cases e : i < j
            · exact HA.out i e
            · obtain rfl : i = j := by omega
              simp only [hit, hq, Bool.and_false]⟩
          case measure => simp [intOf]; omega
        · go_wp2
          go_quiet ((go_at_call 16; exact Calls.quiet_of_same (part_any _ _ _ (by exact m3 _) (by exact m5 _))))
          go_wp2
          rw [look_some (by have := HN.out; omega) HA.out (by simp only [hit, hq, HFL.out, Bool.and_self])]
          obtain ⟨_, _, ⟨x0, x1, x2, x3, x4, x5⟩, _, _⟩ := HF2.out.mono (alloc_drew w2 (.cells #[.string ⟨#[]⟩, .nilIface, .int .i64 1, .string (at_ L j).what, .string ⟨#[]⟩, .slice none 0 0, .string (at_ L j).alias, .bool false] 50) nq)
          refine bodyPost_ret (v := res (some (at_ L j))) (by simp [res, results, Try.results12, go_sem, x0, x1, x2, x3, x4, x5]) rfl ⟨rfl, ?_⟩
          exact six_below (after HB2.out (alloc_drew _ _ _)) (by omega) _ _ _ _ _ _
    · go_wp2
      refine bodyPost_ret (v := res none) (by simp [res, results, Try.results12, go_sem, z0, z1, z2, z3, z4, z5]) rfl ⟨?_, ?_⟩
      · rw [look_none (fun i hi => HA.out i (by have := HN.out; omega))]
      · exact six_below HBr.out (by omega) _ _ _ _ _ _

end Go.Proofs.Qxb6609399a
