/-
  The walk of ZZaliasColumns.
-/
import Derived.Test.Qxb6609399aSplit
namespace Go.Proofs.Qxb6609399a
open Go.RowKit
open Go.Proofs.Qxb6609399a.Kit

theorem Try.info20 : (Try.prog.info? 20).map (fun i => (i.zero, i.size, i.bytes)) = some (some .nilIface, 1, 16) := by kernel_rfl

/-- A subject that is a name of one part. -/
def subj (s : ByteArray) : Value := .agg #[.string ByteArray.empty, .nilIface, .int .i64 1, .string s, .string ByteArray.empty, .slice none 0 0]

/-- An item as a column. -/
def colVal (x : Item) : Value :=
  match x.flag with
  | true => .iface 50 (.agg #[.string ByteArray.empty, .nilIface, .int .i64 1, .string x.what, .string ByteArray.empty, .slice none 0 0, .string x.alias, .bool false])
  | false => .iface 39 (subj x.alias)

/-- The three cells of a list[any] at the head of block g, none of them frozen. -/
def St (wr : World) (g : Nat) (c0 c1 c2 : Value) : Prop :=
  wr.cell? ⟨g, 0, none⟩ = some c0 ∧ wr.cell? ⟨g, 1, none⟩ = some c1 ∧ wr.cell? ⟨g, 2, none⟩ = some c2 ∧
  wr.frozen? ⟨g, 0, none⟩ = false ∧ wr.frozen? ⟨g, 1, none⟩ = false ∧ wr.frozen? ⟨g, 2, none⟩ = false

/-- The state of the loop behind j rounds. -/
def RelC (w wr : World) (L : List Item) (j : Nat) : Prop :=
  Below w.heap.size w wr ∧ w.heap.size + 1 < wr.heap.size ∧ St wr w.heap.size .nilIface (.slice none 0 0) (.bool false) ∧
  ((j = 0 ∧ St wr (w.heap.size + 1) .nilIface (.slice none 0 0) (.bool false)) ∨
   ∃ (m rcap : Nat) (ro : Option Addr) (xs : List Value), j = m + 1 ∧ St wr (w.heap.size + 1) (colVal (at_ L 0)) (.slice ro m rcap) (.bool true) ∧ wr.ownsRow (w.heap.size + 2) 20 1 (.slice ro m rcap) m xs ∧ ∀ i, i < m → xs[i]? = some (colVal (at_ L (i + 1))))

theorem RelC.start (w : World) (L : List Item) : RelC w ((w.alloc (.cells #[.nilIface, .slice none 0 0, .bool false] 44)).alloc (.cells #[.nilIface, .slice none 0 0, .bool false] 44)) L 0 := by
  refine ⟨((Below.refl _ _).alloc (Nat.le_refl _) _).alloc (by simp) _, by simp, ?_, Or.inl ⟨rfl, ?_⟩⟩
  · refine ⟨?_, ?_, ?_, ?_, ?_, ?_⟩ <;> go_simp
  · refine ⟨?_, ?_, ?_, ?_, ?_, ?_⟩ <;> go_simp

theorem one_new (w : World) (x : Value) (t : TypeId) : ∀ j u, [x][j]? = some u → (w.alloc (.cells #[x] t)).cell? ((⟨w.heap.size, 0, none⟩ : Addr).add j) = some u := by
  intro j u hu
  match j, hu with
  | 0, hu => simp at hu; subst hu; simp [Addr.add]

theorem St.kept {wr w1 : World} {g : Nat} {a b c : Value} (h : St wr g a b c) (hb : w1.heap[g]? = wr.heap[g]?) : St w1 g a b c := by
  obtain ⟨h0, h1, h2, h3, h4, h5⟩ := h
  refine ⟨?_, ?_, ?_, ?_, ?_, ?_⟩
  · rw [World.cell?_of_block (a := ⟨g, 0, none⟩) hb]; exact h0
  · rw [World.cell?_of_block (a := ⟨g, 1, none⟩) hb]; exact h1
  · rw [World.cell?_of_block (a := ⟨g, 2, none⟩) hb]; exact h2
  · rw [World.frozen?_of_block (a := ⟨g, 0, none⟩) hb]; exact h3
  · rw [World.frozen?_of_block (a := ⟨g, 1, none⟩) hb]; exact h4
  · rw [World.frozen?_of_block (a := ⟨g, 2, none⟩) hb]; exact h5

theorem St.set {wr : World} {g : Nat} {a b c : Value} (h : St wr g a b c) (u : Value) :
    St (wr.setCell ⟨g, 0, none⟩ u) g u b c ∧ St (wr.setCell ⟨g, 1, none⟩ u) g a u c ∧ St (wr.setCell ⟨g, 2, none⟩ u) g a b u := by
  obtain ⟨h0, h1, h2, h3, h4, h5⟩ := h
  refine ⟨⟨?_, ?_, ?_, ?_, ?_, ?_⟩, ⟨?_, ?_, ?_, ?_, ?_, ?_⟩, ⟨?_, ?_, ?_, ?_, ?_, ?_⟩⟩ <;> go_simp

theorem RelC.first {w wr : World} {L : List Item} (h : RelC w wr L 0) (d : Nat) (x : Value) (hx : x = colVal (at_ L 0)) :
    RelC w (((wr.drewN d).setCell ⟨w.heap.size + 1, 0, none⟩ x).setCell ⟨w.heap.size + 1, 2, none⟩ (.bool true)) L 1 := by
  obtain ⟨hB, hsz, hst, hcase⟩ := h
  rcases hcase with ⟨_, hs⟩ | ⟨m, rcap, ro, xs, hjm, _⟩
  · have hs' : St (wr.drewN d) (w.heap.size + 1) .nilIface (.slice none 0 0) (.bool false) := hs
    have hst' : St (wr.drewN d) w.heap.size .nilIface (.slice none 0 0) (.bool false) := hst
    have hB' : Below w.heap.size w (wr.drewN d) := hB.trans ⟨rfl, rfl, rfl, Nat.le_refl _, fun _ _ => rfl⟩
    refine ⟨(hB'.setCell (p := ⟨w.heap.size + 1, 0, none⟩) (Nat.le_succ _) _).setCell (p := ⟨w.heap.size + 1, 2, none⟩) (Nat.le_succ _) _, ?_, ?_, Or.inr ⟨0, 0, none, [], rfl, ?_, World.ownsRow_nil _ _ _ _, fun i hi => by omega⟩⟩
    · simpa [World.setCell] using hsz
    · refine (hst'.kept (w1 := (wr.drewN d).setCell ⟨w.heap.size + 1, 0, none⟩ x) ?_).kept ?_
      · exact Below.heap_setCell _ _ _ _ (by simp)
      · exact Below.heap_setCell _ _ _ _ (by simp)
    · rw [← hx]
      exact ((hs'.set x).1.set (.bool true)).2.2
  · omega

theorem blocks_kept {w wr w1 : World} {m rcap d : Nat} {ro : Option Addr} {xs : List Value} {o : Obj} (hsz : w.heap.size + 1 < wr.heap.size)
    (hown : wr.ownsRow (w.heap.size + 2) 20 1 (.slice ro m rcap) m xs) (hgr : ((wr.drewN d).alloc o).grownBy w1 (Value.slice ro m rcap).ownBlock) : ∀ k, k ≤ w.heap.size + 1 → w1.heap[k]? = wr.heap[k]? := by
  have hrow : ∀ k, (Value.slice ro m rcap).ownBlock = some k → w.heap.size + 2 ≤ k := fun k hk => (hown.lt k hk).1
  have hsz2 : ((wr.drewN d).alloc o).heap.size = wr.heap.size + 1 := by simp
  intro k hk
  rw [hgr.block k (by rw [hsz2]; omega) (fun e => by have := hrow k e.symm; omega)]
  exact Below.heap_alloc (wr.drewN d) o k (by show k < wr.heap.size; omega)

theorem RelC.more {w wr w1 : World} {L : List Item} {m rcap gg cap d : Nat} {ro : Option Addr} {xs : List Value} {x : Value} {o : Obj}
    (hB : Below w.heap.size w wr) (hsz : w.heap.size + 1 < wr.heap.size) (hst : St wr w.heap.size .nilIface (.slice none 0 0) (.bool false))
    (hs : St wr (w.heap.size + 1) (colVal (at_ L 0)) (.slice ro m rcap) (.bool true)) (hown : wr.ownsRow (w.heap.size + 2) 20 1 (.slice ro m rcap) m xs) (hall : ∀ i, i < m → xs[i]? = some (colVal (at_ L (i + 1))))
    (hx : x = colVal (at_ L (m + 1)))
    (hown' : w1.ownsRow (w.heap.size + 2) 20 1 (.slice (some ⟨gg, 0, none⟩) (m + 1) cap) (m + 1) (xs ++ [x])) (hgr : ((wr.drewN d).alloc o).grownBy w1 (Value.slice ro m rcap).ownBlock) :
    RelC w (w1.setCell ⟨w.heap.size + 1, 1, none⟩ (.slice (some ⟨gg, 0, none⟩) (m + 1) cap)) L (m + 1 + 1) := by
  have hrow : ∀ k, (Value.slice ro m rcap).ownBlock = some k → w.heap.size + 2 ≤ k := fun k hk => (hown.lt k hk).1
  have hB' : Below w.heap.size w (wr.drewN d) := hB.trans ⟨rfl, rfl, rfl, Nat.le_refl _, fun _ _ => rfl⟩
  have hsz2 : ((wr.drewN d).alloc o).heap.size = wr.heap.size + 1 := by simp
  have hB1 : Below w.heap.size w w1 := (hB'.alloc (by have := hB.size; exact this) o).grown hgr (by rw [hsz2]; have := hB.size; omega) (fun k hk => by have := hrow k hk; omega)
  have hbl := blocks_kept hsz hown hgr
  have hlen := hown.1
  have hgg := (hown'.lt _ rfl).1
  refine ⟨hB1.setCell (p := ⟨w.heap.size + 1, 1, none⟩) (Nat.le_succ _) _, ?_, ?_, Or.inr ⟨m + 1, cap, some ⟨gg, 0, none⟩, xs ++ [x], rfl, ?_, ?_, ?_⟩⟩
  · have := hgr.size
    rw [hsz2] at this
    simp [World.setCell]
    omega
  · refine (hst.kept (hbl _ (by omega))).kept ?_
    exact Below.heap_setCell _ _ _ _ (by simp)
  · exact ((hs.kept (hbl _ (Nat.le_refl _))).set _).2.1
  · exact ownsRow_setCell_below hown' (a := ⟨w.heap.size + 1, 1, none⟩) (Nat.lt_succ_self _) _
  · intro i hi
    by_cases e : i < m
    · rw [List.getElem?_append_left (by omega)]
      exact hall i e
    · obtain rfl : i = m := by omega
      rw [List.getElem?_append_right (by omega), hlen, hx]
      simp

/-- The slice value 'rest' holds m values in W. -/
def Tail (W : World) (rest : Value) (m : Nat) (f : Nat → Value) : Prop :=
  ∃ (ro : Option Addr) (rcap : Nat), rest = .slice ro m rcap ∧ m ≤ rcap ∧ rcap ≤ maxLen ∧ (m = 0 ∨ ∃ g, ro = some ⟨g, 0, none⟩ ∧ g < W.heap.size ∧ ∀ i, i < m → W.cell? ⟨g, i, none⟩ = some (f i))

/-- A list[any] of the items' columns. -/
def Cols (W : World) (L : List Item) (v : Value) : Prop :=
  (L.length = 0 ∧ v = .agg #[.nilIface, .slice none 0 0, .bool false]) ∨
  ∃ rest, v = .agg #[colVal (at_ L 0), rest, .bool true] ∧ 0 < L.length ∧ Tail W rest (L.length - 1) (fun i => colVal (at_ L (i + 1)))

theorem colVal_iface (x : Item) : ∃ t y, colVal x = .iface t y := by
  unfold colVal
  cases x.flag
  · exact ⟨_, _, rfl⟩
  · exact ⟨_, _, rfl⟩

theorem Tail.of_owns {wr w1 : World} {base m rcap : Nat} {ro : Option Addr} {xs : List Value} {f : Nat → Value} (hown : wr.ownsRow base 20 1 (.slice ro m rcap) m xs) (hall : ∀ i, i < m → xs[i]? = some (f i))
    (hbl : ∀ k, base ≤ k → w1.heap[k]? = wr.heap[k]?) (hsz : wr.heap.size ≤ w1.heap.size) : Tail w1 (.slice ro m rcap) m f := by
  rcases hown.2 with ⟨h, h'⟩ | ⟨g, cap, cur, h, hb, hg, hle, hmax, _⟩
  · simp only [Value.slice.injEq] at h
    obtain ⟨rfl, rfl, rfl⟩ := h
    exact ⟨none, 0, rfl, Nat.le_refl _, Nat.zero_le _, Or.inl rfl⟩
  · simp only [Value.slice.injEq, true_and] at h
    obtain ⟨rfl, rfl⟩ := h
    refine ⟨_, _, rfl, hle, hmax, Or.inr ⟨g, rfl, Nat.lt_of_lt_of_le (hown.lt _ rfl).2 hsz, fun i hi => ?_⟩⟩
    rw [World.cell?_of_block (a := ⟨g, i, none⟩) (hbl g hb), hown.cellAt i (by omega)]
    exact hall i hi

set_option maxHeartbeats 1000000 in
theorem cols_any (g0 g1 g2 : Nat) (L : List Item) (w : World) (hL : L.length ≤ 262144)
    (h0 : Col w g0 L.length (fun i => .string (at_ L i).alias)) (h1 : Col w g1 L.length (fun i => .string (at_ L i).what)) (h2 : Col w g2 L.length (fun i => .bool (at_ L i).flag)) :
    Calls Try.prog 9 #[.slice (some ⟨g0, 0, none⟩) L.length L.length, .slice (some ⟨g1, 0, none⟩) L.length L.length, .slice (some ⟨g2, 0, none⟩) L.length L.length] w fun e w' =>
      ∃ v : Value, e = .returned v ∧ Cols w' L v ∧ Below w.heap.size w w' := by
  have H0 := hide h0
  have H1 := hide h1
  have H2 := hide h2
  clear h0 h1 h2
  obtain ⟨i20, hi20, hz20, hs20, hb20⟩ := info_parts Try.info20
  have HI := hide (And.intro hi20 (And.intro hz20 (And.intro hs20 hb20)))
  clear hi20 hz20 hs20 hb20
  obtain ⟨n, hN⟩ : ∃ n, n = L.length := ⟨_, rfl⟩
  rw [← hN] at hL H0 H1 H2 ⊢
  have HN := hide hN
  clear hN
  go_enter Try.func9, Try.ntmps9
  go_wp2
  go_loopw [8] (fun k wr => ∃ j : Nat, j ≤ n ∧ k = .int .i64 j ∧ Hid (RelC w wr L j)) (fun k _ => n - (intOf k).toNat)
  case atStart => exact ⟨0, Nat.zero_le _, rfl, RelC.start w L⟩
  case round =>
    obtain ⟨j, hj, rfl, HJ⟩ := hrel
    by_cases hlt : j < n
    · obtain ⟨hB, hsz, hst, hcase⟩ := HJ.out
      have c0 : wr.cell? ⟨g0, j, none⟩ = some (.string (at_ L j).alias) := by rw [hB.cell (p := ⟨g0, j, none⟩) H0.out.1]; exact H0.out.2 j hlt
      have c1 : wr.cell? ⟨g1, j, none⟩ = some (.string (at_ L j).what) := by rw [hB.cell (p := ⟨g1, j, none⟩) H1.out.1]; exact H1.out.2 j hlt
      have c2 : wr.cell? ⟨g2, j, none⟩ = some (.bool (at_ L j).flag) := by rw [hB.cell (p := ⟨g2, j, none⟩) H2.out.1]; exact H2.out.2 j hlt
      clear hB hst
      rcases hcase with ⟨hj0, s0, s1, s2, f0, f1, f2⟩ | ⟨m, rcap, ro, xs, hjm, ⟨s0, s1, s2, f0, f1, f2⟩, hown, hall⟩
      · cases hf : (at_ L j).flag
        · rw [hf] at c2
          have HF := hide hf
          have H00 := hide hj0
          clear hf hj0
          go_wp2
          go_roundw
          case rel =>
            obtain rfl := H00.out
            exact ⟨1, by omega, by go_num, HJ.out.first 0 _ (by simp [colVal, subj, HF.out]; rfl)⟩
          case measure => simp [intOf]; omega
        · rw [hf] at c2
          have HF := hide hf
          have H00 := hide hj0
          clear hf hj0
          go_wp2
          go_quiet (fail)
          go_wp2
          go_roundw
          case rel =>
            obtain rfl := H00.out
            exact ⟨1, by omega, by go_num, HJ.out.first _ _ (by simp [colVal, HF.out]; rfl)⟩
          case measure => simp [intOf]; omega
      · have HOW := hide hown
        have HA := hide hall
        have HJM := hide hjm
        clear hown hall hjm
        cases hf : (at_ L j).flag
        · rw [hf] at c2
          have HF := hide hf
          clear hf
          go_wp2_with (first | (at_builtin; refine wpList_append_own _ rfl _ _ 42 rfl (w.heap.size + 2) 20 i20 .nilIface 1 16 Try.underlying42 HI.out.1 HI.out.2.1 HI.out.2.2.1 HI.out.2.2.2 rfl (by decide) (.slice ro m rcap) m xs rfl (by exact HOW.out.alloc _) ⟨wr.heap.size, 0, none⟩ 1 1 [(.iface 39 (.agg #[.string ⟨#[]⟩, .nilIface, .int .i64 1, .string (at_ L j).alias, .string ⟨#[]⟩, .slice none 0 0]))] rfl rfl ?c1 ?c2 ?c3 ?c4 ?c5 ?_))
          case c1 => exact one_new _ _ 20
          case c2 => intro u hu; simp at hu; subst hu; rfl
          case c3 => have := HJM.out; unfold maxLen; omega
          case c4 => have := HJM.out; omega
          case c5 => go_simp; omega
          intro v' w1 hown' hgr hnil
          have hex : ∃ gg cap, v' = .slice (some ⟨gg, 0, none⟩) (m + 1) cap := by
            rcases hown'.2 with ⟨h, _⟩ | ⟨gg, cap, _, h, _⟩
            · exact absurd h (by simpa using hnil)
            · exact ⟨gg, cap, h⟩
          obtain ⟨gg, cap, hv⟩ := hex
          rw [hv] at hown'
          rw [hv]
          obtain ⟨hB, _, hst, _⟩ := HJ.out
          have FIN := hide (RelC.more hB hsz hst ⟨s0, s1, s2, f0, f1, f2⟩ HOW.out HA.out (by rw [← HJM.out]; simp [colVal, subj, HF.out]; rfl) hown' (d := 0) hgr)
          obtain ⟨t0, t1, t2, q0, q1, q2⟩ := St.kept (w1 := w1) (g := w.heap.size + 1) ⟨s0, s1, s2, f0, f1, f2⟩ (blocks_kept hsz HOW.out (d := 0) hgr _ (Nat.le_refl _))
          have HG := hide hgr
          have HOWN := hide hown'
          clear hgr hown' hst hB hnil hv
          go_wp2
          go_roundw
          case rel =>
            obtain rfl := HJM.out
            exact ⟨m + 1 + 1, by omega, by go_num, FIN.out⟩
          case measure => simp [intOf]; omega
        · rw [hf] at c2
          have HF := hide hf
          clear hf
          go_wp2
          go_quiet (fail)
          go_wp2_with (first | (at_builtin; refine wpList_append_own _ rfl _ _ 42 rfl (w.heap.size + 2) 20 i20 .nilIface 1 16 Try.underlying42 HI.out.1 HI.out.2.1 HI.out.2.2.1 HI.out.2.2.2 rfl (by decide) (.slice ro m rcap) m xs rfl (by exact HOW.out.alloc _) ⟨wr.heap.size, 0, none⟩ 1 1 [(.iface 50 (.agg #[.string ⟨#[]⟩, .nilIface, .int .i64 1, .string (at_ L j).what, .string ⟨#[]⟩, .slice none 0 0, .string (at_ L j).alias, .bool false]))] rfl rfl ?c1 ?c2 ?c3 ?c4 ?c5 ?_))
          case c1 => exact one_new _ _ 20
          case c2 => intro u hu; simp at hu; subst hu; rfl
          case c3 => have := HJM.out; unfold maxLen; omega
          case c4 => have := HJM.out; omega
          case c5 => go_simp; omega
          intro v' w1 hown' hgr hnil
          have hex : ∃ gg cap, v' = .slice (some ⟨gg, 0, none⟩) (m + 1) cap := by
            rcases hown'.2 with ⟨h, _⟩ | ⟨gg, cap, _, h, _⟩
            · exact absurd h (by simpa using hnil)
            · exact ⟨gg, cap, h⟩
          obtain ⟨gg, cap, hv⟩ := hex
          rw [hv] at hown'
          rw [hv]
          obtain ⟨hB, _, hst, _⟩ := HJ.out
          have FIN := hide (RelC.more hB hsz hst ⟨s0, s1, s2, f0, f1, f2⟩ HOW.out HA.out (by rw [← HJM.out]; simp [colVal, HF.out]; rfl) hown' (d := nq) hgr)
          obtain ⟨t0, t1, t2, q0, q1, q2⟩ := St.kept (w1 := w1) (g := w.heap.size + 1) ⟨s0, s1, s2, f0, f1, f2⟩ (blocks_kept hsz HOW.out (d := nq) hgr _ (Nat.le_refl _))
          have HG := hide hgr
          have HOWN := hide hown'
          clear hgr hown' hst hB hnil hv
          go_wp2
          go_roundw
          case rel =>
            obtain rfl := HJM.out
            exact ⟨m + 1 + 1, by omega, by go_num, FIN.out⟩
          case measure => simp [intOf]; omega
    · obtain ⟨hB, hsz, ⟨p0, p1, p2, q0, q1, q2⟩, hcase⟩ := HJ.out
      have HB := hide hB
      clear hB
      rcases hcase with ⟨hj0, s0, s1, s2, f0, f1, f2⟩ | ⟨m, rcap, ro, xs, hjm, ⟨s0, s1, s2, f0, f1, f2⟩, hown, hall⟩
      · have H00 := hide hj0
        clear hj0
        go_wp2
        refine bodyPost_ret (v := .agg #[.nilIface, .slice none 0 0, .bool false]) (by simp [results, Try.results9, go_sem, p0, p1, p2]) rfl ⟨_, rfl, Or.inl ⟨by have := HN.out; have := H00.out; omega, rfl⟩, ?_⟩
        exact ((HB.out.setCell (p := ⟨w.heap.size, 0, none⟩) (Nat.le_refl _) _).setCell (p := ⟨w.heap.size, 1, none⟩) (Nat.le_refl _) _).setCell (p := ⟨w.heap.size, 2, none⟩) (Nat.le_refl _) _
      · obtain ⟨ct, cy, hcv⟩ := colVal_iface (at_ L 0)
        rw [hcv] at s0
        have HCV := hide hcv
        have HOW := hide hown
        have HA := hide hall
        have HJM := hide hjm
        clear hown hall hjm hcv
        go_wp2
        refine bodyPost_ret (v := .agg #[.iface ct cy, .slice ro m rcap, .bool true]) (by simp [results, Try.results9, go_sem, p0, p1, p2]) rfl ⟨_, rfl, Or.inr ⟨.slice ro m rcap, by rw [HCV.out], by have := HN.out; have := HJM.out; omega, ?_⟩, ?_⟩
        · have e1 : L.length - 1 = m := by have := HN.out; have := HJM.out; omega
          rw [e1]
          refine Tail.of_owns HOW.out HA.out (fun k hk => ?_) (by simp [World.setCell])
          rw [Below.heap_setCell _ _ _ _ (by simp; omega), Below.heap_setCell _ _ _ _ (by simp; omega), Below.heap_setCell _ _ _ _ (by simp; omega)]
        · exact ((HB.out.setCell (p := ⟨w.heap.size, 0, none⟩) (Nat.le_refl _) _).setCell (p := ⟨w.heap.size, 1, none⟩) (Nat.le_refl _) _).setCell (p := ⟨w.heap.size, 2, none⟩) (Nat.le_refl _) _

end Go.Proofs.Qxb6609399a
