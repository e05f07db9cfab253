/-
  conflicting: what its loops find.
-/
import Derived.Test.Qxb6609223aPick
import Derived.Deep.LoopGhost
import Derived.Laws.AppendOwn
namespace Go.Proofs.Qxb6609223a
open Go.RowKit
open Go.Proofs.Qxb6609223a.Kit

theorem Nx.drop {w : World} {x z : Nat × Nat} {pre l : List Ent} {e : Ent} (h : Nx w x (pre ++ e :: l) z) : Nx w (e.blk, 0) l z := by
  induction pre generalizing x with
  | nil => exact h.2
  | cons a pre ih => exact ih h.2

theorem next_any {w w1 : World} {R o k : Nat} {l pre l' : List Ent} {e : Ent} (hB : Blk w R 75 34) (h : LL w R o k l) (hl : l = pre ++ e :: l') (hm : Mod (fun _ => False) w w1) :
    Calls Try.prog 62 #[.pointer (some ⟨e.blk, 0, none⟩)] w1 fun r w' => r = .returned (headP l') ∧ w' = w1 := by
  have he : e ∈ l := by rw [hl]; simp
  obtain ⟨eB, eR, e2, _⟩ := h.each e he
  have hx : Nx w (e.blk, 0) l' (R, o) := by
    rcases h.shape with ⟨h1, _⟩ | ⟨h1, _⟩
    · rw [h1] at he
      simp at he
    · rw [hl] at h1
      exact h1.drop
  have c2 : w1.cell? ⟨e.blk, 2, none⟩ = some (.pointer (some ⟨R, o, none⟩)) := by rw [hm.cell eB.lt (fun h => h)]; exact e2
  cases l' with
  | nil => exact next_end e.blk R o w1 (by rw [hm.cell eB.lt (fun h => h)]; exact hx) c2
  | cons e' l'' =>
    obtain ⟨eB', eR', _⟩ := h.each e' (by rw [hl]; simp)
    exact next_more e.blk e'.blk R o w1 (eB'.kept (hm.block _ eB'.lt (fun h => h))) (hB.kept (hm.block _ hB.lt (fun h => h))) eR' (by rw [hm.cell eB.lt (fun h => h)]; exact hx.1) c2

/-- What stands in the way in mode k, joined ahead of the number 2^64 - 1. -/
def ahd (l : List Ent) : List Ent := l.takeWhile fun e => decide (e.seq < 18446744073709551615)
def conv (k : Nat) (l : List Ent) : List En := l.map fun e => (e.txn, k, e.seq)
def fnd (m : Nat) (U : Nat → List Ent) (k : Nat) : List En := if m = 1 ∧ k = 1 then [] else conv k (ahd (U k))
def fndTo (m : Nat) (U : Nat → List Ent) : Nat → List En
  | 0 => []
  | k + 1 => fndTo m U k ++ fnd m U k

theorem ahd_len (l : List Ent) : (ahd l).length ≤ l.length := (List.takeWhile_sublist _).length_le

theorem fnd_len (m : Nat) (U : Nat → List Ent) (k : Nat) : (fnd m U k).length ≤ (U k).length := by
  unfold fnd
  split
  · simp
  · simp only [conv, List.length_map]
    exact ahd_len _

theorem fndTo_len (m : Nat) (U : Nat → List Ent) (B : Nat) (hU : ∀ k, k < 3 → (U k).length ≤ B) : ∀ k, k ≤ 3 → (fndTo m U k).length ≤ k * B
  | 0, _ => by simp [fndTo]
  | k + 1, hk => by
    have h1 := fndTo_len m U B hU k (by omega)
    have h2 := fnd_len m U k
    have h3 := hU k (by omega)
    simp only [fndTo, List.length_append, Nat.add_mul]
    omega

theorem fndTo_mem {m : Nat} {U : Nat → List Ent} {x : En} : ∀ {k : Nat}, x ∈ fndTo m U k → ∃ j, j < k ∧ ∃ e ∈ U j, x.1 = e.txn
  | 0, h => by simp [fndTo] at h
  | k + 1, h => by
    rcases List.mem_append.1 h with h | h
    · obtain ⟨j, hj, r⟩ := fndTo_mem h
      exact ⟨j, by omega, r⟩
    · unfold fnd at h
      split at h
      · simp at h
      · obtain ⟨e, he, rfl⟩ := List.mem_map.1 h
        exact ⟨k, by omega, e, (List.takeWhile_sublist _).subset he, rfl⟩

theorem Mod.extends {w w1 : World} (h : Mod (fun _ => False) w w1) : Below w.heap.size w w1 := ⟨h.os, h.tape, h.output, h.size, fun k hk => h.block k hk (fun h => h)⟩

/-- What stands in the loops: the two boxes, the slice so far. -/
structure CS (w wr : World) (t : ByteArray) (v : Value) (ys : List En) : Prop where
  mod : Mod (fun _ => False) w wr
  size : w.heap.size + 2 ≤ wr.heap.size
  b1 : wr.cell? ⟨w.heap.size, 0, none⟩ = some (.string t)
  b2 : wr.cell? ⟨w.heap.size + 1, 0, none⟩ = some (.pointer none)
  own : wr.ownsRow (w.heap.size + 2) 77 3 v ys.length (ys.flatMap encE)

theorem CS.step {w wr w1 : World} {t : ByteArray} {v v' : Value} {ys : List En} {x : En} {o : Obj} (h : CS w wr t v ys) (hg : (wr.alloc o).grownBy w1 v.ownBlock) (ho : w1.ownsRow (w.heap.size + 2) 77 3 v' (ys.length + 1) (ys.flatMap encE ++ encE x)) : CS w w1 t v' (ys ++ [x]) := by
  have hs := h.size
  have far : ∀ k, k < w.heap.size + 2 → w1.heap[k]? = wr.heap[k]? := fun k hk => by
    rw [hg.block k (by simp; omega) (fun e => by have := (h.own.lt k e.symm).1; omega)]
    exact Below.heap_alloc _ _ _ (by omega)
  have sz : wr.heap.size + 1 ≤ w1.heap.size := by have := hg.size; simpa using this
  refine ⟨⟨hg.os.trans h.mod.os, hg.tape.trans h.mod.tape, hg.output.trans h.mod.output, by have := h.mod.size; omega, fun k hk hn => (far k (by omega)).trans (h.mod.block k hk hn)⟩, by omega, ?_, ?_, ?_⟩
  · rw [World.cell?_of_block (a := ⟨w.heap.size, 0, none⟩) (far w.heap.size (by omega))]; exact h.b1
  · rw [World.cell?_of_block (a := ⟨w.heap.size + 1, 0, none⟩) (far (w.heap.size + 1) (by omega))]; exact h.b2
  · rw [List.length_append, List.length_singleton, List.flatMap_append]
    simpa using ho

theorem info77 : (Try.prog.info? 77).map (fun i => (i.zero, i.size, i.bytes)) = some (some (.agg #[.string ⟨#[]⟩, .int .u8 0, .int .u64 0]), 3, 32) := by kernel_rfl

theorem three_new (w : World) (a b c : Value) (t : TypeId) : ∀ j u, [a, b, c][j]? = some u → (w.alloc (.cells #[a, b, c] t)).cell? ((⟨w.heap.size, 0, none⟩ : Addr).add j) = some u := by
  intro j u hu
  rw [addr_add, Nat.zero_add, cell_of_row _ _ j #[a, b, c] t (0, 0) (heap_alloc_new w _)]
  simpa using hu

theorem CS.start (w : World) (t : ByteArray) (t1 t2 : TypeId) : CS w ((w.alloc (.cells #[.string t] t1)).alloc (.cells #[.pointer none] t2)) t (.slice none 0 0) [] := by
  have e1 : ((w.alloc (.cells #[.string t] t1)).alloc (.cells #[.pointer none] t2)).heap[w.heap.size]? = some (.cells #[.string t] t1) := by
    rw [Below.heap_alloc _ _ _ (by simp)]
    exact heap_alloc_new w _
  have e2 : ((w.alloc (.cells #[.string t] t1)).alloc (.cells #[.pointer none] t2)).heap[w.heap.size + 1]? = some (.cells #[.pointer none] t2) := alloc_at (by simp) _
  refine ⟨(Mod.alloc _ _ _).trans (Mod.alloc (fun _ => False) _ _) (fun _ _ h => h), by simp, ?_, ?_, World.ownsRow_nil _ _ _ _⟩
  · rw [cell_of_row _ _ 0 _ _ (0, 0) e1]; rfl
  · rw [cell_of_row _ _ 0 _ _ (0, 0) e2]; rfl

theorem flat_get : ∀ (ys : List En) (j c : Nat) (x : En), ys[j]? = some x → c < 3 → (ys.flatMap encE)[j * 3 + c]? = (encE x)[c]?
  | [], j, c, x, h, _ => by simp at h
  | y :: ys, 0, c, x, h, hc => by
    simp at h
    subst h
    rw [List.flatMap_cons, List.getElem?_append_left (by simp [encE]; omega)]
    simp
  | y :: ys, j + 1, c, x, h, hc => by
    have h' : ys[j]? = some x := by simpa using h
    rw [List.flatMap_cons, List.getElem?_append_right (by simp [encE]; omega)]
    have : (j + 1) * 3 + c - (encE y).length = j * 3 + c := by simp [encE]; omega
    rw [this]
    exact flat_get ys j c x h' hc

theorem Rd_of_own {w : World} {base : Nat} {v : Value} {ys : List En} (h : w.ownsRow base 77 3 v ys.length (ys.flatMap encE)) : Rd w v ys := by
  rcases h.2 with ⟨h1, h2⟩ | ⟨g, cap, cur, rfl, _, hg, _⟩
  · exact Or.inl ⟨h1, List.eq_nil_of_length_eq_zero h2⟩
  · refine Or.inr ⟨g, cap, rfl, (Array.getElem?_eq_some_iff.1 hg).1, fun j x hj => ?_⟩
    have c : ∀ c u, c < 3 → (encE x)[c]? = some u → w.cell? ⟨g, j * 3 + c, none⟩ = some u := fun c u hc hu => by
      have := h.cells (g := g) rfl (j * 3 + c) u (by rw [flat_get ys j c x hj hc]; exact hu)
      rw [addr_add, Nat.zero_add] at this
      exact this
    exact ⟨c 0 _ (by omega) rfl, c 1 _ (by omega) rfl, c 2 _ (by omega) rfl⟩

theorem Mod.grown {w w' : World} (h : Mod (fun _ => False) w w') : w.grownBy w' none := ⟨h.os, h.tape, h.output, h.size, fun k hk _ => h.block k hk (fun h => h)⟩

theorem own_kept {w w' : World} {base : Nat} {v : Value} {n : Nat} {xs : List Value} (h : w.ownsRow base 77 3 v n xs) (hm : Mod (fun _ => False) w w') : w'.ownsRow base 77 3 v n xs :=
  h.kept hm.grown (by cases hv : v.ownBlock <;> simp)

set_option maxRecDepth 10000 in
set_option maxHeartbeats 4000000 in
/-- The walk of conflicting, ahead, without a Walk: what DeleteFunc and SortFunc do comes in as premises. -/
theorem confl_gen (srt : List En → List En) (mx : Int) (hmx : mx = 18446744073709551615) (w : World) {F : Nat → Prop} {R o J m : Nat} {U : Nat → List Ent} (hB : Blk w R 75 34) (h : LU w F R o U J) (hJ : J ≤ 100000) (t : ByteArray) (hne : ∀ k, k < 3 → ∀ e ∈ U k, e.txn ≠ t)
    (hsort : ∀ (base : Nat) (wr : World) (v : Value) (ys : List En), wr.ownsRow base 77 3 v ys.length (ys.flatMap encE) → ys.length ≤ 1000000 → Calls Try.prog 67 #[v, .func (.func 68) #[] #[]] wr fun r w' => r = .returned (.tuple #[]) ∧ Rd w' v (srt ys) ∧ Mod (fun b => base ≤ b) wr w') :
    Calls Try.prog 50 #[.pointer (some ⟨R, o, none⟩), .string t, .int .u8 m, .int .u64 mx, .bool true, .pointer none] w fun r w' => ∃ v, r = .returned v ∧ Rd w' v (srt (fndTo m U 3)) ∧ Mod (fun _ => False) w w' ∧ ∀ b, v.ownBlock = some b → w.heap.size ≤ b := by
  obtain ⟨i77, hi, hz, hs, hb⟩ := info_parts info77
  have HI := hide (And.intro hi (And.intro hz (And.intro hs hb)))
  have HMX := hide hmx
  clear hmx
  have HB := hide hB
  have H := hide h
  have HS := hide hsort
  have HNE := hide hne
  have hR := hB.lt
  clear hi hz hs hb hB h hsort hne
  go_enter Try.func50, Try.ntmps50
  go_wp2
  go_loopg [18, 13] 3 (fun g k v wr => ∃ j : Nat, j ≤ 3 ∧ g = 3 - j ∧ k = .int .i64 j ∧ Hid (CS w wr t v (fndTo m U j)))
  case atStart => exact ⟨0, by omega, rfl, rfl, CS.start w t _ _⟩
  case round =>
    obtain ⟨j, hj, rfl, rfl, HC⟩ := hrel
    by_cases hlt : j < 3
    · by_cases hc : m = 1 ∧ j = 1
      · have HX := hide hc
        clear hc
        go_wp2_with (go_at_call 47; refine (compatible m j _).mono ?_; rintro r w2 ⟨rfl, rfl⟩; rw [decide_eq_true HX.out])
        go_roundg (3 - (j + 1))
        case measure => omega
        case rel => exact ⟨j + 1, by omega, rfl, by go_num, by
          show CS w _ t _ (fndTo m U (j + 1))
          simp only [fndTo, fnd, HX.out, and_self, if_true, List.append_nil]
          have := HC.out
          rw [HX.out.1] at this
          rw [HX.out.2] at this
          exact this⟩
      · have HX := hide hc
        clear hc
        have cb := HC.out.b2
        go_wp2_with (first | (go_at_call 47; refine (compatible m j _).mono ?_; rintro r w2 ⟨rfl, rfl⟩; rw [decide_eq_false HX.out]) | (go_at_call 61; refine (start_front R (o + j * 5) j (U j) _ (LL.congr (H.out.ll j hlt) (fun _ _ => HC.out.mod.cell hR (fun h => h)) (fun e he => HC.out.mod.block _ ((H.out.ll j hlt).each e he).1.lt (fun h => h))) (by have := H.out.len j hlt; omega)).mono ?_; rintro r w2 ⟨rfl, rfl⟩))
        go_loopg [16, 13] (U j).length (fun g p v wr => ∃ l' : List Ent, g = l'.length ∧ p = headP l' ∧ Hid (∃ pre, U j = pre ++ l') ∧ Hid (∃ ys, CS w wr t v ys ∧ ys ++ conv j (ahd l') = fndTo m U (j + 1)))
        case atStart => exact ⟨U j, rfl, rfl, ⟨[], rfl⟩, ⟨_, HC.out, by simp [fndTo, fnd, HX.out]⟩⟩
        case round =>
          obtain ⟨l', rfl, rfl, HP, HY⟩ := hrel
          clear cb
          cases l' with
          | nil =>
            have e0 : headP ([] : List Ent) = .pointer none := rfl
            rw [e0]
            clear e0
            go_wp2
            go_roundg (3 - (j + 1))
            case measure => omega
            case rel =>
              obtain ⟨ys, hy, e⟩ := HY.out
              simp only [conv, ahd, List.takeWhile_nil, List.map_nil, List.append_nil] at e
              exact ⟨j + 1, by omega, rfl, by go_num, by rw [← e]; exact hy⟩
          | cons e l'' =>
            have e0 : headP (e :: l'') = .pointer (some ⟨e.blk, 0, none⟩) := rfl
            rw [e0]
            clear e0
            obtain ⟨ys, hy, hyy⟩ := HY.out
            obtain ⟨pre, hpre⟩ := HP.out
            have he : e ∈ U j := by rw [hpre]; simp
            obtain ⟨eB, _, _, e3⟩ := (H.out.ll j hlt).each e he
            have c3 : wr.cell? ⟨e.blk, 3, none⟩ = some (.iface 77 (.agg #[.string e.txn, .int .u8 j, .int .u64 e.seq])) := by
              rw [hy.mod.cell eB.lt (fun h => h)]
              exact e3
            have el : e.blk < wr.heap.size := Nat.lt_of_lt_of_le eB.lt hy.mod.size
            have HYY := hide (And.intro hy hyy)
            have HYL : Hid (ys.length ≤ 400000) := by
              have a1 := fndTo_len m U 100000 (fun k hk => Nat.le_trans (H.out.len k hk) hJ) (j + 1) (by omega)
              rw [← hyy, List.length_append] at a1
              show _ ≤ _
              omega
            have HPRE := hide hpre
            clear hy hyy hpre he eB e3
            by_cases hq : e.seq < 18446744073709551615
            · have hcmp : (e.seq : Int) < mx := by have := HMX.out; omega
              have HQ := hide hq
              clear hq
              go_wp2_with (first | (at_builtin; refine wpList_append_own _ rfl _ _ 106 rfl (w.heap.size + 2) 77 i77 (.agg #[.string ⟨#[]⟩, .int .u8 0, .int .u64 0]) 3 32 Try.underlying106 HI.out.1 HI.out.2.1 HI.out.2.2.1 HI.out.2.2.2 rfl (by decide) u13 ys.length (ys.flatMap encE) rfl (by exact HYY.out.1.own.alloc _) ⟨wr.heap.size, 0, none⟩ 1 1 [.string e.txn, .int .u8 j, .int .u64 e.seq] rfl rfl ?c1 ?c2 ?c3 ?c4 ?c5 ?_))
              case c1 => exact three_new _ _ _ _ 77
              case c2 => intro u hu; simp at hu; rcases hu with rfl | rfl | rfl <;> rfl
              case c3 => have := HYL.out; unfold maxLen; omega
              case c4 => have := HYL.out; omega
              case c5 => have := HYY.out.1.size; go_simp; omega
              intro v' w1 hown' hgr hnil
              have HC1 := hide (CS.step (x := (e.txn, j, e.seq)) HYY.out.1 hgr hown')
              clear hown' hgr hnil
              go_wp2_with (go_at_call 62; refine (next_any HB.out (H.out.ll j hlt) HPRE.out HC1.out.mod).mono ?_; rintro r w2 ⟨rfl, rfl⟩)
              go_roundg l''.length
              case measure => simp
              case rel => exact ⟨l'', rfl, rfl, ⟨pre ++ [e], by rw [HPRE.out]; simp⟩, ⟨_, HC1.out, by rw [← HYY.out.2]; simp [conv, ahd, HQ.out]⟩⟩
            · have hcmp : ¬ ((e.seq : Int) < mx) := by have := HMX.out; omega
              have HQ := hide hq
              clear hq
              go_wp2
              go_roundg (3 - (j + 1))
              case measure => omega
              case rel =>
                have e := HYY.out.2
                simp only [conv, ahd, List.takeWhile_cons, HQ.out, decide_false, Bool.false_eq_true, if_false, List.map_nil, List.append_nil] at e
                exact ⟨j + 1, by omega, rfl, by go_num, by rw [← e]; exact HYY.out.1⟩
    · obtain rfl : j = 3 := by omega
      have HL : Hid ((fndTo m U 3).length ≤ 1000000) := by
        have a1 := fndTo_len m U 100000 (fun k hk => Nat.le_trans (H.out.len k hk) hJ) 3 (by omega)
        show _ ≤ _
        omega
      have hne : ∀ x ∈ fndTo m U 3, x.1 ≠ t := fun x hx => by
        obtain ⟨k, hk, e, he, ex⟩ := fndTo_mem hx
        rw [ex]
        exact HNE.out k hk e he
      have HD := hide (delete_none u13 (fndTo m U 3) t w.heap.size (w.heap.size + 1) wr (Rd_of_own HC.out.own) HL.out hne HC.out.b1 HC.out.b2)
      clear hne
      go_wp2_with (first | (go_at_call 64; refine HD.out.mono ?_; rintro r w2 ⟨rfl, hm2⟩; have HM2 := hide hm2; clear hm2) | (go_at_call 67; refine (HS.out (w.heap.size + 2) w2 u13 (fndTo m U 3) (own_kept HC.out.own HM2.out) HL.out).mono ?_; rintro r w3 ⟨rfl, hrd, hm3⟩; have HF := hide (And.intro hrd ((HC.out.mod.trans HM2.out (fun _ _ h => h)).trans (G := fun b => w.heap.size + 2 ≤ b) hm3 (fun i hi hg => by omega))); clear hrd hm3))
      go_ret
      exact ⟨_, rfl, HF.out.1, HF.out.2, fun b hb => by have := (HC.out.own.lt b hb).1; omega⟩

end Go.Proofs.Qxb6609223a
