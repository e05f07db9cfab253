/-
  slices.SortFunc at the entries: what it leaves.
-/
import Derived.Test.Qxb6609223aConfl
import Derived.Test.Qxb6609223aShelf
namespace Go.Proofs.Qxb6609223a
open Go.RowKit Go.Shelf Go.Lib Go.Sort
open Go.Proofs.Qxb6609223a.Kit

/-- What the literal answers: cmp.Compare of the numbers. -/
def cmpE (x y : En) : Int := if x.2.2 < y.2.2 then -1 else if y.2.2 < x.2.2 then 1 else 0

theorem isNaN_u64 (a : Int) (w : World) : Calls Try.prog 78 #[.int .u64 a] w fun r w' => r = .returned (.bool false) ∧ w' = w := by
  have h : (a == a) = true := by simp
  go_enter Try.func78, Try.ntmps78
  go_wp2
  go_ret
  exact ⟨rfl, rfl⟩

theorem compare_u64 (a b : Nat) (w : World) : Calls Try.prog 69 #[.int .u64 a, .int .u64 b] w fun r w' => r = .returned (.int .i64 (if a < b then -1 else if b < a then 1 else 0)) ∧ w' = w := by
  by_cases h1 : a < b
  · have h1' : (a : Int) < b := by omega
    have H1 := hide h1
    clear h1
    go_enter Try.func69, Try.ntmps69
    go_wp2_with (go_at_call 78; refine (isNaN_u64 _ _).mono ?_; rintro r w' ⟨rfl, rfl⟩)
    go_ret
    exact ⟨rfl, rfl⟩
  · by_cases h2 : b < a
    · have h1' : ¬ ((a : Int) < b) := by omega
      have h2' : (b : Int) < a := by omega
      have H1 := hide h1
      have H2 := hide h2
      clear h1 h2
      go_enter Try.func69, Try.ntmps69
      go_wp2_with (go_at_call 78; refine (isNaN_u64 _ _).mono ?_; rintro r w' ⟨rfl, rfl⟩)
      go_ret
      exact ⟨rfl, rfl⟩
    · have h1' : ¬ ((a : Int) < b) := by omega
      have h2' : ¬ ((b : Int) < a) := by omega
      have H1 := hide h1
      have H2 := hide h2
      clear h1 h2
      go_enter Try.func69, Try.ntmps69
      go_wp2_with (go_at_call 78; refine (isNaN_u64 _ _).mono ?_; rintro r w' ⟨rfl, rfl⟩)
      go_ret
      exact ⟨rfl, rfl⟩

set_option maxHeartbeats 1000000 in
theorem closure68 (x y : En) (W : World) : Calls Try.prog 68 #[.agg (encE x).toArray, .agg (encE y).toArray] W fun e w' => e = .returned (.int .i64 (cmpE x y)) ∧ ∃ q os', w' = grow (W.drewN q) os' := by
  have hcon := fun W' => compare_u64 x.2.2 y.2.2 W'
  unfold cmpE
  generalize (if x.2.2 < y.2.2 then (-1 : Int) else if y.2.2 < x.2.2 then 1 else 0) = r at hcon ⊢
  show Calls Try.prog 68 #[.agg #[.string x.1, .int .u8 x.2.1, .int .u64 x.2.2], .agg #[.string y.1, .int .u8 y.2.1, .int .u64 y.2.2]] W _
  go_enter Try.func68, Try.ntmps68
  go_wp2_with (go_at_call 69; refine (hcon _).mono ?_; rintro e w' ⟨rfl, rfl⟩)
  go_ret
  exact ⟨rfl, 0, _, by rw [alloc_eq_grow, alloc_eq_grow, grow_grow]; rfl⟩

theorem ltE (x y : En) : ltOf cmpE x y = decide (x.2.2 < y.2.2) := by
  unfold ltOf cmpE
  by_cases h1 : x.2.2 < y.2.2
  · simp [h1]
  · by_cases h2 : y.2.2 < x.2.2 <;> simp [h1, h2]

theorem swoE : SWO (ltOf cmpE) := {
  irrefl := fun x => by rw [ltE]; simp
  trans := fun x y z h1 h2 => by rw [ltE] at *; simp at *; omega
  ntrans := fun x y z h1 h2 => by rw [ltE] at *; simp at *; omega }

/-- The entries as SortFunc leaves them. -/
def srtE (ys : List En) : List En := (pdq (ltOf cmpE) ys.toArray 0 ys.toArray.size (Lib.bitLen ys.toArray.size) true true).toList

theorem srtE_len (ys : List En) : (srtE ys).length = ys.length := by
  have h := (pdq_sorts (ltOf cmpE) swoE ys.toArray 0 ys.toArray.size (Lib.bitLen ys.toArray.size) true true (Nat.zero_le _) (Nat.le_refl _) (Or.inl rfl)).1.1
  simpa [srtE] using h

theorem holds_of_own {w : World} {base g cap n : Nat} {ys : List En} (h : w.ownsRow base 77 3 (.slice (some ⟨g, 0, none⟩) n cap) ys.length (ys.flatMap encE)) : HoldsK encE 3 w g 0 ys.toArray := by
  obtain ⟨cur, hg⟩ : ∃ cur, w.heap[g]? = some (.cells cur 77 (0, 0)) := by
    rcases h.2 with ⟨h1, _⟩ | ⟨g', cap', cur, h1, _, hg, _⟩
    · cases h1
    · cases h1
      exact ⟨cur, hg⟩
  intro t ht
  rw [size_flatK] at ht
  have hj : t / 3 < ys.length := by
    simp only [List.size_toArray] at ht
    omega
  have hx : ys[t / 3]? = some ys[t / 3] := List.getElem?_eq_getElem hj
  refine ⟨?_, frozen_of_row w g _ cur 77 hg⟩
  rw [get_flatK _ _ _ _ ht]
  have e1 : ys.toArray[t / 3]! = ys[t / 3] := by
    rw [getElem!_pos _ _ (by simpa using hj)]
    simp
  rw [e1]
  have hc : t % 3 < (encE ys[t / 3]).length := by simp [encE]; omega
  have e2 : (encE ys[t / 3])[t % 3]? = some (encE ys[t / 3])[t % 3]! := by
    rw [List.getElem?_eq_getElem hc, getElem!_pos (encE ys[t / 3]) (t % 3) hc]
  have e3 := flat_get ys (t / 3) (t % 3) _ hx (by omega)
  rw [show t / 3 * 3 + t % 3 = t by omega, e2] at e3
  have := h.cells (g := g) rfl t _ e3
  rw [addr_add] at this
  exact this

theorem Rd_of_holds {w : World} {g cap n : Nat} {D : Array En} (h : HoldsK encE 3 w g 0 D) (hg : g < w.heap.size) (hn : D.toList.length = n) : Rd w (.slice (some ⟨g, 0, none⟩) n cap) D.toList := by
  refine Or.inr ⟨g, cap, by rw [hn], hg, fun j x hj => ?_⟩
  obtain ⟨hj', hx⟩ := List.getElem?_eq_some_iff.1 hj
  have hj2 : j < D.size := by simpa using hj'
  have e : D[j]! = x := by
    rw [getElem!_pos D j hj2, ← hx]
    simp
  have c : ∀ c, c < 3 → w.cell? ⟨g, j * 3 + c, none⟩ = some (encE x)[c]! := fun c hc => by
    have := (HoldsK.cell h hj2 hc).1
    rw [e, Nat.zero_add] at this
    exact this
  exact ⟨c 0 (by omega), c 1 (by omega), c 2 (by omega)⟩

theorem sortWorld_mod (w : World) (g n : Nat) (D : Array En) (os : Array Obj) : Mod (fun b => b = g) w (sortWorldK encE 3 w g 0 n D os) := by
  refine ⟨rfl, rfl, rfl, size_sortWorldK_c encE 3 w g 0 n D os, fun k hk hn => ?_⟩
  unfold sortWorldK
  rw [heap_grow_old _ _ (by rw [size_putRowK]; exact hk)]
  show (mapBlock (Sort.ahead w n) g _).heap[k]? = _
  unfold mapBlock
  rw [Array.getElem?_modify, if_neg (fun e => hn e.symm)]
  rfl

theorem sort_any (base : Nat) (wr : World) (v : Value) (ys : List En) (h : wr.ownsRow base 77 3 v ys.length (ys.flatMap encE)) (hl : ys.length ≤ 1000000) :
    Calls Try.prog 67 #[v, .func (.func 68) #[] #[]] wr fun r w' => r = .returned (.tuple #[]) ∧ Rd w' v (srtE ys) ∧ Mod (fun b => base ≤ b) wr w' := by
  rcases h.2 with ⟨rfl, h2⟩ | ⟨g, cap, cur, rfl, hb, hg, _⟩
  · have hn := AnyF.slices_SortFunc_none Try.sortEnt none 0 (.func (.func 68) #[] #[]) wr
    change Calls Try.prog 67 _ _ _ at hn
    refine hn.mono ?_
    rintro r w' ⟨rfl, rfl⟩
    refine ⟨rfl, Or.inl ⟨rfl, ?_⟩, Mod.refl _ _⟩
    exact List.eq_nil_of_length_eq_zero (by rw [srtE_len]; exact h2)
  · have hgl : g < wr.heap.size := (Array.getElem?_eq_some_iff.1 hg).1
    have eg : ∀ args w, (callFunc 68 args).run Try.prog w = .ok (.enter 68 args) w := enters_of Try.func68 (by kernel_rfl) rfl
    have hH := holds_of_own h
    have hcon := AnyQ.slices_SortFunc_eq Try.sortEnt 3 Try.isAgg77 Try.sizeOf77 encE (fun _ => rfl) (fun x v hv => by simp [encE] at hv; rcases hv with rfl | rfl | rfl <;> rfl) cmpE swoE 68 #[] g 0 cap ys.toArray wr eg (fun _ _ _ _ x y => closure68 x y _) hH hgl (by simp; omega)
    change Calls Try.prog 67 _ _ _ at hcon
    refine hcon.mono ?_
    rintro r w' ⟨rfl, n, os, rfl⟩
    refine ⟨rfl, ?_, (sortWorld_mod wr g n _ os).mono (fun i _ e => by subst e; exact hb)⟩
    have hs : (pdq (ltOf cmpE) ys.toArray 0 ys.toArray.size (Lib.bitLen ys.toArray.size) true true).size = ys.toArray.size := (pdq_sorts (ltOf cmpE) swoE ys.toArray 0 ys.toArray.size (Lib.bitLen ys.toArray.size) true true (Nat.zero_le _) (Nat.le_refl _) (Or.inl rfl)).1.1
    exact Rd_of_holds (holdsK_sortWorldK_c encE 3 wr g 0 ys.toArray _ n os hH hgl hs) (Nat.lt_of_lt_of_le hgl (size_sortWorldK_c encE 3 wr g 0 n _ os)) (srtE_len ys)

/-- conflicting, ahead of everything, without a Walk. -/
theorem confl_any (w : World) {F : Nat → Prop} {R o J m : Nat} {U : Nat → List Ent} (hB : Blk w R 75 34) (h : LU w F R o U J) (hJ : J ≤ 100000) (t : ByteArray) (hne : ∀ k, k < 3 → ∀ e ∈ U k, e.txn ≠ t) :
    Calls Try.prog 50 #[.pointer (some ⟨R, o, none⟩), .string t, .int .u8 m, .int .u64 18446744073709551615, .bool true, .pointer none] w fun r w' => ∃ v, r = .returned v ∧ Rd w' v (srtE (fndTo m U 3)) ∧ Mod (fun _ => False) w w' ∧ ∀ b, v.ownBlock = some b → w.heap.size ≤ b :=
  confl_gen srtE 18446744073709551615 rfl w hB h hJ t hne sort_any

end Go.Proofs.Qxb6609223a
