/-
  The walks of start, give, the literal that DeleteFunc is handed, IndexFunc and DeleteFunc.
-/
import Derived.Test.Qxb6609223aDrop
import Derived.Laws.Strings
namespace Go.Proofs.Qxb6609223a
open Go.RowKit
open Go.Proofs.Qxb6609223a.Kit

theorem str_ne {a b : ByteArray} (h : a ≠ b) : (a.toList == b.toList) = false := by
  cases hq : (a.toList == b.toList)
  · rfl
  · exfalso
    have := eq_of_beq hq
    rw [ByteArray.toList_eq, ByteArray.toList_eq] at this
    exact h (by cases a; cases b; simp only [ByteArray.mk.injEq]; exact Array.toList_inj.1 this)

theorem str_eq (a : ByteArray) : (a.toList == a.toList) = true := by simp

/-- The pointer to the first node. -/
def headP : List Ent → Value
  | [] => .pointer none
  | e :: _ => np (e.blk, 0)

theorem start_front (R o k : Nat) (l : List Ent) (w : World) (h : LL w R o k l) (hn : l.length ≤ 1000000000) :
    Calls Try.prog 61 #[.pointer none, .pointer (some ⟨R, o, none⟩), .bool false] w fun r w' => r = .returned (headP l) ∧ w' = w := by
  have HF : Hid (Calls Try.prog 73 #[.pointer (some ⟨R, o, none⟩)] w fun e w' => e = .returned (headP l) ∧ w' = w) := by
    cases l with
    | nil => exact front_nil R o w h.len
    | cons e l =>
      have hx : w.cell? ⟨R, o, none⟩ = some (np (e.blk, 0)) := by
        rcases h.shape with ⟨h1, _⟩ | ⟨h1, _⟩
        · cases h1
        · exact h1.1
      exact front_some R o (e :: l).length ⟨e.blk, 0, none⟩ w (by simp; omega) h.len hx
  obtain ⟨p, hp⟩ : ∃ p, headP l = .pointer p := by
    cases l with
    | nil => exact ⟨none, rfl⟩
    | cons e l => exact ⟨_, rfl⟩
  rw [hp] at HF ⊢
  clear h hn hp
  go_enter Try.func61, Try.ntmps61
  go_wp2_with (go_at_call 73; refine HF.out.mono ?_; rintro r w' ⟨rfl, rfl⟩)
  go_ret
  exact ⟨rfl, rfl⟩

theorem give_nil (t : ByteArray) (w : World) : Calls Try.prog 66 #[.pointer none, .string t] w fun r w' => r = .returned (.bool true) ∧ w' = w := by
  go_enter Try.func66, Try.ntmps66
  go_wp2
  go_ret
  exact ⟨rfl, rfl⟩

/-- The literal answers false at another transaction's entry. -/
theorem lit_no (a t : ByteArray) (m q : Int) (b1 b2 : Nat) (w : World) (hne : a ≠ t) (h1 : w.cell? ⟨b1, 0, none⟩ = some (.string t)) (h2 : w.cell? ⟨b2, 0, none⟩ = some (.pointer none)) :
    Calls Try.prog 65 #[.agg #[.string a, .int .u8 m, .int .u64 q], .pointer (some ⟨b1, 0, none⟩), .pointer (some ⟨b2, 0, none⟩)] w fun r w' => r = .returned (.bool false) ∧ Mod (fun _ => False) w w' := by
  have l1 := cell_lt h1
  have l2 := cell_lt h2
  have q := str_ne hne
  go_enter Try.func65, Try.ntmps65
  go_wp2_with (go_at_call 66; refine (give_nil _ _).mono ?_; rintro r w' ⟨rfl, rfl⟩)
  go_ret
  exact ⟨rfl, Mod.alloc _ _ _⟩

/-! ### A slice of entries -/
abbrev En := ByteArray × Nat × Nat

def encE (x : En) : List Value := [.string x.1, .int .u8 x.2.1, .int .u64 x.2.2]

/-- v reads as the entries xs. -/
def Rd (w : World) (v : Value) (xs : List En) : Prop :=
  (v = .slice none 0 0 ∧ xs = []) ∨ ∃ g cap, v = .slice (some ⟨g, 0, none⟩) xs.length cap ∧ g < w.heap.size ∧ ∀ j x, xs[j]? = some x → w.cell? ⟨g, j * 3, none⟩ = some (.string x.1) ∧ w.cell? ⟨g, j * 3 + 1, none⟩ = some (.int .u8 x.2.1) ∧ w.cell? ⟨g, j * 3 + 2, none⟩ = some (.int .u64 x.2.2)

theorem Rd.kept {w w' : World} {v : Value} {xs : List En} (h : Rd w v xs) (hm : Mod (fun _ => False) w w') : Rd w' v xs := by
  rcases h with h | ⟨g, cap, h1, h2, h3⟩
  · exact Or.inl h
  · refine Or.inr ⟨g, cap, h1, Nat.lt_of_lt_of_le h2 hm.size, fun j x hj => ?_⟩
    obtain ⟨a, b, c⟩ := h3 j x hj
    exact ⟨by rw [hm.cell h2 (fun h => h)]; exact a, by rw [hm.cell h2 (fun h => h)]; exact b, by rw [hm.cell h2 (fun h => h)]; exact c⟩

set_option maxRecDepth 8000 in
set_option maxHeartbeats 1000000 in
theorem index_none (v : Value) (xs : List En) (t : ByteArray) (b1 b2 : Nat) (w : World) (hv : Rd w v xs) (hl : xs.length ≤ 1000000) (hne : ∀ x ∈ xs, x.1 ≠ t) (h1 : w.cell? ⟨b1, 0, none⟩ = some (.string t)) (h2 : w.cell? ⟨b2, 0, none⟩ = some (.pointer none)) :
    Calls Try.prog 75 #[v, .func (.func 65) #[] #[.pointer (some ⟨b1, 0, none⟩), .pointer (some ⟨b2, 0, none⟩)]] w fun r w' => r = .returned (.int .i64 (-1)) ∧ Mod (fun _ => False) w w' := by
  have l1 := cell_lt h1
  have l2 := cell_lt h2
  rcases hv with ⟨rfl, rfl⟩ | ⟨g, cap, rfl, hg, hc⟩
  · go_enter Try.func75, Try.ntmps75
    go_wp2
    go_loop [8] (fun k => k = .int .i64 0) (fun _ => 0)
    case atStart => rfl
    case round =>
      subst hrel
      go_wp2
      go_ret
      exact ⟨rfl, Mod.refl _ _⟩
  · obtain ⟨n, hN⟩ : ∃ n, n = xs.length := ⟨_, rfl⟩
    rw [← hN] at hl ⊢
    have HN := hide hN
    have HC := hide hc
    have HNE := hide hne
    have H1 := hide h1
    have H2 := hide h2
    clear hN hc hne h1 h2
    go_enter Try.func75, Try.ntmps75
    go_wp2
    go_loopw [8] (fun k wr => ∃ j : Nat, j ≤ n ∧ k = .int .i64 j ∧ Hid (Mod (fun _ => False) w wr)) (fun k _ => n - (intOf k).toNat)
    case atStart => exact ⟨0, Nat.zero_le _, rfl, Mod.refl _ _⟩
    case round =>
      obtain ⟨j, hj, rfl, HM⟩ := hrel
      by_cases hlt : j < n
      · obtain ⟨x, hx, HX⟩ : ∃ x, Hid (xs[j]? = some x) ∧ Hid (x ∈ xs) := by
          have hj' : j < xs.length := by rw [← HN.out]; exact hlt
          exact ⟨xs[j], List.getElem?_eq_getElem hj', List.getElem_mem hj'⟩
        obtain ⟨c0, c1, c2⟩ := HC.out j x hx.out
        rw [← HM.out.cell hg (fun h => h)] at c0 c1 c2
        go_wp2_with (go_at_call 65; refine (lit_no x.1 t _ _ b1 b2 _ (HNE.out x HX.out) (by rw [HM.out.cell l1 (fun h => h)]; exact H1.out) (by rw [HM.out.cell l2 (fun h => h)]; exact H2.out)).mono ?_; rintro r w' ⟨rfl, hm⟩)
        go_roundw
        case rel => exact ⟨j + 1, by omega, by go_num, HM.out.trans hm (fun _ _ h => h)⟩
        case measure => simp [intOf]; omega
      · go_wp2
        go_ret
        exact ⟨rfl, HM.out⟩

theorem delete_none (v : Value) (xs : List En) (t : ByteArray) (b1 b2 : Nat) (w : World) (hv : Rd w v xs) (hl : xs.length ≤ 1000000) (hne : ∀ x ∈ xs, x.1 ≠ t) (h1 : w.cell? ⟨b1, 0, none⟩ = some (.string t)) (h2 : w.cell? ⟨b2, 0, none⟩ = some (.pointer none)) :
    Calls Try.prog 64 #[v, .func (.func 65) #[] #[.pointer (some ⟨b1, 0, none⟩), .pointer (some ⟨b2, 0, none⟩)]] w fun r w' => r = .returned v ∧ Mod (fun _ => False) w w' := by
  have HI := hide (index_none v xs t b1 b2 w hv hl hne h1 h2)
  obtain ⟨p, n, c, rfl⟩ : ∃ p n c, v = .slice p n c := by
    rcases hv with ⟨rfl, _⟩ | ⟨g, cap, rfl, _⟩
    · exact ⟨_, _, _, rfl⟩
    · exact ⟨_, _, _, rfl⟩
  clear hv hl hne h1 h2
  go_enter Try.func64, Try.ntmps64
  go_wp2_with (go_at_call 75; refine HI.out.mono ?_; rintro r w' ⟨rfl, hm⟩)
  go_ret
  exact ⟨rfl, by assumption⟩

end Go.Proofs.Qxb6609223a
