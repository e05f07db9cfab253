/-
  A slice of items (alias, what, aliased) in memory; the two byte guards.
-/
import Derived.Test.Qxb6609399aRows
import Derived.Test.Qxb6609399aKit
import Derived.Deep.QuietTactic
import Derived.BigQuiet
namespace Go.Proofs.Qxb6609399a
open Go.RowKit
open Go.Proofs.Qxb6609399a.Kit

theorem Try.cells26 : Try.prog.cellsOf 26 = 3 := by kernel_rfl
theorem Try.cells22 : Try.prog.cellsOf 22 = 1 := by kernel_rfl
theorem Try.cells9 : Try.prog.cellsOf 9 = 1 := by kernel_rfl
theorem Try.cells4 : Try.prog.cellsOf 4 = 1 := by kernel_rfl

/-- One item: alias, what, aliased. -/
structure Item where
  alias : ByteArray
  what : ByteArray
  flag : Bool

/-- The item at an index. -/
def at_ (L : List Item) (i : Nat) : Item := L.getD i ⟨ByteArray.empty, ByteArray.empty, false⟩

/-- The items' cells. -/
def flat (L : List Item) : List Value := L.flatMap fun x => [.string x.alias, .string x.what, .bool x.flag]

/-- The slice value v holds the items L in the world W. -/
def IsItems (W : World) (v : Value) (L : List Item) : Prop :=
  ∃ (o : Option Addr) (cap : Nat), v = .slice o L.length cap ∧ L.length ≤ cap ∧ cap ≤ maxLen ∧
    (L = [] ∨ ∃ b off, o = some ⟨b, off, none⟩ ∧ b < W.heap.size ∧ ∀ i, i < L.length →
      W.cell? ⟨b, off + i * 3, none⟩ = some (.string (at_ L i).alias) ∧ W.cell? ⟨b, off + i * 3 + 1, none⟩ = some (.string (at_ L i).what) ∧ W.cell? ⟨b, off + i * 3 + 2, none⟩ = some (.bool (at_ L i).flag)) 

/-- The call returned an int. -/
def IsInt (e : Ending) : Prop := ∃ n, e = .returned (.int .i64 n)
/-- The call returned a bool. -/
def IsBool (e : Ending) : Prop := ∃ b, e = .returned (.bool b)

set_option maxHeartbeats 400000 in
theorem itemBytes_any (v : Value) (L : List Item) (w : World) (hv : IsItems w v L) :
    Calls Try.prog 5 #[v] w fun e w' => IsInt e ∧ ∃ n, w' = w.drewN n := by
  obtain ⟨o, cap, rfl, hn, hc, ho⟩ := hv
  unfold maxLen at hc
  have HO := hide ho
  clear ho
  by_cases c0 : 65536 < (L.length : Int)
  · go_enter Try.func5, Try.ntmps5
    go_wp2
    go_ret
    exact ⟨⟨_, rfl⟩, 0, rfl⟩
  go_enter Try.func5, Try.ntmps5
  go_wp2
  go_loopw [3, 4] (fun t k wr => ∃ (q : Int) (j : Nat) (n : Nat), j ≤ L.length ∧ t = .int .i64 q ∧ k = .int .i64 j ∧ Hid (wr = w.drewN n)) (fun _ k _ => L.length - (intOf k).toNat)
  case atStart => exact ⟨0, 0, 0, Nat.zero_le _, rfl, rfl, rfl⟩
  case round =>
    obtain ⟨q, j, n, hj, rfl, rfl, HN⟩ := hrel
    obtain rfl := HN.out
    clear HN
    by_cases hlt : j < L.length
    · rcases HO.out with h0 | ⟨b, off, rfl, _, hcell⟩
      · rw [h0] at hlt; simp at hlt
      obtain ⟨e1, e2, e3⟩ := hcell j hlt
      clear HO hcell
      by_cases c1 : 1048576 < ((at_ L j).alias.size : Int)
      · go_wp2
        go_ret
        exact ⟨⟨_, rfl⟩, n, rfl⟩
      by_cases c2 : 1048576 < ((at_ L j).what.size : Int)
      · go_wp2
        go_ret
        exact ⟨⟨_, rfl⟩, n, rfl⟩
      go_wp2
      go_quiet (fail)
      go_wp2
      · go_ret
        exact ⟨⟨_, rfl⟩, _, rfl⟩
      · go_roundw
        case rel => exact ⟨_, j + 1, _, by omega, rfl, by go_num, rfl⟩
        case measure => simp [intOf]; omega
    · go_wp2
      go_ret
      exact ⟨⟨_, rfl⟩, n, rfl⟩

set_option maxHeartbeats 1000000 in
theorem zz_any (v0 v1 : Value) (L0 L1 : List Item) (a b : ByteArray) (w : World) (hv0 : IsItems w v0 L0) (hv1 : IsItems w v1 L1) :
    Calls Try.prog 4 #[v0, v1, .string a, .string b] w fun e w' => IsBool e ∧ w' = w := by
  obtain ⟨o0, cap0, rfl, hn0, hc0, ho0⟩ := hv0
  obtain ⟨o1, cap1, rfl, hn1, hc1, ho1⟩ := hv1
  unfold maxLen at hc0 hc1
  have HO0 := hide ho0
  have HO1 := hide ho1
  clear ho0 ho1
  by_cases c0 : 1048576 < (L0.length : Int)
  · go_enter Try.func4, Try.ntmps4
    go_wp2
    go_ret
    exact ⟨⟨_, rfl⟩, rfl⟩
  go_enter Try.func4, Try.ntmps4
  go_wp2
  go_loop [9, 10] (fun t k => ∃ (q : Int) (j : Nat), j ≤ L0.length ∧ t = .int .i64 q ∧ k = .int .i64 j) (fun _ k => L0.length - (intOf k).toNat)
  case atStart => exact ⟨_, 0, Nat.zero_le _, rfl, rfl⟩
  case round =>
    obtain ⟨q, j, hj, rfl, rfl⟩ := hrel
    by_cases hlt : j < L0.length
    · rcases HO0.out with h0 | ⟨b, off, rfl, _, hcell⟩
      · rw [h0] at hlt; simp at hlt
      obtain ⟨e1, e2, e3⟩ := hcell j hlt
      clear HO0 hcell HO1
      go_wp2
      all_goals
        first
          | (go_ret; exact ⟨⟨_, rfl⟩, rfl⟩)
          | (go_round
             case rel => exact ⟨_, j + 1, by omega, rfl, by go_num⟩
             case measure => simp [intOf]; omega)
    · by_cases c1 : 1048576 < (L1.length : Int)
      · go_wp2
        go_ret
        exact ⟨⟨_, rfl⟩, rfl⟩
      by_cases c2 : 1048576 < wrap64 (q + (L1.length : Int))
      · go_wp2
        go_ret
        exact ⟨⟨_, rfl⟩, rfl⟩
      go_wp2
      go_loop [9, 11] (fun t k => ∃ (q : Int) (j : Nat), j ≤ L1.length ∧ t = .int .i64 q ∧ k = .int .i64 j) (fun _ k => L1.length - (intOf k).toNat)
      case atStart => exact ⟨_, 0, Nat.zero_le _, rfl, rfl⟩
      case round =>
        obtain ⟨q', j', hj', rfl, rfl⟩ := hrel
        by_cases hlt' : j' < L1.length
        · rcases HO1.out with h0 | ⟨b, off, rfl, _, hcell⟩
          · rw [h0] at hlt'; simp at hlt'
          obtain ⟨e1, e2, e3⟩ := hcell j' hlt'
          clear HO0 hcell HO1
          go_wp2
          all_goals
            first
              | (go_ret; exact ⟨⟨_, rfl⟩, rfl⟩)
              | (go_round
                 case rel => exact ⟨_, j' + 1, by omega, rfl, by go_num⟩
                 case measure => simp [intOf]; omega)
        · go_wp2
          all_goals
            go_ret
            exact ⟨⟨_, rfl⟩, rfl⟩

end Go.Proofs.Qxb6609399a
