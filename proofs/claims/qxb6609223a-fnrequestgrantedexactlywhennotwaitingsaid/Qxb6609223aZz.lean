/-
  The bound on the total length.
-/
import Derived.Test.Qxb6609223aHelp
namespace Go.Proofs.Qxb6609223a
open Go.RowKit
open Go.Proofs.Qxb6609223a.Kit

/-- It hands back some Bool. -/
def AnyB (e : Ending) : Prop := ∃ b, e = .returned (.bool b)

set_option maxHeartbeats 4000000 in
theorem zz_any (v0 v1 : Value) (n0 n1 n2 cap2 : Nat) (o2 : Option Addr) (S0 S1 : Nat → ByteArray) (w : World) (h0 : Strs w v0 n0 S0) (h1 : Strs w v1 n1 S1) (hn0 : n0 ≤ maxLen) (hn1 : n1 ≤ maxLen) (hn2 : n2 ≤ maxLen) :
    Calls Try.prog 8 #[v0, v1, .slice o2 n2 cap2] w fun e w' => AnyB e ∧ w' = w := by
  obtain ⟨o0, cap0, rfl, hc0⟩ := h0
  obtain ⟨o1, cap1, rfl, hc1⟩ := h1
  have HC0 := hide hc0
  have HC1 := hide hc1
  clear hc0 hc1
  have g0 : (n0 : Int) ≤ 9223372036854775807 := by unfold maxLen at hn0; omega
  have g1 : (n1 : Int) ≤ 9223372036854775807 := by unfold maxLen at hn1; omega
  have g2 : (n2 : Int) ≤ 9223372036854775807 := by unfold maxLen at hn2; omega
  go_enter Try.func8, Try.ntmps8
  by_cases a0 : (n0 : Int) > 1048576
  · go_wp2
    go_ret
    exact ⟨⟨false, rfl⟩, rfl⟩
  · go_wp2
    go_loop [8, 7] (fun k tt => ∃ j x : Nat, j ≤ n0 ∧ k = .int .i64 j ∧ tt = .int .i64 x ∧ x ≤ 1048576) (fun k _ => n0 - (intOf k).toNat)
    case atStart => exact ⟨0, n0, Nat.zero_le _, rfl, by go_num, by omega⟩
    case round =>
      obtain ⟨j, x, hj, rfl, rfl, hx⟩ := hrel
      by_cases hlt : j < n0
      · obtain ⟨b, off, rfl, hb, hcell, _⟩ := HC0.out j hlt
        obtain ⟨sz, hsz⟩ : ∃ sz, (S0 j).size = sz := ⟨_, rfl⟩
        by_cases b1 : (sz : Int) > 1048576
        · go_wp2
          go_ret
          exact ⟨⟨false, rfl⟩, rfl⟩
        · by_cases b2 : (x : Int) + sz > 1048576
          · go_wp2
            go_ret
            exact ⟨⟨false, rfl⟩, rfl⟩
          · go_wp2
            go_round
            case rel => exact ⟨j + 1, x + sz, by omega, by go_num, by go_num, by omega⟩
            case measure => simp [intOf]; omega
      · by_cases a1 : (n1 : Int) > 1048576
        · go_wp2
          go_ret
          exact ⟨⟨false, rfl⟩, rfl⟩
        · by_cases a2 : (x : Int) + n1 > 1048576
          · go_wp2
            go_ret
            exact ⟨⟨false, rfl⟩, rfl⟩
          · go_wp2
            go_loop [9, 7] (fun k tt => ∃ j x : Nat, j ≤ n1 ∧ k = .int .i64 j ∧ tt = .int .i64 x ∧ x ≤ 1048576) (fun k _ => n1 - (intOf k).toNat)
            case atStart => exact ⟨0, x + n1, Nat.zero_le _, rfl, by go_num, by omega⟩
            case round =>
              obtain ⟨i, y, hi, rfl, rfl, hy⟩ := hrel
              by_cases hil : i < n1
              · obtain ⟨b, off, rfl, hb, hcell, _⟩ := HC1.out i hil
                obtain ⟨sz, hsz⟩ : ∃ sz, (S1 i).size = sz := ⟨_, rfl⟩
                by_cases b1 : (sz : Int) > 1048576
                · go_wp2
                  go_ret
                  exact ⟨⟨false, rfl⟩, rfl⟩
                · by_cases b2 : (y : Int) + sz > 1048576
                  · go_wp2
                    go_ret
                    exact ⟨⟨false, rfl⟩, rfl⟩
                  · go_wp2
                    go_round
                    case rel => exact ⟨i + 1, y + sz, by omega, by go_num, by go_num, by omega⟩
                    case measure => simp [intOf]; omega
              · by_cases c1 : (n2 : Int) > 1048576
                · go_wp2
                  go_ret
                  exact ⟨⟨false, rfl⟩, rfl⟩
                · by_cases c2 : (y : Int) + n2 > 1048576
                  · go_wp2
                    go_ret
                    exact ⟨⟨false, rfl⟩, rfl⟩
                  · go_wp2
                    go_ret
                    exact ⟨⟨true, rfl⟩, rfl⟩

end Go.Proofs.Qxb6609223a
