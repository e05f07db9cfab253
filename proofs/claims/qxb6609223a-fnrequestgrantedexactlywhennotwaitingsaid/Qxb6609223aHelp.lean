/-
  The law's helpers.
-/
import Derived.Test.Qxb6609223aWaited
namespace Go.Proofs.Qxb6609223a
open Go.RowKit
open Go.Proofs.Qxb6609223a.Kit

/-- A slice of n strings that is read. -/
def Strs (w : World) (v : Value) (n : Nat) (S : Nat → ByteArray) : Prop :=
  ∃ (o : Option Addr) (cap : Nat), v = .slice o n cap ∧ ∀ i, i < n → ∃ b off, o = some ⟨b, off, none⟩ ∧ b < w.heap.size ∧ w.cell? ⟨b, off + i, none⟩ = some (.string (S i)) ∧ (S i).size ≤ maxLen

theorem Strs.kept {w w' : World} {v : Value} {n : Nat} {S : Nat → ByteArray} (h : Strs w v n S) (hm : Mod (fun _ => False) w w') : Strs w' v n S := by
  obtain ⟨o, cap, rfl, hc⟩ := h
  refine ⟨o, cap, rfl, fun i hi => ?_⟩
  obtain ⟨b, off, h1, h2, h3, h4⟩ := hc i hi
  exact ⟨b, off, h1, Nat.lt_of_lt_of_le h2 hm.size, by rw [hm.cell h2 (fun h => h)]; exact h3, h4⟩

theorem min_any (a b c d : Nat) (w : World) : Calls Try.prog 10 #[.int .i64 a, .int .i64 b, .int .i64 c, .int .i64 d] w fun e w' => ∃ x : Nat, e = .returned (.int .i64 x) ∧ w' = w ∧ x ≤ a ∧ x ≤ b ∧ x ≤ c := by
  go_enter Try.func10, Try.ntmps10
  by_cases h1 : (b : Int) < a
  · by_cases h2 : (c : Int) < b
    · by_cases h3 : (d : Int) < c
      · go_wp2
        go_ret
        exact ⟨d, rfl, rfl, by omega, by omega, by omega⟩
      · go_wp2
        go_ret
        exact ⟨c, rfl, rfl, by omega, by omega, by omega⟩
    · by_cases h3 : (d : Int) < b
      · go_wp2
        go_ret
        exact ⟨d, rfl, rfl, by omega, by omega, by omega⟩
      · go_wp2
        go_ret
        exact ⟨b, rfl, rfl, by omega, by omega, by omega⟩
  · by_cases h2 : (c : Int) < a
    · by_cases h3 : (d : Int) < c
      · go_wp2
        go_ret
        exact ⟨d, rfl, rfl, by omega, by omega, by omega⟩
      · go_wp2
        go_ret
        exact ⟨c, rfl, rfl, by omega, by omega, by omega⟩
    · by_cases h3 : (d : Int) < a
      · go_wp2
        go_ret
        exact ⟨d, rfl, rfl, by omega, by omega, by omega⟩
      · go_wp2
        go_ret
        exact ⟨a, rfl, rfl, by omega, by omega, by omega⟩

set_option maxHeartbeats 1000000 in
theorem index_any (v : Value) (n : Nat) (S : Nat → ByteArray) (s : ByteArray) (w : World) (h : Strs w v n S) (hn : n ≤ 1000000) :
    Calls Try.prog 12 #[v, .string s] w fun e w' => ∃ k : Int, e = .returned (.int .i64 k) ∧ w' = w ∧ (0 ≤ k ↔ ∃ i, i < n ∧ S i = s) := by
  obtain ⟨o, cap, rfl, hc⟩ := h
  have HC := hide hc
  clear hc
  go_enter Try.func12, Try.ntmps12
  go_wp2
  go_loop [5] (fun k => ∃ j : Nat, j ≤ n ∧ k = .int .i64 j ∧ Hid (∀ i, i < j → S i ≠ s)) (fun k => n - (intOf k).toNat)
  case atStart => exact ⟨0, Nat.zero_le _, rfl, fun i hi => by omega⟩
  case round =>
    obtain ⟨j, hj, rfl, HA⟩ := hrel
    by_cases hlt : j < n
    · obtain ⟨b, off, rfl, hb, hcell, _⟩ := HC.out j hlt
      by_cases hq : S j = s
      · have he : ((S j).toList == s.toList) = true := by rw [hq]; exact str_eq s
        have HQ := hide hq
        clear hq
        go_wp2
        go_ret
        refine ⟨j, rfl, rfl, ?_⟩
        exact ⟨fun _ => ⟨j, hlt, HQ.out⟩, fun _ => by omega⟩
      · have he := str_ne hq
        have HQ := hide hq
        clear hq
        go_wp2
        go_round
        case rel => exact ⟨j + 1, by omega, by go_num, fun i hi => by
          by_cases e : i < j
          · exact HA.out i e
          · obtain rfl : i = j := by omega
            exact HQ.out⟩
        case measure => simp [intOf]; omega
    · go_wp2
      go_ret
      refine ⟨-1, rfl, rfl, ?_⟩
      constructor
      · intro h; omega
      · rintro ⟨i, hi, e⟩
        exact absurd e (HA.out i (by omega))

set_option maxHeartbeats 1000000 in
theorem eq_any (v v' : Value) (n : Nat) (S : Nat → ByteArray) (w : World) (h : Strs w v n S) (h' : Strs w v' n S) (hn : n ≤ 100000000000) :
    Calls Try.prog 16 #[v, v'] w fun e w' => e = .returned (.bool true) ∧ Mod (fun _ => False) w w' := by
  obtain ⟨o, cap, rfl, hc⟩ := h
  obtain ⟨o', cap', rfl, hc'⟩ := h'
  have HC := hide hc
  have HC' := hide hc'
  clear hc hc'
  go_enter Try.func16, Try.ntmps16
  go_wp2
  go_loopw [5] (fun k wr => ∃ j : Nat, j ≤ n ∧ k = .int .i64 j ∧ Hid (Mod (fun _ => False) w wr)) (fun k _ => n - (intOf k).toNat)
  case atStart => exact ⟨0, Nat.zero_le _, rfl, Mod.refl _ _⟩
  case round =>
    obtain ⟨j, hj, rfl, HM⟩ := hrel
    by_cases hlt : j < n
    · obtain ⟨b, off, rfl, hb, hcell, _⟩ := HC.out j hlt
      obtain ⟨b', off', rfl, hb', hcell', _⟩ := HC'.out j hlt
      rw [← HM.out.cell hb (fun h => h)] at hcell
      rw [← HM.out.cell hb' (fun h => h)] at hcell'
      have he := str_eq (S j)
      go_wp2
      go_quiet (fail)
      go_wp2
      go_roundw
      case rel => exact ⟨j + 1, by omega, by go_num, HM.out.trans (Mod.drewN (fun _ => False) _ _) (fun _ _ h => h)⟩
      case measure => simp [intOf]; omega
    · go_wp2
      go_ret
      exact ⟨rfl, HM.out⟩

set_option maxHeartbeats 1000000 in
theorem strBytes_any (v : Value) (n : Nat) (S : Nat → ByteArray) (w : World) (h : Strs w v n S) (hn : n ≤ 4096) :
    Calls Try.prog 9 #[v] w fun e w' => ∃ x : Nat, e = .returned (.int .i64 x) ∧ w' = w ∧ x ≤ 3000000 := by
  obtain ⟨o, cap, rfl, hc⟩ := h
  have HC := hide hc
  clear hc
  go_enter Try.func9, Try.ntmps9
  go_wp2
  go_loop [4, 3] (fun k tt => ∃ j x : Nat, j ≤ n ∧ k = .int .i64 j ∧ tt = .int .i64 x ∧ x ≤ 1500000) (fun k _ => n - (intOf k).toNat)
  case atStart => exact ⟨0, 16 * n, Nat.zero_le _, rfl, by go_num, by omega⟩
  case round =>
    obtain ⟨j, x, hj, rfl, rfl, hx⟩ := hrel
    by_cases hlt : j < n
    · obtain ⟨b, off, rfl, hb, hcell, _⟩ := HC.out j hlt
      obtain ⟨sz, hsz⟩ : ∃ sz, (S j).size = sz := ⟨_, rfl⟩
      by_cases h1 : (sz : Int) > 1048576
      · go_wp2
        go_ret
        exact ⟨1048577, rfl, rfl, by omega⟩
      · by_cases h2 : (x : Int) + sz > 1048576
        · go_wp2
          go_ret
          exact ⟨x + sz, rfl, rfl, by omega⟩
        · go_wp2
          go_round
          case rel => exact ⟨j + 1, x + sz, by omega, by go_num, by go_num, by omega⟩
          case measure => simp [intOf]; omega
    · go_wp2
      go_ret
      exact ⟨x, rfl, rfl, by omega⟩

end Go.Proofs.Qxb6609223a
