/-
  The walk of admits.
-/
import Derived.Test.Qxb6609223aLineup
namespace Go.Proofs.Qxb6609223a
open Go.RowKit
open Go.Proofs.Qxb6609223a.Kit

/-- How many of mode k stand there, without txn's own. -/
def cntOf (U : Nat → List Ent) (hb : Bool) (km k : Nat) : Int := (U k).length - (if hb = true ∧ km = k then 1 else 0)

/-- What admits answers. -/
def admB (U : Nat → List Ent) (hb : Bool) (km m : Nat) : Bool := (List.range 3).all fun k => decide (cntOf U hb km k ≤ 0) || decide (m = 1 ∧ k = 1)

theorem admB_yes {U : Nat → List Ent} {hb : Bool} {km m : Nat} : admB U hb km m = true ↔ ∀ k, k < 3 → cntOf U hb km k ≤ 0 ∨ (m = 1 ∧ k = 1) := by
  simp [admB, List.all_eq_true]

theorem admB_no {U : Nat → List Ent} {hb : Bool} {km m k : Nat} (hk : k < 3) (h1 : 0 < cntOf U hb km k) (h2 : ¬ (m = 1 ∧ k = 1)) : admB U hb km m = false := by
  cases h : admB U hb km m
  · rfl
  · rcases admB_yes.1 h k hk with h3 | h3
    · omega
    · exact absurd h3 h2

set_option maxRecDepth 8000 in
set_option maxHeartbeats 2000000 in
theorem admits_gen (w : World) (R o m : Nat) (U : Nat → List Ent) (t : ByteArray) (hb : Bool) (km : Nat) (xs : ByteArray) (ys : Nat) (hR : R < w.heap.size)
    (hlen : ∀ k, k < 3 → w.cell? ⟨R, o + k * 5 + 4, none⟩ = some (.int .i64 (U k).length)) (hU : ∀ k, k < 3 → (U k).length ≤ 1000000000)
    (hget : Calls Try.prog 33 #[.pointer (some ⟨R, o, none⟩), .string t] w fun r w' => r = .returned (.tuple #[.agg #[.string xs, .int .u8 km, .int .u64 ys], .bool hb]) ∧ Mod (fun _ => False) w w') :
    Calls Try.prog 35 #[.pointer (some ⟨R, o, none⟩), .string t, .int .u8 m] w fun r w' => r = .returned (.bool (admB U hb km m)) ∧ Mod (fun _ => False) w w' := by
  have HG := hide hget
  have HL := hide hlen
  have HU := hide hU
  clear hget hlen hU
  go_enter Try.func35, Try.ntmps35
  go_wp2_with fail
  refine HG.out.mono ?_
  rintro r w1 ⟨rfl, h1⟩
  have hR1 : R < w1.heap.size := Nat.lt_of_lt_of_le hR h1.size
  have HM := hide (h1.trans (Mod.alloc (fun _ => False) w1 (.cells #[.string xs, .int .u8 km, .int .u64 ys] 77)) (fun _ _ h => h))
  clear h1
  go_wp2
  go_loop [17] (fun k => ∃ j : Nat, j ≤ 3 ∧ k = .int .i64 j ∧ Hid (∀ k, k < j → cntOf U hb km k ≤ 0 ∨ (m = 1 ∧ k = 1))) (fun k => 3 - (intOf k).toNat)
  case atStart => exact ⟨0, by omega, rfl, fun k hk => by omega⟩
  case round =>
    obtain ⟨j, hj, rfl, HA⟩ := hrel
    by_cases hlt : j < 3
    · obtain ⟨n, hn, HN⟩ : ∃ n : Nat, n ≤ 1000000000 ∧ Hid (n = (U j).length) := ⟨_, HU.out j hlt, rfl⟩
      have HC : Hid ((w1.alloc (.cells #[.string xs, .int .u8 km, .int .u64 ys] 77)).cell? ⟨R, o + j * 5 + 4, none⟩ = some (.int .i64 n)) := by
        show _ = _
        rw [HM.out.cell hR (by simp), HL.out j hlt, HN.out]
      have next : (cntOf U hb km j ≤ 0 ∨ (m = 1 ∧ j = 1)) → Hid (∀ k, k < j + 1 → cntOf U hb km k ≤ 0 ∨ (m = 1 ∧ k = 1)) := fun h k hk => by
        by_cases e : k < j
        · exact HA.out k e
        · obtain rfl : k = j := by omega
          exact h
      have HX := hide next
      clear next
      cases hbv : hb
      · have hz : cntOf U false km j = n := by simp [cntOf, HN.out]
        have HZ := hide hz
        clear hz
        subst hbv
        by_cases h0 : 0 < n
        · go_wp2_with fail
          refine (len_list R (o + j * 5) n _ HC.out).mono ?_
          rintro r w2 ⟨rfl, rfl⟩
          by_cases hc : m = 1 ∧ j = 1
          · replace hc := hide hc
            go_wp2_with (go_at_call 47; refine (compatible m j _).mono ?_; rintro r w2 ⟨rfl, rfl⟩; rw [decide_eq_true hc.out])
            go_round
            case rel => exact ⟨j + 1, by omega, by go_num, HX.out (Or.inr hc.out)⟩
            case measure => simp [intOf]; omega
          · replace hc := hide hc
            go_wp2_with (go_at_call 47; refine (compatible m j _).mono ?_; rintro r w2 ⟨rfl, rfl⟩; rw [decide_eq_false hc.out])
            go_ret
            exact ⟨ret_bool (admB_no hlt (by rw [HZ.out]; omega) hc.out).symm, HM.out⟩
        · go_wp2_with fail
          refine (len_list R (o + j * 5) n _ HC.out).mono ?_
          rintro r w2 ⟨rfl, rfl⟩
          go_wp2
          go_round
          case rel => exact ⟨j + 1, by omega, by go_num, HX.out (Or.inl (by rw [HZ.out]; omega))⟩
          case measure => simp [intOf]; omega
      · subst hbv
        by_cases hq : km = j
        · have hz : cntOf U true km j = n - 1 := by simp [cntOf, HN.out, hq]
          have HZ := hide hz
          clear hz
          subst hq
          have hlt' : (km : Int) < 3 := by omega
          by_cases h0 : 1 < n
          · go_wp2_with fail
            refine (len_list R (o + km * 5) n _ HC.out).mono ?_
            rintro r w2 ⟨rfl, rfl⟩
            by_cases hc : m = 1 ∧ km = 1
            · replace hc := hide hc
              go_wp2_with (go_at_call 47; refine (compatible m km _).mono ?_; rintro r w2 ⟨rfl, rfl⟩; rw [decide_eq_true hc.out])
              go_round
              case rel => exact ⟨km + 1, by omega, by go_num, HX.out (Or.inr hc.out)⟩
              case measure => simp [intOf]; omega
            · replace hc := hide hc
              go_wp2_with (go_at_call 47; refine (compatible m km _).mono ?_; rintro r w2 ⟨rfl, rfl⟩; rw [decide_eq_false hc.out])
              go_ret
              exact ⟨ret_bool (admB_no hlt (by rw [HZ.out]; omega) hc.out).symm, HM.out⟩
          · go_wp2_with fail
            refine (len_list R (o + km * 5) n _ HC.out).mono ?_
            rintro r w2 ⟨rfl, rfl⟩
            go_wp2
            go_round
            case rel => exact ⟨km + 1, by omega, by go_num, HX.out (Or.inl (by rw [HZ.out]; omega))⟩
            case measure => simp [intOf]; omega
        · have hz : cntOf U true km j = n := by simp [cntOf, HN.out, hq]
          have HZ := hide hz
          clear hz
          have hqf : ((km : Int) == (j : Int)) = false := by simp; omega
          by_cases h0 : 0 < n
          · go_wp2_with fail
            refine (len_list R (o + j * 5) n _ HC.out).mono ?_
            rintro r w2 ⟨rfl, rfl⟩
            by_cases hc : m = 1 ∧ j = 1
            · replace hc := hide hc
              go_wp2_with (go_at_call 47; refine (compatible m j _).mono ?_; rintro r w2 ⟨rfl, rfl⟩; rw [decide_eq_true hc.out])
              go_round
              case rel => exact ⟨j + 1, by omega, by go_num, HX.out (Or.inr hc.out)⟩
              case measure => simp [intOf]; omega
            · replace hc := hide hc
              go_wp2_with (go_at_call 47; refine (compatible m j _).mono ?_; rintro r w2 ⟨rfl, rfl⟩; rw [decide_eq_false hc.out])
              go_ret
              exact ⟨ret_bool (admB_no hlt (by rw [HZ.out]; omega) hc.out).symm, HM.out⟩
          · go_wp2_with fail
            refine (len_list R (o + j * 5) n _ HC.out).mono ?_
            rintro r w2 ⟨rfl, rfl⟩
            go_wp2
            go_round
            case rel => exact ⟨j + 1, by omega, by go_num, HX.out (Or.inl (by rw [HZ.out]; omega))⟩
            case measure => simp [intOf]; omega
    · go_wp2
      go_ret
      refine ⟨?_, HM.out⟩
      obtain rfl : j = 3 := by omega
      exact ret_bool (admB_yes.2 HA.out).symm

end Go.Proofs.Qxb6609223a
